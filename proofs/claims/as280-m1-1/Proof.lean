import JvmDerived
import JvmDerived.Pilot.@@N@@Statement
import JvmDerived.Pilot.@@N@@Code
set_option linter.unusedVariables false
set_option linter.unusedSimpArgs false
namespace Jvm.Pilot.@@N@@
open Jvm Jvm.ClassFile Sem Op Lib Jvm.Free Jvm.Stand Jvm.LawKit Jvm.RoadKit Bundle Jvm.Pilot.@@N@@.Jvm.D
namespace Own
section Kit
variable {wd : Bool} {p : Program} {l : Launch} {e : Env} {R : Room} {s : State} {m : MethodId} {args : Array Value} {below : List Frame} {meth : Method} {c : Code} {own : String} {Z : State} {a0 : Array Value} {n0 : Nat} {h0 : Heap} {ws : List Addr} {vm : Vm} {T : State} {h : Heap} {cells slots : Nat}
/-- from A the run comes to B -/
def Go (p : Program) (e : Env) (below : List Frame) (A B : State) : Prop := ∀ t, Steps p.tables e below B t → Steps p.tables e below A t
theorem Go.refl (A : State) : Go p e below A A := fun _ k => k
theorem Go.trans {A B C : State} (x : Go p e below A B) (y : Go p e below B C) : Go p e below A C := fun t k => x t (y t k)
/-- the places in L lie in cells of ws, or in cells made since (at or above k) -/
def FrW (ws : List Addr) (k : Nat) (L : List Loc) : Prop := ∀ y ∈ L, y.base ∈ ws ∨ k ≤ y.base
theorem FrW.nil (ws : List Addr) (k : Nat) : FrW ws k [] := fun _ q => nomatch q
theorem FrW.app {ws : List Addr} {k : Nat} {L L' : List Loc} (N : FrW ws k L) (N' : FrW ws k L') : FrW ws k (L ++ L') := fun y q => (List.mem_append.mp q).elim (N y) (N' y)
theorem FrW.one {ws : List Addr} {k : Nat} {a : Addr} {sl : Nat} (q : a ∈ ws ∨ k ≤ a) : FrW ws k [⟨a, sl⟩] := fun y hy => by cases List.mem_singleton.mp hy; exact q
theorem FrW.fr {ws : List Addr} {k n : Nat} {L : List Loc} (N : FrW ws k L) (h1 : ∀ x ∈ ws, n ≤ x) (h2 : n ≤ k) : Fr n L := fun y hy => (N y hy).elim (h1 _) (Nat.le_trans h2)
/-- where a walk stands: wd = true: it may have interned. h0: the heap at the method's start; ws: the cells of h0 that it may have written; n0: the heap's size at the law's start; vm: the tables of the last step that may have interned -/
def Wk (wd : Bool) (p : Program) (l : Launch) (e : Env) (R : Room) (s : State) (m : MethodId) (args : Array Value) (below : List Frame) (meth : Method) (c : Code) (own : String) (Z : State) (n0 : Nat) (h0 : Heap) (ws : List Addr) (vm : Vm) (T : State) (h : Heap) (cells slots : Nat) : Prop :=
  T.heap = h ∧ p.tables.exec = Jvm.exec ∧ Old Z n0 h ∧ n0 ≤ h0.size ∧ (∀ x ∈ ws, n0 ≤ x) ∧ Keep h0 h ws ∧ s.heap = h0 ∧ Z.Warmed39 vm ∧ vm.findClass own = some m.cls ∧ (wd = false → vm = s.vm) ∧
  ∃ (locs : List Loc) (k : Nat), FrW ws h0.size locs ∧ Stand p l e R (s.setVm vm) m args below meth c T locs cells slots ∧ s.Since vm k ∧ k ≤ h.size
theorem Wk.stand (K : Wk wd p l e R s m args below meth c own Z n0 h0 ws vm T h cells slots) {P : Prop} (f : ∀ (locs : List Loc) (s' : State), Stand p l e R s' m args below meth c T locs cells slots → p.tables.exec = Jvm.exec → Z.Warmed39 s'.vm → s'.vm.findClass own = some m.cls → T.heap = h → P) : P := by
  obtain ⟨e1, hx, O, hn, hw, Kp, hs0, hZ, ho, hv, locs, k, F, X, S, hk⟩ := K
  exact f locs (s.setVm vm) X hx hZ ho e1
theorem Wk.here (K : Wk wd p l e R s m args below meth c own Z n0 h0 ws vm T h cells slots) : At T m c below := K.stand fun _ _ X _ _ _ _ => X.here
theorem Wk.exec (K : Wk wd p l e R s m args below meth c own Z n0 h0 ws vm T h cells slots) : p.tables.exec = Jvm.exec := K.2.1
theorem Wk.old (K : Wk wd p l e R s m args below meth c own Z n0 h0 ws vm T h cells slots) : Old Z n0 h := K.2.2.1
theorem Wk.ext (K : Wk wd p l e R s m args below meth c own Z n0 h0 ws vm T h cells slots) : Ext Z.heap h := K.2.2.1.2
theorem Wk.keep (K : Wk wd p l e R s m args below meth c own Z n0 h0 ws vm T h cells slots) : Keep h0 h ws := K.2.2.2.2.2.1
theorem Wk.fresh (K : Wk wd p l e R s m args below meth c own Z n0 h0 ws vm T h cells slots) {x : Addr} (q : x ∈ ws ∨ h0.size ≤ x) : n0 ≤ x := q.elim (K.2.2.2.2.1 x) (Nat.le_trans K.2.2.2.1)
theorem Wk.more (K : Wk wd p l e R s m args below meth c own Z n0 h0 ws vm T h cells slots) {cells' slots' : Nat} (hc : cells ≤ cells') (hs : slots ≤ slots') : Wk wd p l e R s m args below meth c own Z n0 h0 ws vm T h cells' slots' := by
  obtain ⟨e1, hx, O, hn, hw, Kp, hs0, hZ, ho, hv, locs, k, F, X, S, hk⟩ := K
  exact ⟨e1, hx, O, hn, hw, Kp, hs0, hZ, ho, hv, locs, k, F, X.more hc hs, S, hk⟩
theorem Wk.weaken (K : Wk wd p l e R s m args below meth c own Z n0 h0 [] vm T h cells slots) (ws' : List Addr) (q : ∀ x ∈ ws', n0 ≤ x) : Wk wd p l e R s m args below meth c own Z n0 h0 ws' vm T h cells slots := by
  obtain ⟨e1, hx, O, hn, hw, Kp, hs0, hZ, ho, hv, locs, k, F, X, S, hk⟩ := K
  exact ⟨e1, hx, O, hn, q, ⟨Kp.1, fun x c u _ => Kp.2.1 x c u nin0, Kp.2.2⟩, hs0, hZ, ho, hv, locs, k, fun y hy => (F y hy).elim (fun u => nomatch u) Or.inr, X, S, hk⟩
/-- a step that writes and makes nothing in the heap -/
theorem Wk.pure (K : Wk wd p l e R s m args below meth c own Z n0 h0 ws vm T h cells slots) {P : State → Prop}
    (f : ∀ (locs : List Loc) (s' : State), Stand p l e R s' m args below meth c T locs cells slots → p.tables.exec = Jvm.exec → Z.Warmed39 s'.vm → s'.vm.findClass own = some m.cls → T.heap = h → ∃ T', Stand p l e R s' m args below meth c T' locs cells slots ∧ T'.heap = h ∧ P T') :
    ∃ T', Wk wd p l e R s m args below meth c own Z n0 h0 ws vm T' h cells slots ∧ P T' := by
  obtain ⟨e1, hx, O, hn, hw, Kp, hs0, hZ, ho, hv, locs, k, F, X, S, hk⟩ := K
  obtain ⟨T', X', e', q⟩ := f locs (s.setVm vm) X hx hZ ho e1
  exact ⟨T', ⟨e', hx, O, hn, hw, Kp, hs0, hZ, ho, hv, locs, k, F, X', S, hk⟩, q⟩
/-- a step that makes a cell -/
theorem Wk.made (K : Wk wd p l e R s m args below meth c own Z n0 h0 ws vm T h cells slots) {cells' slots' : Nat} {P : State → Heap → Prop}
    (f : ∀ (locs : List Loc) (s' : State), Stand p l e R s' m args below meth c T locs cells slots → p.tables.exec = Jvm.exec → Z.Warmed39 s'.vm → s'.vm.findClass own = some m.cls → T.heap = h → ∃ T' h', Stand p l e R s' m args below meth c T' locs cells' slots' ∧ T'.heap = h' ∧ Ext h h' ∧ P T' h') :
    ∃ T' h', Wk wd p l e R s m args below meth c own Z n0 h0 ws vm T' h' cells' slots' ∧ Ext h h' ∧ h0.size ≤ h.size ∧ P T' h' := by
  obtain ⟨e1, hx, O, hn, hw, Kp, hs0, hZ, ho, hv, locs, k, F, X, S, hk⟩ := K
  obtain ⟨T', h', X', e', E, q⟩ := f locs (s.setVm vm) X hx hZ ho e1
  exact ⟨T', h', ⟨e', hx, O.ext E, hn, hw, Kp.ext E, hs0, hZ, ho, hv, locs, k, F, X', S, Nat.le_trans hk E.1⟩, E, Kp.1, q⟩
/-- a step that writes one place -/
theorem Wk.wrote (K : Wk wd p l e R s m args below meth c own Z n0 h0 ws vm T h cells slots) {a : Addr} {sl : Nat} {v : Value} (q : a ∈ ws ∨ h0.size ≤ a) {P : State → Heap → Prop}
    (f : ∀ (locs : List Loc) (s' : State), Stand p l e R s' m args below meth c T locs cells slots → p.tables.exec = Jvm.exec → Z.Warmed39 s'.vm → s'.vm.findClass own = some m.cls → T.heap = h → ∃ T' h', Stand p l e R s' m args below meth c T' (locs ++ [⟨a, sl⟩]) cells slots ∧ T'.heap = h' ∧ Wr h h' a sl v ∧ P T' h') :
    ∃ T' h', Wk wd p l e R s m args below meth c own Z n0 h0 ws vm T' h' cells slots ∧ Wr h h' a sl v ∧ P T' h' := by
  have g := K.fresh q
  obtain ⟨e1, hx, O, hn, hw, Kp, hs0, hZ, ho, hv, locs, k, F, X, S, hk⟩ := K
  obtain ⟨T', h', X', e', W, u⟩ := f locs (s.setVm vm) X hx hZ ho e1
  exact ⟨T', h', ⟨e', hx, O.wr W g, hn, hw, Kp.wr W q, hs0, hZ, ho, hv, _, k, F.app (FrW.one q), X', S, by rw [W.size]; exact hk⟩, W, u⟩
theorem Wk.getF (K : Wk wd p l e R s m args below meth c own Z n0 h0 ws vm T h cells slots) {R0 O n d : String} (host : String) {index : Nat} (w : (Cond.fieldLink own index R0 n d).before a0 Z = true ∨ (Cond.fieldLinkNest own index R0 n d host).before a0 Z = true) (via : Via Z R0 O n d) {a : Addr} {v : Value} (F : Fld Z h a O n d v)
    {pc : Nat} {Ls : Array Slot} {rest : List Value} (hd : decode c.code pc = .ok (.getfield index, 3)) :
    ∃ T', Wk wd p l e R s m args below meth c own Z n0 h0 ws vm T' h cells slots ∧ Go p e below (T.setTop (mkF m pc Ls (.ref a :: rest))) (T'.setTop (mkF m (pc + 3) Ls (v :: rest))) :=
  K.pure fun _ _ X hx hZ ho e1 => RoadKit.getF X hx hZ ho w via e1 F (g := mkF m pc Ls (.ref a :: rest)) rfl rfl hd
theorem Wk.getS (K : Wk wd p l e R s m args below meth c own Z n0 h0 ws vm T h cells slots) {R0 O n d : String} (host : String) {index : Nat} (w : (Cond.fieldLink own index R0 n d).before a0 Z = true ∨ (Cond.fieldLinkNest own index R0 n d host).before a0 Z = true) (via : Via Z R0 O n d) {v : Value} (F : Sta Z h O n d v)
    {pc : Nat} {Ls : Array Slot} {rest : List Value} (hd : decode c.code pc = .ok (.getstatic index, 3)) :
    ∃ T', Wk wd p l e R s m args below meth c own Z n0 h0 ws vm T' h cells slots ∧ Go p e below (T.setTop (mkF m pc Ls rest)) (T'.setTop (mkF m (pc + 3) Ls (v :: rest))) :=
  K.pure fun _ _ X hx hZ ho e1 => RoadKit.getS2 X hx hZ ho w via e1 F (g := mkF m pc Ls rest) rfl hd
theorem Wk.putF (K : Wk wd p l e R s m args below meth c own Z n0 h0 ws vm T h cells slots) {R0 O n d C : String} (host : String) {index kk : Nat} {ty : FieldType} (w : (Cond.fieldLink own index R0 n d).before a0 Z = true ∨ (Cond.fieldLinkNest own index R0 n d host).before a0 Z = true) (via : Via Z R0 O n d) {a : Addr} {v old : Value} (F : Fld Z h a O n d old) (E : Exa Z h a C)
    (L : (Cond.lays C O n d).before a0 Z = true ∨ ((Cond.laysFinal C O n d).before a0 Z = true ∧ own = O ∧ meth.name = "<init>")) (wi : (Cond.instantiable C kk).before a0 Z = true) (hty : parseFieldDescriptor d = some ty) (hn : narrow ty v = v) (hf : fits ty v = true) (q : a ∈ ws ∨ h0.size ≤ a)
    {pc : Nat} {Ls : Array Slot} {rest : List Value} (hd : decode c.code pc = .ok (.putfield index, 3)) :
    ∃ T' h', Wk wd p l e R s m args below meth c own Z n0 h0 ws vm T' h' cells slots ∧ Wr h h' a (RoadKit.slotOf Z O n d) v ∧ Go p e below (T.setTop (mkF m pc Ls (v :: .ref a :: rest))) (T'.setTop (mkF m (pc + 3) Ls rest)) :=
  K.wrote q fun _ _ X hx hZ ho e1 => RoadKit.putF X hx hZ ho w via e1 F E L wi hty hn hf (g := mkF m pc Ls (v :: .ref a :: rest)) rfl rfl hd
theorem Wk.initO (K : Wk wd p l e R s m args below meth c own Z n0 h0 ws vm T h cells slots) {idx : Nat} (w1 : (Cond.methodLink own idx Lib.objectInit).before a0 Z = true) (w2 : (Cond.instanceMethod Lib.objectInit).before a0 Z = true) (w3 : (Cond.code Lib.objectInit ⟨#[0xb1]⟩ 1 none).before a0 Z = true)
    {a : Addr} {pc : Nat} {Ls : Array Slot} {rest : List Value} (hsz : Ls.size = c.maxLocals) (hd : decode c.code pc = .ok (.invokespecial idx, 3)) (hf : 1 ≤ R.frames) {W : Nat} (hW : (rest.map fun v => v.category).sum ≤ W) (hl : W + 12 ≤ R.locals) :
    ∃ T', Wk wd p l e R s m args below meth c own Z n0 h0 ws vm T' h cells slots ∧ Go p e below (T.setTop (mkF m pc Ls (.ref a :: rest))) (T'.setTop (mkF m (pc + 3) Ls rest)) :=
  K.pure fun _ _ X hx hZ ho e1 => RoadKit.initO X hx hZ ho w1 w2 w3 e1 (g := mkF m pc Ls (.ref a :: rest)) rfl hsz rfl hd hf (W := W) (by show 2 * 0 + _ ≤ _; simpa using hW) hl
theorem Wk.castY (K : Wk wd p l e R s m args below meth c own Z n0 h0 ws vm T h cells slots) {C : String} {index : Nat} (w : (Cond.classLink own index C).before a0 Z = true) {a : Addr} (F : Ins Z h a C true) {pc : Nat} {Ls : Array Slot} {rest : List Value} (hd : decode c.code pc = .ok (.checkcast index, 3)) :
    ∃ T', Wk wd p l e R s m args below meth c own Z n0 h0 ws vm T' h cells slots ∧ Go p e below (T.setTop (mkF m pc Ls (.ref a :: rest))) (T'.setTop (mkF m (pc + 3) Ls (.ref a :: rest))) :=
  K.pure fun _ _ X hx hZ ho e1 => RoadKit.castY X hx hZ ho w e1 F (g := mkF m pc Ls (.ref a :: rest)) rfl rfl hd
theorem Wk.instY (K : Wk wd p l e R s m args below meth c own Z n0 h0 ws vm T h cells slots) {C : String} {index : Nat} (w : (Cond.classLink own index C).before a0 Z = true) {a : Addr} (F : Ins Z h a C true) {pc : Nat} {Ls : Array Slot} {rest : List Value} (hd : decode c.code pc = .ok (.instanceof index, 3)) :
    ∃ T', Wk wd p l e R s m args below meth c own Z n0 h0 ws vm T' h cells slots ∧ Go p e below (T.setTop (mkF m pc Ls (.ref a :: rest))) (T'.setTop (mkF m (pc + 3) Ls (.int 1 :: rest))) :=
  K.pure fun _ _ X hx hZ ho e1 => RoadKit.instY X hx hZ ho w e1 F (g := mkF m pc Ls (.ref a :: rest)) rfl rfl hd
theorem Wk.instNo (K : Wk wd p l e R s m args below meth c own Z n0 h0 ws vm T h cells slots) {C D : String} {index : Nat} (w : (Cond.classLink own index C).before a0 Z = true) {a : Addr} (E : Exa Z h a D) (F : ∃ c t, Z.vm.findClass D = some c ∧ Z.vm.findClass C = some t ∧ Z.vm.assignable c t = false) {pc : Nat} {Ls : Array Slot} {rest : List Value} (hd : decode c.code pc = .ok (.instanceof index, 3)) :
    ∃ T', Wk wd p l e R s m args below meth c own Z n0 h0 ws vm T' h cells slots ∧ Go p e below (T.setTop (mkF m pc Ls (.ref a :: rest))) (T'.setTop (mkF m (pc + 3) Ls (.int 0 :: rest))) :=
  K.pure fun _ _ X hx hZ ho e1 => RoadKit.instNo X hx hZ ho w e1 E F (g := mkF m pc Ls (.ref a :: rest)) rfl rfl hd
theorem Wk.instNull (K : Wk wd p l e R s m args below meth c own Z n0 h0 ws vm T h cells slots) {index : Nat} {pc : Nat} {Ls : Array Slot} {rest : List Value} (hd : decode c.code pc = .ok (.instanceof index, 3)) :
    Go p e below (T.setTop (mkF m pc Ls (.null :: rest))) (T.setTop (mkF m (pc + 3) Ls (.int 0 :: rest))) := by
  exact K.stand fun _ _ X hx _ _ _ => X.instanceofNull hx (g := mkF m pc Ls (.null :: rest)) rfl rfl hd
theorem Wk.newO (K : Wk wd p l e R s m args below meth c own Z n0 h0 ws vm T h cells slots) {C : String} {index n : Nat} (w : (Cond.classLink own index C).before a0 Z = true) (wi : (Cond.instantiable C n).before a0 Z = true) (wz : (Cond.initialized C).before a0 Z = true)
    {pc : Nat} {Ls : Array Slot} {rest : List Value} (hd : decode c.code pc = .ok (.new index, 3)) (hc : cells + 1 ≤ R.cells) (hl : slots + n ≤ R.slots) :
    ∃ T' h' a, Wk wd p l e R s m args below meth c own Z n0 h0 ws vm T' h' (cells + 1) (slots + n) ∧ Ext h h' ∧ h0.size ≤ a ∧ h.size ≤ a ∧ (∀ x, x < h.size → x ≠ a) ∧ Exa Z h' a C ∧
      (∀ {O nm d : String} {ty : FieldType}, Laid Z a0 C O nm d → parseFieldDescriptor d = some ty → Fld Z h' a O nm d (defaultValue ty)) ∧ Go p e below (T.setTop (mkF m pc Ls rest)) (T'.setTop (mkF m (pc + 3) Ls (.ref a :: rest))) := by
  obtain ⟨T', h', K', E, g, A, D, st⟩ := K.made (P := fun T' h' => Exa Z h' h.size C ∧ (∀ {O nm d : String} {ty : FieldType}, Laid Z a0 C O nm d → parseFieldDescriptor d = some ty → Fld Z h' h.size O nm d (defaultValue ty)) ∧ Go p e below (T.setTop (mkF m pc Ls rest)) (T'.setTop (mkF m (pc + 3) Ls (.ref h.size :: rest))))
    fun _ _ X hx hZ ho e1 => by
      obtain ⟨T', h', X', e', E, A, D, -, st⟩ := RoadKit.newO X hx hZ ho w wi wz e1 (g := mkF m pc Ls rest) rfl hd hc hl
      exact ⟨T', h', X', e', E, A, D, st⟩
  exact ⟨T', h', h.size, K', E, g, Nat.le_refl _, fun x q => Nat.ne_of_lt q, A, D, st⟩
theorem Wk.newP (K : Wk wd p l e R s m args below meth c own Z n0 h0 ws vm T h cells slots) {aty : ArrayType} (w : (Cond.arrayClass (newarray.typeOf aty)).before a0 Z = true) {n : Int32} {pc : Nat} {Ls : Array Slot} {rest : List Value} (hd : decode c.code pc = .ok (.newarray aty, 2)) (cap : Nat) (hn : ¬ n < 0) (hcap : n.toNatClampNeg ≤ cap) (hb : cap * 8 ≤ 536870912) (hc : cells + 1 ≤ R.cells) (hl : slots + cap ≤ R.slots) :
    ∃ T' h' a cA, Wk wd p l e R s m args below meth c own Z n0 h0 ws vm T' h' (cells + 1) (slots + cap) ∧ Ext h h' ∧ h0.size ≤ a ∧ h.size ≤ a ∧ (∀ x, x < h.size → x ≠ a) ∧ Arv Z h' a cA (newarray.typeOf aty) n [] (defaultValue (newarray.typeOf aty)) ∧ Go p e below (T.setTop (mkF m pc Ls (.int n :: rest))) (T'.setTop (mkF m (pc + 2) Ls (.ref a :: rest))) := by
  obtain ⟨T', h', K', E, g, cA, A, st⟩ := K.made (P := fun T' h' => ∃ cA, Arr Z h' h.size (newA cA (newarray.typeOf aty) n) (newarray.typeOf aty) ∧ Go p e below (T.setTop (mkF m pc Ls (.int n :: rest))) (T'.setTop (mkF m (pc + 2) Ls (.ref h.size :: rest))))
    fun _ _ X hx hZ ho e1 => by
      obtain ⟨T', h', cA, X', e', E, A, st⟩ := RoadKit.newP X hx hZ w e1 (g := mkF m pc Ls (.int n :: rest)) rfl hd rfl hn hcap hb hc hl
      exact ⟨T', h', X', e', E, cA, A, st⟩
  exact ⟨T', h', h.size, cA, K', E, g, Nat.le_refl _, fun x q => Nat.ne_of_lt q, Arv.new A hn, st⟩
theorem Wk.newR (K : Wk wd p l e R s m args below meth c own Z n0 h0 ws vm T h cells slots) {C : String} {index : Nat} (w1 : (Cond.classLink own index C).before a0 Z = true) (w2 : (Cond.arrayOver (.object C)).before a0 Z = true) {n : Int32} {pc : Nat} {Ls : Array Slot} {rest : List Value} (hd : decode c.code pc = .ok (.anewarray index, 3)) (cap : Nat) (hn : ¬ n < 0) (hcap : n.toNatClampNeg ≤ cap) (hb : cap * 8 ≤ 536870912) (hc : cells + 1 ≤ R.cells) (hl : slots + cap ≤ R.slots) {ad : String} (had : "[" ++ (FieldType.object C).toString = ad) :
    ∃ T' h' a cA, Wk wd p l e R s m args below meth c own Z n0 h0 ws vm T' h' (cells + 1) (slots + cap) ∧ Ext h h' ∧ h0.size ≤ a ∧ h.size ≤ a ∧ (∀ x, x < h.size → x ≠ a) ∧ Arv Z h' a cA (.object C) n [] .null ∧ Exa Z h' a ad ∧ Ovr Z cA C ∧ Go p e below (T.setTop (mkF m pc Ls (.int n :: rest))) (T'.setTop (mkF m (pc + 3) Ls (.ref a :: rest))) := by
  obtain ⟨T', h', K', E, g, cA, A, Ea, O, st⟩ := K.made (P := fun T' h' => ∃ cA, Arr Z h' h.size (newA cA (.object C) n) (.object C) ∧ Exa Z h' h.size ad ∧ Ovr Z cA C ∧ Go p e below (T.setTop (mkF m pc Ls (.int n :: rest))) (T'.setTop (mkF m (pc + 3) Ls (.ref h.size :: rest))))
    fun _ _ X hx hZ ho e1 => by
      obtain ⟨T', h', cA, X', e', E, A, Ea, O, st⟩ := RoadKit.newRE X hx hZ ho w1 w2 e1 (g := mkF m pc Ls (.int n :: rest)) rfl hd rfl hn hcap hb hc hl had
      exact ⟨T', h', X', e', E, cA, A, Ea, O, st⟩
  exact ⟨T', h', h.size, cA, K', E, g, Nat.le_refl _, fun x q => Nat.ne_of_lt q, Arv.new A hn, Ea, O, st⟩
theorem Wk.newRA (K : Wk wd p l e R s m args below meth c own Z n0 h0 ws vm T h cells slots) {C : String} {ty : FieldType} {index : Nat} (hC : (FieldType.array ty).toString = C) (w1 : (Cond.classLink own index C).before a0 Z = true) (w2 : (Cond.arrayOver (.array ty)).before a0 Z = true) {n : Int32} {pc : Nat} {Ls : Array Slot} {rest : List Value} (hd : decode c.code pc = .ok (.anewarray index, 3)) (cap : Nat) (hn : ¬ n < 0) (hcap : n.toNatClampNeg ≤ cap) (hb : cap * 8 ≤ 536870912) (hc : cells + 1 ≤ R.cells) (hl : slots + cap ≤ R.slots) {ad : String} (had : "[" ++ C = ad) :
    ∃ T' h' a cA, Wk wd p l e R s m args below meth c own Z n0 h0 ws vm T' h' (cells + 1) (slots + cap) ∧ Ext h h' ∧ h0.size ≤ a ∧ h.size ≤ a ∧ (∀ x, x < h.size → x ≠ a) ∧ Arv Z h' a cA (.array ty) n [] .null ∧ Exa Z h' a ad ∧ OvrA Z cA ty C ∧ Go p e below (T.setTop (mkF m pc Ls (.int n :: rest))) (T'.setTop (mkF m (pc + 3) Ls (.ref a :: rest))) := by
  obtain ⟨T', h', K', E, g, cA, A, Ea, O, st⟩ := K.made (P := fun T' h' => ∃ cA, Arr Z h' h.size (newA cA (.array ty) n) (.array ty) ∧ Exa Z h' h.size ad ∧ OvrA Z cA ty C ∧ Go p e below (T.setTop (mkF m pc Ls (.int n :: rest))) (T'.setTop (mkF m (pc + 3) Ls (.ref h.size :: rest))))
    fun _ _ X hx hZ ho e1 => by
      obtain ⟨T', h', cA, X', e', E, A, Ea, O, st⟩ := RoadKit.newRA X hx hZ ho hC w1 w2 e1 (g := mkF m pc Ls (.int n :: rest)) rfl hd rfl hn hcap hb hc hl had
      exact ⟨T', h', X', e', E, cA, A, Ea, O, st⟩
  exact ⟨T', h', h.size, cA, K', E, g, Nat.le_refl _, fun x q => Nat.ne_of_lt q, Arv.new A hn, Ea, O, st⟩
/-- stores into an array whose components are all known -/
theorem Wk.stC (K : Wk wd p l e R s m args below meth c own Z n0 h0 ws vm T h cells slots) {a : Addr} {cA : ClassId} {z : Int32} {vs : List Value} {dv : Value} (F : Arv Z h a cA .char z vs dv) {j x : Int32} (hj : ¬ j < 0 ∧ j < z) (i : Nat) (hi : j.toNatClampNeg = i) (hl : i < vs.length) (q : a ∈ ws ∨ h0.size ≤ a) {pc : Nat} {Ls : Array Slot} {rest : List Value} (hd : decode c.code pc = .ok (.castore, 1)) :
    ∃ T' h', Wk wd p l e R s m args below meth c own Z n0 h0 ws vm T' h' cells slots ∧ Wr h h' a j.toNatClampNeg (.int (nar .char x)) ∧ Arv Z h' a cA .char z (vs.set i (.int (nar .char x))) dv ∧ Go p e below (T.setTop (mkF m pc Ls (.int x :: .int j :: .ref a :: rest))) (T'.setTop (mkF m (pc + 1) Ls rest)) := by
  obtain ⟨cl, A, q1, S, q3, H, G⟩ := F
  obtain ⟨T', h', K', W, st⟩ := K.wrote q (P := fun T' h' => Go p e below (T.setTop (mkF m pc Ls (.int x :: .int j :: .ref a :: rest))) (T'.setTop (mkF m (pc + 1) Ls rest))) fun _ _ X hx hZ ho e1 => RoadKit.stC X hx hZ e1 A (inb_of S hj) (g := mkF m pc Ls (.int x :: .int j :: .ref a :: rest)) rfl rfl hd
  exact ⟨T', h', K', W, Arv.set A q1 S q3 H G (fits_nar_char x) W i hi hl, st⟩
theorem Wk.stB (K : Wk wd p l e R s m args below meth c own Z n0 h0 ws vm T h cells slots) {a : Addr} {cA : ClassId} {z : Int32} {vs : List Value} {dv : Value} (F : Arv Z h a cA .byte z vs dv) {j x : Int32} (hj : ¬ j < 0 ∧ j < z) (i : Nat) (hi : j.toNatClampNeg = i) (hl : i < vs.length) (q : a ∈ ws ∨ h0.size ≤ a) {pc : Nat} {Ls : Array Slot} {rest : List Value} (hd : decode c.code pc = .ok (.bastore, 1)) :
    ∃ T' h', Wk wd p l e R s m args below meth c own Z n0 h0 ws vm T' h' cells slots ∧ Wr h h' a j.toNatClampNeg (.int (nar .byte x)) ∧ Arv Z h' a cA .byte z (vs.set i (.int (nar .byte x))) dv ∧ Go p e below (T.setTop (mkF m pc Ls (.int x :: .int j :: .ref a :: rest))) (T'.setTop (mkF m (pc + 1) Ls rest)) := by
  obtain ⟨cl, A, q1, S, q3, H, G⟩ := F
  obtain ⟨T', h', K', W, st⟩ := K.wrote q (P := fun T' h' => Go p e below (T.setTop (mkF m pc Ls (.int x :: .int j :: .ref a :: rest))) (T'.setTop (mkF m (pc + 1) Ls rest))) fun _ _ X hx hZ ho e1 => RoadKit.stB X hx hZ e1 A (inb_of S hj) (g := mkF m pc Ls (.int x :: .int j :: .ref a :: rest)) rfl rfl hd
  exact ⟨T', h', K', W, Arv.set A q1 S q3 H G (fits_nar_byte x) W i hi hl, st⟩
theorem Wk.stI (K : Wk wd p l e R s m args below meth c own Z n0 h0 ws vm T h cells slots) {a : Addr} {cA : ClassId} {z : Int32} {vs : List Value} {dv : Value} (F : Arv Z h a cA .int z vs dv) {j x : Int32} (hj : ¬ j < 0 ∧ j < z) (i : Nat) (hi : j.toNatClampNeg = i) (hl : i < vs.length) (q : a ∈ ws ∨ h0.size ≤ a) {pc : Nat} {Ls : Array Slot} {rest : List Value} (hd : decode c.code pc = .ok (.iastore, 1)) :
    ∃ T' h', Wk wd p l e R s m args below meth c own Z n0 h0 ws vm T' h' cells slots ∧ Wr h h' a j.toNatClampNeg (.int x) ∧ Arv Z h' a cA .int z (vs.set i (.int x)) dv ∧ Go p e below (T.setTop (mkF m pc Ls (.int x :: .int j :: .ref a :: rest))) (T'.setTop (mkF m (pc + 1) Ls rest)) := by
  obtain ⟨cl, A, q1, S, q3, H, G⟩ := F
  obtain ⟨T', h', K', W, st⟩ := K.wrote q (P := fun T' h' => Go p e below (T.setTop (mkF m pc Ls (.int x :: .int j :: .ref a :: rest))) (T'.setTop (mkF m (pc + 1) Ls rest))) fun _ _ X hx hZ ho e1 => RoadKit.stI X hx hZ e1 A (inb_of S hj) (g := mkF m pc Ls (.int x :: .int j :: .ref a :: rest)) rfl rfl hd
  exact ⟨T', h', K', W, Arv.set A q1 S q3 H G rfl W i hi hl, st⟩
theorem Wk.stR (K : Wk wd p l e R s m args below meth c own Z n0 h0 ws vm T h cells slots) {a : Addr} {cA : ClassId} {ty : FieldType} {z : Int32} {vs : List Value} {dv : Value} (F : Arv Z h a cA ty z vs dv) (hty : ty.isReference = true) {j : Int32} {v : Value} (hv : fits ty v = true) (Sv : Sto Z h a v) (hj : ¬ j < 0 ∧ j < z) (i : Nat) (hi : j.toNatClampNeg = i) (hl : i < vs.length) (q : a ∈ ws ∨ h0.size ≤ a) {pc : Nat} {Ls : Array Slot} {rest : List Value} (hd : decode c.code pc = .ok (.aastore, 1)) :
    ∃ T' h', Wk wd p l e R s m args below meth c own Z n0 h0 ws vm T' h' cells slots ∧ Wr h h' a j.toNatClampNeg v ∧ Arv Z h' a cA ty z (vs.set i v) dv ∧ Go p e below (T.setTop (mkF m pc Ls (v :: .int j :: .ref a :: rest))) (T'.setTop (mkF m (pc + 1) Ls rest)) := by
  obtain ⟨cl, A, q1, S, q3, H, G⟩ := F
  obtain ⟨T', h', K', W, st⟩ := K.wrote q (P := fun T' h' => Go p e below (T.setTop (mkF m pc Ls (v :: .int j :: .ref a :: rest))) (T'.setTop (mkF m (pc + 1) Ls rest))) fun _ _ X hx hZ ho e1 => RoadKit.stR X hx hZ e1 A (inb_of S hj) hty Sv (g := mkF m pc Ls (v :: .int j :: .ref a :: rest)) rfl rfl hd
  exact ⟨T', h', K', W, Arv.set A q1 S q3 H G hv W i hi hl, st⟩
theorem Wk.len (K : Wk wd p l e R s m args below meth c own Z n0 h0 ws vm T h cells slots) {a : Addr} {cA : ClassId} {ty : FieldType} {z : Int32} {vs : List Value} {dv : Value} (F : Arv Z h a cA ty z vs dv) {pc : Nat} {Ls : Array Slot} {rest : List Value} (hd : decode c.code pc = .ok (.arraylength, 1)) :
    Go p e below (T.setTop (mkF m pc Ls (.ref a :: rest))) (T.setTop (mkF m (pc + 1) Ls (.int z :: rest))) := by
  obtain ⟨cl, A, q1, S, q3, H, G⟩ := F
  exact K.stand fun _ _ X hx hZ ho e1 t k => X.arraylength hx (by rw [e1]; exact A.1) (State.isArrayOf_alike hZ.alike A.2.1) (g := mkF m pc Ls (.ref a :: rest)) rfl rfl hd t (by rw [len_of S q3]; exact k)
theorem Wk.ldC (K : Wk wd p l e R s m args below meth c own Z n0 h0 ws vm T h cells slots) {a : Addr} {cA : ClassId} {z : Int32} {vs : List Value} {dv v : Value} (F : Arv Z h a cA .char z vs dv) {j : Int32} (hj : ¬ j < 0 ∧ j < z) (hv : vs.getD j.toNatClampNeg dv = v) {pc : Nat} {Ls : Array Slot} {rest : List Value} (hd : decode c.code pc = .ok (.caload, 1)) :
    Go p e below (T.setTop (mkF m pc Ls (.int j :: .ref a :: rest))) (T.setTop (mkF m (pc + 1) Ls (v :: rest))) := by
  obtain ⟨cl, A, q1, S, q3, H, G⟩ := F
  exact K.stand fun _ _ X hx hZ ho e1 t k => X.caload hx (by rw [e1]; exact A.1) (State.isArrayOf_alike hZ.alike A.2.1) A.2.2 (inb_of S hj) (Has.at H (inb_of S hj) hv) (g := mkF m pc Ls (.int j :: .ref a :: rest)) rfl rfl hd t k
theorem Wk.ldB (K : Wk wd p l e R s m args below meth c own Z n0 h0 ws vm T h cells slots) {a : Addr} {cA : ClassId} {z : Int32} {vs : List Value} {dv v : Value} (F : Arv Z h a cA .byte z vs dv) {j : Int32} (hj : ¬ j < 0 ∧ j < z) (hv : vs.getD j.toNatClampNeg dv = v) {pc : Nat} {Ls : Array Slot} {rest : List Value} (hd : decode c.code pc = .ok (.baload, 1)) :
    Go p e below (T.setTop (mkF m pc Ls (.int j :: .ref a :: rest))) (T.setTop (mkF m (pc + 1) Ls (v :: rest))) := by
  obtain ⟨cl, A, q1, S, q3, H, G⟩ := F
  exact K.stand fun _ _ X hx hZ ho e1 t k => X.baloadBytes hx (by rw [e1]; exact A.1) (State.isArrayOf_alike hZ.alike A.2.1) A.2.2 (inb_of S hj) (Has.at H (inb_of S hj) hv) (g := mkF m pc Ls (.int j :: .ref a :: rest)) rfl rfl hd t k
theorem Wk.ldI (K : Wk wd p l e R s m args below meth c own Z n0 h0 ws vm T h cells slots) {a : Addr} {cA : ClassId} {z : Int32} {vs : List Value} {dv v : Value} (F : Arv Z h a cA .int z vs dv) {j : Int32} (hj : ¬ j < 0 ∧ j < z) (hv : vs.getD j.toNatClampNeg dv = v) {pc : Nat} {Ls : Array Slot} {rest : List Value} (hd : decode c.code pc = .ok (.iaload, 1)) :
    Go p e below (T.setTop (mkF m pc Ls (.int j :: .ref a :: rest))) (T.setTop (mkF m (pc + 1) Ls (v :: rest))) := by
  obtain ⟨cl, A, q1, S, q3, H, G⟩ := F
  exact K.stand fun _ _ X hx hZ ho e1 t k => X.iaload hx (by rw [e1]; exact A.1) (State.isArrayOf_alike hZ.alike A.2.1) A.2.2 (inb_of S hj) (Has.at H (inb_of S hj) hv) (g := mkF m pc Ls (.int j :: .ref a :: rest)) rfl rfl hd t k
theorem Wk.ldR (K : Wk wd p l e R s m args below meth c own Z n0 h0 ws vm T h cells slots) {a : Addr} {cA : ClassId} {ty : FieldType} {z : Int32} {vs : List Value} {dv v : Value} (F : Arv Z h a cA ty z vs dv) (hty : ty.isReference = true) {j : Int32} (hj : ¬ j < 0 ∧ j < z) (hv : vs.getD j.toNatClampNeg dv = v) {pc : Nat} {Ls : Array Slot} {rest : List Value} (hd : decode c.code pc = .ok (.aaload, 1)) :
    Go p e below (T.setTop (mkF m pc Ls (.int j :: .ref a :: rest))) (T.setTop (mkF m (pc + 1) Ls (v :: rest))) := by
  obtain ⟨cl, A, q1, S, q3, H, G⟩ := F
  exact K.stand fun _ _ X hx hZ ho e1 t k => X.aaload hx (by rw [e1]; exact A.1) (State.isArrayOf_alike hZ.alike A.2.1) hty A.2.2 (inb_of S hj) (Has.at H (inb_of S hj) hv) (g := mkF m pc Ls (.int j :: .ref a :: rest)) rfl rfl hd t k
theorem Wk.ldcI (K : Wk wd p l e R s m args below meth c own Z n0 h0 ws vm T h cells slots) {index : Nat} {v : Int32} (w : (Cond.constant own index v).before a0 Z = true) {pc : Nat} {Ls : Array Slot} {rest : List Value} (hd : decode c.code pc = .ok (.ldc index, 2)) :
    Go p e below (T.setTop (mkF m pc Ls rest)) (T.setTop (mkF m (pc + 2) Ls (.int v :: rest))) :=
  K.stand fun _ _ X hx hZ ho e1 t k => X.ldcI hx ho (mvT hZ w) (g := mkF m pc Ls rest) rfl hd k
/-- what is said of the tables stays true of warmer ones -/
def VCl (V : Vm → Prop) : Prop := ∀ (s : State) (vm' : Vm), V s.vm → s.WarmedH vm' → V vm'
def VT : Vm → Prop := fun _ => True
theorem VT.cl : VCl VT := fun _ _ _ _ => trivial
/-- what pays a call: of either width; V: what must be known of the tables -/
def Pay (wd : Bool) (l : Launch) (R : Room) (p : Program) (e : Env) (below : List Frame) (args : Array Value) (y : MethodName) (len W : Nat) (Z : State) (h : Heap) (V : Vm → Prop) (as' : Array Value) (kc ks : Nat) (ws' : List Addr) (Q : Option Value → Heap → Vm → Prop) : Prop :=
  ∀ s' : State, Z.Warmed39 s'.vm → V s'.vm → (match wd with
    | false => Back l R p e below s' args y len W (fun A a => a = as' ∧ A.U.heap = h ∧ A.cells + kc ≤ R.cells ∧ A.slots + ks ≤ R.slots) (fun A _ v B => ∃ L, (Q v B.U.heap B.U.vm ∧ Keep h B.U.heap ws' ∧ FrW ws' h.size L) ∧ B.locs = A.locs ++ L ∧ B.cells = A.cells + kc ∧ B.slots = A.slots + ks)
    | true => BackS l R p e below s' args y len W (fun A a => a = as' ∧ A.U.heap = h ∧ A.cells + kc ≤ R.cells ∧ A.slots + ks ≤ R.slots) (fun A _ v B => ∃ L, (Q v B.U.heap B.U.vm ∧ Keep h B.U.heap ws' ∧ FrW ws' h.size L) ∧ B.locs = A.locs ++ L ∧ B.cells = A.cells + kc ∧ B.slots = A.slots + ks))
theorem Pay.ofBack {y : MethodName} {len W : Nat} {as' : Array Value} {kc ks : Nat} {ws' : List Addr} {V : Vm → Prop} {Q : Option Value → Heap → Vm → Prop} {Q0 : Option Value → Heap → List Loc → Prop}
    (f : ∀ s' : State, Z.Warmed39 s'.vm → Back l R p e below s' args y len W (fun A a => a = as' ∧ A.U.heap = h ∧ A.cells + kc ≤ R.cells ∧ A.slots + ks ≤ R.slots) (fun A _ v B => ∃ L, Q0 v B.U.heap L ∧ B.locs = A.locs ++ L ∧ B.cells = A.cells + kc ∧ B.slots = A.slots + ks))
    (hV : VCl V) (g : ∀ v h' vm' L, Q0 v h' L → V vm' → Q v h' vm' ∧ Keep h h' ws' ∧ FrW ws' h.size L) : Pay wd l R p e below args y len W Z h V as' kc ks ws' Q := by
  intro s' hZ hv
  have b : Back l R p e below s' args y len W (fun A a => a = as' ∧ A.U.heap = h ∧ A.cells + kc ≤ R.cells ∧ A.slots + ks ≤ R.slots) (fun A _ v B => A.U.heap = h ∧ ∃ L, (Q v B.U.heap B.U.vm ∧ Keep h B.U.heap ws' ∧ FrW ws' h.size L) ∧ B.locs = A.locs ++ L ∧ B.cells = A.cells + kc ∧ B.slots = A.slots + ks) := by
    intro m meth c A gg ig mk a X hg hsize hdg hW hn hp
    obtain ⟨v, B, X', ⟨L, q, r⟩, hst⟩ := f s' hZ m meth c A gg ig mk a X hg hsize hdg hW hn hp
    exact ⟨v, B, X', ⟨hp.2.1, L, g _ _ _ _ q (hV _ _ hv X'.warmed), r⟩, hst⟩
  cases wd
  · exact Back.mono b (fun A a hp => hp) (fun A a v B hp q => q.2)
  · have b' := BackS.of_back b (fun A a v B ⟨q, L, ⟨_, k, _⟩, _⟩ => by rw [q]; exact k.1)
    intro m meth c A gg ig mk a X hg hsize hdg hW hn hp
    obtain ⟨v, B, X', hS, hgr, hpost, hst⟩ := b' m meth c A gg ig mk a X hg hsize hdg hW hn hp
    exact ⟨v, B, X', hS, hgr, hpost.2, hst⟩
/-- a method's contract -/
def Ctr (wd : Bool) (l : Launch) (y : MethodName) (bytes : ByteArray) (maxL : Nat) (ret : Option FieldType) (rm : Room) (as' : Array Value) (Z : State) (h0 : Heap) (V : Vm → Prop) (ws : List Addr) (Q : Option Value → Heap → Vm → Prop) : Prop :=
  ∀ wds : List Jvm.Cond, MetFree l y (head1 (Cond.code y bytes maxL ret :: wds) rm) (fun a U => a = as' ∧ Z.Warmed39 U.vm ∧ U.heap = h0 ∧ V U.vm) (fun _ _ _ _ _ => True)
    (fun _ U o U' => ∃ v L, o = .returned v ∧ (Q v U'.heap U'.vm ∧ Keep h0 U'.heap ws ∧ FrW ws h0.size L) ∧ (match wd with | false => FrameEnd U o U' L rm.cells rm.slots | true => ReturnedEndW U o U' L rm.cells rm.slots))
theorem Ctr.pay {y : MethodName} {bytes : ByteArray} {maxL : Nat} {ret : Option FieldType} {rm : Room} {as' : Array Value} {ws' : List Addr} {V : Vm → Prop} {Q : Option Value → Heap → Vm → Prop} {len W : Nat} (H : Ctr wd l y bytes maxL ret rm as' Z h V ws' Q) (hV : VCl V)
    (wc : (Cond.code y bytes maxL ret).before a0 Z = true) (wz : (Cond.initialized y.cls).before a0 Z = true) (hf : rm.frames + 1 ≤ R.frames) (hl : W + (maxL + 11) + rm.locals ≤ R.locals) :
    Pay wd l R p e below args y len W Z h V as' rm.cells rm.slots ws' Q := by
  intro s' hZ hv
  have wa : ∀ (m : MethodId) (meth : Method) (c : Code) (A : Pt) (a : Array Value), Stand p l e R s' m args below meth c A.U A.locs A.cells A.slots → (a = as' ∧ A.U.heap = h ∧ A.cells + rm.cells ≤ R.cells ∧ A.slots + rm.slots ≤ R.slots) →
      (head1 [Cond.code y bytes maxL ret] rm).pre.before a A.U = true ∧ (Cond.code y bytes maxL ret).before a A.U = true ∧ (Cond.initialized y.cls).before a A.U = true ∧ A.cells + rm.cells ≤ R.cells ∧ A.slots + rm.slots ≤ R.slots := fun m meth c A a Y hp => by
    have hU : Z.Warmed39 A.U.vm := wtrans hZ Y.warmed
    exact ⟨by show (Cond.and _ .tt).before a A.U = true; rw [Cond.before_and, mv hU wc]; rfl, mv hU wc, mv hU wz, hp.2.2.1, hp.2.2.2⟩
  cases wd
  · exact Back.of_free (bytes := bytes) (maxL := maxL) (ret := ret) (E := fun _ _ o t L k n => k = rm.cells ∧ n = rm.slots ∧ ∃ v, o = .returned v ∧ (Q v t.heap t.vm ∧ Keep h t.heap ws' ∧ FrW ws' h.size L)) (H []) hf hl wa
      (fun m meth c A a g mk Y hp => ⟨hp.1, wtrans hZ Y.warmed, hp.2.1, hV _ _ hv Y.warmed⟩) (fun _ _ _ _ _ _ _ _ _ => trivial)
      (fun _ _ _ _ ⟨v, L, h1, h2, h3⟩ => ⟨L, _, _, h3, rfl, rfl, v, h1, h2⟩)
      (fun m meth c A a g mk v t L k n Y hp _ _ ⟨e1, e2, v', e3, e4⟩ => by cases e3; subst e1 e2; exact ⟨L, e4, rfl, rfl, rfl⟩)
  · exact BackS.of_freeW (bytes := bytes) (maxL := maxL) (ret := ret) (E := fun _ _ o t L k n => k = rm.cells ∧ n = rm.slots ∧ ∃ v, o = .returned v ∧ (Q v t.heap t.vm ∧ Keep h t.heap ws' ∧ FrW ws' h.size L)) (H []) hf hl wa
      (fun m meth c A a g mk Y hp => ⟨hp.1, wtrans hZ Y.warmed, hp.2.1, hV _ _ hv Y.warmed⟩) (fun _ _ _ _ _ _ _ _ _ => trivial)
      (fun _ _ _ _ ⟨v, L, h1, h2, h3⟩ => ⟨L, _, _, h3, rfl, rfl, v, h1, h2⟩)
      (fun m meth c A a g mk v t L k n Y hp _ _ ⟨e1, e2, v', e3, e4⟩ => by cases e3; subst e1 e2; exact ⟨L, e4, rfl, rfl, rfl⟩)
theorem Wk.behind (K : Wk wd p l e R s m args below meth c own Z n0 h0 ws vm T h cells slots) {kc ks : Nat} {ws' : List Addr} (q : ∀ x ∈ ws', x ∈ ws ∨ h0.size ≤ x) {P : State → Heap → Vm → Prop}
    (fN : wd = false → ∀ (locs : List Loc) (s' : State), s'.vm = vm → Stand p l e R s' m args below meth c T locs cells slots → Z.Warmed39 s'.vm → s'.vm.findClass own = some m.cls → ∃ T' L, Stand p l e R s' m args below meth c T' (locs ++ L) (cells + kc) (slots + ks) ∧ FrW ws' h.size L ∧ Keep h T'.heap ws' ∧ P T' T'.heap T'.vm)
    (fW : wd = true → ∀ (locs : List Loc) (s' : State), s'.vm = vm → Stand p l e R s' m args below meth c T locs cells slots → Z.Warmed39 s'.vm → s'.vm.findClass own = some m.cls → ∃ T' L, Stand p l e R (s'.setVm T'.vm) m args below meth c T' (locs ++ L) (cells + kc) (slots + ks) ∧ s'.Since T'.vm T'.heap.size ∧ T.heap.size ≤ T'.heap.size ∧ FrW ws' h.size L ∧ Keep h T'.heap ws' ∧ P T' T'.heap T'.vm) :
    ∃ vm' vq T' h', Wk wd p l e R s m args below meth c own Z n0 h0 ws vm' T' h' (cells + kc) (slots + ks) ∧ Keep h h' ws' ∧ (wd = true → vq = vm') ∧ P T' h' vq := by
  have fr := fun x hx => K.fresh (q x hx)
  obtain ⟨e1, hx, O, hn, hw, Kp, hs0, hZ, ho, hv, locs, k, F, X, S, hk⟩ := K
  have fw : ∀ L, FrW ws' h.size L → FrW ws h0.size L := fun L N y hy => (N y hy).elim (q _) fun u => Or.inr (Nat.le_trans Kp.1 u)
  cases wd
  · obtain ⟨T', L, X', FL, KK, u⟩ := fN rfl locs (s.setVm vm) rfl X hZ ho
    exact ⟨vm, T'.vm, T', _, ⟨rfl, hx, O.keep KK fr, hn, hw, Kp.trans KK q, hs0, hZ, ho, hv, _, k, F.app (fw _ FL), X', S, Nat.le_trans hk KK.1⟩, KK, (fun e => by cases e), u⟩
  · obtain ⟨T', L, X', S', gr, FL, KK, u⟩ := fW rfl locs (s.setVm vm) rfl X hZ ho
    refine ⟨T'.vm, T'.vm, T', _, ⟨rfl, hx, O.keep KK fr, hn, hw, Kp.trans KK q, hs0, State.Warmed39.trans (t := s.setVm vm) hZ S'.1, (S'.1.alike.findClass _ _).trans ho, (fun e => by cases e), _, _, F.app (fw _ FL), X', S.trans S' (Nat.le_trans hk ?_), Nat.le_refl _⟩, KK, fun _ => rfl, u⟩
    rw [← e1]; exact gr
theorem Wk.callS (K : Wk wd p l e R s m args below meth c own Z n0 h0 ws vm T h cells slots) {index : Nat} {y : MethodName} {bytes : ByteArray} {maxL : Nat} {ret : Option FieldType} (w1 : (Cond.methodLink own index y).before a0 Z = true) (w2 : (Cond.static y).before a0 Z = true) (w3 : (Cond.initialized y.cls).before a0 Z = true) (w4 : (Cond.code y bytes maxL ret).before a0 Z = true) (hy : y.cls ≠ "java/lang/invoke/MethodHandle" ∧ y.cls ≠ "java/lang/invoke/VarHandle") {W kc ks : Nat} {ws' : List Addr} {V : Vm → Prop} {Q : Option Value → Heap → Vm → Prop} {argsL rest : List Value} (P : Pay wd l R p e below args y 3 W Z h V argsL.toArray kc ks ws' Q) (hV : V vm)
    {pc : Nat} {Ls : Array Slot} {st : List Value} (hsz : Ls.size = c.maxLocals) (hlen : ∀ sig, parseMethodDescriptor y.desc = some sig → argsL.length = sig.parameters.length) (hstack : st = argsL.reverse ++ rest) (hW : (rest.map fun v => v.category).sum ≤ W) (hd : decode c.code pc = .ok (.invokestatic index, 3)) (hc : cells + kc ≤ R.cells) (hl : slots + ks ≤ R.slots) (q : ∀ x ∈ ws', x ∈ ws ∨ h0.size ≤ x) :
    ∃ v vm' vq T' h', Wk wd p l e R s m args below meth c own Z n0 h0 ws vm' T' h' (cells + kc) (slots + ks) ∧ Keep h h' ws' ∧ (wd = true → vq = vm') ∧ Q v h' vq ∧ Go p e below (T.setTop (mkF m pc Ls st)) (T'.setTop (mkF m (pc + 3) Ls (v.toList ++ rest))) := by
  have e1 := K.1
  have hx := K.2.1
  obtain ⟨vm', vq, T', h', K', KK, ev, v, hq, go⟩ := K.behind (kc := kc) (ks := ks) q (P := fun T' h' vq => ∃ v, Q v h' vq ∧ Go p e below (T.setTop (mkF m pc Ls st)) (T'.setTop (mkF m (pc + 3) Ls (v.toList ++ rest))))
    (fun hwd locs s' es X hZ ho => by
      subst hwd
      have hV' : V s'.vm := by rw [es]; exact hV
      obtain ⟨v, vm₁, ⟨T', L', k', n'⟩, -, X', ⟨L, ⟨hq, kk, fr⟩, l1, l2, l3⟩, st⟩ := Jvm.LawKit.callS X hx ho (mvT hZ w1) (mvT hZ w2) (mvT hZ w3) (mvT hZ w4) hy (P s' hZ hV') (g := mkF m pc Ls st) rfl hsz hlen hstack (by show 2 * 0 + _ ≤ _; simpa using hW) hd (fun _ _ => ⟨rfl, e1, hc, hl⟩)
      dsimp only [Pt.U, Pt.locs, Pt.cells, Pt.slots] at *
      subst l1 l2 l3
      exact ⟨T', L, X', fr, kk, v, hq, st⟩)
    (fun hwd locs s' es X hZ ho => by
      subst hwd
      have hV' : V s'.vm := by rw [es]; exact hV
      obtain ⟨v, vm₁, ⟨T', L', k', n'⟩, -, X', S', gr, ⟨L, ⟨hq, kk, fr⟩, l1, l2, l3⟩, st⟩ := RoadKit.callSS X hx ho (mvT hZ w1) (mvT hZ w2) (mvT hZ w3) (mvT hZ w4) hy (P s' hZ hV') (g := mkF m pc Ls st) rfl hsz hlen hstack (by show 2 * 0 + _ ≤ _; simpa using hW) hd (fun _ _ => ⟨rfl, e1, hc, hl⟩)
      dsimp only [Pt.U, Pt.locs, Pt.cells, Pt.slots] at *
      subst l1 l2 l3
      exact ⟨T', L, X', S', gr, fr, kk, v, hq, fun t k => st.trans k⟩)
  exact ⟨v, vm', vq, T', h', K', KK, ev, hq, go⟩
theorem Wk.callI (K : Wk wd p l e R s m args below meth c own Z n0 h0 ws vm T h cells slots) {index : Nat} {y : MethodName} {bytes : ByteArray} {maxL : Nat} (hy1 : y.name = "<init>") (w1 : (Cond.methodLink own index y).before a0 Z = true) (w2 : (Cond.instanceMethod y).before a0 Z = true) (w4 : (Cond.code y bytes maxL none).before a0 Z = true) (hy : y.cls ≠ "java/lang/invoke/MethodHandle" ∧ y.cls ≠ "java/lang/invoke/VarHandle") {W kc ks : Nat} {ws' : List Addr} {V : Vm → Prop} {Q : Option Value → Heap → Vm → Prop} {a : Addr} {argsL rest : List Value} (P : Pay wd l R p e below args y 3 W Z h V (.ref a :: argsL).toArray kc ks ws' Q) (hV : V vm)
    {pc : Nat} {Ls : Array Slot} {st : List Value} (hsz : Ls.size = c.maxLocals) (hlen : ∀ sig, parseMethodDescriptor y.desc = some sig → argsL.length = sig.parameters.length) (hstack : st = argsL.reverse ++ .ref a :: rest) (hW : (rest.map fun v => v.category).sum ≤ W) (hd : decode c.code pc = .ok (.invokespecial index, 3)) (hc : cells + kc ≤ R.cells) (hl : slots + ks ≤ R.slots) (q : ∀ x ∈ ws', x ∈ ws ∨ h0.size ≤ x) :
    ∃ v vm' vq T' h', Wk wd p l e R s m args below meth c own Z n0 h0 ws vm' T' h' (cells + kc) (slots + ks) ∧ Keep h h' ws' ∧ (wd = true → vq = vm') ∧ Q v h' vq ∧ Go p e below (T.setTop (mkF m pc Ls st)) (T'.setTop (mkF m (pc + 3) Ls (v.toList ++ rest))) := by
  have e1 := K.1
  have hx := K.2.1
  obtain ⟨vm', vq, T', h', K', KK, ev, v, hq, go⟩ := K.behind (kc := kc) (ks := ks) q (P := fun T' h' vq => ∃ v, Q v h' vq ∧ Go p e below (T.setTop (mkF m pc Ls st)) (T'.setTop (mkF m (pc + 3) Ls (v.toList ++ rest))))
    (fun hwd locs s' es X hZ ho => by
      subst hwd
      have hV' : V s'.vm := by rw [es]; exact hV
      obtain ⟨v, vm₁, ⟨T', L', k', n'⟩, -, X', ⟨L, ⟨hq, kk, fr⟩, l1, l2, l3⟩, st⟩ := X.specialBack hx hy1 ho (mvT hZ w1) (mvT hZ w2) (mvT hZ w4) hy (P s' hZ hV') (g := mkF m pc Ls st) rfl hsz (Steps.refl _) hlen hstack (by show 2 * 0 + _ ≤ _; simpa using hW) hd (fun _ _ => ⟨rfl, e1, hc, hl⟩)
      dsimp only [Pt.U, Pt.locs, Pt.cells, Pt.slots] at *
      subst l1 l2 l3
      exact ⟨T', L, X', fr, kk, v, hq, fun t k => st.trans k⟩)
    (fun hwd locs s' es X hZ ho => by
      subst hwd
      have hV' : V s'.vm := by rw [es]; exact hV
      obtain ⟨v, vm₁, ⟨T', L', k', n'⟩, -, X', S', gr, ⟨L, ⟨hq, kk, fr⟩, l1, l2, l3⟩, st⟩ := X.specialBackS hx hy1 ho (mvT hZ w1) (mvT hZ w2) (mvT hZ w4) hy (P s' hZ hV') (g := mkF m pc Ls st) rfl hsz (Steps.refl _) hlen hstack (by show 2 * 0 + _ ≤ _; simpa using hW) hd (fun _ _ => ⟨rfl, e1, hc, hl⟩)
      dsimp only [Pt.U, Pt.locs, Pt.cells, Pt.slots] at *
      subst l1 l2 l3
      exact ⟨T', L, X', S', gr, fr, kk, v, hq, fun t k => st.trans k⟩)
  exact ⟨v, vm', vq, T', h', K', KK, ev, hq, go⟩
theorem Wk.callV (K : Wk wd p l e R s m args below meth c own Z n0 h0 ws vm T h cells slots) {C : String} {index : Nat} {y z : MethodName} (w1 : (Cond.methodLink own index y).before a0 Z = true) (w2 : (Cond.declares y).before a0 Z = true) (w3 : (Cond.selects C y z).before a0 Z = true) (w5 : (∃ S, (Cond.superclass y.cls S).before a0 Z = true) ∨ (Cond.noSuperclass y.cls).before a0 Z = true ∨ y = z) (w4 : (Cond.instanceMethod z).before a0 Z = true) (hy : y.cls ≠ "java/lang/invoke/MethodHandle" ∧ y.cls ≠ "java/lang/invoke/VarHandle") {W kc ks : Nat} {ws' : List Addr} {V : Vm → Prop} {Q : Option Value → Heap → Vm → Prop} {a : Addr} (E : Exa Z h a C) {argsL rest : List Value} (P : Pay wd l R p e below args z 3 W Z h V (.ref a :: argsL).toArray kc ks ws' Q) (hV : V vm)
    {pc : Nat} {Ls : Array Slot} {st : List Value} (hsz : Ls.size = c.maxLocals) (hlen : ∀ sig, parseMethodDescriptor y.desc = some sig → argsL.length = sig.parameters.length) (hstack : st = argsL.reverse ++ .ref a :: rest) (hW : (rest.map fun v => v.category).sum ≤ W) (hd : decode c.code pc = .ok (.invokevirtual index, 3)) (hc : cells + kc ≤ R.cells) (hl : slots + ks ≤ R.slots) (q : ∀ x ∈ ws', x ∈ ws ∨ h0.size ≤ x) :
    ∃ v vm' vq T' h', Wk wd p l e R s m args below meth c own Z n0 h0 ws vm' T' h' (cells + kc) (slots + ks) ∧ Keep h h' ws' ∧ (wd = true → vq = vm') ∧ Q v h' vq ∧ Go p e below (T.setTop (mkF m pc Ls st)) (T'.setTop (mkF m (pc + 3) Ls (v.toList ++ rest))) := by
  have e1 := K.1
  have hx := K.2.1
  have nf : ∀ s' : State, Z.Warmed39 s'.vm → NotFace s' y := fun s' hZ => by
    rcases w5 with ⟨S, w5⟩ | w5 | rfl
    · exact nf_super (args := #[]) (mvT hZ w5)
    · exact nf_top (args := #[]) (mvT hZ w5)
    · exact notFace_of_selects (args := #[]) (mvT hZ w3)
  obtain ⟨vm', vq, T', h', K', KK, ev, v, hq, go⟩ := K.behind (kc := kc) (ks := ks) q (P := fun T' h' vq => ∃ v, Q v h' vq ∧ Go p e below (T.setTop (mkF m pc Ls st)) (T'.setTop (mkF m (pc + 3) Ls (v.toList ++ rest))))
    (fun hwd locs s' es X hZ ho => by
      subst hwd
      have hV' : V s'.vm := by rw [es]; exact hV
      obtain ⟨cB, kB, i1, i2, i3⟩ := isOf hZ e1 E
      obtain ⟨v, vm₁, ⟨T', L', k', n'⟩, -, X', ⟨L, ⟨hq, kk, fr⟩, l1, l2, l3⟩, st⟩ := X.virtualBack hx ho (mvT hZ w1) (mvT hZ w2) (nf s' hZ) (mvT hZ w3) (mvT hZ w4) hy (P s' hZ hV') i1 i3 (g := mkF m pc Ls st) rfl hsz (Steps.refl _) hlen hstack (by show 2 * 0 + _ ≤ _; simpa using hW) hd (fun _ _ => ⟨rfl, e1, hc, hl⟩)
      dsimp only [Pt.U, Pt.locs, Pt.cells, Pt.slots] at *
      subst l1 l2 l3
      exact ⟨T', L, X', fr, kk, v, hq, fun t k => st.trans k⟩)
    (fun hwd locs s' es X hZ ho => by
      subst hwd
      have hV' : V s'.vm := by rw [es]; exact hV
      obtain ⟨cB, kB, i1, i2, i3⟩ := isOf hZ e1 E
      obtain ⟨v, vm₁, ⟨T', L', k', n'⟩, -, X', S', gr, ⟨L, ⟨hq, kk, fr⟩, l1, l2, l3⟩, st⟩ := X.virtualBackS hx ho (mvT hZ w1) (mvT hZ w2) (nf s' hZ) (mvT hZ w3) (mvT hZ w4) hy (P s' hZ hV') i1 i3 (g := mkF m pc Ls st) rfl hsz (Steps.refl _) hlen hstack (by show 2 * 0 + _ ≤ _; simpa using hW) hd (fun _ _ => ⟨rfl, e1, hc, hl⟩)
      dsimp only [Pt.U, Pt.locs, Pt.cells, Pt.slots] at *
      subst l1 l2 l3
      exact ⟨T', L, X', S', gr, fr, kk, v, hq, fun t k => st.trans k⟩)
  exact ⟨v, vm', vq, T', h', K', KK, ev, hq, go⟩
theorem Wk.callF (K : Wk wd p l e R s m args below meth c own Z n0 h0 ws vm T h cells slots) {C : String} {index count : Nat} {y z : MethodName} (w1 : (Cond.methodLink own index y).before a0 Z = true) (w2 : (Cond.declares y).before a0 Z = true) (w3 : (Cond.interfaceMethod y.cls y.cls y.name y.desc).before a0 Z = true) (hfa : ((Cond.interfaceMethod y.cls y.cls y.name y.desc).onTables && (Cond.interfaceMethod y.cls y.cls y.name y.desc).keepsFace) = true) (w4 : (Cond.selects C y z).before a0 Z = true) (w5 : (Cond.instanceMethod z).before a0 Z = true) (w6 : (Cond.publicMethod z).before a0 Z = true) (w7 : (Cond.unhidden C y.name y.desc).before a0 Z = true) (w8 : (Cond.castable C y.cls).before a0 Z = true) (hy : y.cls ≠ "java/lang/invoke/MethodHandle" ∧ y.cls ≠ "java/lang/invoke/VarHandle") {W kc ks : Nat} {ws' : List Addr} {V : Vm → Prop} {Q : Option Value → Heap → Vm → Prop} {a : Addr} (E : Exa Z h a C) {argsL rest : List Value} (P : Pay wd l R p e below args z 5 W Z h V (.ref a :: argsL).toArray kc ks ws' Q) (hV : V vm)
    {pc : Nat} {Ls : Array Slot} {st : List Value} (hsz : Ls.size = c.maxLocals) (hlen : ∀ sig, parseMethodDescriptor y.desc = some sig → argsL.length = sig.parameters.length) (hstack : st = argsL.reverse ++ .ref a :: rest) (hW : (rest.map fun v => v.category).sum ≤ W) (hd : decode c.code pc = .ok (.invokeinterface index count, 5)) (hc : cells + kc ≤ R.cells) (hl : slots + ks ≤ R.slots) (q : ∀ x ∈ ws', x ∈ ws ∨ h0.size ≤ x) :
    ∃ v vm' vq T' h', Wk wd p l e R s m args below meth c own Z n0 h0 ws vm' T' h' (cells + kc) (slots + ks) ∧ Keep h h' ws' ∧ (wd = true → vq = vm') ∧ Q v h' vq ∧ Go p e below (T.setTop (mkF m pc Ls st)) (T'.setTop (mkF m (pc + 5) Ls (v.toList ++ rest))) := by
  have e1 := K.1
  have hx := K.2.1
  obtain ⟨vm', vq, T', h', K', KK, ev, v, hq, go⟩ := K.behind (kc := kc) (ks := ks) q (P := fun T' h' vq => ∃ v, Q v h' vq ∧ Go p e below (T.setTop (mkF m pc Ls st)) (T'.setTop (mkF m (pc + 5) Ls (v.toList ++ rest))))
    (fun hwd locs s' es X hZ ho => by
      subst hwd
      have hV' : V s'.vm := by rw [es]; exact hV
      obtain ⟨cB, kB, i1, i2, i3⟩ := isOf hZ e1 E
      obtain ⟨v, vm₁, ⟨T', L', k', n'⟩, -, X', ⟨L, ⟨hq, kk, fr⟩, l1, l2, l3⟩, st⟩ := X.interfaceBack hx ho (mvT hZ w1) (mvT hZ w2) (mvT hZ w3 hfa) (mvT hZ w4) (mvT hZ w5) (mvT hZ w6) (mvT hZ w7) (mvT hZ w8) hy (P s' hZ hV') i1 i2 i3 (g := mkF m pc Ls st) rfl hsz (Steps.refl _) hlen hstack (by show 2 * 0 + _ ≤ _; simpa using hW) hd (fun _ _ => ⟨rfl, e1, hc, hl⟩)
      dsimp only [Pt.U, Pt.locs, Pt.cells, Pt.slots] at *
      subst l1 l2 l3
      exact ⟨T', L, X', fr, kk, v, hq, fun t k => st.trans k⟩)
    (fun hwd locs s' es X hZ ho => by
      subst hwd
      have hV' : V s'.vm := by rw [es]; exact hV
      obtain ⟨cB, kB, i1, i2, i3⟩ := isOf hZ e1 E
      obtain ⟨v, vm₁, ⟨T', L', k', n'⟩, -, X', S', gr, ⟨L, ⟨hq, kk, fr⟩, l1, l2, l3⟩, st⟩ := X.interfaceBackS hx ho (mvT hZ w1) (mvT hZ w2) (mvT hZ w3 hfa) (mvT hZ w4) (mvT hZ w5) (mvT hZ w6) (mvT hZ w7) (mvT hZ w8) hy (P s' hZ hV') i1 i2 i3 (g := mkF m pc Ls st) rfl hsz (Steps.refl _) hlen hstack (by show 2 * 0 + _ ≤ _; simpa using hW) hd (fun _ _ => ⟨rfl, e1, hc, hl⟩)
      dsimp only [Pt.U, Pt.locs, Pt.cells, Pt.slots] at *
      subst l1 l2 l3
      exact ⟨T', L, X', S', gr, fr, kk, v, hq, fun t k => st.trans k⟩)
  exact ⟨v, vm', vq, T', h', K', KK, ev, hq, go⟩
/-- the method's end: T the last state, v what it returns -/
def Ret (p : Program) (e : Env) (below : List Frame) (m : MethodId) (T : State) (v : Option Value) (A : State) : Prop :=
  ∀ fs, (∀ (f : JFrame) (acts : List Action), f.method = m → f.locked = none → f.entered = [] → (doReturn e (T.setTop f) acts v).1 = T.setFrames fs) → Steps p.tables e below A (T.setFrames fs)
theorem Wk.retV (K : Wk wd p l e R s m args below meth c own Z n0 h0 ws vm T h cells slots) {A : State} {pc : Nat} {Ls : Array Slot} (S : Go p e below A (T.setTop (mkF m pc Ls []))) (hret : meth.sig.returnType = none) (hd : decode c.code pc = .ok (.return_, 1)) : Ret p e below m T none A := by
  intro fs hl
  exact K.stand fun _ _ X hx _ _ _ => S _ (X.returnOut hx hret hd hl)
theorem Wk.retW (K : Wk wd p l e R s m args below meth c own Z n0 h0 ws vm T h cells slots) {A : State} {pc : Nat} {Ls : Array Slot} {w : Value} {t : FieldType} {i : Instr} {rest : List Value} (S : Go p e below A (T.setTop (mkF m pc Ls (w :: rest)))) (hret : meth.sig.returnType = some t) (hn : narrow t w = w)
    (hi : (i = .ireturn ∧ (t = .int ∨ t = .boolean ∨ t = .byte ∨ t = .char ∨ t = .short) ∧ ∃ z, w = .int z) ∨ (i = .lreturn ∧ t = .long ∧ ∃ z, w = .long z) ∨ (i = .dreturn ∧ t = .double ∧ ∃ z, w = .double z) ∨ (i = .freturn ∧ t = .float ∧ ∃ z, w = .float z) ∨ (i = .areturn ∧ t.isReference = true ∧ w.isRef = true))
    (hd : decode c.code pc = .ok (i, 1)) : Ret p e below m T (some w) A := by
  intro fs hl
  exact K.stand fun _ _ X hx _ _ _ => S _ (retOut X hx hret hn hi hd hl)
theorem body {y : MethodName} {bytes : ByteArray} {maxL : Nat} {ret : Option FieldType} {rm : Room} {as' : Array Value} {V : Vm → Prop} {Q : Option Value → Heap → Vm → Prop} (hpl : plainFor y = true) (O0 : Old Z n0 h0) (hvr : ∀ v h vm, Q v h vm → ret = none → v = none) (hQ : ∀ v h, VCl (Q v h))
    (H : ∀ (p : Program) (e : Env) (s : State) (m : MethodId) (below : List Frame) (meth : Method) (c : Code) (T0 : State), c.code = bytes → c.maxLocals = maxL → meth.sig.returnType = ret → meth.name = y.name → V s.vm → Wk wd p l e rm s m as' below meth c y.cls Z n0 h0 [] s.vm T0 h0 0 0 →
      ∃ vm T h v cells slots, Wk wd p l e rm s m as' below meth c y.cls Z n0 h0 ws vm T h cells slots ∧ cells ≤ rm.cells ∧ slots ≤ rm.slots ∧ Q v h vm ∧ Ret p e below m T v (T0.setTop (entryFrame m as' maxL))) :
    Ctr wd l y bytes maxL ret rm as' Z h0 V ws Q := by
  intro wds
  refine MetFree.of_bodySF hpl hisR ?_
  intro p e s m args below meth c s₁ Bd hml0 hP hK
  obtain ⟨rfl, hZ, hh, hV0⟩ := hP
  have hown : s.vm.findClass y.cls = some m.cls := findClass_of_methodNamed Bd.named
  have hnm := (name_of_methodNamed Bd.named Bd.method).1
  have X0 : Stand p l e rm (s.setVm s.vm) m args below meth c s₁ [] 0 0 := Stand.of_body Bd
  have e0 : s₁.heap = h0 := by rw [← hh, Bd.state]; rfl
  have nle : n0 ≤ h0.size := by rw [← O0.1]; exact O0.2.1
  obtain ⟨vm, T, h, v, cells, slots, K, c1, c2, hq, rt⟩ := H p e s m below meth c s₁ Bd.bytes hml0 Bd.returns hnm hV0 ⟨e0, Bd.exec, O0, nle, all0, Keep.refl _ _, hh, hZ, hown, fun _ => rfl, [], 0, FrW.nil _ _, X0, (State.WarmedH.refl s).since _, Nat.zero_le _⟩
  have hv : meth.sig.returnType = none → v = none := fun q => hvr v h vm hq (by rw [← Bd.returns]; exact q)
  have hlk := Bd.notSynchronized
  obtain ⟨e1, hx, O, hn, hw, Kp, hs0, hZ', ho, hvm, locs, k, F, X, S, hk⟩ := K
  subst e1
  have hq' := hQ v T.heap (s.setVm vm) T.vm hq X.warmed
  cases wd
  · obtain rfl := hvm rfl
    obtain ⟨fs, hr, hrun, hended, hW, hsame⟩ := X.leave (v := v) hv
    exact ⟨_, _, rt fs hr, hrun, hended, _, _, rfl, ⟨hq', Kp, F⟩, ⟨_, rfl⟩, hW, hsame.mono c1 c2⟩
  · obtain ⟨fs, hr, hrun, hended, hW⟩ := X.leaveW S hk (v := v) hv
    exact ⟨_, _, rt fs hr, hrun, hended, _, _, rfl, ⟨hq', Kp, F⟩, hW.1, hW.2.1, hW.2.2.1, hW.2.2.2.mono c1 c2⟩
end Kit
end Own
end Jvm.Pilot.@@N@@
namespace Jvm.Pilot.@@N@@
open Jvm Jvm.ClassFile Sem Op Lib Jvm.Free Jvm.Stand Jvm.LawKit Jvm.RoadKit Bundle Jvm.Pilot.@@N@@.Jvm.D
namespace Own.P
section Plain
variable {p : Program} {e : Env} {below : List Frame} {T : State} {m : MethodId} {c : Code} {pc : Nat} {Ls : Array Slot} {st : List Value}
theorem aloadN (H : At T m c below) (hx : p.tables.exec = Jvm.exec) {k : Fin 4} {v : Value} (hd : decode c.code pc = .ok (.aload_n k, 1)) (hl : Ls[k.val]? = some (.val v)) (hv : v.isRef = true) : Go p e below (T.setTop (mkF m pc Ls (st))) (T.setTop (mkF m (pc + 1) Ls (v :: st))) := fun t r => XS.aloadN H hx rfl hd hl hv r
theorem aload (H : At T m c below) (hx : p.tables.exec = Jvm.exec) {k : Nat} {v : Value} (hd : decode c.code pc = .ok (.aload k, 2)) (hl : Ls[k]? = some (.val v)) (hv : v.isRef = true) : Go p e below (T.setTop (mkF m pc Ls (st))) (T.setTop (mkF m (pc + 2) Ls (v :: st))) := fun t r => XS.aload H hx rfl hd hl hv r
theorem iloadN (H : At T m c below) (hx : p.tables.exec = Jvm.exec) {k : Fin 4} {v : Int32} (hd : decode c.code pc = .ok (.iload_n k, 1)) (hl : Ls[k.val]? = some (.val (.int v))) : Go p e below (T.setTop (mkF m pc Ls (st))) (T.setTop (mkF m (pc + 1) Ls (.int v :: st))) := fun t r => XS.iloadN H hx rfl hd hl r
theorem iload (H : At T m c below) (hx : p.tables.exec = Jvm.exec) {k : Nat} {v : Int32} (hd : decode c.code pc = .ok (.iload k, 2)) (hl : Ls[k]? = some (.val (.int v))) : Go p e below (T.setTop (mkF m pc Ls (st))) (T.setTop (mkF m (pc + 2) Ls (.int v :: st))) := fun t r => XS.iload H hx rfl hd hl r
theorem lloadN (H : At T m c below) (hx : p.tables.exec = Jvm.exec) {k : Fin 4} {v : Int64} (hd : decode c.code pc = .ok (.lload_n k, 1)) (hl : Ls[k.val]? = some (.val (.long v))) : Go p e below (T.setTop (mkF m pc Ls (st))) (T.setTop (mkF m (pc + 1) Ls (.long v :: st))) := fun t r => XT.lloadN H hx rfl hd hl r
theorem lload (H : At T m c below) (hx : p.tables.exec = Jvm.exec) {k : Nat} {v : Int64} (hd : decode c.code pc = .ok (.lload k, 2)) (hl : Ls[k]? = some (.val (.long v))) : Go p e below (T.setTop (mkF m pc Ls (st))) (T.setTop (mkF m (pc + 2) Ls (.long v :: st))) := fun t r => XT.lload H hx rfl hd hl r
theorem iconst (H : At T m c below) (hx : p.tables.exec = Jvm.exec) {i : Int} (v : Int32) (hd : decode c.code pc = .ok (.iconst i, 1)) (hv : Int32.ofInt i = v) : Go p e below (T.setTop (mkF m pc Ls (st))) (T.setTop (mkF m (pc + 1) Ls (.int v :: st))) := fun t r => XS.iconst H hx rfl hd (by rw [hv]; exact r)
theorem bipush (H : At T m c below) (hx : p.tables.exec = Jvm.exec) {i : Int} (v : Int32) (hd : decode c.code pc = .ok (.bipush i, 2)) (hv : (Int8.ofInt i).toInt32 = v) : Go p e below (T.setTop (mkF m pc Ls (st))) (T.setTop (mkF m (pc + 2) Ls (.int v :: st))) := fun t r => XS.bipush H hx rfl hd (by rw [hv]; exact r)
theorem sipush (H : At T m c below) (hx : p.tables.exec = Jvm.exec) {i : Int} (v : Int32) (hd : decode c.code pc = .ok (.sipush i, 3)) (hv : (Int16.ofInt i).toInt32 = v) : Go p e below (T.setTop (mkF m pc Ls (st))) (T.setTop (mkF m (pc + 3) Ls (.int v :: st))) := fun t r => XS.sipush H hx rfl hd (by rw [hv]; exact r)
theorem lconst (H : At T m c below) (hx : p.tables.exec = Jvm.exec) {k : Fin 2} (v : Int64) (hd : decode c.code pc = .ok (.lconst k, 1)) (hv : Int64.ofNat k = v) : Go p e below (T.setTop (mkF m pc Ls (st))) (T.setTop (mkF m (pc + 1) Ls (.long v :: st))) := fun t r => XT.lconst H hx rfl hd (by rw [hv]; exact r)
theorem null (H : At T m c below) (hx : p.tables.exec = Jvm.exec)  (hd : decode c.code pc = .ok (.aconst_null, 1))  : Go p e below (T.setTop (mkF m pc Ls (st))) (T.setTop (mkF m (pc + 1) Ls (.null :: st))) := fun t r => XS.aconstNull H hx rfl hd r
theorem dup (H : At T m c below) (hx : p.tables.exec = Jvm.exec) {x : Value} (hd : decode c.code pc = .ok (.dup, 1)) (hc : x.category = 1) : Go p e below (T.setTop (mkF m pc Ls (x :: st))) (T.setTop (mkF m (pc + 1) Ls (x :: x :: st))) := fun t r => XS.dup H hx rfl hd rfl hc r
theorem pop (H : At T m c below) (hx : p.tables.exec = Jvm.exec) {x : Value} (hd : decode c.code pc = .ok (.pop, 1)) (hc : x.category = 1) : Go p e below (T.setTop (mkF m pc Ls (x :: st))) (T.setTop (mkF m (pc + 1) Ls (st))) := fun t r => XT.pop H hx rfl hd rfl hc r
theorem iadd (H : At T m c below) (hx : p.tables.exec = Jvm.exec) {x y : Int32} (hd : decode c.code pc = .ok (.iadd, 1))  : Go p e below (T.setTop (mkF m pc Ls (.int y :: .int x :: st))) (T.setTop (mkF m (pc + 1) Ls (.int (x + y) :: st))) := fun t r => XS.iadd H hx rfl hd rfl r
theorem isub (H : At T m c below) (hx : p.tables.exec = Jvm.exec) {x y : Int32} (hd : decode c.code pc = .ok (.isub, 1))  : Go p e below (T.setTop (mkF m pc Ls (.int y :: .int x :: st))) (T.setTop (mkF m (pc + 1) Ls (.int (x - y) :: st))) := fun t r => XS.isub H hx rfl hd rfl r
theorem iand (H : At T m c below) (hx : p.tables.exec = Jvm.exec) {x y : Int32} (hd : decode c.code pc = .ok (.iand, 1))  : Go p e below (T.setTop (mkF m pc Ls (.int y :: .int x :: st))) (T.setTop (mkF m (pc + 1) Ls (.int (x &&& y) :: st))) := fun t r => XS.iand H hx rfl hd rfl r
theorem imul (H : At T m c below) (hx : p.tables.exec = Jvm.exec) {x y : Int32} (hd : decode c.code pc = .ok (.imul, 1))  : Go p e below (T.setTop (mkF m pc Ls (.int y :: .int x :: st))) (T.setTop (mkF m (pc + 1) Ls (.int (x * y) :: st))) := fun t r => XS.imul H hx rfl hd rfl r
theorem ixor (H : At T m c below) (hx : p.tables.exec = Jvm.exec) {x y : Int32} (hd : decode c.code pc = .ok (.ixor, 1))  : Go p e below (T.setTop (mkF m pc Ls (.int y :: .int x :: st))) (T.setTop (mkF m (pc + 1) Ls (.int (x ^^^ y) :: st))) := fun t r => XT.ixor H hx rfl hd rfl r
theorem ior (H : At T m c below) (hx : p.tables.exec = Jvm.exec) {x y : Int32} (hd : decode c.code pc = .ok (.ior, 1))  : Go p e below (T.setTop (mkF m pc Ls (.int y :: .int x :: st))) (T.setTop (mkF m (pc + 1) Ls (.int (x ||| y) :: st))) := fun t r => XT.ior H hx rfl hd rfl r
theorem ishl (H : At T m c below) (hx : p.tables.exec = Jvm.exec) {x y : Int32} (hd : decode c.code pc = .ok (.ishl, 1))  : Go p e below (T.setTop (mkF m pc Ls (.int y :: .int x :: st))) (T.setTop (mkF m (pc + 1) Ls (.int (x <<< (y &&& 31)) :: st))) := fun t r => XT.ishl H hx rfl hd rfl r
theorem ishr (H : At T m c below) (hx : p.tables.exec = Jvm.exec) {x y : Int32} (hd : decode c.code pc = .ok (.ishr, 1))  : Go p e below (T.setTop (mkF m pc Ls (.int y :: .int x :: st))) (T.setTop (mkF m (pc + 1) Ls (.int (x >>> (y &&& 31)) :: st))) := fun t r => XT.ishr H hx rfl hd rfl r
theorem iushr (H : At T m c below) (hx : p.tables.exec = Jvm.exec) {x y : Int32} (hd : decode c.code pc = .ok (.iushr, 1))  : Go p e below (T.setTop (mkF m pc Ls (.int y :: .int x :: st))) (T.setTop (mkF m (pc + 1) Ls (.int (XT.ushr x y) :: st))) := fun t r => XT.iushr H hx rfl hd rfl r
theorem ladd (H : At T m c below) (hx : p.tables.exec = Jvm.exec) {x y : Int64} (hd : decode c.code pc = .ok (.ladd, 1))  : Go p e below (T.setTop (mkF m pc Ls (.long y :: .long x :: st))) (T.setTop (mkF m (pc + 1) Ls (.long (x + y) :: st))) := fun t r => XT.ladd H hx rfl hd rfl r
theorem land (H : At T m c below) (hx : p.tables.exec = Jvm.exec) {x y : Int64} (hd : decode c.code pc = .ok (.land, 1))  : Go p e below (T.setTop (mkF m pc Ls (.long y :: .long x :: st))) (T.setTop (mkF m (pc + 1) Ls (.long (x &&& y) :: st))) := fun t r => XT.land H hx rfl hd rfl r
theorem lushr (H : At T m c below) (hx : p.tables.exec = Jvm.exec) {x : Int64} {y : Int32} (hd : decode c.code pc = .ok (.lushr, 1))  : Go p e below (T.setTop (mkF m pc Ls (.int y :: .long x :: st))) (T.setTop (mkF m (pc + 1) Ls (.long (XT.ushrL x y) :: st))) := fun t r => XT.lushr H hx rfl hd rfl r
theorem irem (H : At T m c below) (hx : p.tables.exec = Jvm.exec) {x y : Int32} (hd : decode c.code pc = .ok (.irem, 1)) (hy : y ≠ 0) : Go p e below (T.setTop (mkF m pc Ls (.int y :: .int x :: st))) (T.setTop (mkF m (pc + 1) Ls (.int (x % y) :: st))) := fun t r => XS.irem H hx rfl hd rfl hy (by rw [irem_eq_mod]; exact r)
theorem lcmp (H : At T m c below) (hx : p.tables.exec = Jvm.exec) {x y : Int64} (hd : decode c.code pc = .ok (.lcmp, 1))  : Go p e below (T.setTop (mkF m pc Ls (.long y :: .long x :: st))) (T.setTop (mkF m (pc + 1) Ls (.int (XT.cmpL x y) :: st))) := fun t r => XT.lcmp H hx rfl hd rfl r
theorem i2c (H : At T m c below) (hx : p.tables.exec = Jvm.exec) {x : Int32} (hd : decode c.code pc = .ok (.i2c, 1))  : Go p e below (T.setTop (mkF m pc Ls (.int x :: st))) (T.setTop (mkF m (pc + 1) Ls (.int (x.toUInt32.toUInt16.toUInt32.toInt32) :: st))) := fun t r => XT.i2c H hx rfl hd rfl r
theorem i2b (H : At T m c below) (hx : p.tables.exec = Jvm.exec) {x : Int32} (hd : decode c.code pc = .ok (.i2b, 1))  : Go p e below (T.setTop (mkF m pc Ls (.int x :: st))) (T.setTop (mkF m (pc + 1) Ls (.int (x.toInt8.toInt32) :: st))) := fun t r => XT.i2b H hx rfl hd rfl r
theorem i2l (H : At T m c below) (hx : p.tables.exec = Jvm.exec) {x : Int32} (hd : decode c.code pc = .ok (.i2l, 1))  : Go p e below (T.setTop (mkF m pc Ls (.int x :: st))) (T.setTop (mkF m (pc + 1) Ls (.long (x.toInt64) :: st))) := fun t r => XT.i2l H hx rfl hd rfl r
theorem l2i (H : At T m c below) (hx : p.tables.exec = Jvm.exec) {x : Int64} (hd : decode c.code pc = .ok (.l2i, 1))  : Go p e below (T.setTop (mkF m pc Ls (.long x :: st))) (T.setTop (mkF m (pc + 1) Ls (.int (x.toInt32) :: st))) := fun t r => XT.l2i H hx rfl hd rfl r
theorem istoreN (H : At T m c below) (hx : p.tables.exec = Jvm.exec) {k : Fin 4} {x : Int32} (l' : Array Slot) (hd : decode c.code pc = .ok (.istore_n k, 1)) (hl : storeLocals Ls k.val (.int x) = some l') : Go p e below (T.setTop (mkF m pc Ls (.int x :: st))) (T.setTop (mkF m (pc + 1) l' (st))) := fun t r => XS.istoreN H hx rfl hd rfl hl r
theorem istore (H : At T m c below) (hx : p.tables.exec = Jvm.exec) {k : Nat} {x : Int32} (l' : Array Slot) (hd : decode c.code pc = .ok (.istore k, 2)) (hl : storeLocals Ls k (.int x) = some l') : Go p e below (T.setTop (mkF m pc Ls (.int x :: st))) (T.setTop (mkF m (pc + 2) l' (st))) := fun t r => XS.istore H hx rfl hd rfl hl r
theorem astoreN (H : At T m c below) (hx : p.tables.exec = Jvm.exec) {k : Fin 4} {x : Value} (l' : Array Slot) (hd : decode c.code pc = .ok (.astore_n k, 1)) (hv : x.isRef = true) (hl : storeLocals Ls k.val x = some l') : Go p e below (T.setTop (mkF m pc Ls (x :: st))) (T.setTop (mkF m (pc + 1) l' (st))) := fun t r => XS.astoreN H hx rfl hd rfl hv hl r
theorem astore (H : At T m c below) (hx : p.tables.exec = Jvm.exec) {k : Nat} {x : Value} (l' : Array Slot) (hd : decode c.code pc = .ok (.astore k, 2)) (hv : x.isRef = true) (hl : storeLocals Ls k x = some l') : Go p e below (T.setTop (mkF m pc Ls (x :: st))) (T.setTop (mkF m (pc + 2) l' (st))) := fun t r => XS.astore H hx rfl hd rfl hv hl r
theorem lstoreN (H : At T m c below) (hx : p.tables.exec = Jvm.exec) {k : Fin 4} {x : Int64} (l' : Array Slot) (hd : decode c.code pc = .ok (.lstore_n k, 1)) (hl : storeLocals Ls k.val (.long x) = some l') : Go p e below (T.setTop (mkF m pc Ls (.long x :: st))) (T.setTop (mkF m (pc + 1) l' (st))) := fun t r => XT.lstoreN H hx rfl hd rfl hl r
theorem lstore (H : At T m c below) (hx : p.tables.exec = Jvm.exec) {k : Nat} {x : Int64} (l' : Array Slot) (hd : decode c.code pc = .ok (.lstore k, 2)) (hl : storeLocals Ls k (.long x) = some l') : Go p e below (T.setTop (mkF m pc Ls (.long x :: st))) (T.setTop (mkF m (pc + 2) l' (st))) := fun t r => XT.lstore H hx rfl hd rfl hl r
theorem iinc (H : At T m c below) (hx : p.tables.exec = Jvm.exec) {k : Nat} {cst : Int} {x : Int32} (v : Int32) (l' : Array Slot) (hd : decode c.code pc = .ok (.iinc k cst, 3)) (hl : Ls[k]? = some (.val (.int x))) (hv : x + Int32.ofInt cst = v) (hl' : storeLocals Ls k (.int v) = some l') : Go p e below (T.setTop (mkF m pc Ls (st))) (T.setTop (mkF m (pc + 3) l' (st))) := fun t r => XS.iinc H hx rfl hd hl (by rw [hv]; exact hl') r
theorem goto (H : At T m c below) (hx : p.tables.exec = Jvm.exec) {o : Int} (pc' : Nat) (hd : decode c.code pc = .ok (.goto o, 3)) (ho : 0 ≤ (pc : Int) + o) (hp : ((pc : Int) + o).toNat = pc') : Go p e below (T.setTop (mkF m pc Ls (st))) (T.setTop (mkF m (pc') Ls (st))) := fun t r => XS.goto H hx rfl rfl hd ho hp r
theorem ifYes (H : At T m c below) (hx : p.tables.exec = Jvm.exec) {cd : ClassFile.Cond} {x : Int32} {o : Int} (pc' : Nat) (hd : decode c.code pc = .ok (.ifCond cd o, 3)) (hc : ifCond.holds cd x = true) (ho : 0 ≤ (pc : Int) + o) (hp : ((pc : Int) + o).toNat = pc') : Go p e below (T.setTop (mkF m pc Ls (.int x :: st))) (T.setTop (mkF m (pc') Ls (st))) := fun t r => XS.ifYes H hx rfl rfl hd rfl hc ho hp r
theorem ifNo (H : At T m c below) (hx : p.tables.exec = Jvm.exec) {cd : ClassFile.Cond} {x : Int32} {o : Int} (hd : decode c.code pc = .ok (.ifCond cd o, 3)) (hc : ifCond.holds cd x = false) : Go p e below (T.setTop (mkF m pc Ls (.int x :: st))) (T.setTop (mkF m (pc + 3) Ls (st))) := fun t r => XS.ifNo H hx rfl hd rfl hc r
theorem icmpYes (H : At T m c below) (hx : p.tables.exec = Jvm.exec) {cd : ClassFile.Cond} {x y : Int32} {o : Int} (pc' : Nat) (hd : decode c.code pc = .ok (.if_icmp cd o, 3)) (hc : if_icmp.holds cd x y = true) (ho : 0 ≤ (pc : Int) + o) (hp : ((pc : Int) + o).toNat = pc') : Go p e below (T.setTop (mkF m pc Ls (.int y :: .int x :: st))) (T.setTop (mkF m (pc') Ls (st))) := fun t r => XS.icmpYes H hx rfl rfl hd rfl hc ho hp r
theorem icmpNo (H : At T m c below) (hx : p.tables.exec = Jvm.exec) {cd : ClassFile.Cond} {x y : Int32} {o : Int} (hd : decode c.code pc = .ok (.if_icmp cd o, 3)) (hc : if_icmp.holds cd x y = false) : Go p e below (T.setTop (mkF m pc Ls (.int y :: .int x :: st))) (T.setTop (mkF m (pc + 3) Ls (st))) := fun t r => XS.icmpNo H hx rfl hd rfl hc r
theorem acmpYes (H : At T m c below) (hx : p.tables.exec = Jvm.exec) {cd : ClassFile.ACond} {x y : Value} {o : Int} (pc' : Nat) (hd : decode c.code pc = .ok (.if_acmp cd o, 3)) (hx' : x.isRef = true) (hy' : y.isRef = true) (hc : XT.acmp cd x y = true) (ho : 0 ≤ (pc : Int) + o) (hp : ((pc : Int) + o).toNat = pc') : Go p e below (T.setTop (mkF m pc Ls (y :: x :: st))) (T.setTop (mkF m (pc') Ls (st))) := fun t r => XT.acmpYes H hx rfl rfl hd rfl hx' hy' hc ho hp r
theorem acmpNo (H : At T m c below) (hx : p.tables.exec = Jvm.exec) {cd : ClassFile.ACond} {x y : Value} {o : Int} (hd : decode c.code pc = .ok (.if_acmp cd o, 3)) (hx' : x.isRef = true) (hy' : y.isRef = true) (hc : XT.acmp cd x y = false) : Go p e below (T.setTop (mkF m pc Ls (y :: x :: st))) (T.setTop (mkF m (pc + 3) Ls (st))) := fun t r => XT.acmpNo H hx rfl hd rfl hx' hy' hc r
theorem ifnullYes (H : At T m c below) (hx : p.tables.exec = Jvm.exec) {o : Int} (pc' : Nat) (hd : decode c.code pc = .ok (.ifnull o, 3)) (ho : 0 ≤ (pc : Int) + o) (hp : ((pc : Int) + o).toNat = pc') : Go p e below (T.setTop (mkF m pc Ls (.null :: st))) (T.setTop (mkF m (pc') Ls (st))) := fun t r => XS.ifnullYes H hx rfl rfl hd rfl ho hp r
theorem ifnullNo (H : At T m c below) (hx : p.tables.exec = Jvm.exec) {o : Int} {b : Addr} (hd : decode c.code pc = .ok (.ifnull o, 3))  : Go p e below (T.setTop (mkF m pc Ls (.ref b :: st))) (T.setTop (mkF m (pc + 3) Ls (st))) := fun t r => XS.ifnullNo H hx rfl hd rfl r
theorem ifnonnullYes (H : At T m c below) (hx : p.tables.exec = Jvm.exec) {o : Int} {b : Addr} (pc' : Nat) (hd : decode c.code pc = .ok (.ifnonnull o, 3)) (ho : 0 ≤ (pc : Int) + o) (hp : ((pc : Int) + o).toNat = pc') : Go p e below (T.setTop (mkF m pc Ls (.ref b :: st))) (T.setTop (mkF m (pc') Ls (st))) := fun t r => XT.ifnonnullYes H hx rfl rfl hd rfl ho hp r
theorem ifnonnullNo (H : At T m c below) (hx : p.tables.exec = Jvm.exec) {o : Int} (hd : decode c.code pc = .ok (.ifnonnull o, 3))  : Go p e below (T.setTop (mkF m pc Ls (.null :: st))) (T.setTop (mkF m (pc + 3) Ls (st))) := fun t r => XT.ifnonnullNo H hx rfl hd rfl r
end Plain
end Own.P
end Jvm.Pilot.@@N@@
/- laws to paste: pair_says, lo8_mask, shr0 (cut by pick.py; bodies as the Statement names them) -/
namespace Jvm.Pilot.@@N@@
namespace StrChars
open Jvm Sem ClassFile Op Lib Jvm.Stand Jvm.Free.XT Jvm.Free.ALB Jvm.Free.JM Jvm.Free
open Jvm.Lib.Cold (StaticIs)
/-- the byte that i2b leaves of a char -/
def lo8 (x : Int32) : Int32 := x.toInt8.toInt32
/-- the byte, read back as charAt reads it, is the char -/
theorem lo8_mask {x : Int32} (h0 : ¬ x < 0) (h1 : ¬ 255 < x) : lo8 x &&& 255 = x := by
  have t : ∀ k : Fin 256, lo8 (Int32.ofNat k.val) &&& 255 = Int32.ofNat k.val := by decide +kernel
  rw [Int32.lt_iff_toInt_lt] at h0 h1
  have e0 : (0 : Int32).toInt = 0 := rfl
  have e1 : (255 : Int32).toInt = 255 := rfl
  obtain ⟨k, hk⟩ : ∃ k : Nat, x.toInt = k := ⟨x.toInt.toNat, by omega⟩
  have hx : x = Int32.ofNat k := Int32.toInt_inj.mp (by rw [hk, Int32.toInt_ofNat_small (by omega)])
  rw [hx]
  exact t ⟨k, by omega⟩
end StrChars
namespace StrChars
open Jvm Sem ClassFile Op Lib Jvm.Stand Jvm.Free.XT Jvm.Free.ALB Jvm.Free.JM Jvm.Free
open Jvm.Lib.Cold (StaticIs)
def hi8 (x : Int32) : Int32 := lo8 (x >>> ((8 : Int32) &&& 31))
/-- what StringUTF16.getChar makes of two bytes -/
def pairCh (u v : Int32) : Int32 := (((u &&& 255) <<< ((0 : Int32) &&& 31)) ||| ((v &&& 255) <<< ((8 : Int32) &&& 31))).toUInt32.toUInt16.toUInt32.toInt32
theorem shr0 (c : Int32) : c >>> ((0 : Int32) &&& 31) = c := by
  have e : ((0 : Int32) &&& 31) = 0 := by decide
  rw [e]
  apply Int32.toBitVec_inj.mp
  rw [Int32.toBitVec_shiftRight]
  have e1 : ((0 : Int32).toBitVec.smod 32) = 0#32 := by decide
  rw [e1, BitVec.sshiftRight_eq']
  exact BitVec.sshiftRight_zero
theorem lo8_and (x : Int32) : (lo8 x &&& 255).toBitVec.toNat = x.toBitVec.toNat % 256 := by
  have h : (lo8 x).toBitVec = (x.toBitVec.signExtend 8).signExtend 32 := by rw [lo8, Int8.toBitVec_toInt32, Int32.toBitVec_toInt8]
  rw [Int32.toBitVec_and, BitVec.toNat_and, h]
  have e : ((x.toBitVec.signExtend 8).signExtend 32).toNat % 256 = x.toBitVec.toNat % 256 := by
    rw [BitVec.toNat_signExtend]
    have hlt := x.toBitVec.isLt
    simp only [BitVec.toNat_setWidth, BitVec.toNat_signExtend]
    split <;> split <;> omega
  rw [← e]
  exact Nat.and_two_pow_sub_one_eq_mod _ 8
theorem pair_says {c : Int32} (h0 : ¬ c < 0) (h1 : ¬ 65535 < c) : pairCh (lo8 c) (hi8 c) = c := by
  rw [Int32.lt_iff_toInt_lt] at h0 h1
  have e0 : (0 : Int32).toInt = 0 := rfl
  have e1 : (65535 : Int32).toInt = 65535 := rfl
  have hc : c.toInt = c.toBitVec.toNat := by
    have := c.toBitVec.isLt
    have e : c.toInt = c.toBitVec.toInt := rfl
    rw [e] at h0 h1
    rw [e]
    rw [BitVec.toInt_eq_toNat_cond] at h0 h1 ⊢
    split at h0 <;> split <;> omega
  have hn : c.toBitVec.toNat < 65536 := by omega
  have a1 := lo8_and c
  have a2 : (hi8 c &&& 255).toBitVec.toNat = c.toBitVec.toNat / 256 := by
    rw [hi8, lo8_and]
    have e : ((8 : Int32) &&& 31) = 8 := by decide
    rw [e, Int32.toBitVec_shiftRight]
    have e2 : ((8 : Int32).toBitVec.smod 32) = 8#32 := by decide
    rw [e2, BitVec.sshiftRight_eq', BitVec.toNat_sshiftRight_of_msb_false (by rw [BitVec.msb_eq_false_iff_two_mul_lt]; omega)]
    show c.toBitVec.toNat >>> 8 % 256 = _
    rw [Nat.shiftRight_eq_div_pow]
    omega
  unfold pairCh
  apply Int32.toBitVec_inj.mp
  apply BitVec.eq_of_toNat_eq
  have f0 : ((0 : Int32) &&& 31) = 0 := by decide
  have f8 : ((8 : Int32) &&& 31) = 8 := by decide
  rw [f0, f8]
  have g : (((lo8 c &&& 255) <<< (0 : Int32)) ||| ((hi8 c &&& 255) <<< (8 : Int32))).toBitVec.toNat = c.toBitVec.toNat := by
    rw [Int32.toBitVec_or, Int32.toBitVec_shiftLeft, Int32.toBitVec_shiftLeft]
    have s0 : ((0 : Int32).toBitVec.smod 32) = 0#32 := by decide
    have s8 : ((8 : Int32).toBitVec.smod 32) = 8#32 := by decide
    rw [s0, s8, BitVec.toNat_or]
    simp only [BitVec.shiftLeft_eq', BitVec.toNat_shiftLeft, a1, a2]
    show (c.toBitVec.toNat % 256) <<< 0 % 2 ^ 32 ||| (c.toBitVec.toNat / 256) <<< 8 % 2 ^ 32 = _
    rw [Nat.shiftLeft_zero, Nat.mod_eq_of_lt (show c.toBitVec.toNat % 256 < 2 ^ 32 by omega), Nat.mod_eq_of_lt (show (c.toBitVec.toNat / 256) <<< 8 < 2 ^ 32 by rw [Nat.shiftLeft_eq]; omega), Nat.or_comm, ← Nat.shiftLeft_add_eq_or_of_lt (by omega), Nat.shiftLeft_eq]
    omega
  show BitVec.toNat (((((lo8 c &&& 255) <<< (0 : Int32)) ||| ((hi8 c &&& 255) <<< (8 : Int32))).toBitVec.setWidth 16).setWidth 32) = _
  rw [BitVec.toNat_setWidth, BitVec.toNat_setWidth, g]
  omega
end StrChars
end Jvm.Pilot.@@N@@
namespace Jvm.Pilot.@@N@@
open Jvm Jvm.ClassFile Sem Op Lib Jvm.Free Jvm.Stand Jvm.LawKit Jvm.RoadKit Bundle Own StrChars Jvm.Pilot.@@N@@.Jvm.D
theorem own_c {x : Int32} (h0 : ¬ x < 0) (h1 : ¬ (65535 : Int32) < x) : x.toUInt32.toUInt16.toUInt32.toInt32 = x := by
  obtain ⟨q1, q2, q3⟩ := c_i2c x
  rw [Int32.lt_iff_toInt_lt] at h0 h1
  have e0 : (0 : Int32).toInt = 0 := rfl
  have e1 : (65535 : Int32).toInt = 65535 := rfl
  apply Int32.toInt_inj.mp
  omega
theorem own_cn {x : Int32} (h0 : ¬ x < 0) (h1 : ¬ (65535 : Int32) < x) : narrow .char (.int x) = .int x := by
  have q := XT.narrow_c x
  rw [own_c h0 h1] at q; exact q
def own_dr (a : Int32) : Int32 := if a &&& 65536 = 0 then (a &&& 65535).toUInt32.toUInt16.toUInt32.toInt32 else 92
theorem own_dr0 {a : Int32} (q : a &&& 65536 = 0) : own_dr a = (a &&& 65535).toUInt32.toUInt16.toUInt32.toInt32 := by simp [own_dr, q]
theorem own_dr1 {a : Int32} (q : ¬ a &&& 65536 = 0) : own_dr a = 92 := by simp [own_dr, q]
theorem own_dr_rng (a : Int32) : ¬ own_dr a < 0 ∧ ¬ (65535 : Int32) < own_dr a := by
  by_cases q : a &&& 65536 = 0
  · rw [own_dr0 q]
    obtain ⟨q1, q2, q3⟩ := c_i2c (a &&& 65535)
    rw [Int32.lt_iff_toInt_lt, Int32.lt_iff_toInt_lt]
    have e0 : (0 : Int32).toInt = 0 := rfl
    have e1 : (65535 : Int32).toInt = 65535 := rfl
    omega
  · rw [own_dr1 q]; decide
/-- the first of the three chars that is above 255 -/
def own_k (c0 c1 c2 : Int32) : Int32 := if 255 < c0 then 0 else if 255 < c1 then 1 else if 255 < c2 then 2 else 3
theorem own_k0 {c0 c1 c2 : Int32} (q0 : 255 < c0) : own_k c0 c1 c2 = 0 := by simp [own_k, q0]
theorem own_k1 {c0 c1 c2 : Int32} (q0 : ¬ 255 < c0) (q1 : 255 < c1) : own_k c0 c1 c2 = 1 := by simp [own_k, q0, q1]
theorem own_k2 {c0 c1 c2 : Int32} (q0 : ¬ 255 < c0) (q1 : ¬ 255 < c1) (q2 : 255 < c2) : own_k c0 c1 c2 = 2 := by simp [own_k, q0, q1, q2]
theorem own_k3 {c0 c1 c2 : Int32} (q0 : ¬ 255 < c0) (q1 : ¬ 255 < c1) (q2 : ¬ 255 < c2) : own_k c0 c1 c2 = 3 := by simp [own_k, q0, q1, q2]
theorem own_nb (c : Int32) : nar .byte (c.toInt8.toInt32) = lo8 c := by show (c.toInt8.toInt32).toInt8.toInt32 = c.toInt8.toInt32; rw [Int8.toInt8_toInt32]
theorem own_nl (c : Int32) : nar .byte ((c >>> ((0 : Int32) &&& 31)).toInt8.toInt32) = lo8 c := by rw [own_nb, shr0]
theorem own_nh (c : Int32) : nar .byte ((c >>> ((8 : Int32) &&& 31)).toInt8.toInt32) = hi8 c := by rw [own_nb]; rfl
def own_e (c : Int32) : Int32 := if c = 92 then 1 else 0
theorem own_e1 {c : Int32} (q : c = 92) : own_e c = 1 := by simp [own_e, q]
theorem own_e0 {c : Int32} (q : ¬ c = 92) : own_e c = 0 := by simp [own_e, q]
/-- a String of three chars, of either coding -/
def StrU (Z : State) (h : Heap) (x : Addr) (c0 c1 c2 : Int32) : Prop := Exa Z h x "java/lang/String" ∧ ∃ (t : Addr) (kb : ClassId), Fld Z h x "java/lang/String" "value" "[B" (.ref t) ∧ ((Fld Z h x "java/lang/String" "coder" "B" (.int 0) ∧ (¬ 255 < c0 ∧ ¬ 255 < c1 ∧ ¬ 255 < c2) ∧ Arv Z h t kb .byte 3 [.int (lo8 c0), .int (lo8 c1), .int (lo8 c2)] (.int 0)) ∨ (Fld Z h x "java/lang/String" "coder" "B" (.int 1) ∧ Arv Z h t kb .byte 6 [.int (lo8 c0), .int (hi8 c0), .int (lo8 c1), .int (hi8 c1), .int (lo8 c2), .int (hi8 c2)] (.int 0)))
theorem StrU.keep {Z : State} {h h' : Heap} {x : Addr} {c0 c1 c2 : Int32} (F : StrU Z h x c0 c1 c2) (K : Keep h h' []) : StrU Z h' x c0 c1 c2 := by
  obtain ⟨f1, t, kb, f2, f3⟩ := F
  exact ⟨f1.keep K, t, kb, f2.keep K nin0, f3.imp (fun ⟨a, b, c⟩ => ⟨a.keep K nin0, b, c.keep K nin0⟩) (fun ⟨a, c⟩ => ⟨a.keep K nin0, c.keep K nin0⟩)⟩
theorem d_method_2_code_0 : decode method_2_code 0 = .ok (.iload_n 0, 1) := by decide +kernel
theorem d_method_2_code_1 : decode method_2_code 1 = .ok (.ldc 7, 2) := by decide +kernel
theorem d_method_2_code_3 : decode method_2_code 3 = .ok (.iand, 1) := by decide +kernel
theorem d_method_2_code_4 : decode method_2_code 4 = .ok (.ifCond .eq 8, 3) := by decide +kernel
theorem d_method_2_code_12 : decode method_2_code 12 = .ok (.iload_n 0, 1) := by decide +kernel
theorem d_method_2_code_13 : decode method_2_code 13 = .ok (.ldc 8, 2) := by decide +kernel
theorem d_method_2_code_15 : decode method_2_code 15 = .ok (.iand, 1) := by decide +kernel
theorem d_method_2_code_16 : decode method_2_code 16 = .ok (.i2c, 1) := by decide +kernel
theorem d_method_2_code_17 : decode method_2_code 17 = .ok (.ireturn, 1) := by decide +kernel
theorem d_method_2_code_7 : decode method_2_code 7 = .ok (.bipush 92, 2) := by decide +kernel
theorem d_method_2_code_9 : decode method_2_code 9 = .ok (.goto 8, 3) := by decide +kernel
theorem pn_0 : plainName "com/example/tautolog/tautolog/sql/TokenIsShellCommandPinLaw" = true := by first | (simp [plainName, overriddenIn]; done) | decide +kernel
set_option maxRecDepth 65536 in
set_option maxHeartbeats 40000000 in
theorem c_draw (l : Launch) (Z : State) (a0 : Array Value) (hw : ∀ d ∈ tables_1, d.before a0 Z = true) (n0 : Nat) (h0 : Heap) (O0 : Old Z n0 h0) (a : Int32) :
    Own.Ctr false l (⟨"com/example/tautolog/tautolog/sql/TokenIsShellCommandPinLaw", "draw", "(I)C"⟩ : MethodName) method_2_code 1 (some .char) ({ frames := 0, cells := 0, slots := 0, locals := 0 } : Room) #[(.int a)] Z h0 Own.VT [] (fun v h vm => v = some (.int (own_dr a)) ∧ h = h0) := by
  refine Own.body (plainFor_of_name pn_0) O0 (fun _ _ _ _ q => by cases q) (fun _ _ _ _ q _ => q) ?_
  intro p e s m below meth c T0 hby hml0 hret hnm hV0 K0
  change Own.Wk false p l e ({ frames := 0, cells := 0, slots := 0, locals := 0 } : Room) s m #[(.int a)] below meth c "com/example/tautolog/tautolog/sql/TokenIsShellCommandPinLaw" Z n0 h0 [] s.vm T0 h0 0 0 at K0
  have hml : c.maxLocals = 1 := hml0
  have S0 : Go p e below (T0.setTop (entryFrame m #[(.int a)] 1)) (T0.setTop (mkF m 0 #[.val (.int a)] [])) := fun t k => castTop (by first | rfl | (simp [entryFrame, mkF, argsToLocals, Value.category]; done)) k
  generalize T0.setTop (entryFrame m #[(.int a)] 1) = A0 at S0 ⊢
  have S1 : Go p e below A0 (T0.setTop (mkF m 1 #[.val (.int a)] [(.int a)])) := by
    refine S0.trans ?_
    refine (Own.P.iloadN K0.here K0.exec (hb hby d_method_2_code_0) rfl).trans ?_
    exact Go.refl _
  have G2 := K0.ldcI (v := 65536) (hw _ (List.mem_of_getElem? (i := 4) rfl)) (pc := 1) (Ls := #[.val (.int a)]) (rest := [(.int a)]) (hb hby d_method_2_code_1)
  have S2 : Go p e below A0 (T0.setTop (mkF m 3 #[.val (.int a)] [(.int (65536 : Int32)), (.int a)])) := S1.trans G2
  have S3 : Go p e below A0 (T0.setTop (mkF m 4 #[.val (.int a)] [(.int (a &&& (65536 : Int32)))])) := by
    refine S2.trans ?_
    refine (Own.P.iand K0.here K0.exec (hb hby d_method_2_code_3) ).trans ?_
    exact Go.refl _
  by_cases q : a &&& 65536 = 0
  case pos =>
    have S4 : Go p e below A0 (T0.setTop (mkF m 13 #[.val (.int a)] [(.int a)])) := by
      refine S3.trans ?_
      refine (Own.P.ifYes K0.here K0.exec 12 (hb hby d_method_2_code_4) (XT.i0_eq_t q) (by decide) (by decide)).trans ?_
      refine (Own.P.iloadN K0.here K0.exec (hb hby d_method_2_code_12) rfl).trans ?_
      exact Go.refl _
    have G5 := K0.ldcI (v := 65535) (hw _ (List.mem_of_getElem? (i := 5) rfl)) (pc := 13) (Ls := #[.val (.int a)]) (rest := [(.int a)]) (hb hby d_method_2_code_13)
    have S5 : Go p e below A0 (T0.setTop (mkF m 15 #[.val (.int a)] [(.int (65535 : Int32)), (.int a)])) := S4.trans G5
    have S6 : Go p e below A0 (T0.setTop (mkF m 17 #[.val (.int a)] [(.int ((a &&& (65535 : Int32)).toUInt32.toUInt16.toUInt32.toInt32))])) := by
      refine S5.trans ?_
      refine (Own.P.iand K0.here K0.exec (hb hby d_method_2_code_15) ).trans ?_
      refine (Own.P.i2c K0.here K0.exec (hb hby d_method_2_code_16) ).trans ?_
      exact Go.refl _
    rw [own_dr0 q]
    exact ⟨s.vm, T0, h0, (some (.int ((a &&& (65535 : Int32)).toUInt32.toUInt16.toUInt32.toInt32))), _, _, K0, by decide, by decide, ⟨rfl, rfl⟩, K0.retW S6 hret (XT.narrow_c _) (Or.inl ⟨rfl, by decide, _, rfl⟩) (hb hby d_method_2_code_17)⟩
  case neg =>
    have S7 : Go p e below A0 (T0.setTop (mkF m 17 #[.val (.int a)] [(.int (92 : Int32))])) := by
      refine S3.trans ?_
      refine (Own.P.ifNo K0.here K0.exec (hb hby d_method_2_code_4) (XT.i0_eq_f q)).trans ?_
      refine (Own.P.bipush K0.here K0.exec (92 : Int32) (hb hby d_method_2_code_7) rfl).trans ?_
      refine (Own.P.goto K0.here K0.exec 17 (hb hby d_method_2_code_9) (by decide) (by decide)).trans ?_
      exact Go.refl _
    rw [own_dr1 q]
    exact ⟨s.vm, T0, h0, (some (.int (92 : Int32))), _, _, K0, by decide, by decide, ⟨rfl, rfl⟩, K0.retW S7 hret rfl (Or.inl ⟨rfl, by decide, _, rfl⟩) (hb hby d_method_2_code_17)⟩
theorem d_jdk_52_method_3_code_0 : decode jdk_52_method_3_code 0 = .ok (.iload_n 0, 1) := by decide +kernel
theorem d_jdk_52_method_3_code_1 : decode jdk_52_method_3_code 1 = .ok (.ifCond .ge 11, 3) := by decide +kernel
theorem d_jdk_52_method_3_code_12 : decode jdk_52_method_3_code 12 = .ok (.iload_n 0, 1) := by decide +kernel
theorem d_jdk_52_method_3_code_13 : decode jdk_52_method_3_code 13 = .ok (.ldc 20, 2) := by decide +kernel
theorem d_jdk_52_method_3_code_15 : decode jdk_52_method_3_code 15 = .ok (.if_icmp .lt 40, 3) := by decide +kernel
theorem d_jdk_52_method_3_code_55 : decode jdk_52_method_3_code 55 = .ok (.iload_n 0, 1) := by decide +kernel
theorem d_jdk_52_method_3_code_56 : decode jdk_52_method_3_code 56 = .ok (.iconst 1, 1) := by decide +kernel
theorem d_jdk_52_method_3_code_57 : decode jdk_52_method_3_code 57 = .ok (.ishl, 1) := by decide +kernel
theorem d_jdk_52_method_3_code_58 : decode jdk_52_method_3_code 58 = .ok (.ireturn, 1) := by decide +kernel
theorem pn_1 : plainName "java/lang/StringUTF16" = true := by first | (simp [plainName, overriddenIn]; done) | decide +kernel
set_option maxRecDepth 65536 in
set_option maxHeartbeats 40000000 in
theorem c_nbl (l : Launch) (Z : State) (a0 : Array Value) (hw : ∀ d ∈ tables_1, d.before a0 Z = true) (n0 : Nat) (h0 : Heap) (O0 : Old Z n0 h0)  :
    Own.Ctr false l (⟨"java/lang/StringUTF16", "newBytesLength", "(I)I"⟩ : MethodName) jdk_52_method_3_code 1 (some .int) ({ frames := 0, cells := 0, slots := 0, locals := 0 } : Room) #[(.int (3 : Int32))] Z h0 Own.VT [] (fun v h vm => v = some (.int 6) ∧ h = h0) := by
  refine Own.body (plainFor_of_name pn_1) O0 (fun _ _ _ _ q => by cases q) (fun _ _ _ _ q _ => q) ?_
  intro p e s m below meth c T0 hby hml0 hret hnm hV0 K0
  change Own.Wk false p l e ({ frames := 0, cells := 0, slots := 0, locals := 0 } : Room) s m #[(.int (3 : Int32))] below meth c "java/lang/StringUTF16" Z n0 h0 [] s.vm T0 h0 0 0 at K0
  have hml : c.maxLocals = 1 := hml0
  have S0 : Go p e below (T0.setTop (entryFrame m #[(.int (3 : Int32))] 1)) (T0.setTop (mkF m 0 #[.val (.int (3 : Int32))] [])) := fun t k => castTop (by first | rfl | (simp [entryFrame, mkF, argsToLocals, Value.category]; done)) k
  generalize T0.setTop (entryFrame m #[(.int (3 : Int32))] 1) = A0 at S0 ⊢
  have S1 : Go p e below A0 (T0.setTop (mkF m 13 #[.val (.int (3 : Int32))] [(.int (3 : Int32))])) := by
    refine S0.trans ?_
    refine (Own.P.iloadN K0.here K0.exec (hb hby d_jdk_52_method_3_code_0) rfl).trans ?_
    refine (Own.P.ifYes K0.here K0.exec 12 (hb hby d_jdk_52_method_3_code_1) (by decide) (by decide) (by decide)).trans ?_
    refine (Own.P.iloadN K0.here K0.exec (hb hby d_jdk_52_method_3_code_12) rfl).trans ?_
    exact Go.refl _
  have G2 := K0.ldcI (v := 1073741823) (hw _ (List.mem_of_getElem? (i := 89) rfl)) (pc := 13) (Ls := #[.val (.int (3 : Int32))]) (rest := [(.int (3 : Int32))]) (hb hby d_jdk_52_method_3_code_13)
  have S2 : Go p e below A0 (T0.setTop (mkF m 15 #[.val (.int (3 : Int32))] [(.int (1073741823 : Int32)), (.int (3 : Int32))])) := S1.trans G2
  have S3 : Go p e below A0 (T0.setTop (mkF m 58 #[.val (.int (3 : Int32))] [(.int ((3 : Int32) <<< ((1 : Int32) &&& 31)))])) := by
    refine S2.trans ?_
    refine (Own.P.icmpYes K0.here K0.exec 55 (hb hby d_jdk_52_method_3_code_15) (by decide) (by decide) (by decide)).trans ?_
    refine (Own.P.iloadN K0.here K0.exec (hb hby d_jdk_52_method_3_code_55) rfl).trans ?_
    refine (Own.P.iconst K0.here K0.exec (1 : Int32) (hb hby d_jdk_52_method_3_code_56) rfl).trans ?_
    refine (Own.P.ishl K0.here K0.exec (hb hby d_jdk_52_method_3_code_57) ).trans ?_
    exact Go.refl _
  exact ⟨s.vm, T0, h0, (some (.int (6 : Int32))), _, _, K0, by decide, by decide, ⟨rfl, rfl⟩, K0.retW S3 hret rfl (Or.inl ⟨rfl, by decide, _, rfl⟩) (hb hby d_jdk_52_method_3_code_58)⟩
theorem d_jdk_52_method_2_code_0 : decode jdk_52_method_2_code 0 = .ok (.iload_n 0, 1) := by decide +kernel
theorem pd_0 : parseMethodDescriptor "(I)I" = some ⟨[.int], some .int⟩ := by decide +kernel
theorem d_jdk_52_method_2_code_1 : decode jdk_52_method_2_code 1 = .ok (.invokestatic 11, 3) := by decide +kernel
theorem d_jdk_52_method_2_code_4 : decode jdk_52_method_2_code 4 = .ok (.newarray .byte, 2) := by decide +kernel
theorem d_jdk_52_method_2_code_6 : decode jdk_52_method_2_code 6 = .ok (.areturn, 1) := by decide +kernel
set_option maxRecDepth 65536 in
set_option maxHeartbeats 40000000 in
theorem c_nbf (l : Launch) (Z : State) (a0 : Array Value) (hw : ∀ d ∈ tables_1, d.before a0 Z = true) (n0 : Nat) (h0 : Heap) (O0 : Old Z n0 h0)  :
    Own.Ctr false l (⟨"java/lang/StringUTF16", "newBytesFor", "(I)[B"⟩ : MethodName) jdk_52_method_2_code 1 (some (.array .byte)) ({ frames := 1, cells := 1, slots := 6, locals := 12 } : Room) #[(.int (3 : Int32))] Z h0 Own.VT [] (fun v h vm => ∃ t kb, v = some (.ref t) ∧ Arv Z h t kb .byte 6 [.int 0, .int 0, .int 0, .int 0, .int 0, .int 0] (.int 0) ∧ h0.size ≤ t) := by
  refine Own.body (plainFor_of_name pn_1) O0 (fun _ _ _ _ q => by cases q) (fun _ _ _ _ q _ => q) ?_
  intro p e s m below meth c T0 hby hml0 hret hnm hV0 K0
  change Own.Wk false p l e ({ frames := 1, cells := 1, slots := 6, locals := 12 } : Room) s m #[(.int (3 : Int32))] below meth c "java/lang/StringUTF16" Z n0 h0 [] s.vm T0 h0 0 0 at K0
  have hml : c.maxLocals = 1 := hml0
  have S0 : Go p e below (T0.setTop (entryFrame m #[(.int (3 : Int32))] 1)) (T0.setTop (mkF m 0 #[.val (.int (3 : Int32))] [])) := fun t k => castTop (by first | rfl | (simp [entryFrame, mkF, argsToLocals, Value.category]; done)) k
  generalize T0.setTop (entryFrame m #[(.int (3 : Int32))] 1) = A0 at S0 ⊢
  have S1 : Go p e below A0 (T0.setTop (mkF m 1 #[.val (.int (3 : Int32))] [(.int (3 : Int32))])) := by
    refine S0.trans ?_
    refine (Own.P.iloadN K0.here K0.exec (hb hby d_jdk_52_method_2_code_0) rfl).trans ?_
    exact Go.refl _
  obtain ⟨v2, vm2, vq2, T2, h2, K2, KK2, ev2, Q2, G2⟩ := K0.callS (y := (⟨"java/lang/StringUTF16", "newBytesLength", "(I)I"⟩ : MethodName)) (hw _ (List.mem_of_getElem? (i := 86) rfl)) (hw _ (List.mem_of_getElem? (i := 87) rfl)) (hw _ (List.mem_of_getElem? (i := 23) rfl)) (hw _ (List.mem_of_getElem? (i := 88) rfl)) (by decide) (W := 0) (argsL := [(.int (3 : Int32))]) (rest := []) ((c_nbl l Z a0 hw n0 h0 (K0.old)).pay Own.VT.cl (hw _ (List.mem_of_getElem? (i := 88) rfl)) (hw _ (List.mem_of_getElem? (i := 23) rfl)) (by decide) (by decide)) trivial (pc := 1) (Ls := #[.val (.int (3 : Int32))]) (st := [(.int (3 : Int32))]) (by rw [hml]; rfl) (lenOf pd_0 rfl) rfl (Nat.le_of_eq rfl) (hb hby d_jdk_52_method_2_code_1) (by decide) (by decide) all0
  obtain ⟨rfl, e2⟩ := Q2
  have S2 : Go p e below A0 (T2.setTop (mkF m 4 #[.val (.int (3 : Int32))] [(.int (6 : Int32))])) := S1.trans G2
  subst e2
  obtain ⟨T3, h3, t, cA_t, K3, E3, g_t, l_t, ne_t, V_t, G3⟩ := K2.newP (aty := .byte) (hw _ (List.mem_of_getElem? (i := 25) rfl)) (n := (6 : Int32)) (pc := 4) (Ls := #[.val (.int (3 : Int32))]) (rest := []) (hb hby d_jdk_52_method_2_code_4) 6 (by decide) (by decide) (by decide) (by decide) (by decide)
  have S3 : Go p e below A0 (T3.setTop (mkF m 6 #[.val (.int (3 : Int32))] [(.ref t)])) := S2.trans G3
  exact ⟨vm2, T3, h3, (some (.ref t)), _, _, K3, by decide, by decide, ⟨t, cA_t, rfl, V_t.pad (pad_rep [] (.int 0) 6), g_t⟩, K3.retW S3 hret rfl (Or.inr (Or.inr (Or.inr (Or.inr ⟨rfl, rfl, rfl⟩)))) (hb hby d_jdk_52_method_2_code_6)⟩
theorem d_jdk_52_method_6_code_0 : decode jdk_52_method_6_code 0 = .ok (.aload_n 0, 1) := by decide +kernel
theorem d_jdk_52_method_6_code_1 : decode jdk_52_method_6_code 1 = .ok (.arraylength, 1) := by decide +kernel
theorem d_jdk_52_method_6_code_2 : decode jdk_52_method_6_code 2 = .ok (.iconst 1, 1) := by decide +kernel
theorem d_jdk_52_method_6_code_3 : decode jdk_52_method_6_code 3 = .ok (.ishr, 1) := by decide +kernel
theorem d_jdk_52_method_6_code_4 : decode jdk_52_method_6_code 4 = .ok (.ireturn, 1) := by decide +kernel
set_option maxRecDepth 65536 in
set_option maxHeartbeats 40000000 in
theorem c_ulen (l : Launch) (Z : State) (a0 : Array Value) (hw : ∀ d ∈ tables_1, d.before a0 Z = true) (n0 : Nat) (h0 : Heap) (O0 : Old Z n0 h0) (a1 : Addr) (kb : ClassId) (vs : List Value) (V : Arv Z h0 a1 kb .byte 6 vs (.int 0)) :
    Own.Ctr false l (⟨"java/lang/StringUTF16", "length", "([B)I"⟩ : MethodName) jdk_52_method_6_code 1 (some .int) ({ frames := 0, cells := 0, slots := 0, locals := 0 } : Room) #[(.ref a1)] Z h0 Own.VT [] (fun v h vm => v = some (.int 3) ∧ h = h0) := by
  refine Own.body (plainFor_of_name pn_1) O0 (fun _ _ _ _ q => by cases q) (fun _ _ _ _ q _ => q) ?_
  intro p e s m below meth c T0 hby hml0 hret hnm hV0 K0
  change Own.Wk false p l e ({ frames := 0, cells := 0, slots := 0, locals := 0 } : Room) s m #[(.ref a1)] below meth c "java/lang/StringUTF16" Z n0 h0 [] s.vm T0 h0 0 0 at K0
  have hml : c.maxLocals = 1 := hml0
  have S0 : Go p e below (T0.setTop (entryFrame m #[(.ref a1)] 1)) (T0.setTop (mkF m 0 #[.val (.ref a1)] [])) := fun t k => castTop (by first | rfl | (simp [entryFrame, mkF, argsToLocals, Value.category]; done)) k
  generalize T0.setTop (entryFrame m #[(.ref a1)] 1) = A0 at S0 ⊢
  have S1 : Go p e below A0 (T0.setTop (mkF m 1 #[.val (.ref a1)] [(.ref a1)])) := by
    refine S0.trans ?_
    refine (Own.P.aloadN K0.here K0.exec (hb hby d_jdk_52_method_6_code_0) rfl rfl).trans ?_
    exact Go.refl _
  have G2 := K0.len V (pc := 1) (Ls := #[.val (.ref a1)]) (rest := []) (hb hby d_jdk_52_method_6_code_1)
  have S2 : Go p e below A0 (T0.setTop (mkF m 2 #[.val (.ref a1)] [(.int (6 : Int32))])) := S1.trans G2
  have S3 : Go p e below A0 (T0.setTop (mkF m 4 #[.val (.ref a1)] [(.int ((6 : Int32) >>> ((1 : Int32) &&& 31)))])) := by
    refine S2.trans ?_
    refine (Own.P.iconst K0.here K0.exec (1 : Int32) (hb hby d_jdk_52_method_6_code_2) rfl).trans ?_
    refine (Own.P.ishr K0.here K0.exec (hb hby d_jdk_52_method_6_code_3) ).trans ?_
    exact Go.refl _
  exact ⟨s.vm, T0, h0, (some (.int (3 : Int32))), _, _, K0, by decide, by decide, ⟨rfl, rfl⟩, K0.retW S3 hret rfl (Or.inl ⟨rfl, by decide, _, rfl⟩) (hb hby d_jdk_52_method_6_code_4)⟩
theorem d_jdk_52_method_4_code_0 : decode jdk_52_method_4_code 0 = .ok (.getstatic 44, 3) := by decide +kernel
theorem d_jdk_52_method_4_code_3 : decode jdk_52_method_4_code 3 = .ok (.ifCond .ne 25, 3) := by decide +kernel
theorem d_jdk_52_method_4_code_28 : decode jdk_52_method_4_code 28 = .ok (.iload_n 1, 1) := by decide +kernel
theorem d_jdk_52_method_4_code_29 : decode jdk_52_method_4_code 29 = .ok (.iconst 1, 1) := by decide +kernel
theorem d_jdk_52_method_4_code_30 : decode jdk_52_method_4_code 30 = .ok (.ishl, 1) := by decide +kernel
theorem d_jdk_52_method_4_code_31 : decode jdk_52_method_4_code 31 = .ok (.istore_n 1, 1) := by decide +kernel
theorem d_jdk_52_method_4_code_32 : decode jdk_52_method_4_code 32 = .ok (.aload_n 0, 1) := by decide +kernel
theorem d_jdk_52_method_4_code_33 : decode jdk_52_method_4_code 33 = .ok (.iload_n 1, 1) := by decide +kernel
theorem d_jdk_52_method_4_code_34 : decode jdk_52_method_4_code 34 = .ok (.iinc 1 1, 3) := by decide +kernel
theorem d_jdk_52_method_4_code_37 : decode jdk_52_method_4_code 37 = .ok (.iload_n 2, 1) := by decide +kernel
theorem d_jdk_52_method_4_code_38 : decode jdk_52_method_4_code 38 = .ok (.getstatic 59, 3) := by decide +kernel
theorem d_jdk_52_method_4_code_41 : decode jdk_52_method_4_code 41 = .ok (.ishr, 1) := by decide +kernel
theorem d_jdk_52_method_4_code_42 : decode jdk_52_method_4_code 42 = .ok (.i2b, 1) := by decide +kernel
theorem d_jdk_52_method_4_code_43 : decode jdk_52_method_4_code 43 = .ok (.bastore, 1) := by decide +kernel
theorem d_jdk_52_method_4_code_44 : decode jdk_52_method_4_code 44 = .ok (.aload_n 0, 1) := by decide +kernel
theorem d_jdk_52_method_4_code_45 : decode jdk_52_method_4_code 45 = .ok (.iload_n 1, 1) := by decide +kernel
theorem d_jdk_52_method_4_code_46 : decode jdk_52_method_4_code 46 = .ok (.iload_n 2, 1) := by decide +kernel
theorem d_jdk_52_method_4_code_47 : decode jdk_52_method_4_code 47 = .ok (.getstatic 63, 3) := by decide +kernel
theorem d_jdk_52_method_4_code_50 : decode jdk_52_method_4_code 50 = .ok (.ishr, 1) := by decide +kernel
theorem d_jdk_52_method_4_code_51 : decode jdk_52_method_4_code 51 = .ok (.i2b, 1) := by decide +kernel
theorem d_jdk_52_method_4_code_52 : decode jdk_52_method_4_code 52 = .ok (.bastore, 1) := by decide +kernel
theorem d_jdk_52_method_4_code_53 : decode jdk_52_method_4_code 53 = .ok (.return_, 1) := by decide +kernel
set_option maxRecDepth 65536 in
set_option maxHeartbeats 40000000 in
theorem c_put0 (l : Launch) (Z : State) (a0 : Array Value) (hw : ∀ d ∈ tables_1, d.before a0 Z = true) (n0 : Nat) (h0 : Heap) (O0 : Old Z n0 h0) (A1 : Sta Z Z.heap "java/lang/StringUTF16" "$assertionsDisabled" "Z" (.int 1)) (A2 : Sta Z Z.heap "java/lang/StringUTF16" "HI_BYTE_SHIFT" "I" (.int 0)) (A3 : Sta Z Z.heap "java/lang/StringUTF16" "LO_BYTE_SHIFT" "I" (.int 8)) (a1 : Addr) (kb : ClassId) (ch v0 v1 v2 v3 v4 v5 : Int32) (V : Arv Z h0 a1 kb .byte 6 [.int v0, .int v1, .int v2, .int v3, .int v4, .int v5] (.int 0)) (g1 : n0 ≤ a1) :
    Own.Ctr false l (⟨"java/lang/StringUTF16", "putChar", "([BII)V"⟩ : MethodName) jdk_52_method_4_code 3 none ({ frames := 0, cells := 0, slots := 0, locals := 0 } : Room) #[(.ref a1), (.int (0 : Int32)), (.int ch)] Z h0 Own.VT [a1] (fun v h vm => v = none ∧ Arv Z h a1 kb .byte 6 [.int (lo8 ch), .int (hi8 ch), .int v2, .int v3, .int v4, .int v5] (.int 0)) := by
  refine Own.body (plainFor_of_name pn_1) O0 (fun v h vm q _ => q.1) (fun _ _ _ _ q _ => q) ?_
  intro p e s m below meth c T0 hby hml0 hret hnm hV0 K0
  change Own.Wk false p l e ({ frames := 0, cells := 0, slots := 0, locals := 0 } : Room) s m #[(.ref a1), (.int (0 : Int32)), (.int ch)] below meth c "java/lang/StringUTF16" Z n0 h0 [] s.vm T0 h0 0 0 at K0
  replace K0 := K0.weaken [a1] (allS g1 all0)
  have hml : c.maxLocals = 3 := hml0
  have S0 : Go p e below (T0.setTop (entryFrame m #[(.ref a1), (.int (0 : Int32)), (.int ch)] 3)) (T0.setTop (mkF m 0 #[.val (.ref a1), .val (.int (0 : Int32)), .val (.int ch)] [])) := fun t k => castTop (by first | rfl | (simp [entryFrame, mkF, argsToLocals, Value.category]; done)) k
  generalize T0.setTop (entryFrame m #[(.ref a1), (.int (0 : Int32)), (.int ch)] 3) = A0 at S0 ⊢
  obtain ⟨T1, K1, G1⟩ := K0.getS "" (Or.inl (hw _ (List.mem_of_getElem? (i := 93) rfl))) Via.refl (A1.ext K0.ext) (pc := 0) (Ls := #[.val (.ref a1), .val (.int (0 : Int32)), .val (.int ch)]) (rest := []) (hb hby d_jdk_52_method_4_code_0)
  have S1 : Go p e below A0 (T1.setTop (mkF m 3 #[.val (.ref a1), .val (.int (0 : Int32)), .val (.int ch)] [(.int (1 : Int32))])) := S0.trans G1
  have S2 : Go p e below A0 (T1.setTop (mkF m 38 #[.val (.ref a1), .val (.int (((0 : Int32) <<< ((1 : Int32) &&& 31)) + (1 : Int32))), .val (.int ch)] [(.int ch), (.int ((0 : Int32) <<< ((1 : Int32) &&& 31))), (.ref a1)])) := by
    refine S1.trans ?_
    refine (Own.P.ifYes K1.here K1.exec 28 (hb hby d_jdk_52_method_4_code_3) (by decide) (by decide) (by decide)).trans ?_
    refine (Own.P.iloadN K1.here K1.exec (hb hby d_jdk_52_method_4_code_28) rfl).trans ?_
    refine (Own.P.iconst K1.here K1.exec (1 : Int32) (hb hby d_jdk_52_method_4_code_29) rfl).trans ?_
    refine (Own.P.ishl K1.here K1.exec (hb hby d_jdk_52_method_4_code_30) ).trans ?_
    refine (Own.P.istoreN K1.here K1.exec (l' := #[.val (.ref a1), .val (.int ((0 : Int32) <<< ((1 : Int32) &&& 31))), .val (.int ch)]) (hb hby d_jdk_52_method_4_code_31) rfl).trans ?_
    refine (Own.P.aloadN K1.here K1.exec (hb hby d_jdk_52_method_4_code_32) rfl rfl).trans ?_
    refine (Own.P.iloadN K1.here K1.exec (hb hby d_jdk_52_method_4_code_33) rfl).trans ?_
    refine (Own.P.iinc K1.here K1.exec (v := (((0 : Int32) <<< ((1 : Int32) &&& 31)) + (1 : Int32))) (l' := #[.val (.ref a1), .val (.int (((0 : Int32) <<< ((1 : Int32) &&& 31)) + (1 : Int32))), .val (.int ch)]) (hb hby d_jdk_52_method_4_code_34) rfl rfl rfl).trans ?_
    refine (Own.P.iloadN K1.here K1.exec (hb hby d_jdk_52_method_4_code_37) rfl).trans ?_
    exact Go.refl _
  obtain ⟨T3, K3, G3⟩ := K1.getS "" (Or.inl (hw _ (List.mem_of_getElem? (i := 94) rfl))) Via.refl (A2.ext K1.ext) (pc := 38) (Ls := #[.val (.ref a1), .val (.int (((0 : Int32) <<< ((1 : Int32) &&& 31)) + (1 : Int32))), .val (.int ch)]) (rest := [(.int ch), (.int ((0 : Int32) <<< ((1 : Int32) &&& 31))), (.ref a1)]) (hb hby d_jdk_52_method_4_code_38)
  have S3 : Go p e below A0 (T3.setTop (mkF m 41 #[.val (.ref a1), .val (.int (((0 : Int32) <<< ((1 : Int32) &&& 31)) + (1 : Int32))), .val (.int ch)] [(.int (0 : Int32)), (.int ch), (.int ((0 : Int32) <<< ((1 : Int32) &&& 31))), (.ref a1)])) := S2.trans G3
  have S4 : Go p e below A0 (T3.setTop (mkF m 43 #[.val (.ref a1), .val (.int (((0 : Int32) <<< ((1 : Int32) &&& 31)) + (1 : Int32))), .val (.int ch)] [(.int ((ch >>> ((0 : Int32) &&& 31)).toInt8.toInt32)), (.int ((0 : Int32) <<< ((1 : Int32) &&& 31))), (.ref a1)])) := by
    refine S3.trans ?_
    refine (Own.P.ishr K3.here K3.exec (hb hby d_jdk_52_method_4_code_41) ).trans ?_
    refine (Own.P.i2b K3.here K3.exec (hb hby d_jdk_52_method_4_code_42) ).trans ?_
    exact Go.refl _
  obtain ⟨T5, h5, K5, W5, V5, G5⟩ := K3.stB V  (j := ((0 : Int32) <<< ((1 : Int32) &&& 31))) ⟨by decide, by decide⟩ 0 rfl (Nat.le_of_ble_eq_true rfl) (Or.inl (List.mem_of_getElem? (i := 0) rfl)) (pc := 43) (Ls := #[.val (.ref a1), .val (.int (((0 : Int32) <<< ((1 : Int32) &&& 31)) + (1 : Int32))), .val (.int ch)]) (rest := []) (hb hby d_jdk_52_method_4_code_43)
  have S5 : Go p e below A0 (T5.setTop (mkF m 44 #[.val (.ref a1), .val (.int (((0 : Int32) <<< ((1 : Int32) &&& 31)) + (1 : Int32))), .val (.int ch)] [])) := S4.trans G5
  rw [own_nl] at V5
  have S6 : Go p e below A0 (T5.setTop (mkF m 47 #[.val (.ref a1), .val (.int (((0 : Int32) <<< ((1 : Int32) &&& 31)) + (1 : Int32))), .val (.int ch)] [(.int ch), (.int (((0 : Int32) <<< ((1 : Int32) &&& 31)) + (1 : Int32))), (.ref a1)])) := by
    refine S5.trans ?_
    refine (Own.P.aloadN K5.here K5.exec (hb hby d_jdk_52_method_4_code_44) rfl rfl).trans ?_
    refine (Own.P.iloadN K5.here K5.exec (hb hby d_jdk_52_method_4_code_45) rfl).trans ?_
    refine (Own.P.iloadN K5.here K5.exec (hb hby d_jdk_52_method_4_code_46) rfl).trans ?_
    exact Go.refl _
  obtain ⟨T7, K7, G7⟩ := K5.getS "" (Or.inl (hw _ (List.mem_of_getElem? (i := 95) rfl))) Via.refl (A3.ext K5.ext) (pc := 47) (Ls := #[.val (.ref a1), .val (.int (((0 : Int32) <<< ((1 : Int32) &&& 31)) + (1 : Int32))), .val (.int ch)]) (rest := [(.int ch), (.int (((0 : Int32) <<< ((1 : Int32) &&& 31)) + (1 : Int32))), (.ref a1)]) (hb hby d_jdk_52_method_4_code_47)
  have S7 : Go p e below A0 (T7.setTop (mkF m 50 #[.val (.ref a1), .val (.int (((0 : Int32) <<< ((1 : Int32) &&& 31)) + (1 : Int32))), .val (.int ch)] [(.int (8 : Int32)), (.int ch), (.int (((0 : Int32) <<< ((1 : Int32) &&& 31)) + (1 : Int32))), (.ref a1)])) := S6.trans G7
  have S8 : Go p e below A0 (T7.setTop (mkF m 52 #[.val (.ref a1), .val (.int (((0 : Int32) <<< ((1 : Int32) &&& 31)) + (1 : Int32))), .val (.int ch)] [(.int ((ch >>> ((8 : Int32) &&& 31)).toInt8.toInt32)), (.int (((0 : Int32) <<< ((1 : Int32) &&& 31)) + (1 : Int32))), (.ref a1)])) := by
    refine S7.trans ?_
    refine (Own.P.ishr K7.here K7.exec (hb hby d_jdk_52_method_4_code_50) ).trans ?_
    refine (Own.P.i2b K7.here K7.exec (hb hby d_jdk_52_method_4_code_51) ).trans ?_
    exact Go.refl _
  obtain ⟨T9, h9, K9, W9, V9, G9⟩ := K7.stB V5  (j := (((0 : Int32) <<< ((1 : Int32) &&& 31)) + (1 : Int32))) ⟨by decide, by decide⟩ 1 rfl (Nat.le_of_ble_eq_true rfl) (Or.inl (List.mem_of_getElem? (i := 0) rfl)) (pc := 52) (Ls := #[.val (.ref a1), .val (.int (((0 : Int32) <<< ((1 : Int32) &&& 31)) + (1 : Int32))), .val (.int ch)]) (rest := []) (hb hby d_jdk_52_method_4_code_52)
  have S9 : Go p e below A0 (T9.setTop (mkF m 53 #[.val (.ref a1), .val (.int (((0 : Int32) <<< ((1 : Int32) &&& 31)) + (1 : Int32))), .val (.int ch)] [])) := S8.trans G9
  rw [own_nh] at V9
  exact ⟨s.vm, T9, h9, none, _, _, K9, by decide, by decide, ⟨rfl, V9⟩, K9.retV S9 hret (hb hby d_jdk_52_method_4_code_53)⟩
set_option maxRecDepth 65536 in
set_option maxHeartbeats 40000000 in
theorem c_put1 (l : Launch) (Z : State) (a0 : Array Value) (hw : ∀ d ∈ tables_1, d.before a0 Z = true) (n0 : Nat) (h0 : Heap) (O0 : Old Z n0 h0) (A1 : Sta Z Z.heap "java/lang/StringUTF16" "$assertionsDisabled" "Z" (.int 1)) (A2 : Sta Z Z.heap "java/lang/StringUTF16" "HI_BYTE_SHIFT" "I" (.int 0)) (A3 : Sta Z Z.heap "java/lang/StringUTF16" "LO_BYTE_SHIFT" "I" (.int 8)) (a1 : Addr) (kb : ClassId) (ch v0 v1 v2 v3 v4 v5 : Int32) (V : Arv Z h0 a1 kb .byte 6 [.int v0, .int v1, .int v2, .int v3, .int v4, .int v5] (.int 0)) (g1 : n0 ≤ a1) :
    Own.Ctr false l (⟨"java/lang/StringUTF16", "putChar", "([BII)V"⟩ : MethodName) jdk_52_method_4_code 3 none ({ frames := 0, cells := 0, slots := 0, locals := 0 } : Room) #[(.ref a1), (.int (1 : Int32)), (.int ch)] Z h0 Own.VT [a1] (fun v h vm => v = none ∧ Arv Z h a1 kb .byte 6 [.int v0, .int v1, .int (lo8 ch), .int (hi8 ch), .int v4, .int v5] (.int 0)) := by
  refine Own.body (plainFor_of_name pn_1) O0 (fun v h vm q _ => q.1) (fun _ _ _ _ q _ => q) ?_
  intro p e s m below meth c T0 hby hml0 hret hnm hV0 K0
  change Own.Wk false p l e ({ frames := 0, cells := 0, slots := 0, locals := 0 } : Room) s m #[(.ref a1), (.int (1 : Int32)), (.int ch)] below meth c "java/lang/StringUTF16" Z n0 h0 [] s.vm T0 h0 0 0 at K0
  replace K0 := K0.weaken [a1] (allS g1 all0)
  have hml : c.maxLocals = 3 := hml0
  have S0 : Go p e below (T0.setTop (entryFrame m #[(.ref a1), (.int (1 : Int32)), (.int ch)] 3)) (T0.setTop (mkF m 0 #[.val (.ref a1), .val (.int (1 : Int32)), .val (.int ch)] [])) := fun t k => castTop (by first | rfl | (simp [entryFrame, mkF, argsToLocals, Value.category]; done)) k
  generalize T0.setTop (entryFrame m #[(.ref a1), (.int (1 : Int32)), (.int ch)] 3) = A0 at S0 ⊢
  obtain ⟨T1, K1, G1⟩ := K0.getS "" (Or.inl (hw _ (List.mem_of_getElem? (i := 93) rfl))) Via.refl (A1.ext K0.ext) (pc := 0) (Ls := #[.val (.ref a1), .val (.int (1 : Int32)), .val (.int ch)]) (rest := []) (hb hby d_jdk_52_method_4_code_0)
  have S1 : Go p e below A0 (T1.setTop (mkF m 3 #[.val (.ref a1), .val (.int (1 : Int32)), .val (.int ch)] [(.int (1 : Int32))])) := S0.trans G1
  have S2 : Go p e below A0 (T1.setTop (mkF m 38 #[.val (.ref a1), .val (.int (((1 : Int32) <<< ((1 : Int32) &&& 31)) + (1 : Int32))), .val (.int ch)] [(.int ch), (.int ((1 : Int32) <<< ((1 : Int32) &&& 31))), (.ref a1)])) := by
    refine S1.trans ?_
    refine (Own.P.ifYes K1.here K1.exec 28 (hb hby d_jdk_52_method_4_code_3) (by decide) (by decide) (by decide)).trans ?_
    refine (Own.P.iloadN K1.here K1.exec (hb hby d_jdk_52_method_4_code_28) rfl).trans ?_
    refine (Own.P.iconst K1.here K1.exec (1 : Int32) (hb hby d_jdk_52_method_4_code_29) rfl).trans ?_
    refine (Own.P.ishl K1.here K1.exec (hb hby d_jdk_52_method_4_code_30) ).trans ?_
    refine (Own.P.istoreN K1.here K1.exec (l' := #[.val (.ref a1), .val (.int ((1 : Int32) <<< ((1 : Int32) &&& 31))), .val (.int ch)]) (hb hby d_jdk_52_method_4_code_31) rfl).trans ?_
    refine (Own.P.aloadN K1.here K1.exec (hb hby d_jdk_52_method_4_code_32) rfl rfl).trans ?_
    refine (Own.P.iloadN K1.here K1.exec (hb hby d_jdk_52_method_4_code_33) rfl).trans ?_
    refine (Own.P.iinc K1.here K1.exec (v := (((1 : Int32) <<< ((1 : Int32) &&& 31)) + (1 : Int32))) (l' := #[.val (.ref a1), .val (.int (((1 : Int32) <<< ((1 : Int32) &&& 31)) + (1 : Int32))), .val (.int ch)]) (hb hby d_jdk_52_method_4_code_34) rfl rfl rfl).trans ?_
    refine (Own.P.iloadN K1.here K1.exec (hb hby d_jdk_52_method_4_code_37) rfl).trans ?_
    exact Go.refl _
  obtain ⟨T3, K3, G3⟩ := K1.getS "" (Or.inl (hw _ (List.mem_of_getElem? (i := 94) rfl))) Via.refl (A2.ext K1.ext) (pc := 38) (Ls := #[.val (.ref a1), .val (.int (((1 : Int32) <<< ((1 : Int32) &&& 31)) + (1 : Int32))), .val (.int ch)]) (rest := [(.int ch), (.int ((1 : Int32) <<< ((1 : Int32) &&& 31))), (.ref a1)]) (hb hby d_jdk_52_method_4_code_38)
  have S3 : Go p e below A0 (T3.setTop (mkF m 41 #[.val (.ref a1), .val (.int (((1 : Int32) <<< ((1 : Int32) &&& 31)) + (1 : Int32))), .val (.int ch)] [(.int (0 : Int32)), (.int ch), (.int ((1 : Int32) <<< ((1 : Int32) &&& 31))), (.ref a1)])) := S2.trans G3
  have S4 : Go p e below A0 (T3.setTop (mkF m 43 #[.val (.ref a1), .val (.int (((1 : Int32) <<< ((1 : Int32) &&& 31)) + (1 : Int32))), .val (.int ch)] [(.int ((ch >>> ((0 : Int32) &&& 31)).toInt8.toInt32)), (.int ((1 : Int32) <<< ((1 : Int32) &&& 31))), (.ref a1)])) := by
    refine S3.trans ?_
    refine (Own.P.ishr K3.here K3.exec (hb hby d_jdk_52_method_4_code_41) ).trans ?_
    refine (Own.P.i2b K3.here K3.exec (hb hby d_jdk_52_method_4_code_42) ).trans ?_
    exact Go.refl _
  obtain ⟨T5, h5, K5, W5, V5, G5⟩ := K3.stB V  (j := ((1 : Int32) <<< ((1 : Int32) &&& 31))) ⟨by decide, by decide⟩ 2 rfl (Nat.le_of_ble_eq_true rfl) (Or.inl (List.mem_of_getElem? (i := 0) rfl)) (pc := 43) (Ls := #[.val (.ref a1), .val (.int (((1 : Int32) <<< ((1 : Int32) &&& 31)) + (1 : Int32))), .val (.int ch)]) (rest := []) (hb hby d_jdk_52_method_4_code_43)
  have S5 : Go p e below A0 (T5.setTop (mkF m 44 #[.val (.ref a1), .val (.int (((1 : Int32) <<< ((1 : Int32) &&& 31)) + (1 : Int32))), .val (.int ch)] [])) := S4.trans G5
  rw [own_nl] at V5
  have S6 : Go p e below A0 (T5.setTop (mkF m 47 #[.val (.ref a1), .val (.int (((1 : Int32) <<< ((1 : Int32) &&& 31)) + (1 : Int32))), .val (.int ch)] [(.int ch), (.int (((1 : Int32) <<< ((1 : Int32) &&& 31)) + (1 : Int32))), (.ref a1)])) := by
    refine S5.trans ?_
    refine (Own.P.aloadN K5.here K5.exec (hb hby d_jdk_52_method_4_code_44) rfl rfl).trans ?_
    refine (Own.P.iloadN K5.here K5.exec (hb hby d_jdk_52_method_4_code_45) rfl).trans ?_
    refine (Own.P.iloadN K5.here K5.exec (hb hby d_jdk_52_method_4_code_46) rfl).trans ?_
    exact Go.refl _
  obtain ⟨T7, K7, G7⟩ := K5.getS "" (Or.inl (hw _ (List.mem_of_getElem? (i := 95) rfl))) Via.refl (A3.ext K5.ext) (pc := 47) (Ls := #[.val (.ref a1), .val (.int (((1 : Int32) <<< ((1 : Int32) &&& 31)) + (1 : Int32))), .val (.int ch)]) (rest := [(.int ch), (.int (((1 : Int32) <<< ((1 : Int32) &&& 31)) + (1 : Int32))), (.ref a1)]) (hb hby d_jdk_52_method_4_code_47)
  have S7 : Go p e below A0 (T7.setTop (mkF m 50 #[.val (.ref a1), .val (.int (((1 : Int32) <<< ((1 : Int32) &&& 31)) + (1 : Int32))), .val (.int ch)] [(.int (8 : Int32)), (.int ch), (.int (((1 : Int32) <<< ((1 : Int32) &&& 31)) + (1 : Int32))), (.ref a1)])) := S6.trans G7
  have S8 : Go p e below A0 (T7.setTop (mkF m 52 #[.val (.ref a1), .val (.int (((1 : Int32) <<< ((1 : Int32) &&& 31)) + (1 : Int32))), .val (.int ch)] [(.int ((ch >>> ((8 : Int32) &&& 31)).toInt8.toInt32)), (.int (((1 : Int32) <<< ((1 : Int32) &&& 31)) + (1 : Int32))), (.ref a1)])) := by
    refine S7.trans ?_
    refine (Own.P.ishr K7.here K7.exec (hb hby d_jdk_52_method_4_code_50) ).trans ?_
    refine (Own.P.i2b K7.here K7.exec (hb hby d_jdk_52_method_4_code_51) ).trans ?_
    exact Go.refl _
  obtain ⟨T9, h9, K9, W9, V9, G9⟩ := K7.stB V5  (j := (((1 : Int32) <<< ((1 : Int32) &&& 31)) + (1 : Int32))) ⟨by decide, by decide⟩ 3 rfl (Nat.le_of_ble_eq_true rfl) (Or.inl (List.mem_of_getElem? (i := 0) rfl)) (pc := 52) (Ls := #[.val (.ref a1), .val (.int (((1 : Int32) <<< ((1 : Int32) &&& 31)) + (1 : Int32))), .val (.int ch)]) (rest := []) (hb hby d_jdk_52_method_4_code_52)
  have S9 : Go p e below A0 (T9.setTop (mkF m 53 #[.val (.ref a1), .val (.int (((1 : Int32) <<< ((1 : Int32) &&& 31)) + (1 : Int32))), .val (.int ch)] [])) := S8.trans G9
  rw [own_nh] at V9
  exact ⟨s.vm, T9, h9, none, _, _, K9, by decide, by decide, ⟨rfl, V9⟩, K9.retV S9 hret (hb hby d_jdk_52_method_4_code_53)⟩
set_option maxRecDepth 65536 in
set_option maxHeartbeats 40000000 in
theorem c_put2 (l : Launch) (Z : State) (a0 : Array Value) (hw : ∀ d ∈ tables_1, d.before a0 Z = true) (n0 : Nat) (h0 : Heap) (O0 : Old Z n0 h0) (A1 : Sta Z Z.heap "java/lang/StringUTF16" "$assertionsDisabled" "Z" (.int 1)) (A2 : Sta Z Z.heap "java/lang/StringUTF16" "HI_BYTE_SHIFT" "I" (.int 0)) (A3 : Sta Z Z.heap "java/lang/StringUTF16" "LO_BYTE_SHIFT" "I" (.int 8)) (a1 : Addr) (kb : ClassId) (ch v0 v1 v2 v3 v4 v5 : Int32) (V : Arv Z h0 a1 kb .byte 6 [.int v0, .int v1, .int v2, .int v3, .int v4, .int v5] (.int 0)) (g1 : n0 ≤ a1) :
    Own.Ctr false l (⟨"java/lang/StringUTF16", "putChar", "([BII)V"⟩ : MethodName) jdk_52_method_4_code 3 none ({ frames := 0, cells := 0, slots := 0, locals := 0 } : Room) #[(.ref a1), (.int (2 : Int32)), (.int ch)] Z h0 Own.VT [a1] (fun v h vm => v = none ∧ Arv Z h a1 kb .byte 6 [.int v0, .int v1, .int v2, .int v3, .int (lo8 ch), .int (hi8 ch)] (.int 0)) := by
  refine Own.body (plainFor_of_name pn_1) O0 (fun v h vm q _ => q.1) (fun _ _ _ _ q _ => q) ?_
  intro p e s m below meth c T0 hby hml0 hret hnm hV0 K0
  change Own.Wk false p l e ({ frames := 0, cells := 0, slots := 0, locals := 0 } : Room) s m #[(.ref a1), (.int (2 : Int32)), (.int ch)] below meth c "java/lang/StringUTF16" Z n0 h0 [] s.vm T0 h0 0 0 at K0
  replace K0 := K0.weaken [a1] (allS g1 all0)
  have hml : c.maxLocals = 3 := hml0
  have S0 : Go p e below (T0.setTop (entryFrame m #[(.ref a1), (.int (2 : Int32)), (.int ch)] 3)) (T0.setTop (mkF m 0 #[.val (.ref a1), .val (.int (2 : Int32)), .val (.int ch)] [])) := fun t k => castTop (by first | rfl | (simp [entryFrame, mkF, argsToLocals, Value.category]; done)) k
  generalize T0.setTop (entryFrame m #[(.ref a1), (.int (2 : Int32)), (.int ch)] 3) = A0 at S0 ⊢
  obtain ⟨T1, K1, G1⟩ := K0.getS "" (Or.inl (hw _ (List.mem_of_getElem? (i := 93) rfl))) Via.refl (A1.ext K0.ext) (pc := 0) (Ls := #[.val (.ref a1), .val (.int (2 : Int32)), .val (.int ch)]) (rest := []) (hb hby d_jdk_52_method_4_code_0)
  have S1 : Go p e below A0 (T1.setTop (mkF m 3 #[.val (.ref a1), .val (.int (2 : Int32)), .val (.int ch)] [(.int (1 : Int32))])) := S0.trans G1
  have S2 : Go p e below A0 (T1.setTop (mkF m 38 #[.val (.ref a1), .val (.int (((2 : Int32) <<< ((1 : Int32) &&& 31)) + (1 : Int32))), .val (.int ch)] [(.int ch), (.int ((2 : Int32) <<< ((1 : Int32) &&& 31))), (.ref a1)])) := by
    refine S1.trans ?_
    refine (Own.P.ifYes K1.here K1.exec 28 (hb hby d_jdk_52_method_4_code_3) (by decide) (by decide) (by decide)).trans ?_
    refine (Own.P.iloadN K1.here K1.exec (hb hby d_jdk_52_method_4_code_28) rfl).trans ?_
    refine (Own.P.iconst K1.here K1.exec (1 : Int32) (hb hby d_jdk_52_method_4_code_29) rfl).trans ?_
    refine (Own.P.ishl K1.here K1.exec (hb hby d_jdk_52_method_4_code_30) ).trans ?_
    refine (Own.P.istoreN K1.here K1.exec (l' := #[.val (.ref a1), .val (.int ((2 : Int32) <<< ((1 : Int32) &&& 31))), .val (.int ch)]) (hb hby d_jdk_52_method_4_code_31) rfl).trans ?_
    refine (Own.P.aloadN K1.here K1.exec (hb hby d_jdk_52_method_4_code_32) rfl rfl).trans ?_
    refine (Own.P.iloadN K1.here K1.exec (hb hby d_jdk_52_method_4_code_33) rfl).trans ?_
    refine (Own.P.iinc K1.here K1.exec (v := (((2 : Int32) <<< ((1 : Int32) &&& 31)) + (1 : Int32))) (l' := #[.val (.ref a1), .val (.int (((2 : Int32) <<< ((1 : Int32) &&& 31)) + (1 : Int32))), .val (.int ch)]) (hb hby d_jdk_52_method_4_code_34) rfl rfl rfl).trans ?_
    refine (Own.P.iloadN K1.here K1.exec (hb hby d_jdk_52_method_4_code_37) rfl).trans ?_
    exact Go.refl _
  obtain ⟨T3, K3, G3⟩ := K1.getS "" (Or.inl (hw _ (List.mem_of_getElem? (i := 94) rfl))) Via.refl (A2.ext K1.ext) (pc := 38) (Ls := #[.val (.ref a1), .val (.int (((2 : Int32) <<< ((1 : Int32) &&& 31)) + (1 : Int32))), .val (.int ch)]) (rest := [(.int ch), (.int ((2 : Int32) <<< ((1 : Int32) &&& 31))), (.ref a1)]) (hb hby d_jdk_52_method_4_code_38)
  have S3 : Go p e below A0 (T3.setTop (mkF m 41 #[.val (.ref a1), .val (.int (((2 : Int32) <<< ((1 : Int32) &&& 31)) + (1 : Int32))), .val (.int ch)] [(.int (0 : Int32)), (.int ch), (.int ((2 : Int32) <<< ((1 : Int32) &&& 31))), (.ref a1)])) := S2.trans G3
  have S4 : Go p e below A0 (T3.setTop (mkF m 43 #[.val (.ref a1), .val (.int (((2 : Int32) <<< ((1 : Int32) &&& 31)) + (1 : Int32))), .val (.int ch)] [(.int ((ch >>> ((0 : Int32) &&& 31)).toInt8.toInt32)), (.int ((2 : Int32) <<< ((1 : Int32) &&& 31))), (.ref a1)])) := by
    refine S3.trans ?_
    refine (Own.P.ishr K3.here K3.exec (hb hby d_jdk_52_method_4_code_41) ).trans ?_
    refine (Own.P.i2b K3.here K3.exec (hb hby d_jdk_52_method_4_code_42) ).trans ?_
    exact Go.refl _
  obtain ⟨T5, h5, K5, W5, V5, G5⟩ := K3.stB V  (j := ((2 : Int32) <<< ((1 : Int32) &&& 31))) ⟨by decide, by decide⟩ 4 rfl (Nat.le_of_ble_eq_true rfl) (Or.inl (List.mem_of_getElem? (i := 0) rfl)) (pc := 43) (Ls := #[.val (.ref a1), .val (.int (((2 : Int32) <<< ((1 : Int32) &&& 31)) + (1 : Int32))), .val (.int ch)]) (rest := []) (hb hby d_jdk_52_method_4_code_43)
  have S5 : Go p e below A0 (T5.setTop (mkF m 44 #[.val (.ref a1), .val (.int (((2 : Int32) <<< ((1 : Int32) &&& 31)) + (1 : Int32))), .val (.int ch)] [])) := S4.trans G5
  rw [own_nl] at V5
  have S6 : Go p e below A0 (T5.setTop (mkF m 47 #[.val (.ref a1), .val (.int (((2 : Int32) <<< ((1 : Int32) &&& 31)) + (1 : Int32))), .val (.int ch)] [(.int ch), (.int (((2 : Int32) <<< ((1 : Int32) &&& 31)) + (1 : Int32))), (.ref a1)])) := by
    refine S5.trans ?_
    refine (Own.P.aloadN K5.here K5.exec (hb hby d_jdk_52_method_4_code_44) rfl rfl).trans ?_
    refine (Own.P.iloadN K5.here K5.exec (hb hby d_jdk_52_method_4_code_45) rfl).trans ?_
    refine (Own.P.iloadN K5.here K5.exec (hb hby d_jdk_52_method_4_code_46) rfl).trans ?_
    exact Go.refl _
  obtain ⟨T7, K7, G7⟩ := K5.getS "" (Or.inl (hw _ (List.mem_of_getElem? (i := 95) rfl))) Via.refl (A3.ext K5.ext) (pc := 47) (Ls := #[.val (.ref a1), .val (.int (((2 : Int32) <<< ((1 : Int32) &&& 31)) + (1 : Int32))), .val (.int ch)]) (rest := [(.int ch), (.int (((2 : Int32) <<< ((1 : Int32) &&& 31)) + (1 : Int32))), (.ref a1)]) (hb hby d_jdk_52_method_4_code_47)
  have S7 : Go p e below A0 (T7.setTop (mkF m 50 #[.val (.ref a1), .val (.int (((2 : Int32) <<< ((1 : Int32) &&& 31)) + (1 : Int32))), .val (.int ch)] [(.int (8 : Int32)), (.int ch), (.int (((2 : Int32) <<< ((1 : Int32) &&& 31)) + (1 : Int32))), (.ref a1)])) := S6.trans G7
  have S8 : Go p e below A0 (T7.setTop (mkF m 52 #[.val (.ref a1), .val (.int (((2 : Int32) <<< ((1 : Int32) &&& 31)) + (1 : Int32))), .val (.int ch)] [(.int ((ch >>> ((8 : Int32) &&& 31)).toInt8.toInt32)), (.int (((2 : Int32) <<< ((1 : Int32) &&& 31)) + (1 : Int32))), (.ref a1)])) := by
    refine S7.trans ?_
    refine (Own.P.ishr K7.here K7.exec (hb hby d_jdk_52_method_4_code_50) ).trans ?_
    refine (Own.P.i2b K7.here K7.exec (hb hby d_jdk_52_method_4_code_51) ).trans ?_
    exact Go.refl _
  obtain ⟨T9, h9, K9, W9, V9, G9⟩ := K7.stB V5  (j := (((2 : Int32) <<< ((1 : Int32) &&& 31)) + (1 : Int32))) ⟨by decide, by decide⟩ 5 rfl (Nat.le_of_ble_eq_true rfl) (Or.inl (List.mem_of_getElem? (i := 0) rfl)) (pc := 52) (Ls := #[.val (.ref a1), .val (.int (((2 : Int32) <<< ((1 : Int32) &&& 31)) + (1 : Int32))), .val (.int ch)]) (rest := []) (hb hby d_jdk_52_method_4_code_52)
  have S9 : Go p e below A0 (T9.setTop (mkF m 53 #[.val (.ref a1), .val (.int (((2 : Int32) <<< ((1 : Int32) &&& 31)) + (1 : Int32))), .val (.int ch)] [])) := S8.trans G9
  rw [own_nh] at V9
  exact ⟨s.vm, T9, h9, none, _, _, K9, by decide, by decide, ⟨rfl, V9⟩, K9.retV S9 hret (hb hby d_jdk_52_method_4_code_53)⟩
theorem d_jdk_52_method_5_code_0 : decode jdk_52_method_5_code 0 = .ok (.getstatic 44, 3) := by decide +kernel
theorem d_jdk_52_method_5_code_3 : decode jdk_52_method_5_code 3 = .ok (.ifCond .ne 25, 3) := by decide +kernel
theorem d_jdk_52_method_5_code_28 : decode jdk_52_method_5_code 28 = .ok (.iload_n 1, 1) := by decide +kernel
theorem d_jdk_52_method_5_code_29 : decode jdk_52_method_5_code 29 = .ok (.iconst 1, 1) := by decide +kernel
theorem d_jdk_52_method_5_code_30 : decode jdk_52_method_5_code 30 = .ok (.ishl, 1) := by decide +kernel
theorem d_jdk_52_method_5_code_31 : decode jdk_52_method_5_code 31 = .ok (.istore_n 1, 1) := by decide +kernel
theorem d_jdk_52_method_5_code_32 : decode jdk_52_method_5_code 32 = .ok (.aload_n 0, 1) := by decide +kernel
theorem d_jdk_52_method_5_code_33 : decode jdk_52_method_5_code 33 = .ok (.iload_n 1, 1) := by decide +kernel
theorem d_jdk_52_method_5_code_34 : decode jdk_52_method_5_code 34 = .ok (.iinc 1 1, 3) := by decide +kernel
theorem d_jdk_52_method_5_code_37 : decode jdk_52_method_5_code 37 = .ok (.baload, 1) := by decide +kernel
theorem d_jdk_52_method_5_code_38 : decode jdk_52_method_5_code 38 = .ok (.sipush 255, 3) := by decide +kernel
theorem d_jdk_52_method_5_code_41 : decode jdk_52_method_5_code 41 = .ok (.iand, 1) := by decide +kernel
theorem d_jdk_52_method_5_code_42 : decode jdk_52_method_5_code 42 = .ok (.getstatic 59, 3) := by decide +kernel
theorem d_jdk_52_method_5_code_45 : decode jdk_52_method_5_code 45 = .ok (.ishl, 1) := by decide +kernel
theorem d_jdk_52_method_5_code_46 : decode jdk_52_method_5_code 46 = .ok (.aload_n 0, 1) := by decide +kernel
theorem d_jdk_52_method_5_code_47 : decode jdk_52_method_5_code 47 = .ok (.iload_n 1, 1) := by decide +kernel
theorem d_jdk_52_method_5_code_48 : decode jdk_52_method_5_code 48 = .ok (.baload, 1) := by decide +kernel
theorem d_jdk_52_method_5_code_49 : decode jdk_52_method_5_code 49 = .ok (.sipush 255, 3) := by decide +kernel
theorem d_jdk_52_method_5_code_52 : decode jdk_52_method_5_code 52 = .ok (.iand, 1) := by decide +kernel
theorem d_jdk_52_method_5_code_53 : decode jdk_52_method_5_code 53 = .ok (.getstatic 63, 3) := by decide +kernel
theorem d_jdk_52_method_5_code_56 : decode jdk_52_method_5_code 56 = .ok (.ishl, 1) := by decide +kernel
theorem d_jdk_52_method_5_code_57 : decode jdk_52_method_5_code 57 = .ok (.ior, 1) := by decide +kernel
theorem d_jdk_52_method_5_code_58 : decode jdk_52_method_5_code 58 = .ok (.i2c, 1) := by decide +kernel
theorem d_jdk_52_method_5_code_59 : decode jdk_52_method_5_code 59 = .ok (.ireturn, 1) := by decide +kernel
set_option maxRecDepth 65536 in
set_option maxHeartbeats 40000000 in
theorem c_get0 (l : Launch) (Z : State) (a0 : Array Value) (hw : ∀ d ∈ tables_1, d.before a0 Z = true) (n0 : Nat) (h0 : Heap) (O0 : Old Z n0 h0) (A1 : Sta Z Z.heap "java/lang/StringUTF16" "$assertionsDisabled" "Z" (.int 1)) (A2 : Sta Z Z.heap "java/lang/StringUTF16" "HI_BYTE_SHIFT" "I" (.int 0)) (A3 : Sta Z Z.heap "java/lang/StringUTF16" "LO_BYTE_SHIFT" "I" (.int 8)) (a1 : Addr) (kb : ClassId) (v0 v1 v2 v3 v4 v5 : Int32) (V : Arv Z h0 a1 kb .byte 6 [.int v0, .int v1, .int v2, .int v3, .int v4, .int v5] (.int 0)) (ch : Int32) (rc : ¬ ch < 0 ∧ ¬ (65535 : Int32) < ch) (e1 : v0 = lo8 ch) (e2 : v1 = hi8 ch) :
    Own.Ctr false l (⟨"java/lang/StringUTF16", "getChar", "([BI)C"⟩ : MethodName) jdk_52_method_5_code 2 (some .char) ({ frames := 0, cells := 0, slots := 0, locals := 0 } : Room) #[(.ref a1), (.int (0 : Int32))] Z h0 Own.VT [] (fun v h vm => v = some (.int ch) ∧ h = h0) := by
  refine Own.body (plainFor_of_name pn_1) O0 (fun _ _ _ _ q => by cases q) (fun _ _ _ _ q _ => q) ?_
  intro p e s m below meth c T0 hby hml0 hret hnm hV0 K0
  change Own.Wk false p l e ({ frames := 0, cells := 0, slots := 0, locals := 0 } : Room) s m #[(.ref a1), (.int (0 : Int32))] below meth c "java/lang/StringUTF16" Z n0 h0 [] s.vm T0 h0 0 0 at K0
  have hml : c.maxLocals = 2 := hml0
  have S0 : Go p e below (T0.setTop (entryFrame m #[(.ref a1), (.int (0 : Int32))] 2)) (T0.setTop (mkF m 0 #[.val (.ref a1), .val (.int (0 : Int32))] [])) := fun t k => castTop (by first | rfl | (simp [entryFrame, mkF, argsToLocals, Value.category]; done)) k
  generalize T0.setTop (entryFrame m #[(.ref a1), (.int (0 : Int32))] 2) = A0 at S0 ⊢
  obtain ⟨T1, K1, G1⟩ := K0.getS "" (Or.inl (hw _ (List.mem_of_getElem? (i := 93) rfl))) Via.refl (A1.ext K0.ext) (pc := 0) (Ls := #[.val (.ref a1), .val (.int (0 : Int32))]) (rest := []) (hb hby d_jdk_52_method_5_code_0)
  have S1 : Go p e below A0 (T1.setTop (mkF m 3 #[.val (.ref a1), .val (.int (0 : Int32))] [(.int (1 : Int32))])) := S0.trans G1
  have S2 : Go p e below A0 (T1.setTop (mkF m 37 #[.val (.ref a1), .val (.int (((0 : Int32) <<< ((1 : Int32) &&& 31)) + (1 : Int32)))] [(.int ((0 : Int32) <<< ((1 : Int32) &&& 31))), (.ref a1)])) := by
    refine S1.trans ?_
    refine (Own.P.ifYes K1.here K1.exec 28 (hb hby d_jdk_52_method_5_code_3) (by decide) (by decide) (by decide)).trans ?_
    refine (Own.P.iloadN K1.here K1.exec (hb hby d_jdk_52_method_5_code_28) rfl).trans ?_
    refine (Own.P.iconst K1.here K1.exec (1 : Int32) (hb hby d_jdk_52_method_5_code_29) rfl).trans ?_
    refine (Own.P.ishl K1.here K1.exec (hb hby d_jdk_52_method_5_code_30) ).trans ?_
    refine (Own.P.istoreN K1.here K1.exec (l' := #[.val (.ref a1), .val (.int ((0 : Int32) <<< ((1 : Int32) &&& 31)))]) (hb hby d_jdk_52_method_5_code_31) rfl).trans ?_
    refine (Own.P.aloadN K1.here K1.exec (hb hby d_jdk_52_method_5_code_32) rfl rfl).trans ?_
    refine (Own.P.iloadN K1.here K1.exec (hb hby d_jdk_52_method_5_code_33) rfl).trans ?_
    refine (Own.P.iinc K1.here K1.exec (v := (((0 : Int32) <<< ((1 : Int32) &&& 31)) + (1 : Int32))) (l' := #[.val (.ref a1), .val (.int (((0 : Int32) <<< ((1 : Int32) &&& 31)) + (1 : Int32)))]) (hb hby d_jdk_52_method_5_code_34) rfl rfl rfl).trans ?_
    exact Go.refl _
  have G3 := K1.ldB V (j := ((0 : Int32) <<< ((1 : Int32) &&& 31))) ⟨by decide, by decide⟩ (v := (.int v0)) rfl (pc := 37) (Ls := #[.val (.ref a1), .val (.int (((0 : Int32) <<< ((1 : Int32) &&& 31)) + (1 : Int32)))]) (rest := []) (hb hby d_jdk_52_method_5_code_37)
  have S3 : Go p e below A0 (T1.setTop (mkF m 38 #[.val (.ref a1), .val (.int (((0 : Int32) <<< ((1 : Int32) &&& 31)) + (1 : Int32)))] [(.int v0)])) := S2.trans G3
  have S4 : Go p e below A0 (T1.setTop (mkF m 42 #[.val (.ref a1), .val (.int (((0 : Int32) <<< ((1 : Int32) &&& 31)) + (1 : Int32)))] [(.int (v0 &&& (255 : Int32)))])) := by
    refine S3.trans ?_
    refine (Own.P.sipush K1.here K1.exec (255 : Int32) (hb hby d_jdk_52_method_5_code_38) rfl).trans ?_
    refine (Own.P.iand K1.here K1.exec (hb hby d_jdk_52_method_5_code_41) ).trans ?_
    exact Go.refl _
  obtain ⟨T5, K5, G5⟩ := K1.getS "" (Or.inl (hw _ (List.mem_of_getElem? (i := 94) rfl))) Via.refl (A2.ext K1.ext) (pc := 42) (Ls := #[.val (.ref a1), .val (.int (((0 : Int32) <<< ((1 : Int32) &&& 31)) + (1 : Int32)))]) (rest := [(.int (v0 &&& (255 : Int32)))]) (hb hby d_jdk_52_method_5_code_42)
  have S5 : Go p e below A0 (T5.setTop (mkF m 45 #[.val (.ref a1), .val (.int (((0 : Int32) <<< ((1 : Int32) &&& 31)) + (1 : Int32)))] [(.int (0 : Int32)), (.int (v0 &&& (255 : Int32)))])) := S4.trans G5
  have S6 : Go p e below A0 (T5.setTop (mkF m 48 #[.val (.ref a1), .val (.int (((0 : Int32) <<< ((1 : Int32) &&& 31)) + (1 : Int32)))] [(.int (((0 : Int32) <<< ((1 : Int32) &&& 31)) + (1 : Int32))), (.ref a1), (.int ((v0 &&& (255 : Int32)) <<< ((0 : Int32) &&& 31)))])) := by
    refine S5.trans ?_
    refine (Own.P.ishl K5.here K5.exec (hb hby d_jdk_52_method_5_code_45) ).trans ?_
    refine (Own.P.aloadN K5.here K5.exec (hb hby d_jdk_52_method_5_code_46) rfl rfl).trans ?_
    refine (Own.P.iloadN K5.here K5.exec (hb hby d_jdk_52_method_5_code_47) rfl).trans ?_
    exact Go.refl _
  have G7 := K5.ldB V (j := (((0 : Int32) <<< ((1 : Int32) &&& 31)) + (1 : Int32))) ⟨by decide, by decide⟩ (v := (.int v1)) rfl (pc := 48) (Ls := #[.val (.ref a1), .val (.int (((0 : Int32) <<< ((1 : Int32) &&& 31)) + (1 : Int32)))]) (rest := [(.int ((v0 &&& (255 : Int32)) <<< ((0 : Int32) &&& 31)))]) (hb hby d_jdk_52_method_5_code_48)
  have S7 : Go p e below A0 (T5.setTop (mkF m 49 #[.val (.ref a1), .val (.int (((0 : Int32) <<< ((1 : Int32) &&& 31)) + (1 : Int32)))] [(.int v1), (.int ((v0 &&& (255 : Int32)) <<< ((0 : Int32) &&& 31)))])) := S6.trans G7
  have S8 : Go p e below A0 (T5.setTop (mkF m 53 #[.val (.ref a1), .val (.int (((0 : Int32) <<< ((1 : Int32) &&& 31)) + (1 : Int32)))] [(.int (v1 &&& (255 : Int32))), (.int ((v0 &&& (255 : Int32)) <<< ((0 : Int32) &&& 31)))])) := by
    refine S7.trans ?_
    refine (Own.P.sipush K5.here K5.exec (255 : Int32) (hb hby d_jdk_52_method_5_code_49) rfl).trans ?_
    refine (Own.P.iand K5.here K5.exec (hb hby d_jdk_52_method_5_code_52) ).trans ?_
    exact Go.refl _
  obtain ⟨T9, K9, G9⟩ := K5.getS "" (Or.inl (hw _ (List.mem_of_getElem? (i := 95) rfl))) Via.refl (A3.ext K5.ext) (pc := 53) (Ls := #[.val (.ref a1), .val (.int (((0 : Int32) <<< ((1 : Int32) &&& 31)) + (1 : Int32)))]) (rest := [(.int (v1 &&& (255 : Int32))), (.int ((v0 &&& (255 : Int32)) <<< ((0 : Int32) &&& 31)))]) (hb hby d_jdk_52_method_5_code_53)
  have S9 : Go p e below A0 (T9.setTop (mkF m 56 #[.val (.ref a1), .val (.int (((0 : Int32) <<< ((1 : Int32) &&& 31)) + (1 : Int32)))] [(.int (8 : Int32)), (.int (v1 &&& (255 : Int32))), (.int ((v0 &&& (255 : Int32)) <<< ((0 : Int32) &&& 31)))])) := S8.trans G9
  have S10 : Go p e below A0 (T9.setTop (mkF m 59 #[.val (.ref a1), .val (.int (((0 : Int32) <<< ((1 : Int32) &&& 31)) + (1 : Int32)))] [(.int ((((v0 &&& (255 : Int32)) <<< ((0 : Int32) &&& 31)) ||| ((v1 &&& (255 : Int32)) <<< ((8 : Int32) &&& 31))).toUInt32.toUInt16.toUInt32.toInt32))])) := by
    refine S9.trans ?_
    refine (Own.P.ishl K9.here K9.exec (hb hby d_jdk_52_method_5_code_56) ).trans ?_
    refine (Own.P.ior K9.here K9.exec (hb hby d_jdk_52_method_5_code_57) ).trans ?_
    refine (Own.P.i2c K9.here K9.exec (hb hby d_jdk_52_method_5_code_58) ).trans ?_
    exact Go.refl _
  have ec : ((((v0 &&& (255 : Int32)) <<< ((0 : Int32) &&& 31)) ||| ((v1 &&& (255 : Int32)) <<< ((8 : Int32) &&& 31))).toUInt32.toUInt16.toUInt32.toInt32) = ch := by rw [e1, e2]; exact pair_says rc.1 rc.2
  rw [ec] at S10
  exact ⟨s.vm, T9, h0, (some (.int ch)), _, _, K9, by decide, by decide, ⟨rfl, rfl⟩, K9.retW S10 hret (own_cn rc.1 rc.2) (Or.inl ⟨rfl, by decide, _, rfl⟩) (hb hby d_jdk_52_method_5_code_59)⟩
set_option maxRecDepth 65536 in
set_option maxHeartbeats 40000000 in
theorem c_get1 (l : Launch) (Z : State) (a0 : Array Value) (hw : ∀ d ∈ tables_1, d.before a0 Z = true) (n0 : Nat) (h0 : Heap) (O0 : Old Z n0 h0) (A1 : Sta Z Z.heap "java/lang/StringUTF16" "$assertionsDisabled" "Z" (.int 1)) (A2 : Sta Z Z.heap "java/lang/StringUTF16" "HI_BYTE_SHIFT" "I" (.int 0)) (A3 : Sta Z Z.heap "java/lang/StringUTF16" "LO_BYTE_SHIFT" "I" (.int 8)) (a1 : Addr) (kb : ClassId) (v0 v1 v2 v3 v4 v5 : Int32) (V : Arv Z h0 a1 kb .byte 6 [.int v0, .int v1, .int v2, .int v3, .int v4, .int v5] (.int 0)) (ch : Int32) (rc : ¬ ch < 0 ∧ ¬ (65535 : Int32) < ch) (e1 : v2 = lo8 ch) (e2 : v3 = hi8 ch) :
    Own.Ctr false l (⟨"java/lang/StringUTF16", "getChar", "([BI)C"⟩ : MethodName) jdk_52_method_5_code 2 (some .char) ({ frames := 0, cells := 0, slots := 0, locals := 0 } : Room) #[(.ref a1), (.int (1 : Int32))] Z h0 Own.VT [] (fun v h vm => v = some (.int ch) ∧ h = h0) := by
  refine Own.body (plainFor_of_name pn_1) O0 (fun _ _ _ _ q => by cases q) (fun _ _ _ _ q _ => q) ?_
  intro p e s m below meth c T0 hby hml0 hret hnm hV0 K0
  change Own.Wk false p l e ({ frames := 0, cells := 0, slots := 0, locals := 0 } : Room) s m #[(.ref a1), (.int (1 : Int32))] below meth c "java/lang/StringUTF16" Z n0 h0 [] s.vm T0 h0 0 0 at K0
  have hml : c.maxLocals = 2 := hml0
  have S0 : Go p e below (T0.setTop (entryFrame m #[(.ref a1), (.int (1 : Int32))] 2)) (T0.setTop (mkF m 0 #[.val (.ref a1), .val (.int (1 : Int32))] [])) := fun t k => castTop (by first | rfl | (simp [entryFrame, mkF, argsToLocals, Value.category]; done)) k
  generalize T0.setTop (entryFrame m #[(.ref a1), (.int (1 : Int32))] 2) = A0 at S0 ⊢
  obtain ⟨T1, K1, G1⟩ := K0.getS "" (Or.inl (hw _ (List.mem_of_getElem? (i := 93) rfl))) Via.refl (A1.ext K0.ext) (pc := 0) (Ls := #[.val (.ref a1), .val (.int (1 : Int32))]) (rest := []) (hb hby d_jdk_52_method_5_code_0)
  have S1 : Go p e below A0 (T1.setTop (mkF m 3 #[.val (.ref a1), .val (.int (1 : Int32))] [(.int (1 : Int32))])) := S0.trans G1
  have S2 : Go p e below A0 (T1.setTop (mkF m 37 #[.val (.ref a1), .val (.int (((1 : Int32) <<< ((1 : Int32) &&& 31)) + (1 : Int32)))] [(.int ((1 : Int32) <<< ((1 : Int32) &&& 31))), (.ref a1)])) := by
    refine S1.trans ?_
    refine (Own.P.ifYes K1.here K1.exec 28 (hb hby d_jdk_52_method_5_code_3) (by decide) (by decide) (by decide)).trans ?_
    refine (Own.P.iloadN K1.here K1.exec (hb hby d_jdk_52_method_5_code_28) rfl).trans ?_
    refine (Own.P.iconst K1.here K1.exec (1 : Int32) (hb hby d_jdk_52_method_5_code_29) rfl).trans ?_
    refine (Own.P.ishl K1.here K1.exec (hb hby d_jdk_52_method_5_code_30) ).trans ?_
    refine (Own.P.istoreN K1.here K1.exec (l' := #[.val (.ref a1), .val (.int ((1 : Int32) <<< ((1 : Int32) &&& 31)))]) (hb hby d_jdk_52_method_5_code_31) rfl).trans ?_
    refine (Own.P.aloadN K1.here K1.exec (hb hby d_jdk_52_method_5_code_32) rfl rfl).trans ?_
    refine (Own.P.iloadN K1.here K1.exec (hb hby d_jdk_52_method_5_code_33) rfl).trans ?_
    refine (Own.P.iinc K1.here K1.exec (v := (((1 : Int32) <<< ((1 : Int32) &&& 31)) + (1 : Int32))) (l' := #[.val (.ref a1), .val (.int (((1 : Int32) <<< ((1 : Int32) &&& 31)) + (1 : Int32)))]) (hb hby d_jdk_52_method_5_code_34) rfl rfl rfl).trans ?_
    exact Go.refl _
  have G3 := K1.ldB V (j := ((1 : Int32) <<< ((1 : Int32) &&& 31))) ⟨by decide, by decide⟩ (v := (.int v2)) rfl (pc := 37) (Ls := #[.val (.ref a1), .val (.int (((1 : Int32) <<< ((1 : Int32) &&& 31)) + (1 : Int32)))]) (rest := []) (hb hby d_jdk_52_method_5_code_37)
  have S3 : Go p e below A0 (T1.setTop (mkF m 38 #[.val (.ref a1), .val (.int (((1 : Int32) <<< ((1 : Int32) &&& 31)) + (1 : Int32)))] [(.int v2)])) := S2.trans G3
  have S4 : Go p e below A0 (T1.setTop (mkF m 42 #[.val (.ref a1), .val (.int (((1 : Int32) <<< ((1 : Int32) &&& 31)) + (1 : Int32)))] [(.int (v2 &&& (255 : Int32)))])) := by
    refine S3.trans ?_
    refine (Own.P.sipush K1.here K1.exec (255 : Int32) (hb hby d_jdk_52_method_5_code_38) rfl).trans ?_
    refine (Own.P.iand K1.here K1.exec (hb hby d_jdk_52_method_5_code_41) ).trans ?_
    exact Go.refl _
  obtain ⟨T5, K5, G5⟩ := K1.getS "" (Or.inl (hw _ (List.mem_of_getElem? (i := 94) rfl))) Via.refl (A2.ext K1.ext) (pc := 42) (Ls := #[.val (.ref a1), .val (.int (((1 : Int32) <<< ((1 : Int32) &&& 31)) + (1 : Int32)))]) (rest := [(.int (v2 &&& (255 : Int32)))]) (hb hby d_jdk_52_method_5_code_42)
  have S5 : Go p e below A0 (T5.setTop (mkF m 45 #[.val (.ref a1), .val (.int (((1 : Int32) <<< ((1 : Int32) &&& 31)) + (1 : Int32)))] [(.int (0 : Int32)), (.int (v2 &&& (255 : Int32)))])) := S4.trans G5
  have S6 : Go p e below A0 (T5.setTop (mkF m 48 #[.val (.ref a1), .val (.int (((1 : Int32) <<< ((1 : Int32) &&& 31)) + (1 : Int32)))] [(.int (((1 : Int32) <<< ((1 : Int32) &&& 31)) + (1 : Int32))), (.ref a1), (.int ((v2 &&& (255 : Int32)) <<< ((0 : Int32) &&& 31)))])) := by
    refine S5.trans ?_
    refine (Own.P.ishl K5.here K5.exec (hb hby d_jdk_52_method_5_code_45) ).trans ?_
    refine (Own.P.aloadN K5.here K5.exec (hb hby d_jdk_52_method_5_code_46) rfl rfl).trans ?_
    refine (Own.P.iloadN K5.here K5.exec (hb hby d_jdk_52_method_5_code_47) rfl).trans ?_
    exact Go.refl _
  have G7 := K5.ldB V (j := (((1 : Int32) <<< ((1 : Int32) &&& 31)) + (1 : Int32))) ⟨by decide, by decide⟩ (v := (.int v3)) rfl (pc := 48) (Ls := #[.val (.ref a1), .val (.int (((1 : Int32) <<< ((1 : Int32) &&& 31)) + (1 : Int32)))]) (rest := [(.int ((v2 &&& (255 : Int32)) <<< ((0 : Int32) &&& 31)))]) (hb hby d_jdk_52_method_5_code_48)
  have S7 : Go p e below A0 (T5.setTop (mkF m 49 #[.val (.ref a1), .val (.int (((1 : Int32) <<< ((1 : Int32) &&& 31)) + (1 : Int32)))] [(.int v3), (.int ((v2 &&& (255 : Int32)) <<< ((0 : Int32) &&& 31)))])) := S6.trans G7
  have S8 : Go p e below A0 (T5.setTop (mkF m 53 #[.val (.ref a1), .val (.int (((1 : Int32) <<< ((1 : Int32) &&& 31)) + (1 : Int32)))] [(.int (v3 &&& (255 : Int32))), (.int ((v2 &&& (255 : Int32)) <<< ((0 : Int32) &&& 31)))])) := by
    refine S7.trans ?_
    refine (Own.P.sipush K5.here K5.exec (255 : Int32) (hb hby d_jdk_52_method_5_code_49) rfl).trans ?_
    refine (Own.P.iand K5.here K5.exec (hb hby d_jdk_52_method_5_code_52) ).trans ?_
    exact Go.refl _
  obtain ⟨T9, K9, G9⟩ := K5.getS "" (Or.inl (hw _ (List.mem_of_getElem? (i := 95) rfl))) Via.refl (A3.ext K5.ext) (pc := 53) (Ls := #[.val (.ref a1), .val (.int (((1 : Int32) <<< ((1 : Int32) &&& 31)) + (1 : Int32)))]) (rest := [(.int (v3 &&& (255 : Int32))), (.int ((v2 &&& (255 : Int32)) <<< ((0 : Int32) &&& 31)))]) (hb hby d_jdk_52_method_5_code_53)
  have S9 : Go p e below A0 (T9.setTop (mkF m 56 #[.val (.ref a1), .val (.int (((1 : Int32) <<< ((1 : Int32) &&& 31)) + (1 : Int32)))] [(.int (8 : Int32)), (.int (v3 &&& (255 : Int32))), (.int ((v2 &&& (255 : Int32)) <<< ((0 : Int32) &&& 31)))])) := S8.trans G9
  have S10 : Go p e below A0 (T9.setTop (mkF m 59 #[.val (.ref a1), .val (.int (((1 : Int32) <<< ((1 : Int32) &&& 31)) + (1 : Int32)))] [(.int ((((v2 &&& (255 : Int32)) <<< ((0 : Int32) &&& 31)) ||| ((v3 &&& (255 : Int32)) <<< ((8 : Int32) &&& 31))).toUInt32.toUInt16.toUInt32.toInt32))])) := by
    refine S9.trans ?_
    refine (Own.P.ishl K9.here K9.exec (hb hby d_jdk_52_method_5_code_56) ).trans ?_
    refine (Own.P.ior K9.here K9.exec (hb hby d_jdk_52_method_5_code_57) ).trans ?_
    refine (Own.P.i2c K9.here K9.exec (hb hby d_jdk_52_method_5_code_58) ).trans ?_
    exact Go.refl _
  have ec : ((((v2 &&& (255 : Int32)) <<< ((0 : Int32) &&& 31)) ||| ((v3 &&& (255 : Int32)) <<< ((8 : Int32) &&& 31))).toUInt32.toUInt16.toUInt32.toInt32) = ch := by rw [e1, e2]; exact pair_says rc.1 rc.2
  rw [ec] at S10
  exact ⟨s.vm, T9, h0, (some (.int ch)), _, _, K9, by decide, by decide, ⟨rfl, rfl⟩, K9.retW S10 hret (own_cn rc.1 rc.2) (Or.inl ⟨rfl, by decide, _, rfl⟩) (hb hby d_jdk_52_method_5_code_59)⟩
set_option maxRecDepth 65536 in
set_option maxHeartbeats 40000000 in
theorem c_get2 (l : Launch) (Z : State) (a0 : Array Value) (hw : ∀ d ∈ tables_1, d.before a0 Z = true) (n0 : Nat) (h0 : Heap) (O0 : Old Z n0 h0) (A1 : Sta Z Z.heap "java/lang/StringUTF16" "$assertionsDisabled" "Z" (.int 1)) (A2 : Sta Z Z.heap "java/lang/StringUTF16" "HI_BYTE_SHIFT" "I" (.int 0)) (A3 : Sta Z Z.heap "java/lang/StringUTF16" "LO_BYTE_SHIFT" "I" (.int 8)) (a1 : Addr) (kb : ClassId) (v0 v1 v2 v3 v4 v5 : Int32) (V : Arv Z h0 a1 kb .byte 6 [.int v0, .int v1, .int v2, .int v3, .int v4, .int v5] (.int 0)) (ch : Int32) (rc : ¬ ch < 0 ∧ ¬ (65535 : Int32) < ch) (e1 : v4 = lo8 ch) (e2 : v5 = hi8 ch) :
    Own.Ctr false l (⟨"java/lang/StringUTF16", "getChar", "([BI)C"⟩ : MethodName) jdk_52_method_5_code 2 (some .char) ({ frames := 0, cells := 0, slots := 0, locals := 0 } : Room) #[(.ref a1), (.int (2 : Int32))] Z h0 Own.VT [] (fun v h vm => v = some (.int ch) ∧ h = h0) := by
  refine Own.body (plainFor_of_name pn_1) O0 (fun _ _ _ _ q => by cases q) (fun _ _ _ _ q _ => q) ?_
  intro p e s m below meth c T0 hby hml0 hret hnm hV0 K0
  change Own.Wk false p l e ({ frames := 0, cells := 0, slots := 0, locals := 0 } : Room) s m #[(.ref a1), (.int (2 : Int32))] below meth c "java/lang/StringUTF16" Z n0 h0 [] s.vm T0 h0 0 0 at K0
  have hml : c.maxLocals = 2 := hml0
  have S0 : Go p e below (T0.setTop (entryFrame m #[(.ref a1), (.int (2 : Int32))] 2)) (T0.setTop (mkF m 0 #[.val (.ref a1), .val (.int (2 : Int32))] [])) := fun t k => castTop (by first | rfl | (simp [entryFrame, mkF, argsToLocals, Value.category]; done)) k
  generalize T0.setTop (entryFrame m #[(.ref a1), (.int (2 : Int32))] 2) = A0 at S0 ⊢
  obtain ⟨T1, K1, G1⟩ := K0.getS "" (Or.inl (hw _ (List.mem_of_getElem? (i := 93) rfl))) Via.refl (A1.ext K0.ext) (pc := 0) (Ls := #[.val (.ref a1), .val (.int (2 : Int32))]) (rest := []) (hb hby d_jdk_52_method_5_code_0)
  have S1 : Go p e below A0 (T1.setTop (mkF m 3 #[.val (.ref a1), .val (.int (2 : Int32))] [(.int (1 : Int32))])) := S0.trans G1
  have S2 : Go p e below A0 (T1.setTop (mkF m 37 #[.val (.ref a1), .val (.int (((2 : Int32) <<< ((1 : Int32) &&& 31)) + (1 : Int32)))] [(.int ((2 : Int32) <<< ((1 : Int32) &&& 31))), (.ref a1)])) := by
    refine S1.trans ?_
    refine (Own.P.ifYes K1.here K1.exec 28 (hb hby d_jdk_52_method_5_code_3) (by decide) (by decide) (by decide)).trans ?_
    refine (Own.P.iloadN K1.here K1.exec (hb hby d_jdk_52_method_5_code_28) rfl).trans ?_
    refine (Own.P.iconst K1.here K1.exec (1 : Int32) (hb hby d_jdk_52_method_5_code_29) rfl).trans ?_
    refine (Own.P.ishl K1.here K1.exec (hb hby d_jdk_52_method_5_code_30) ).trans ?_
    refine (Own.P.istoreN K1.here K1.exec (l' := #[.val (.ref a1), .val (.int ((2 : Int32) <<< ((1 : Int32) &&& 31)))]) (hb hby d_jdk_52_method_5_code_31) rfl).trans ?_
    refine (Own.P.aloadN K1.here K1.exec (hb hby d_jdk_52_method_5_code_32) rfl rfl).trans ?_
    refine (Own.P.iloadN K1.here K1.exec (hb hby d_jdk_52_method_5_code_33) rfl).trans ?_
    refine (Own.P.iinc K1.here K1.exec (v := (((2 : Int32) <<< ((1 : Int32) &&& 31)) + (1 : Int32))) (l' := #[.val (.ref a1), .val (.int (((2 : Int32) <<< ((1 : Int32) &&& 31)) + (1 : Int32)))]) (hb hby d_jdk_52_method_5_code_34) rfl rfl rfl).trans ?_
    exact Go.refl _
  have G3 := K1.ldB V (j := ((2 : Int32) <<< ((1 : Int32) &&& 31))) ⟨by decide, by decide⟩ (v := (.int v4)) rfl (pc := 37) (Ls := #[.val (.ref a1), .val (.int (((2 : Int32) <<< ((1 : Int32) &&& 31)) + (1 : Int32)))]) (rest := []) (hb hby d_jdk_52_method_5_code_37)
  have S3 : Go p e below A0 (T1.setTop (mkF m 38 #[.val (.ref a1), .val (.int (((2 : Int32) <<< ((1 : Int32) &&& 31)) + (1 : Int32)))] [(.int v4)])) := S2.trans G3
  have S4 : Go p e below A0 (T1.setTop (mkF m 42 #[.val (.ref a1), .val (.int (((2 : Int32) <<< ((1 : Int32) &&& 31)) + (1 : Int32)))] [(.int (v4 &&& (255 : Int32)))])) := by
    refine S3.trans ?_
    refine (Own.P.sipush K1.here K1.exec (255 : Int32) (hb hby d_jdk_52_method_5_code_38) rfl).trans ?_
    refine (Own.P.iand K1.here K1.exec (hb hby d_jdk_52_method_5_code_41) ).trans ?_
    exact Go.refl _
  obtain ⟨T5, K5, G5⟩ := K1.getS "" (Or.inl (hw _ (List.mem_of_getElem? (i := 94) rfl))) Via.refl (A2.ext K1.ext) (pc := 42) (Ls := #[.val (.ref a1), .val (.int (((2 : Int32) <<< ((1 : Int32) &&& 31)) + (1 : Int32)))]) (rest := [(.int (v4 &&& (255 : Int32)))]) (hb hby d_jdk_52_method_5_code_42)
  have S5 : Go p e below A0 (T5.setTop (mkF m 45 #[.val (.ref a1), .val (.int (((2 : Int32) <<< ((1 : Int32) &&& 31)) + (1 : Int32)))] [(.int (0 : Int32)), (.int (v4 &&& (255 : Int32)))])) := S4.trans G5
  have S6 : Go p e below A0 (T5.setTop (mkF m 48 #[.val (.ref a1), .val (.int (((2 : Int32) <<< ((1 : Int32) &&& 31)) + (1 : Int32)))] [(.int (((2 : Int32) <<< ((1 : Int32) &&& 31)) + (1 : Int32))), (.ref a1), (.int ((v4 &&& (255 : Int32)) <<< ((0 : Int32) &&& 31)))])) := by
    refine S5.trans ?_
    refine (Own.P.ishl K5.here K5.exec (hb hby d_jdk_52_method_5_code_45) ).trans ?_
    refine (Own.P.aloadN K5.here K5.exec (hb hby d_jdk_52_method_5_code_46) rfl rfl).trans ?_
    refine (Own.P.iloadN K5.here K5.exec (hb hby d_jdk_52_method_5_code_47) rfl).trans ?_
    exact Go.refl _
  have G7 := K5.ldB V (j := (((2 : Int32) <<< ((1 : Int32) &&& 31)) + (1 : Int32))) ⟨by decide, by decide⟩ (v := (.int v5)) rfl (pc := 48) (Ls := #[.val (.ref a1), .val (.int (((2 : Int32) <<< ((1 : Int32) &&& 31)) + (1 : Int32)))]) (rest := [(.int ((v4 &&& (255 : Int32)) <<< ((0 : Int32) &&& 31)))]) (hb hby d_jdk_52_method_5_code_48)
  have S7 : Go p e below A0 (T5.setTop (mkF m 49 #[.val (.ref a1), .val (.int (((2 : Int32) <<< ((1 : Int32) &&& 31)) + (1 : Int32)))] [(.int v5), (.int ((v4 &&& (255 : Int32)) <<< ((0 : Int32) &&& 31)))])) := S6.trans G7
  have S8 : Go p e below A0 (T5.setTop (mkF m 53 #[.val (.ref a1), .val (.int (((2 : Int32) <<< ((1 : Int32) &&& 31)) + (1 : Int32)))] [(.int (v5 &&& (255 : Int32))), (.int ((v4 &&& (255 : Int32)) <<< ((0 : Int32) &&& 31)))])) := by
    refine S7.trans ?_
    refine (Own.P.sipush K5.here K5.exec (255 : Int32) (hb hby d_jdk_52_method_5_code_49) rfl).trans ?_
    refine (Own.P.iand K5.here K5.exec (hb hby d_jdk_52_method_5_code_52) ).trans ?_
    exact Go.refl _
  obtain ⟨T9, K9, G9⟩ := K5.getS "" (Or.inl (hw _ (List.mem_of_getElem? (i := 95) rfl))) Via.refl (A3.ext K5.ext) (pc := 53) (Ls := #[.val (.ref a1), .val (.int (((2 : Int32) <<< ((1 : Int32) &&& 31)) + (1 : Int32)))]) (rest := [(.int (v5 &&& (255 : Int32))), (.int ((v4 &&& (255 : Int32)) <<< ((0 : Int32) &&& 31)))]) (hb hby d_jdk_52_method_5_code_53)
  have S9 : Go p e below A0 (T9.setTop (mkF m 56 #[.val (.ref a1), .val (.int (((2 : Int32) <<< ((1 : Int32) &&& 31)) + (1 : Int32)))] [(.int (8 : Int32)), (.int (v5 &&& (255 : Int32))), (.int ((v4 &&& (255 : Int32)) <<< ((0 : Int32) &&& 31)))])) := S8.trans G9
  have S10 : Go p e below A0 (T9.setTop (mkF m 59 #[.val (.ref a1), .val (.int (((2 : Int32) <<< ((1 : Int32) &&& 31)) + (1 : Int32)))] [(.int ((((v4 &&& (255 : Int32)) <<< ((0 : Int32) &&& 31)) ||| ((v5 &&& (255 : Int32)) <<< ((8 : Int32) &&& 31))).toUInt32.toUInt16.toUInt32.toInt32))])) := by
    refine S9.trans ?_
    refine (Own.P.ishl K9.here K9.exec (hb hby d_jdk_52_method_5_code_56) ).trans ?_
    refine (Own.P.ior K9.here K9.exec (hb hby d_jdk_52_method_5_code_57) ).trans ?_
    refine (Own.P.i2c K9.here K9.exec (hb hby d_jdk_52_method_5_code_58) ).trans ?_
    exact Go.refl _
  have ec : ((((v4 &&& (255 : Int32)) <<< ((0 : Int32) &&& 31)) ||| ((v5 &&& (255 : Int32)) <<< ((8 : Int32) &&& 31))).toUInt32.toUInt16.toUInt32.toInt32) = ch := by rw [e1, e2]; exact pair_says rc.1 rc.2
  rw [ec] at S10
  exact ⟨s.vm, T9, h0, (some (.int ch)), _, _, K9, by decide, by decide, ⟨rfl, rfl⟩, K9.retW S10 hret (own_cn rc.1 rc.2) (Or.inl ⟨rfl, by decide, _, rfl⟩) (hb hby d_jdk_52_method_5_code_59)⟩
theorem d_jdk_52_method_14_code_0 : decode jdk_52_method_14_code 0 = .ok (.iload_n 2, 1) := by decide +kernel
theorem pd_1 : parseMethodDescriptor "(I)[B" = some ⟨[.int], some (.array .byte)⟩ := by decide +kernel
theorem d_jdk_52_method_14_code_1 : decode jdk_52_method_14_code 1 = .ok (.invokestatic 107, 3) := by decide +kernel
theorem d_jdk_52_method_14_code_4 : decode jdk_52_method_14_code 4 = .ok (.astore_n 3, 1) := by decide +kernel
theorem d_jdk_52_method_14_code_5 : decode jdk_52_method_14_code 5 = .ok (.iconst 0, 1) := by decide +kernel
theorem d_jdk_52_method_14_code_6 : decode jdk_52_method_14_code 6 = .ok (.istore 4, 2) := by decide +kernel
theorem d_jdk_52_method_14_code_8 : decode jdk_52_method_14_code 8 = .ok (.iload 4, 2) := by decide +kernel
theorem d_jdk_52_method_14_code_10 : decode jdk_52_method_14_code 10 = .ok (.iload_n 2, 1) := by decide +kernel
theorem d_jdk_52_method_14_code_11 : decode jdk_52_method_14_code 11 = .ok (.if_icmp .ge 21, 3) := by decide +kernel
theorem d_jdk_52_method_14_code_14 : decode jdk_52_method_14_code 14 = .ok (.aload_n 3, 1) := by decide +kernel
theorem d_jdk_52_method_14_code_15 : decode jdk_52_method_14_code 15 = .ok (.iload 4, 2) := by decide +kernel
theorem d_jdk_52_method_14_code_17 : decode jdk_52_method_14_code 17 = .ok (.aload_n 0, 1) := by decide +kernel
theorem d_jdk_52_method_14_code_18 : decode jdk_52_method_14_code 18 = .ok (.iload_n 1, 1) := by decide +kernel
theorem d_jdk_52_method_14_code_19 : decode jdk_52_method_14_code 19 = .ok (.caload, 1) := by decide +kernel
theorem pd_2 : parseMethodDescriptor "([BII)V" = some ⟨[(.array .byte), .int, .int], none⟩ := by decide +kernel
theorem d_jdk_52_method_14_code_20 : decode jdk_52_method_14_code 20 = .ok (.invokestatic 111, 3) := by decide +kernel
theorem d_jdk_52_method_14_code_23 : decode jdk_52_method_14_code 23 = .ok (.iinc 1 1, 3) := by decide +kernel
theorem d_jdk_52_method_14_code_26 : decode jdk_52_method_14_code 26 = .ok (.iinc 4 1, 3) := by decide +kernel
theorem d_jdk_52_method_14_code_29 : decode jdk_52_method_14_code 29 = .ok (.goto (-21), 3) := by decide +kernel
theorem d_jdk_52_method_14_code_32 : decode jdk_52_method_14_code 32 = .ok (.aload_n 3, 1) := by decide +kernel
theorem d_jdk_52_method_14_code_33 : decode jdk_52_method_14_code 33 = .ok (.areturn, 1) := by decide +kernel
set_option maxRecDepth 65536 in
set_option maxHeartbeats 40000000 in
theorem c_tob (l : Launch) (Z : State) (a0 : Array Value) (hw : ∀ d ∈ tables_1, d.before a0 Z = true) (n0 : Nat) (h0 : Heap) (O0 : Old Z n0 h0) (A1 : Sta Z Z.heap "java/lang/StringUTF16" "$assertionsDisabled" "Z" (.int 1)) (A2 : Sta Z Z.heap "java/lang/StringUTF16" "HI_BYTE_SHIFT" "I" (.int 0)) (A3 : Sta Z Z.heap "java/lang/StringUTF16" "LO_BYTE_SHIFT" "I" (.int 8)) (a1 : Addr) (kc : ClassId) (dv : Value) (c0 c1 c2 : Int32) (V : Arv Z h0 a1 kc .char 3 [.int c0, .int c1, .int c2] dv) :
    Own.Ctr false l (⟨"java/lang/StringUTF16", "toBytes", "([CII)[B"⟩ : MethodName) jdk_52_method_14_code 5 (some (.array .byte)) ({ frames := 2, cells := 1, slots := 6, locals := 24 } : Room) #[(.ref a1), (.int (0 : Int32)), (.int (3 : Int32))] Z h0 Own.VT [] (fun v h vm => ∃ t kb, v = some (.ref t) ∧ Arv Z h t kb .byte 6 [.int (lo8 c0), .int (hi8 c0), .int (lo8 c1), .int (hi8 c1), .int (lo8 c2), .int (hi8 c2)] (.int 0) ∧ h0.size ≤ t) := by
  refine Own.body (plainFor_of_name pn_1) O0 (fun _ _ _ _ q => by cases q) (fun _ _ _ _ q _ => q) ?_
  intro p e s m below meth c T0 hby hml0 hret hnm hV0 K0
  change Own.Wk false p l e ({ frames := 2, cells := 1, slots := 6, locals := 24 } : Room) s m #[(.ref a1), (.int (0 : Int32)), (.int (3 : Int32))] below meth c "java/lang/StringUTF16" Z n0 h0 [] s.vm T0 h0 0 0 at K0
  have hml : c.maxLocals = 5 := hml0
  have S0 : Go p e below (T0.setTop (entryFrame m #[(.ref a1), (.int (0 : Int32)), (.int (3 : Int32))] 5)) (T0.setTop (mkF m 0 #[.val (.ref a1), .val (.int (0 : Int32)), .val (.int (3 : Int32)), .unset, .unset] [])) := fun t k => castTop (by first | rfl | (simp [entryFrame, mkF, argsToLocals, Value.category]; done)) k
  generalize T0.setTop (entryFrame m #[(.ref a1), (.int (0 : Int32)), (.int (3 : Int32))] 5) = A0 at S0 ⊢
  have S1 : Go p e below A0 (T0.setTop (mkF m 1 #[.val (.ref a1), .val (.int (0 : Int32)), .val (.int (3 : Int32)), .unset, .unset] [(.int (3 : Int32))])) := by
    refine S0.trans ?_
    refine (Own.P.iloadN K0.here K0.exec (hb hby d_jdk_52_method_14_code_0) rfl).trans ?_
    exact Go.refl _
  obtain ⟨v2, vm2, vq2, T2, h2, K2, KK2, ev2, Q2, G2⟩ := K0.callS (y := (⟨"java/lang/StringUTF16", "newBytesFor", "(I)[B"⟩ : MethodName)) (hw _ (List.mem_of_getElem? (i := 83) rfl)) (hw _ (List.mem_of_getElem? (i := 84) rfl)) (hw _ (List.mem_of_getElem? (i := 23) rfl)) (hw _ (List.mem_of_getElem? (i := 85) rfl)) (by decide) (W := 0) (argsL := [(.int (3 : Int32))]) (rest := []) ((c_nbf l Z a0 hw n0 h0 (K0.old)).pay Own.VT.cl (hw _ (List.mem_of_getElem? (i := 85) rfl)) (hw _ (List.mem_of_getElem? (i := 23) rfl)) (by decide) (by decide)) trivial (pc := 1) (Ls := #[.val (.ref a1), .val (.int (0 : Int32)), .val (.int (3 : Int32)), .unset, .unset]) (st := [(.int (3 : Int32))]) (by rw [hml]; rfl) (lenOf pd_1 rfl) rfl (Nat.le_of_eq rfl) (hb hby d_jdk_52_method_14_code_1) (by decide) (by decide) all0
  obtain ⟨t, kb, rfl, Y0, gt⟩ := Q2
  have S2 : Go p e below A0 (T2.setTop (mkF m 4 #[.val (.ref a1), .val (.int (0 : Int32)), .val (.int (3 : Int32)), .unset, .unset] [(.ref t)])) := S1.trans G2
  have U0 := V.keep KK2 nin0
  have gn : n0 ≤ t := Nat.le_trans K0.2.2.2.1 gt
  have ne : a1 ≠ t := Nat.ne_of_lt (Nat.lt_of_lt_of_le V.lt gt)
  have S3 : Go p e below A0 (T2.setTop (mkF m 19 #[.val (.ref a1), .val (.int (0 : Int32)), .val (.int (3 : Int32)), .val (.ref t), .val (.int (0 : Int32))] [(.int (0 : Int32)), (.ref a1), (.int (0 : Int32)), (.ref t)])) := by
    refine S2.trans ?_
    refine (Own.P.astoreN K2.here K2.exec (l' := #[.val (.ref a1), .val (.int (0 : Int32)), .val (.int (3 : Int32)), .val (.ref t), .unset]) (hb hby d_jdk_52_method_14_code_4) rfl rfl).trans ?_
    refine (Own.P.iconst K2.here K2.exec (0 : Int32) (hb hby d_jdk_52_method_14_code_5) rfl).trans ?_
    refine (Own.P.istore K2.here K2.exec (l' := #[.val (.ref a1), .val (.int (0 : Int32)), .val (.int (3 : Int32)), .val (.ref t), .val (.int (0 : Int32))]) (hb hby d_jdk_52_method_14_code_6) rfl).trans ?_
    refine (Own.P.iload K2.here K2.exec (hb hby d_jdk_52_method_14_code_8) rfl).trans ?_
    refine (Own.P.iloadN K2.here K2.exec (hb hby d_jdk_52_method_14_code_10) rfl).trans ?_
    refine (Own.P.icmpNo K2.here K2.exec (hb hby d_jdk_52_method_14_code_11) (by decide)).trans ?_
    refine (Own.P.aloadN K2.here K2.exec (hb hby d_jdk_52_method_14_code_14) rfl rfl).trans ?_
    refine (Own.P.iload K2.here K2.exec (hb hby d_jdk_52_method_14_code_15) rfl).trans ?_
    refine (Own.P.aloadN K2.here K2.exec (hb hby d_jdk_52_method_14_code_17) rfl rfl).trans ?_
    refine (Own.P.iloadN K2.here K2.exec (hb hby d_jdk_52_method_14_code_18) rfl).trans ?_
    exact Go.refl _
  have G4 := K2.ldC U0 (j := (0 : Int32)) ⟨by decide, by decide⟩ (v := (.int c0)) rfl (pc := 19) (Ls := #[.val (.ref a1), .val (.int (0 : Int32)), .val (.int (3 : Int32)), .val (.ref t), .val (.int (0 : Int32))]) (rest := [(.int (0 : Int32)), (.ref t)]) (hb hby d_jdk_52_method_14_code_19)
  have S4 : Go p e below A0 (T2.setTop (mkF m 20 #[.val (.ref a1), .val (.int (0 : Int32)), .val (.int (3 : Int32)), .val (.ref t), .val (.int (0 : Int32))] [(.int c0), (.int (0 : Int32)), (.ref t)])) := S3.trans G4
  obtain ⟨v5, vm5, vq5, T5, h5, K5, KK5, ev5, Q5, G5⟩ := K2.callS (y := (⟨"java/lang/StringUTF16", "putChar", "([BII)V"⟩ : MethodName)) (hw _ (List.mem_of_getElem? (i := 90) rfl)) (hw _ (List.mem_of_getElem? (i := 91) rfl)) (hw _ (List.mem_of_getElem? (i := 23) rfl)) (hw _ (List.mem_of_getElem? (i := 92) rfl)) (by decide) (W := 0) (argsL := [(.ref t), (.int (0 : Int32)), (.int c0)]) (rest := []) ((c_put0 l Z a0 hw n0 h2 (K2.old) A1 A2 A3 t kb c0 0 0 0 0 0 0 Y0 gn).pay Own.VT.cl (hw _ (List.mem_of_getElem? (i := 92) rfl)) (hw _ (List.mem_of_getElem? (i := 23) rfl)) (by decide) (by decide)) trivial (pc := 20) (Ls := #[.val (.ref a1), .val (.int (0 : Int32)), .val (.int (3 : Int32)), .val (.ref t), .val (.int (0 : Int32))]) (st := [(.int c0), (.int (0 : Int32)), (.ref t)]) (by rw [hml]; rfl) (lenOf pd_2 rfl) rfl (Nat.le_of_eq rfl) (hb hby d_jdk_52_method_14_code_20) (by decide) (by decide) (allS (Or.inr gt) all0)
  obtain ⟨rfl, Y1⟩ := Q5
  have S5 : Go p e below A0 (T5.setTop (mkF m 23 #[.val (.ref a1), .val (.int (0 : Int32)), .val (.int (3 : Int32)), .val (.ref t), .val (.int (0 : Int32))] [])) := S4.trans G5
  have U1 := U0.keep KK5 (ninS ne nin0)
  have S6 : Go p e below A0 (T5.setTop (mkF m 19 #[.val (.ref a1), .val (.int (1 : Int32)), .val (.int (3 : Int32)), .val (.ref t), .val (.int (1 : Int32))] [(.int (1 : Int32)), (.ref a1), (.int (1 : Int32)), (.ref t)])) := by
    refine S5.trans ?_
    refine (Own.P.iinc K5.here K5.exec (v := (1 : Int32)) (l' := #[.val (.ref a1), .val (.int (1 : Int32)), .val (.int (3 : Int32)), .val (.ref t), .val (.int (0 : Int32))]) (hb hby d_jdk_52_method_14_code_23) rfl rfl rfl).trans ?_
    refine (Own.P.iinc K5.here K5.exec (v := (1 : Int32)) (l' := #[.val (.ref a1), .val (.int (1 : Int32)), .val (.int (3 : Int32)), .val (.ref t), .val (.int (1 : Int32))]) (hb hby d_jdk_52_method_14_code_26) rfl rfl rfl).trans ?_
    refine (Own.P.goto K5.here K5.exec 8 (hb hby d_jdk_52_method_14_code_29) (by decide) (by decide)).trans ?_
    refine (Own.P.iload K5.here K5.exec (hb hby d_jdk_52_method_14_code_8) rfl).trans ?_
    refine (Own.P.iloadN K5.here K5.exec (hb hby d_jdk_52_method_14_code_10) rfl).trans ?_
    refine (Own.P.icmpNo K5.here K5.exec (hb hby d_jdk_52_method_14_code_11) (by decide)).trans ?_
    refine (Own.P.aloadN K5.here K5.exec (hb hby d_jdk_52_method_14_code_14) rfl rfl).trans ?_
    refine (Own.P.iload K5.here K5.exec (hb hby d_jdk_52_method_14_code_15) rfl).trans ?_
    refine (Own.P.aloadN K5.here K5.exec (hb hby d_jdk_52_method_14_code_17) rfl rfl).trans ?_
    refine (Own.P.iloadN K5.here K5.exec (hb hby d_jdk_52_method_14_code_18) rfl).trans ?_
    exact Go.refl _
  have G7 := K5.ldC U1 (j := (1 : Int32)) ⟨by decide, by decide⟩ (v := (.int c1)) rfl (pc := 19) (Ls := #[.val (.ref a1), .val (.int (1 : Int32)), .val (.int (3 : Int32)), .val (.ref t), .val (.int (1 : Int32))]) (rest := [(.int (1 : Int32)), (.ref t)]) (hb hby d_jdk_52_method_14_code_19)
  have S7 : Go p e below A0 (T5.setTop (mkF m 20 #[.val (.ref a1), .val (.int (1 : Int32)), .val (.int (3 : Int32)), .val (.ref t), .val (.int (1 : Int32))] [(.int c1), (.int (1 : Int32)), (.ref t)])) := S6.trans G7
  obtain ⟨v8, vm8, vq8, T8, h8, K8, KK8, ev8, Q8, G8⟩ := K5.callS (y := (⟨"java/lang/StringUTF16", "putChar", "([BII)V"⟩ : MethodName)) (hw _ (List.mem_of_getElem? (i := 90) rfl)) (hw _ (List.mem_of_getElem? (i := 91) rfl)) (hw _ (List.mem_of_getElem? (i := 23) rfl)) (hw _ (List.mem_of_getElem? (i := 92) rfl)) (by decide) (W := 0) (argsL := [(.ref t), (.int (1 : Int32)), (.int c1)]) (rest := []) ((c_put1 l Z a0 hw n0 h5 (K5.old) A1 A2 A3 t kb c1 (lo8 c0) (hi8 c0) 0 0 0 0 Y1 gn).pay Own.VT.cl (hw _ (List.mem_of_getElem? (i := 92) rfl)) (hw _ (List.mem_of_getElem? (i := 23) rfl)) (by decide) (by decide)) trivial (pc := 20) (Ls := #[.val (.ref a1), .val (.int (1 : Int32)), .val (.int (3 : Int32)), .val (.ref t), .val (.int (1 : Int32))]) (st := [(.int c1), (.int (1 : Int32)), (.ref t)]) (by rw [hml]; rfl) (lenOf pd_2 rfl) rfl (Nat.le_of_eq rfl) (hb hby d_jdk_52_method_14_code_20) (by decide) (by decide) (allS (Or.inr gt) all0)
  obtain ⟨rfl, Y2⟩ := Q8
  have S8 : Go p e below A0 (T8.setTop (mkF m 23 #[.val (.ref a1), .val (.int (1 : Int32)), .val (.int (3 : Int32)), .val (.ref t), .val (.int (1 : Int32))] [])) := S7.trans G8
  have U2 := U1.keep KK8 (ninS ne nin0)
  have S9 : Go p e below A0 (T8.setTop (mkF m 19 #[.val (.ref a1), .val (.int (2 : Int32)), .val (.int (3 : Int32)), .val (.ref t), .val (.int (2 : Int32))] [(.int (2 : Int32)), (.ref a1), (.int (2 : Int32)), (.ref t)])) := by
    refine S8.trans ?_
    refine (Own.P.iinc K8.here K8.exec (v := (2 : Int32)) (l' := #[.val (.ref a1), .val (.int (2 : Int32)), .val (.int (3 : Int32)), .val (.ref t), .val (.int (1 : Int32))]) (hb hby d_jdk_52_method_14_code_23) rfl rfl rfl).trans ?_
    refine (Own.P.iinc K8.here K8.exec (v := (2 : Int32)) (l' := #[.val (.ref a1), .val (.int (2 : Int32)), .val (.int (3 : Int32)), .val (.ref t), .val (.int (2 : Int32))]) (hb hby d_jdk_52_method_14_code_26) rfl rfl rfl).trans ?_
    refine (Own.P.goto K8.here K8.exec 8 (hb hby d_jdk_52_method_14_code_29) (by decide) (by decide)).trans ?_
    refine (Own.P.iload K8.here K8.exec (hb hby d_jdk_52_method_14_code_8) rfl).trans ?_
    refine (Own.P.iloadN K8.here K8.exec (hb hby d_jdk_52_method_14_code_10) rfl).trans ?_
    refine (Own.P.icmpNo K8.here K8.exec (hb hby d_jdk_52_method_14_code_11) (by decide)).trans ?_
    refine (Own.P.aloadN K8.here K8.exec (hb hby d_jdk_52_method_14_code_14) rfl rfl).trans ?_
    refine (Own.P.iload K8.here K8.exec (hb hby d_jdk_52_method_14_code_15) rfl).trans ?_
    refine (Own.P.aloadN K8.here K8.exec (hb hby d_jdk_52_method_14_code_17) rfl rfl).trans ?_
    refine (Own.P.iloadN K8.here K8.exec (hb hby d_jdk_52_method_14_code_18) rfl).trans ?_
    exact Go.refl _
  have G10 := K8.ldC U2 (j := (2 : Int32)) ⟨by decide, by decide⟩ (v := (.int c2)) rfl (pc := 19) (Ls := #[.val (.ref a1), .val (.int (2 : Int32)), .val (.int (3 : Int32)), .val (.ref t), .val (.int (2 : Int32))]) (rest := [(.int (2 : Int32)), (.ref t)]) (hb hby d_jdk_52_method_14_code_19)
  have S10 : Go p e below A0 (T8.setTop (mkF m 20 #[.val (.ref a1), .val (.int (2 : Int32)), .val (.int (3 : Int32)), .val (.ref t), .val (.int (2 : Int32))] [(.int c2), (.int (2 : Int32)), (.ref t)])) := S9.trans G10
  obtain ⟨v11, vm11, vq11, T11, h11, K11, KK11, ev11, Q11, G11⟩ := K8.callS (y := (⟨"java/lang/StringUTF16", "putChar", "([BII)V"⟩ : MethodName)) (hw _ (List.mem_of_getElem? (i := 90) rfl)) (hw _ (List.mem_of_getElem? (i := 91) rfl)) (hw _ (List.mem_of_getElem? (i := 23) rfl)) (hw _ (List.mem_of_getElem? (i := 92) rfl)) (by decide) (W := 0) (argsL := [(.ref t), (.int (2 : Int32)), (.int c2)]) (rest := []) ((c_put2 l Z a0 hw n0 h8 (K8.old) A1 A2 A3 t kb c2 (lo8 c0) (hi8 c0) (lo8 c1) (hi8 c1) 0 0 Y2 gn).pay Own.VT.cl (hw _ (List.mem_of_getElem? (i := 92) rfl)) (hw _ (List.mem_of_getElem? (i := 23) rfl)) (by decide) (by decide)) trivial (pc := 20) (Ls := #[.val (.ref a1), .val (.int (2 : Int32)), .val (.int (3 : Int32)), .val (.ref t), .val (.int (2 : Int32))]) (st := [(.int c2), (.int (2 : Int32)), (.ref t)]) (by rw [hml]; rfl) (lenOf pd_2 rfl) rfl (Nat.le_of_eq rfl) (hb hby d_jdk_52_method_14_code_20) (by decide) (by decide) (allS (Or.inr gt) all0)
  obtain ⟨rfl, Y3⟩ := Q11
  have S11 : Go p e below A0 (T11.setTop (mkF m 23 #[.val (.ref a1), .val (.int (2 : Int32)), .val (.int (3 : Int32)), .val (.ref t), .val (.int (2 : Int32))] [])) := S10.trans G11
  have U3 := U2.keep KK11 (ninS ne nin0)
  have S12 : Go p e below A0 (T11.setTop (mkF m 33 #[.val (.ref a1), .val (.int (3 : Int32)), .val (.int (3 : Int32)), .val (.ref t), .val (.int (3 : Int32))] [(.ref t)])) := by
    refine S11.trans ?_
    refine (Own.P.iinc K11.here K11.exec (v := (3 : Int32)) (l' := #[.val (.ref a1), .val (.int (3 : Int32)), .val (.int (3 : Int32)), .val (.ref t), .val (.int (2 : Int32))]) (hb hby d_jdk_52_method_14_code_23) rfl rfl rfl).trans ?_
    refine (Own.P.iinc K11.here K11.exec (v := (3 : Int32)) (l' := #[.val (.ref a1), .val (.int (3 : Int32)), .val (.int (3 : Int32)), .val (.ref t), .val (.int (3 : Int32))]) (hb hby d_jdk_52_method_14_code_26) rfl rfl rfl).trans ?_
    refine (Own.P.goto K11.here K11.exec 8 (hb hby d_jdk_52_method_14_code_29) (by decide) (by decide)).trans ?_
    refine (Own.P.iload K11.here K11.exec (hb hby d_jdk_52_method_14_code_8) rfl).trans ?_
    refine (Own.P.iloadN K11.here K11.exec (hb hby d_jdk_52_method_14_code_10) rfl).trans ?_
    refine (Own.P.icmpYes K11.here K11.exec 32 (hb hby d_jdk_52_method_14_code_11) (by decide) (by decide) (by decide)).trans ?_
    refine (Own.P.aloadN K11.here K11.exec (hb hby d_jdk_52_method_14_code_32) rfl rfl).trans ?_
    exact Go.refl _
  exact ⟨vm11, T11, h11, (some (.ref t)), _, _, K11, by decide, by decide, ⟨t, kb, rfl, Y3, gt⟩, K11.retW S12 hret rfl (Or.inr (Or.inr (Or.inr (Or.inr ⟨rfl, rfl, rfl⟩)))) (hb hby d_jdk_52_method_14_code_33)⟩
theorem d_jdk_52_method_21_code_0 : decode jdk_52_method_21_code 0 = .ok (.iconst 0, 1) := by decide +kernel
theorem d_jdk_52_method_21_code_1 : decode jdk_52_method_21_code 1 = .ok (.istore 5, 2) := by decide +kernel
theorem d_jdk_52_method_21_code_3 : decode jdk_52_method_21_code 3 = .ok (.iload 5, 2) := by decide +kernel
theorem d_jdk_52_method_21_code_5 : decode jdk_52_method_21_code 5 = .ok (.iload 4, 2) := by decide +kernel
theorem d_jdk_52_method_21_code_7 : decode jdk_52_method_21_code 7 = .ok (.if_icmp .ge 37, 3) := by decide +kernel
theorem d_jdk_52_method_21_code_10 : decode jdk_52_method_21_code 10 = .ok (.aload_n 0, 1) := by decide +kernel
theorem d_jdk_52_method_21_code_11 : decode jdk_52_method_21_code 11 = .ok (.iload_n 1, 1) := by decide +kernel
theorem d_jdk_52_method_21_code_12 : decode jdk_52_method_21_code 12 = .ok (.caload, 1) := by decide +kernel
theorem d_jdk_52_method_21_code_13 : decode jdk_52_method_21_code 13 = .ok (.istore 6, 2) := by decide +kernel
theorem d_jdk_52_method_21_code_15 : decode jdk_52_method_21_code 15 = .ok (.iload 6, 2) := by decide +kernel
theorem d_jdk_52_method_21_code_17 : decode jdk_52_method_21_code 17 = .ok (.sipush 255, 3) := by decide +kernel
theorem d_jdk_52_method_21_code_20 : decode jdk_52_method_21_code 20 = .ok (.if_icmp .le 6, 3) := by decide +kernel
theorem d_jdk_52_method_21_code_23 : decode jdk_52_method_21_code 23 = .ok (.iload 5, 2) := by decide +kernel
theorem d_jdk_52_method_21_code_25 : decode jdk_52_method_21_code 25 = .ok (.ireturn, 1) := by decide +kernel
theorem d_jdk_52_method_21_code_26 : decode jdk_52_method_21_code 26 = .ok (.aload_n 2, 1) := by decide +kernel
theorem d_jdk_52_method_21_code_27 : decode jdk_52_method_21_code 27 = .ok (.iload_n 3, 1) := by decide +kernel
theorem d_jdk_52_method_21_code_28 : decode jdk_52_method_21_code 28 = .ok (.iload 6, 2) := by decide +kernel
theorem d_jdk_52_method_21_code_30 : decode jdk_52_method_21_code 30 = .ok (.i2b, 1) := by decide +kernel
theorem d_jdk_52_method_21_code_31 : decode jdk_52_method_21_code 31 = .ok (.bastore, 1) := by decide +kernel
theorem d_jdk_52_method_21_code_32 : decode jdk_52_method_21_code 32 = .ok (.iinc 1 1, 3) := by decide +kernel
theorem d_jdk_52_method_21_code_35 : decode jdk_52_method_21_code 35 = .ok (.iinc 3 1, 3) := by decide +kernel
theorem d_jdk_52_method_21_code_38 : decode jdk_52_method_21_code 38 = .ok (.iinc 5 1, 3) := by decide +kernel
theorem d_jdk_52_method_21_code_41 : decode jdk_52_method_21_code 41 = .ok (.goto (-38), 3) := by decide +kernel
theorem d_jdk_52_method_21_code_44 : decode jdk_52_method_21_code 44 = .ok (.iload 4, 2) := by decide +kernel
theorem d_jdk_52_method_21_code_46 : decode jdk_52_method_21_code 46 = .ok (.ireturn, 1) := by decide +kernel
set_option maxRecDepth 65536 in
set_option maxHeartbeats 40000000 in
theorem c_cmp5 (l : Launch) (Z : State) (a0 : Array Value) (hw : ∀ d ∈ tables_1, d.before a0 Z = true) (n0 : Nat) (h0 : Heap) (O0 : Old Z n0 h0) (a1 a2 : Addr) (kc kb : ClassId) (dv : Value) (c0 c1 c2 : Int32) (V : Arv Z h0 a1 kc .char 3 [.int c0, .int c1, .int c2] dv) (Y : Arv Z h0 a2 kb .byte 3 [.int 0, .int 0, .int 0] (.int 0)) (g2 : n0 ≤ a2) (ne : a1 ≠ a2) :
    Own.Ctr false l (⟨"java/lang/StringUTF16", "compress", "([CI[BII)I"⟩ : MethodName) jdk_52_method_21_code 7 (some .int) ({ frames := 0, cells := 0, slots := 0, locals := 0 } : Room) #[(.ref a1), (.int (0 : Int32)), (.ref a2), (.int (0 : Int32)), (.int (3 : Int32))] Z h0 Own.VT [a2] (fun v h vm => v = some (.int (own_k c0 c1 c2)) ∧ (¬ 255 < c0 ∧ ¬ 255 < c1 ∧ ¬ 255 < c2 → Arv Z h a2 kb .byte 3 [.int (lo8 c0), .int (lo8 c1), .int (lo8 c2)] (.int 0))) := by
  refine Own.body (plainFor_of_name pn_1) O0 (fun _ _ _ _ q => by cases q) (fun _ _ _ _ q _ => q) ?_
  intro p e s m below meth c T0 hby hml0 hret hnm hV0 K0
  change Own.Wk false p l e ({ frames := 0, cells := 0, slots := 0, locals := 0 } : Room) s m #[(.ref a1), (.int (0 : Int32)), (.ref a2), (.int (0 : Int32)), (.int (3 : Int32))] below meth c "java/lang/StringUTF16" Z n0 h0 [] s.vm T0 h0 0 0 at K0
  replace K0 := K0.weaken [a2] (allS g2 all0)
  have hml : c.maxLocals = 7 := hml0
  have S0 : Go p e below (T0.setTop (entryFrame m #[(.ref a1), (.int (0 : Int32)), (.ref a2), (.int (0 : Int32)), (.int (3 : Int32))] 7)) (T0.setTop (mkF m 0 #[.val (.ref a1), .val (.int (0 : Int32)), .val (.ref a2), .val (.int (0 : Int32)), .val (.int (3 : Int32)), .unset, .unset] [])) := fun t k => castTop (by first | rfl | (simp [entryFrame, mkF, argsToLocals, Value.category]; done)) k
  generalize T0.setTop (entryFrame m #[(.ref a1), (.int (0 : Int32)), (.ref a2), (.int (0 : Int32)), (.int (3 : Int32))] 7) = A0 at S0 ⊢
  have S1 : Go p e below A0 (T0.setTop (mkF m 12 #[.val (.ref a1), .val (.int (0 : Int32)), .val (.ref a2), .val (.int (0 : Int32)), .val (.int (3 : Int32)), .val (.int (0 : Int32)), .unset] [(.int (0 : Int32)), (.ref a1)])) := by
    refine S0.trans ?_
    refine (Own.P.iconst K0.here K0.exec (0 : Int32) (hb hby d_jdk_52_method_21_code_0) rfl).trans ?_
    refine (Own.P.istore K0.here K0.exec (l' := #[.val (.ref a1), .val (.int (0 : Int32)), .val (.ref a2), .val (.int (0 : Int32)), .val (.int (3 : Int32)), .val (.int (0 : Int32)), .unset]) (hb hby d_jdk_52_method_21_code_1) rfl).trans ?_
    refine (Own.P.iload K0.here K0.exec (hb hby d_jdk_52_method_21_code_3) rfl).trans ?_
    refine (Own.P.iload K0.here K0.exec (hb hby d_jdk_52_method_21_code_5) rfl).trans ?_
    refine (Own.P.icmpNo K0.here K0.exec (hb hby d_jdk_52_method_21_code_7) (by decide)).trans ?_
    refine (Own.P.aloadN K0.here K0.exec (hb hby d_jdk_52_method_21_code_10) rfl rfl).trans ?_
    refine (Own.P.iloadN K0.here K0.exec (hb hby d_jdk_52_method_21_code_11) rfl).trans ?_
    exact Go.refl _
  have G2 := K0.ldC V (j := (0 : Int32)) ⟨by decide, by decide⟩ (v := (.int c0)) rfl (pc := 12) (Ls := #[.val (.ref a1), .val (.int (0 : Int32)), .val (.ref a2), .val (.int (0 : Int32)), .val (.int (3 : Int32)), .val (.int (0 : Int32)), .unset]) (rest := []) (hb hby d_jdk_52_method_21_code_12)
  have S2 : Go p e below A0 (T0.setTop (mkF m 13 #[.val (.ref a1), .val (.int (0 : Int32)), .val (.ref a2), .val (.int (0 : Int32)), .val (.int (3 : Int32)), .val (.int (0 : Int32)), .unset] [(.int c0)])) := S1.trans G2
  have S3 : Go p e below A0 (T0.setTop (mkF m 20 #[.val (.ref a1), .val (.int (0 : Int32)), .val (.ref a2), .val (.int (0 : Int32)), .val (.int (3 : Int32)), .val (.int (0 : Int32)), .val (.int c0)] [(.int (255 : Int32)), (.int c0)])) := by
    refine S2.trans ?_
    refine (Own.P.istore K0.here K0.exec (l' := #[.val (.ref a1), .val (.int (0 : Int32)), .val (.ref a2), .val (.int (0 : Int32)), .val (.int (3 : Int32)), .val (.int (0 : Int32)), .val (.int c0)]) (hb hby d_jdk_52_method_21_code_13) rfl).trans ?_
    refine (Own.P.iload K0.here K0.exec (hb hby d_jdk_52_method_21_code_15) rfl).trans ?_
    refine (Own.P.sipush K0.here K0.exec (255 : Int32) (hb hby d_jdk_52_method_21_code_17) rfl).trans ?_
    exact Go.refl _
  by_cases q0 : 255 < c0
  case pos =>
      have S4 : Go p e below A0 (T0.setTop (mkF m 25 #[.val (.ref a1), .val (.int (0 : Int32)), .val (.ref a2), .val (.int (0 : Int32)), .val (.int (3 : Int32)), .val (.int (0 : Int32)), .val (.int c0)] [(.int (0 : Int32))])) := by
        refine S3.trans ?_
        refine (Own.P.icmpNo K0.here K0.exec (hb hby d_jdk_52_method_21_code_20) (XT.ii_le_f q0)).trans ?_
        refine (Own.P.iload K0.here K0.exec (hb hby d_jdk_52_method_21_code_23) rfl).trans ?_
        exact Go.refl _
      rw [own_k0 q0]
      exact ⟨s.vm, T0, h0, (some (.int (0 : Int32))), _, _, K0, by decide, by decide, ⟨rfl, fun q => absurd q0 q.1⟩, K0.retW S4 hret rfl (Or.inl ⟨rfl, by decide, _, rfl⟩) (hb hby d_jdk_52_method_21_code_25)⟩
  case neg =>
      have S5 : Go p e below A0 (T0.setTop (mkF m 31 #[.val (.ref a1), .val (.int (0 : Int32)), .val (.ref a2), .val (.int (0 : Int32)), .val (.int (3 : Int32)), .val (.int (0 : Int32)), .val (.int c0)] [(.int (c0.toInt8.toInt32)), (.int (0 : Int32)), (.ref a2)])) := by
        refine S3.trans ?_
        refine (Own.P.icmpYes K0.here K0.exec 26 (hb hby d_jdk_52_method_21_code_20) (XT.ii_le_t q0) (by decide) (by decide)).trans ?_
        refine (Own.P.aloadN K0.here K0.exec (hb hby d_jdk_52_method_21_code_26) rfl rfl).trans ?_
        refine (Own.P.iloadN K0.here K0.exec (hb hby d_jdk_52_method_21_code_27) rfl).trans ?_
        refine (Own.P.iload K0.here K0.exec (hb hby d_jdk_52_method_21_code_28) rfl).trans ?_
        refine (Own.P.i2b K0.here K0.exec (hb hby d_jdk_52_method_21_code_30) ).trans ?_
        exact Go.refl _
      obtain ⟨T6, h6, K6, W6, V6, G6⟩ := K0.stB Y  (j := (0 : Int32)) ⟨by decide, by decide⟩ 0 rfl (Nat.le_of_ble_eq_true rfl) (Or.inl (List.mem_of_getElem? (i := 0) rfl)) (pc := 31) (Ls := #[.val (.ref a1), .val (.int (0 : Int32)), .val (.ref a2), .val (.int (0 : Int32)), .val (.int (3 : Int32)), .val (.int (0 : Int32)), .val (.int c0)]) (rest := []) (hb hby d_jdk_52_method_21_code_31)
      have S6 : Go p e below A0 (T6.setTop (mkF m 32 #[.val (.ref a1), .val (.int (0 : Int32)), .val (.ref a2), .val (.int (0 : Int32)), .val (.int (3 : Int32)), .val (.int (0 : Int32)), .val (.int c0)] [])) := S5.trans G6
      rw [own_nb] at V6
      have U6 := V.other W6 ne
      have S7 : Go p e below A0 (T6.setTop (mkF m 12 #[.val (.ref a1), .val (.int (1 : Int32)), .val (.ref a2), .val (.int (1 : Int32)), .val (.int (3 : Int32)), .val (.int (1 : Int32)), .val (.int c0)] [(.int (1 : Int32)), (.ref a1)])) := by
        refine S6.trans ?_
        refine (Own.P.iinc K6.here K6.exec (v := (1 : Int32)) (l' := #[.val (.ref a1), .val (.int (1 : Int32)), .val (.ref a2), .val (.int (0 : Int32)), .val (.int (3 : Int32)), .val (.int (0 : Int32)), .val (.int c0)]) (hb hby d_jdk_52_method_21_code_32) rfl rfl rfl).trans ?_
        refine (Own.P.iinc K6.here K6.exec (v := (1 : Int32)) (l' := #[.val (.ref a1), .val (.int (1 : Int32)), .val (.ref a2), .val (.int (1 : Int32)), .val (.int (3 : Int32)), .val (.int (0 : Int32)), .val (.int c0)]) (hb hby d_jdk_52_method_21_code_35) rfl rfl rfl).trans ?_
        refine (Own.P.iinc K6.here K6.exec (v := (1 : Int32)) (l' := #[.val (.ref a1), .val (.int (1 : Int32)), .val (.ref a2), .val (.int (1 : Int32)), .val (.int (3 : Int32)), .val (.int (1 : Int32)), .val (.int c0)]) (hb hby d_jdk_52_method_21_code_38) rfl rfl rfl).trans ?_
        refine (Own.P.goto K6.here K6.exec 3 (hb hby d_jdk_52_method_21_code_41) (by decide) (by decide)).trans ?_
        refine (Own.P.iload K6.here K6.exec (hb hby d_jdk_52_method_21_code_3) rfl).trans ?_
        refine (Own.P.iload K6.here K6.exec (hb hby d_jdk_52_method_21_code_5) rfl).trans ?_
        refine (Own.P.icmpNo K6.here K6.exec (hb hby d_jdk_52_method_21_code_7) (by decide)).trans ?_
        refine (Own.P.aloadN K6.here K6.exec (hb hby d_jdk_52_method_21_code_10) rfl rfl).trans ?_
        refine (Own.P.iloadN K6.here K6.exec (hb hby d_jdk_52_method_21_code_11) rfl).trans ?_
        exact Go.refl _
      have G8 := K6.ldC U6 (j := (1 : Int32)) ⟨by decide, by decide⟩ (v := (.int c1)) rfl (pc := 12) (Ls := #[.val (.ref a1), .val (.int (1 : Int32)), .val (.ref a2), .val (.int (1 : Int32)), .val (.int (3 : Int32)), .val (.int (1 : Int32)), .val (.int c0)]) (rest := []) (hb hby d_jdk_52_method_21_code_12)
      have S8 : Go p e below A0 (T6.setTop (mkF m 13 #[.val (.ref a1), .val (.int (1 : Int32)), .val (.ref a2), .val (.int (1 : Int32)), .val (.int (3 : Int32)), .val (.int (1 : Int32)), .val (.int c0)] [(.int c1)])) := S7.trans G8
      have S9 : Go p e below A0 (T6.setTop (mkF m 20 #[.val (.ref a1), .val (.int (1 : Int32)), .val (.ref a2), .val (.int (1 : Int32)), .val (.int (3 : Int32)), .val (.int (1 : Int32)), .val (.int c1)] [(.int (255 : Int32)), (.int c1)])) := by
        refine S8.trans ?_
        refine (Own.P.istore K6.here K6.exec (l' := #[.val (.ref a1), .val (.int (1 : Int32)), .val (.ref a2), .val (.int (1 : Int32)), .val (.int (3 : Int32)), .val (.int (1 : Int32)), .val (.int c1)]) (hb hby d_jdk_52_method_21_code_13) rfl).trans ?_
        refine (Own.P.iload K6.here K6.exec (hb hby d_jdk_52_method_21_code_15) rfl).trans ?_
        refine (Own.P.sipush K6.here K6.exec (255 : Int32) (hb hby d_jdk_52_method_21_code_17) rfl).trans ?_
        exact Go.refl _
      by_cases q1 : 255 < c1
      case pos =>
          have S10 : Go p e below A0 (T6.setTop (mkF m 25 #[.val (.ref a1), .val (.int (1 : Int32)), .val (.ref a2), .val (.int (1 : Int32)), .val (.int (3 : Int32)), .val (.int (1 : Int32)), .val (.int c1)] [(.int (1 : Int32))])) := by
            refine S9.trans ?_
            refine (Own.P.icmpNo K6.here K6.exec (hb hby d_jdk_52_method_21_code_20) (XT.ii_le_f q1)).trans ?_
            refine (Own.P.iload K6.here K6.exec (hb hby d_jdk_52_method_21_code_23) rfl).trans ?_
            exact Go.refl _
          rw [own_k1 q0 q1]
          exact ⟨s.vm, T6, h6, (some (.int (1 : Int32))), _, _, K6, by decide, by decide, ⟨rfl, fun q => absurd q1 q.2.1⟩, K6.retW S10 hret rfl (Or.inl ⟨rfl, by decide, _, rfl⟩) (hb hby d_jdk_52_method_21_code_25)⟩
      case neg =>
          have S11 : Go p e below A0 (T6.setTop (mkF m 31 #[.val (.ref a1), .val (.int (1 : Int32)), .val (.ref a2), .val (.int (1 : Int32)), .val (.int (3 : Int32)), .val (.int (1 : Int32)), .val (.int c1)] [(.int (c1.toInt8.toInt32)), (.int (1 : Int32)), (.ref a2)])) := by
            refine S9.trans ?_
            refine (Own.P.icmpYes K6.here K6.exec 26 (hb hby d_jdk_52_method_21_code_20) (XT.ii_le_t q1) (by decide) (by decide)).trans ?_
            refine (Own.P.aloadN K6.here K6.exec (hb hby d_jdk_52_method_21_code_26) rfl rfl).trans ?_
            refine (Own.P.iloadN K6.here K6.exec (hb hby d_jdk_52_method_21_code_27) rfl).trans ?_
            refine (Own.P.iload K6.here K6.exec (hb hby d_jdk_52_method_21_code_28) rfl).trans ?_
            refine (Own.P.i2b K6.here K6.exec (hb hby d_jdk_52_method_21_code_30) ).trans ?_
            exact Go.refl _
          obtain ⟨T12, h12, K12, W12, V12, G12⟩ := K6.stB V6  (j := (1 : Int32)) ⟨by decide, by decide⟩ 1 rfl (Nat.le_of_ble_eq_true rfl) (Or.inl (List.mem_of_getElem? (i := 0) rfl)) (pc := 31) (Ls := #[.val (.ref a1), .val (.int (1 : Int32)), .val (.ref a2), .val (.int (1 : Int32)), .val (.int (3 : Int32)), .val (.int (1 : Int32)), .val (.int c1)]) (rest := []) (hb hby d_jdk_52_method_21_code_31)
          have S12 : Go p e below A0 (T12.setTop (mkF m 32 #[.val (.ref a1), .val (.int (1 : Int32)), .val (.ref a2), .val (.int (1 : Int32)), .val (.int (3 : Int32)), .val (.int (1 : Int32)), .val (.int c1)] [])) := S11.trans G12
          rw [own_nb] at V12
          have U12 := U6.other W12 ne
          have S13 : Go p e below A0 (T12.setTop (mkF m 12 #[.val (.ref a1), .val (.int (2 : Int32)), .val (.ref a2), .val (.int (2 : Int32)), .val (.int (3 : Int32)), .val (.int (2 : Int32)), .val (.int c1)] [(.int (2 : Int32)), (.ref a1)])) := by
            refine S12.trans ?_
            refine (Own.P.iinc K12.here K12.exec (v := (2 : Int32)) (l' := #[.val (.ref a1), .val (.int (2 : Int32)), .val (.ref a2), .val (.int (1 : Int32)), .val (.int (3 : Int32)), .val (.int (1 : Int32)), .val (.int c1)]) (hb hby d_jdk_52_method_21_code_32) rfl rfl rfl).trans ?_
            refine (Own.P.iinc K12.here K12.exec (v := (2 : Int32)) (l' := #[.val (.ref a1), .val (.int (2 : Int32)), .val (.ref a2), .val (.int (2 : Int32)), .val (.int (3 : Int32)), .val (.int (1 : Int32)), .val (.int c1)]) (hb hby d_jdk_52_method_21_code_35) rfl rfl rfl).trans ?_
            refine (Own.P.iinc K12.here K12.exec (v := (2 : Int32)) (l' := #[.val (.ref a1), .val (.int (2 : Int32)), .val (.ref a2), .val (.int (2 : Int32)), .val (.int (3 : Int32)), .val (.int (2 : Int32)), .val (.int c1)]) (hb hby d_jdk_52_method_21_code_38) rfl rfl rfl).trans ?_
            refine (Own.P.goto K12.here K12.exec 3 (hb hby d_jdk_52_method_21_code_41) (by decide) (by decide)).trans ?_
            refine (Own.P.iload K12.here K12.exec (hb hby d_jdk_52_method_21_code_3) rfl).trans ?_
            refine (Own.P.iload K12.here K12.exec (hb hby d_jdk_52_method_21_code_5) rfl).trans ?_
            refine (Own.P.icmpNo K12.here K12.exec (hb hby d_jdk_52_method_21_code_7) (by decide)).trans ?_
            refine (Own.P.aloadN K12.here K12.exec (hb hby d_jdk_52_method_21_code_10) rfl rfl).trans ?_
            refine (Own.P.iloadN K12.here K12.exec (hb hby d_jdk_52_method_21_code_11) rfl).trans ?_
            exact Go.refl _
          have G14 := K12.ldC U12 (j := (2 : Int32)) ⟨by decide, by decide⟩ (v := (.int c2)) rfl (pc := 12) (Ls := #[.val (.ref a1), .val (.int (2 : Int32)), .val (.ref a2), .val (.int (2 : Int32)), .val (.int (3 : Int32)), .val (.int (2 : Int32)), .val (.int c1)]) (rest := []) (hb hby d_jdk_52_method_21_code_12)
          have S14 : Go p e below A0 (T12.setTop (mkF m 13 #[.val (.ref a1), .val (.int (2 : Int32)), .val (.ref a2), .val (.int (2 : Int32)), .val (.int (3 : Int32)), .val (.int (2 : Int32)), .val (.int c1)] [(.int c2)])) := S13.trans G14
          have S15 : Go p e below A0 (T12.setTop (mkF m 20 #[.val (.ref a1), .val (.int (2 : Int32)), .val (.ref a2), .val (.int (2 : Int32)), .val (.int (3 : Int32)), .val (.int (2 : Int32)), .val (.int c2)] [(.int (255 : Int32)), (.int c2)])) := by
            refine S14.trans ?_
            refine (Own.P.istore K12.here K12.exec (l' := #[.val (.ref a1), .val (.int (2 : Int32)), .val (.ref a2), .val (.int (2 : Int32)), .val (.int (3 : Int32)), .val (.int (2 : Int32)), .val (.int c2)]) (hb hby d_jdk_52_method_21_code_13) rfl).trans ?_
            refine (Own.P.iload K12.here K12.exec (hb hby d_jdk_52_method_21_code_15) rfl).trans ?_
            refine (Own.P.sipush K12.here K12.exec (255 : Int32) (hb hby d_jdk_52_method_21_code_17) rfl).trans ?_
            exact Go.refl _
          by_cases q2 : 255 < c2
          case pos =>
              have S16 : Go p e below A0 (T12.setTop (mkF m 25 #[.val (.ref a1), .val (.int (2 : Int32)), .val (.ref a2), .val (.int (2 : Int32)), .val (.int (3 : Int32)), .val (.int (2 : Int32)), .val (.int c2)] [(.int (2 : Int32))])) := by
                refine S15.trans ?_
                refine (Own.P.icmpNo K12.here K12.exec (hb hby d_jdk_52_method_21_code_20) (XT.ii_le_f q2)).trans ?_
                refine (Own.P.iload K12.here K12.exec (hb hby d_jdk_52_method_21_code_23) rfl).trans ?_
                exact Go.refl _
              rw [own_k2 q0 q1 q2]
              exact ⟨s.vm, T12, h12, (some (.int (2 : Int32))), _, _, K12, by decide, by decide, ⟨rfl, fun q => absurd q2 q.2.2⟩, K12.retW S16 hret rfl (Or.inl ⟨rfl, by decide, _, rfl⟩) (hb hby d_jdk_52_method_21_code_25)⟩
          case neg =>
              have S17 : Go p e below A0 (T12.setTop (mkF m 31 #[.val (.ref a1), .val (.int (2 : Int32)), .val (.ref a2), .val (.int (2 : Int32)), .val (.int (3 : Int32)), .val (.int (2 : Int32)), .val (.int c2)] [(.int (c2.toInt8.toInt32)), (.int (2 : Int32)), (.ref a2)])) := by
                refine S15.trans ?_
                refine (Own.P.icmpYes K12.here K12.exec 26 (hb hby d_jdk_52_method_21_code_20) (XT.ii_le_t q2) (by decide) (by decide)).trans ?_
                refine (Own.P.aloadN K12.here K12.exec (hb hby d_jdk_52_method_21_code_26) rfl rfl).trans ?_
                refine (Own.P.iloadN K12.here K12.exec (hb hby d_jdk_52_method_21_code_27) rfl).trans ?_
                refine (Own.P.iload K12.here K12.exec (hb hby d_jdk_52_method_21_code_28) rfl).trans ?_
                refine (Own.P.i2b K12.here K12.exec (hb hby d_jdk_52_method_21_code_30) ).trans ?_
                exact Go.refl _
              obtain ⟨T18, h18, K18, W18, V18, G18⟩ := K12.stB V12  (j := (2 : Int32)) ⟨by decide, by decide⟩ 2 rfl (Nat.le_of_ble_eq_true rfl) (Or.inl (List.mem_of_getElem? (i := 0) rfl)) (pc := 31) (Ls := #[.val (.ref a1), .val (.int (2 : Int32)), .val (.ref a2), .val (.int (2 : Int32)), .val (.int (3 : Int32)), .val (.int (2 : Int32)), .val (.int c2)]) (rest := []) (hb hby d_jdk_52_method_21_code_31)
              have S18 : Go p e below A0 (T18.setTop (mkF m 32 #[.val (.ref a1), .val (.int (2 : Int32)), .val (.ref a2), .val (.int (2 : Int32)), .val (.int (3 : Int32)), .val (.int (2 : Int32)), .val (.int c2)] [])) := S17.trans G18
              rw [own_nb] at V18
              have U18 := U12.other W18 ne
              have S19 : Go p e below A0 (T18.setTop (mkF m 46 #[.val (.ref a1), .val (.int (3 : Int32)), .val (.ref a2), .val (.int (3 : Int32)), .val (.int (3 : Int32)), .val (.int (3 : Int32)), .val (.int c2)] [(.int (3 : Int32))])) := by
                refine S18.trans ?_
                refine (Own.P.iinc K18.here K18.exec (v := (3 : Int32)) (l' := #[.val (.ref a1), .val (.int (3 : Int32)), .val (.ref a2), .val (.int (2 : Int32)), .val (.int (3 : Int32)), .val (.int (2 : Int32)), .val (.int c2)]) (hb hby d_jdk_52_method_21_code_32) rfl rfl rfl).trans ?_
                refine (Own.P.iinc K18.here K18.exec (v := (3 : Int32)) (l' := #[.val (.ref a1), .val (.int (3 : Int32)), .val (.ref a2), .val (.int (3 : Int32)), .val (.int (3 : Int32)), .val (.int (2 : Int32)), .val (.int c2)]) (hb hby d_jdk_52_method_21_code_35) rfl rfl rfl).trans ?_
                refine (Own.P.iinc K18.here K18.exec (v := (3 : Int32)) (l' := #[.val (.ref a1), .val (.int (3 : Int32)), .val (.ref a2), .val (.int (3 : Int32)), .val (.int (3 : Int32)), .val (.int (3 : Int32)), .val (.int c2)]) (hb hby d_jdk_52_method_21_code_38) rfl rfl rfl).trans ?_
                refine (Own.P.goto K18.here K18.exec 3 (hb hby d_jdk_52_method_21_code_41) (by decide) (by decide)).trans ?_
                refine (Own.P.iload K18.here K18.exec (hb hby d_jdk_52_method_21_code_3) rfl).trans ?_
                refine (Own.P.iload K18.here K18.exec (hb hby d_jdk_52_method_21_code_5) rfl).trans ?_
                refine (Own.P.icmpYes K18.here K18.exec 44 (hb hby d_jdk_52_method_21_code_7) (by decide) (by decide) (by decide)).trans ?_
                refine (Own.P.iload K18.here K18.exec (hb hby d_jdk_52_method_21_code_44) rfl).trans ?_
                exact Go.refl _
              rw [own_k3 q0 q1 q2]
              exact ⟨s.vm, T18, h18, (some (.int (3 : Int32))), _, _, K18, by decide, by decide, ⟨rfl, fun _ => V18⟩, K18.retW S19 hret rfl (Or.inl ⟨rfl, by decide, _, rfl⟩) (hb hby d_jdk_52_method_21_code_46)⟩
theorem d_jdk_52_method_16_code_0 : decode jdk_52_method_16_code 0 = .ok (.iload_n 2, 1) := by decide +kernel
theorem d_jdk_52_method_16_code_1 : decode jdk_52_method_16_code 1 = .ok (.newarray .byte, 2) := by decide +kernel
theorem d_jdk_52_method_16_code_3 : decode jdk_52_method_16_code 3 = .ok (.astore_n 3, 1) := by decide +kernel
theorem d_jdk_52_method_16_code_4 : decode jdk_52_method_16_code 4 = .ok (.aload_n 0, 1) := by decide +kernel
theorem d_jdk_52_method_16_code_5 : decode jdk_52_method_16_code 5 = .ok (.iload_n 1, 1) := by decide +kernel
theorem d_jdk_52_method_16_code_6 : decode jdk_52_method_16_code 6 = .ok (.aload_n 3, 1) := by decide +kernel
theorem d_jdk_52_method_16_code_7 : decode jdk_52_method_16_code 7 = .ok (.iconst 0, 1) := by decide +kernel
theorem d_jdk_52_method_16_code_8 : decode jdk_52_method_16_code 8 = .ok (.iload_n 2, 1) := by decide +kernel
theorem pd_3 : parseMethodDescriptor "([CI[BII)I" = some ⟨[(.array .char), .int, (.array .byte), .int, .int], some .int⟩ := by decide +kernel
theorem d_jdk_52_method_16_code_9 : decode jdk_52_method_16_code 9 = .ok (.invokestatic 115, 3) := by decide +kernel
theorem d_jdk_52_method_16_code_12 : decode jdk_52_method_16_code 12 = .ok (.istore 4, 2) := by decide +kernel
theorem d_jdk_52_method_16_code_14 : decode jdk_52_method_16_code 14 = .ok (.iload 4, 2) := by decide +kernel
theorem d_jdk_52_method_16_code_16 : decode jdk_52_method_16_code 16 = .ok (.iload_n 2, 1) := by decide +kernel
theorem d_jdk_52_method_16_code_17 : decode jdk_52_method_16_code 17 = .ok (.if_icmp .eq 40, 3) := by decide +kernel
theorem d_jdk_52_method_16_code_20 : decode jdk_52_method_16_code 20 = .ok (.aload_n 0, 1) := by decide +kernel
theorem d_jdk_52_method_16_code_21 : decode jdk_52_method_16_code 21 = .ok (.iload_n 1, 1) := by decide +kernel
theorem d_jdk_52_method_16_code_22 : decode jdk_52_method_16_code 22 = .ok (.iload_n 2, 1) := by decide +kernel
theorem pd_4 : parseMethodDescriptor "([CII)[B" = some ⟨[(.array .char), .int, .int], some (.array .byte)⟩ := by decide +kernel
theorem d_jdk_52_method_16_code_23 : decode jdk_52_method_16_code 23 = .ok (.invokestatic 119, 3) := by decide +kernel
theorem d_jdk_52_method_16_code_26 : decode jdk_52_method_16_code 26 = .ok (.astore 5, 2) := by decide +kernel
theorem d_jdk_52_method_16_code_28 : decode jdk_52_method_16_code 28 = .ok (.aload 5, 2) := by decide +kernel
theorem d_jdk_52_method_16_code_30 : decode jdk_52_method_16_code 30 = .ok (.iload 4, 2) := by decide +kernel
theorem pd_5 : parseMethodDescriptor "([BI)C" = some ⟨[(.array .byte), .int], some .char⟩ := by decide +kernel
theorem d_jdk_52_method_16_code_32 : decode jdk_52_method_16_code 32 = .ok (.invokestatic 71, 3) := by decide +kernel
theorem d_jdk_52_method_16_code_35 : decode jdk_52_method_16_code 35 = .ok (.sipush 255, 3) := by decide +kernel
theorem d_jdk_52_method_16_code_38 : decode jdk_52_method_16_code 38 = .ok (.if_icmp .gt 16, 3) := by decide +kernel
theorem d_jdk_52_method_16_code_54 : decode jdk_52_method_16_code 54 = .ok (.aload 5, 2) := by decide +kernel
theorem d_jdk_52_method_16_code_56 : decode jdk_52_method_16_code 56 = .ok (.areturn, 1) := by decide +kernel
theorem d_jdk_52_method_16_code_57 : decode jdk_52_method_16_code 57 = .ok (.aload_n 3, 1) := by decide +kernel
theorem d_jdk_52_method_16_code_58 : decode jdk_52_method_16_code 58 = .ok (.areturn, 1) := by decide +kernel
set_option maxRecDepth 65536 in
set_option maxHeartbeats 40000000 in
theorem c_cmp3 (l : Launch) (Z : State) (a0 : Array Value) (hw : ∀ d ∈ tables_1, d.before a0 Z = true) (n0 : Nat) (h0 : Heap) (O0 : Old Z n0 h0) (A1 : Sta Z Z.heap "java/lang/StringUTF16" "$assertionsDisabled" "Z" (.int 1)) (A2 : Sta Z Z.heap "java/lang/StringUTF16" "HI_BYTE_SHIFT" "I" (.int 0)) (A3 : Sta Z Z.heap "java/lang/StringUTF16" "LO_BYTE_SHIFT" "I" (.int 8)) (a1 : Addr) (kc : ClassId) (dv : Value) (c0 c1 c2 : Int32) (r0 : ¬ c0 < 0 ∧ ¬ (65535 : Int32) < c0) (r1 : ¬ c1 < 0 ∧ ¬ (65535 : Int32) < c1) (r2 : ¬ c2 < 0 ∧ ¬ (65535 : Int32) < c2) (V : Arv Z h0 a1 kc .char 3 [.int c0, .int c1, .int c2] dv) :
    Own.Ctr false l (⟨"java/lang/StringUTF16", "compress", "([CII)[B"⟩ : MethodName) jdk_52_method_16_code 6 (some (.array .byte)) ({ frames := 3, cells := 2, slots := 9, locals := 40 } : Room) #[(.ref a1), (.int (0 : Int32)), (.int (3 : Int32))] Z h0 Own.VT [] (fun v h vm => ∃ t kb, v = some (.ref t) ∧ ((¬ 255 < c0 ∧ ¬ 255 < c1 ∧ ¬ 255 < c2) ∧ Arv Z h t kb .byte 3 [.int (lo8 c0), .int (lo8 c1), .int (lo8 c2)] (.int 0) ∨ Arv Z h t kb .byte 6 [.int (lo8 c0), .int (hi8 c0), .int (lo8 c1), .int (hi8 c1), .int (lo8 c2), .int (hi8 c2)] (.int 0))) := by
  refine Own.body (plainFor_of_name pn_1) O0 (fun _ _ _ _ q => by cases q) (fun _ _ _ _ q _ => q) ?_
  intro p e s m below meth c T0 hby hml0 hret hnm hV0 K0
  change Own.Wk false p l e ({ frames := 3, cells := 2, slots := 9, locals := 40 } : Room) s m #[(.ref a1), (.int (0 : Int32)), (.int (3 : Int32))] below meth c "java/lang/StringUTF16" Z n0 h0 [] s.vm T0 h0 0 0 at K0
  have hml : c.maxLocals = 6 := hml0
  have S0 : Go p e below (T0.setTop (entryFrame m #[(.ref a1), (.int (0 : Int32)), (.int (3 : Int32))] 6)) (T0.setTop (mkF m 0 #[.val (.ref a1), .val (.int (0 : Int32)), .val (.int (3 : Int32)), .unset, .unset, .unset] [])) := fun t k => castTop (by first | rfl | (simp [entryFrame, mkF, argsToLocals, Value.category]; done)) k
  generalize T0.setTop (entryFrame m #[(.ref a1), (.int (0 : Int32)), (.int (3 : Int32))] 6) = A0 at S0 ⊢
  have S1 : Go p e below A0 (T0.setTop (mkF m 1 #[.val (.ref a1), .val (.int (0 : Int32)), .val (.int (3 : Int32)), .unset, .unset, .unset] [(.int (3 : Int32))])) := by
    refine S0.trans ?_
    refine (Own.P.iloadN K0.here K0.exec (hb hby d_jdk_52_method_16_code_0) rfl).trans ?_
    exact Go.refl _
  obtain ⟨T2, h2, t, cA_t, K2, E2, g_t, l_t, ne_t, V_t, G2⟩ := K0.newP (aty := .byte) (hw _ (List.mem_of_getElem? (i := 25) rfl)) (n := (3 : Int32)) (pc := 1) (Ls := #[.val (.ref a1), .val (.int (0 : Int32)), .val (.int (3 : Int32)), .unset, .unset, .unset]) (rest := []) (hb hby d_jdk_52_method_16_code_1) 3 (by decide) (by decide) (by decide) (by decide) (by decide)
  have S2 : Go p e below A0 (T2.setTop (mkF m 3 #[.val (.ref a1), .val (.int (0 : Int32)), .val (.int (3 : Int32)), .unset, .unset, .unset] [(.ref t)])) := S1.trans G2
  have U0 := V.ext E2
  have Y0 : Arv Z h2 t cA_t .byte 3 [.int 0, .int 0, .int 0] (.int 0) := V_t.pad (pad_rep [] (.int 0) 3)
  have gn : n0 ≤ t := Nat.le_trans K0.2.2.2.1 g_t
  have ne := ne_t _ V.lt
  have S3 : Go p e below A0 (T2.setTop (mkF m 9 #[.val (.ref a1), .val (.int (0 : Int32)), .val (.int (3 : Int32)), .val (.ref t), .unset, .unset] [(.int (3 : Int32)), (.int (0 : Int32)), (.ref t), (.int (0 : Int32)), (.ref a1)])) := by
    refine S2.trans ?_
    refine (Own.P.astoreN K2.here K2.exec (l' := #[.val (.ref a1), .val (.int (0 : Int32)), .val (.int (3 : Int32)), .val (.ref t), .unset, .unset]) (hb hby d_jdk_52_method_16_code_3) rfl rfl).trans ?_
    refine (Own.P.aloadN K2.here K2.exec (hb hby d_jdk_52_method_16_code_4) rfl rfl).trans ?_
    refine (Own.P.iloadN K2.here K2.exec (hb hby d_jdk_52_method_16_code_5) rfl).trans ?_
    refine (Own.P.aloadN K2.here K2.exec (hb hby d_jdk_52_method_16_code_6) rfl rfl).trans ?_
    refine (Own.P.iconst K2.here K2.exec (0 : Int32) (hb hby d_jdk_52_method_16_code_7) rfl).trans ?_
    refine (Own.P.iloadN K2.here K2.exec (hb hby d_jdk_52_method_16_code_8) rfl).trans ?_
    exact Go.refl _
  obtain ⟨v4, vm4, vq4, T4, h4, K4, KK4, ev4, Q4, G4⟩ := K2.callS (y := (⟨"java/lang/StringUTF16", "compress", "([CI[BII)I"⟩ : MethodName)) (hw _ (List.mem_of_getElem? (i := 26) rfl)) (hw _ (List.mem_of_getElem? (i := 27) rfl)) (hw _ (List.mem_of_getElem? (i := 23) rfl)) (hw _ (List.mem_of_getElem? (i := 28) rfl)) (by decide) (W := 0) (argsL := [(.ref a1), (.int (0 : Int32)), (.ref t), (.int (0 : Int32)), (.int (3 : Int32))]) (rest := []) ((c_cmp5 l Z a0 hw n0 h2 (K2.old) a1 t kc cA_t dv c0 c1 c2 U0 Y0 gn ne).pay Own.VT.cl (hw _ (List.mem_of_getElem? (i := 28) rfl)) (hw _ (List.mem_of_getElem? (i := 23) rfl)) (by decide) (by decide)) trivial (pc := 9) (Ls := #[.val (.ref a1), .val (.int (0 : Int32)), .val (.int (3 : Int32)), .val (.ref t), .unset, .unset]) (st := [(.int (3 : Int32)), (.int (0 : Int32)), (.ref t), (.int (0 : Int32)), (.ref a1)]) (by rw [hml]; rfl) (lenOf pd_3 rfl) rfl (Nat.le_of_eq rfl) (hb hby d_jdk_52_method_16_code_9) (by decide) (by decide) (allS (Or.inr g_t) all0)
  obtain ⟨rfl, hY⟩ := Q4
  have S4 : Go p e below A0 (T4.setTop (mkF m 12 #[.val (.ref a1), .val (.int (0 : Int32)), .val (.int (3 : Int32)), .val (.ref t), .unset, .unset] [(.int (own_k c0 c1 c2))])) := S3.trans G4
  have U1 := U0.keep KK4 (ninS ne nin0)
  have S5 : Go p e below A0 (T4.setTop (mkF m 17 #[.val (.ref a1), .val (.int (0 : Int32)), .val (.int (3 : Int32)), .val (.ref t), .val (.int (own_k c0 c1 c2)), .unset] [(.int (3 : Int32)), (.int (own_k c0 c1 c2))])) := by
    refine S4.trans ?_
    refine (Own.P.istore K4.here K4.exec (l' := #[.val (.ref a1), .val (.int (0 : Int32)), .val (.int (3 : Int32)), .val (.ref t), .val (.int (own_k c0 c1 c2)), .unset]) (hb hby d_jdk_52_method_16_code_12) rfl).trans ?_
    refine (Own.P.iload K4.here K4.exec (hb hby d_jdk_52_method_16_code_14) rfl).trans ?_
    refine (Own.P.iloadN K4.here K4.exec (hb hby d_jdk_52_method_16_code_16) rfl).trans ?_
    exact Go.refl _
  by_cases q0 : 255 < c0
  case pos =>
      rw [own_k0 q0] at S5
      have S6 : Go p e below A0 (T4.setTop (mkF m 23 #[.val (.ref a1), .val (.int (0 : Int32)), .val (.int (3 : Int32)), .val (.ref t), .val (.int (0 : Int32)), .unset] [(.int (3 : Int32)), (.int (0 : Int32)), (.ref a1)])) := by
        refine S5.trans ?_
        refine (Own.P.icmpNo K4.here K4.exec (hb hby d_jdk_52_method_16_code_17) (by decide)).trans ?_
        refine (Own.P.aloadN K4.here K4.exec (hb hby d_jdk_52_method_16_code_20) rfl rfl).trans ?_
        refine (Own.P.iloadN K4.here K4.exec (hb hby d_jdk_52_method_16_code_21) rfl).trans ?_
        refine (Own.P.iloadN K4.here K4.exec (hb hby d_jdk_52_method_16_code_22) rfl).trans ?_
        exact Go.refl _
      obtain ⟨v7, vm7, vq7, T7, h7, K7, KK7, ev7, Q7, G7⟩ := K4.callS (y := (⟨"java/lang/StringUTF16", "toBytes", "([CII)[B"⟩ : MethodName)) (hw _ (List.mem_of_getElem? (i := 80) rfl)) (hw _ (List.mem_of_getElem? (i := 81) rfl)) (hw _ (List.mem_of_getElem? (i := 23) rfl)) (hw _ (List.mem_of_getElem? (i := 82) rfl)) (by decide) (W := 0) (argsL := [(.ref a1), (.int (0 : Int32)), (.int (3 : Int32))]) (rest := []) ((c_tob l Z a0 hw n0 h4 (K4.old) A1 A2 A3 a1 kc dv c0 c1 c2 U1).pay Own.VT.cl (hw _ (List.mem_of_getElem? (i := 82) rfl)) (hw _ (List.mem_of_getElem? (i := 23) rfl)) (by decide) (by decide)) trivial (pc := 23) (Ls := #[.val (.ref a1), .val (.int (0 : Int32)), .val (.int (3 : Int32)), .val (.ref t), .val (.int (0 : Int32)), .unset]) (st := [(.int (3 : Int32)), (.int (0 : Int32)), (.ref a1)]) (by rw [hml]; rfl) (lenOf pd_4 rfl) rfl (Nat.le_of_eq rfl) (hb hby d_jdk_52_method_16_code_23) (by decide) (by decide) all0
      obtain ⟨u, ku, rfl, Yu, gu⟩ := Q7
      have S7 : Go p e below A0 (T7.setTop (mkF m 26 #[.val (.ref a1), .val (.int (0 : Int32)), .val (.int (3 : Int32)), .val (.ref t), .val (.int (0 : Int32)), .unset] [(.ref u)])) := S6.trans G7
      have S8 : Go p e below A0 (T7.setTop (mkF m 32 #[.val (.ref a1), .val (.int (0 : Int32)), .val (.int (3 : Int32)), .val (.ref t), .val (.int (0 : Int32)), .val (.ref u)] [(.int (0 : Int32)), (.ref u)])) := by
        refine S7.trans ?_
        refine (Own.P.astore K7.here K7.exec (l' := #[.val (.ref a1), .val (.int (0 : Int32)), .val (.int (3 : Int32)), .val (.ref t), .val (.int (0 : Int32)), .val (.ref u)]) (hb hby d_jdk_52_method_16_code_26) rfl rfl).trans ?_
        refine (Own.P.aload K7.here K7.exec (hb hby d_jdk_52_method_16_code_28) rfl rfl).trans ?_
        refine (Own.P.iload K7.here K7.exec (hb hby d_jdk_52_method_16_code_30) rfl).trans ?_
        exact Go.refl _
      obtain ⟨v9, vm9, vq9, T9, h9, K9, KK9, ev9, Q9, G9⟩ := K7.callS (y := (⟨"java/lang/StringUTF16", "getChar", "([BI)C"⟩ : MethodName)) (hw _ (List.mem_of_getElem? (i := 96) rfl)) (hw _ (List.mem_of_getElem? (i := 97) rfl)) (hw _ (List.mem_of_getElem? (i := 23) rfl)) (hw _ (List.mem_of_getElem? (i := 98) rfl)) (by decide) (W := 0) (argsL := [(.ref u), (.int (0 : Int32))]) (rest := []) ((c_get0 l Z a0 hw n0 h7 (K7.old) A1 A2 A3 u ku _ _ _ _ _ _ Yu c0 r0 rfl rfl).pay Own.VT.cl (hw _ (List.mem_of_getElem? (i := 98) rfl)) (hw _ (List.mem_of_getElem? (i := 23) rfl)) (by decide) (by decide)) trivial (pc := 32) (Ls := #[.val (.ref a1), .val (.int (0 : Int32)), .val (.int (3 : Int32)), .val (.ref t), .val (.int (0 : Int32)), .val (.ref u)]) (st := [(.int (0 : Int32)), (.ref u)]) (by rw [hml]; rfl) (lenOf pd_5 rfl) rfl (Nat.le_of_eq rfl) (hb hby d_jdk_52_method_16_code_32) (by decide) (by decide) all0
      obtain ⟨rfl, e9⟩ := Q9
      have S9 : Go p e below A0 (T9.setTop (mkF m 35 #[.val (.ref a1), .val (.int (0 : Int32)), .val (.int (3 : Int32)), .val (.ref t), .val (.int (0 : Int32)), .val (.ref u)] [(.int c0)])) := S8.trans G9
      subst e9
      have S10 : Go p e below A0 (T9.setTop (mkF m 56 #[.val (.ref a1), .val (.int (0 : Int32)), .val (.int (3 : Int32)), .val (.ref t), .val (.int (0 : Int32)), .val (.ref u)] [(.ref u)])) := by
        refine S9.trans ?_
        refine (Own.P.sipush K9.here K9.exec (255 : Int32) (hb hby d_jdk_52_method_16_code_35) rfl).trans ?_
        refine (Own.P.icmpYes K9.here K9.exec 54 (hb hby d_jdk_52_method_16_code_38) (XT.ii_gt_t q0) (by decide) (by decide)).trans ?_
        refine (Own.P.aload K9.here K9.exec (hb hby d_jdk_52_method_16_code_54) rfl rfl).trans ?_
        exact Go.refl _
      exact ⟨vm9, T9, h9, (some (.ref u)), _, _, K9, by decide, by decide, ⟨u, ku, rfl, Or.inr Yu⟩, K9.retW S10 hret rfl (Or.inr (Or.inr (Or.inr (Or.inr ⟨rfl, rfl, rfl⟩)))) (hb hby d_jdk_52_method_16_code_56)⟩
  case neg =>
      by_cases q1 : 255 < c1
      case pos =>
          rw [own_k1 q0 q1] at S5
          have S11 : Go p e below A0 (T4.setTop (mkF m 23 #[.val (.ref a1), .val (.int (0 : Int32)), .val (.int (3 : Int32)), .val (.ref t), .val (.int (1 : Int32)), .unset] [(.int (3 : Int32)), (.int (0 : Int32)), (.ref a1)])) := by
            refine S5.trans ?_
            refine (Own.P.icmpNo K4.here K4.exec (hb hby d_jdk_52_method_16_code_17) (by decide)).trans ?_
            refine (Own.P.aloadN K4.here K4.exec (hb hby d_jdk_52_method_16_code_20) rfl rfl).trans ?_
            refine (Own.P.iloadN K4.here K4.exec (hb hby d_jdk_52_method_16_code_21) rfl).trans ?_
            refine (Own.P.iloadN K4.here K4.exec (hb hby d_jdk_52_method_16_code_22) rfl).trans ?_
            exact Go.refl _
          obtain ⟨v12, vm12, vq12, T12, h12, K12, KK12, ev12, Q12, G12⟩ := K4.callS (y := (⟨"java/lang/StringUTF16", "toBytes", "([CII)[B"⟩ : MethodName)) (hw _ (List.mem_of_getElem? (i := 80) rfl)) (hw _ (List.mem_of_getElem? (i := 81) rfl)) (hw _ (List.mem_of_getElem? (i := 23) rfl)) (hw _ (List.mem_of_getElem? (i := 82) rfl)) (by decide) (W := 0) (argsL := [(.ref a1), (.int (0 : Int32)), (.int (3 : Int32))]) (rest := []) ((c_tob l Z a0 hw n0 h4 (K4.old) A1 A2 A3 a1 kc dv c0 c1 c2 U1).pay Own.VT.cl (hw _ (List.mem_of_getElem? (i := 82) rfl)) (hw _ (List.mem_of_getElem? (i := 23) rfl)) (by decide) (by decide)) trivial (pc := 23) (Ls := #[.val (.ref a1), .val (.int (0 : Int32)), .val (.int (3 : Int32)), .val (.ref t), .val (.int (1 : Int32)), .unset]) (st := [(.int (3 : Int32)), (.int (0 : Int32)), (.ref a1)]) (by rw [hml]; rfl) (lenOf pd_4 rfl) rfl (Nat.le_of_eq rfl) (hb hby d_jdk_52_method_16_code_23) (by decide) (by decide) all0
          obtain ⟨u, ku, rfl, Yu, gu⟩ := Q12
          have S12 : Go p e below A0 (T12.setTop (mkF m 26 #[.val (.ref a1), .val (.int (0 : Int32)), .val (.int (3 : Int32)), .val (.ref t), .val (.int (1 : Int32)), .unset] [(.ref u)])) := S11.trans G12
          have S13 : Go p e below A0 (T12.setTop (mkF m 32 #[.val (.ref a1), .val (.int (0 : Int32)), .val (.int (3 : Int32)), .val (.ref t), .val (.int (1 : Int32)), .val (.ref u)] [(.int (1 : Int32)), (.ref u)])) := by
            refine S12.trans ?_
            refine (Own.P.astore K12.here K12.exec (l' := #[.val (.ref a1), .val (.int (0 : Int32)), .val (.int (3 : Int32)), .val (.ref t), .val (.int (1 : Int32)), .val (.ref u)]) (hb hby d_jdk_52_method_16_code_26) rfl rfl).trans ?_
            refine (Own.P.aload K12.here K12.exec (hb hby d_jdk_52_method_16_code_28) rfl rfl).trans ?_
            refine (Own.P.iload K12.here K12.exec (hb hby d_jdk_52_method_16_code_30) rfl).trans ?_
            exact Go.refl _
          obtain ⟨v14, vm14, vq14, T14, h14, K14, KK14, ev14, Q14, G14⟩ := K12.callS (y := (⟨"java/lang/StringUTF16", "getChar", "([BI)C"⟩ : MethodName)) (hw _ (List.mem_of_getElem? (i := 96) rfl)) (hw _ (List.mem_of_getElem? (i := 97) rfl)) (hw _ (List.mem_of_getElem? (i := 23) rfl)) (hw _ (List.mem_of_getElem? (i := 98) rfl)) (by decide) (W := 0) (argsL := [(.ref u), (.int (1 : Int32))]) (rest := []) ((c_get1 l Z a0 hw n0 h12 (K12.old) A1 A2 A3 u ku _ _ _ _ _ _ Yu c1 r1 rfl rfl).pay Own.VT.cl (hw _ (List.mem_of_getElem? (i := 98) rfl)) (hw _ (List.mem_of_getElem? (i := 23) rfl)) (by decide) (by decide)) trivial (pc := 32) (Ls := #[.val (.ref a1), .val (.int (0 : Int32)), .val (.int (3 : Int32)), .val (.ref t), .val (.int (1 : Int32)), .val (.ref u)]) (st := [(.int (1 : Int32)), (.ref u)]) (by rw [hml]; rfl) (lenOf pd_5 rfl) rfl (Nat.le_of_eq rfl) (hb hby d_jdk_52_method_16_code_32) (by decide) (by decide) all0
          obtain ⟨rfl, e14⟩ := Q14
          have S14 : Go p e below A0 (T14.setTop (mkF m 35 #[.val (.ref a1), .val (.int (0 : Int32)), .val (.int (3 : Int32)), .val (.ref t), .val (.int (1 : Int32)), .val (.ref u)] [(.int c1)])) := S13.trans G14
          subst e14
          have S15 : Go p e below A0 (T14.setTop (mkF m 56 #[.val (.ref a1), .val (.int (0 : Int32)), .val (.int (3 : Int32)), .val (.ref t), .val (.int (1 : Int32)), .val (.ref u)] [(.ref u)])) := by
            refine S14.trans ?_
            refine (Own.P.sipush K14.here K14.exec (255 : Int32) (hb hby d_jdk_52_method_16_code_35) rfl).trans ?_
            refine (Own.P.icmpYes K14.here K14.exec 54 (hb hby d_jdk_52_method_16_code_38) (XT.ii_gt_t q1) (by decide) (by decide)).trans ?_
            refine (Own.P.aload K14.here K14.exec (hb hby d_jdk_52_method_16_code_54) rfl rfl).trans ?_
            exact Go.refl _
          exact ⟨vm14, T14, h14, (some (.ref u)), _, _, K14, by decide, by decide, ⟨u, ku, rfl, Or.inr Yu⟩, K14.retW S15 hret rfl (Or.inr (Or.inr (Or.inr (Or.inr ⟨rfl, rfl, rfl⟩)))) (hb hby d_jdk_52_method_16_code_56)⟩
      case neg =>
          by_cases q2 : 255 < c2
          case pos =>
              rw [own_k2 q0 q1 q2] at S5
              have S16 : Go p e below A0 (T4.setTop (mkF m 23 #[.val (.ref a1), .val (.int (0 : Int32)), .val (.int (3 : Int32)), .val (.ref t), .val (.int (2 : Int32)), .unset] [(.int (3 : Int32)), (.int (0 : Int32)), (.ref a1)])) := by
                refine S5.trans ?_
                refine (Own.P.icmpNo K4.here K4.exec (hb hby d_jdk_52_method_16_code_17) (by decide)).trans ?_
                refine (Own.P.aloadN K4.here K4.exec (hb hby d_jdk_52_method_16_code_20) rfl rfl).trans ?_
                refine (Own.P.iloadN K4.here K4.exec (hb hby d_jdk_52_method_16_code_21) rfl).trans ?_
                refine (Own.P.iloadN K4.here K4.exec (hb hby d_jdk_52_method_16_code_22) rfl).trans ?_
                exact Go.refl _
              obtain ⟨v17, vm17, vq17, T17, h17, K17, KK17, ev17, Q17, G17⟩ := K4.callS (y := (⟨"java/lang/StringUTF16", "toBytes", "([CII)[B"⟩ : MethodName)) (hw _ (List.mem_of_getElem? (i := 80) rfl)) (hw _ (List.mem_of_getElem? (i := 81) rfl)) (hw _ (List.mem_of_getElem? (i := 23) rfl)) (hw _ (List.mem_of_getElem? (i := 82) rfl)) (by decide) (W := 0) (argsL := [(.ref a1), (.int (0 : Int32)), (.int (3 : Int32))]) (rest := []) ((c_tob l Z a0 hw n0 h4 (K4.old) A1 A2 A3 a1 kc dv c0 c1 c2 U1).pay Own.VT.cl (hw _ (List.mem_of_getElem? (i := 82) rfl)) (hw _ (List.mem_of_getElem? (i := 23) rfl)) (by decide) (by decide)) trivial (pc := 23) (Ls := #[.val (.ref a1), .val (.int (0 : Int32)), .val (.int (3 : Int32)), .val (.ref t), .val (.int (2 : Int32)), .unset]) (st := [(.int (3 : Int32)), (.int (0 : Int32)), (.ref a1)]) (by rw [hml]; rfl) (lenOf pd_4 rfl) rfl (Nat.le_of_eq rfl) (hb hby d_jdk_52_method_16_code_23) (by decide) (by decide) all0
              obtain ⟨u, ku, rfl, Yu, gu⟩ := Q17
              have S17 : Go p e below A0 (T17.setTop (mkF m 26 #[.val (.ref a1), .val (.int (0 : Int32)), .val (.int (3 : Int32)), .val (.ref t), .val (.int (2 : Int32)), .unset] [(.ref u)])) := S16.trans G17
              have S18 : Go p e below A0 (T17.setTop (mkF m 32 #[.val (.ref a1), .val (.int (0 : Int32)), .val (.int (3 : Int32)), .val (.ref t), .val (.int (2 : Int32)), .val (.ref u)] [(.int (2 : Int32)), (.ref u)])) := by
                refine S17.trans ?_
                refine (Own.P.astore K17.here K17.exec (l' := #[.val (.ref a1), .val (.int (0 : Int32)), .val (.int (3 : Int32)), .val (.ref t), .val (.int (2 : Int32)), .val (.ref u)]) (hb hby d_jdk_52_method_16_code_26) rfl rfl).trans ?_
                refine (Own.P.aload K17.here K17.exec (hb hby d_jdk_52_method_16_code_28) rfl rfl).trans ?_
                refine (Own.P.iload K17.here K17.exec (hb hby d_jdk_52_method_16_code_30) rfl).trans ?_
                exact Go.refl _
              obtain ⟨v19, vm19, vq19, T19, h19, K19, KK19, ev19, Q19, G19⟩ := K17.callS (y := (⟨"java/lang/StringUTF16", "getChar", "([BI)C"⟩ : MethodName)) (hw _ (List.mem_of_getElem? (i := 96) rfl)) (hw _ (List.mem_of_getElem? (i := 97) rfl)) (hw _ (List.mem_of_getElem? (i := 23) rfl)) (hw _ (List.mem_of_getElem? (i := 98) rfl)) (by decide) (W := 0) (argsL := [(.ref u), (.int (2 : Int32))]) (rest := []) ((c_get2 l Z a0 hw n0 h17 (K17.old) A1 A2 A3 u ku _ _ _ _ _ _ Yu c2 r2 rfl rfl).pay Own.VT.cl (hw _ (List.mem_of_getElem? (i := 98) rfl)) (hw _ (List.mem_of_getElem? (i := 23) rfl)) (by decide) (by decide)) trivial (pc := 32) (Ls := #[.val (.ref a1), .val (.int (0 : Int32)), .val (.int (3 : Int32)), .val (.ref t), .val (.int (2 : Int32)), .val (.ref u)]) (st := [(.int (2 : Int32)), (.ref u)]) (by rw [hml]; rfl) (lenOf pd_5 rfl) rfl (Nat.le_of_eq rfl) (hb hby d_jdk_52_method_16_code_32) (by decide) (by decide) all0
              obtain ⟨rfl, e19⟩ := Q19
              have S19 : Go p e below A0 (T19.setTop (mkF m 35 #[.val (.ref a1), .val (.int (0 : Int32)), .val (.int (3 : Int32)), .val (.ref t), .val (.int (2 : Int32)), .val (.ref u)] [(.int c2)])) := S18.trans G19
              subst e19
              have S20 : Go p e below A0 (T19.setTop (mkF m 56 #[.val (.ref a1), .val (.int (0 : Int32)), .val (.int (3 : Int32)), .val (.ref t), .val (.int (2 : Int32)), .val (.ref u)] [(.ref u)])) := by
                refine S19.trans ?_
                refine (Own.P.sipush K19.here K19.exec (255 : Int32) (hb hby d_jdk_52_method_16_code_35) rfl).trans ?_
                refine (Own.P.icmpYes K19.here K19.exec 54 (hb hby d_jdk_52_method_16_code_38) (XT.ii_gt_t q2) (by decide) (by decide)).trans ?_
                refine (Own.P.aload K19.here K19.exec (hb hby d_jdk_52_method_16_code_54) rfl rfl).trans ?_
                exact Go.refl _
              exact ⟨vm19, T19, h19, (some (.ref u)), _, _, K19, by decide, by decide, ⟨u, ku, rfl, Or.inr Yu⟩, K19.retW S20 hret rfl (Or.inr (Or.inr (Or.inr (Or.inr ⟨rfl, rfl, rfl⟩)))) (hb hby d_jdk_52_method_16_code_56)⟩
          case neg =>
              rw [own_k3 q0 q1 q2] at S5
              have S21 : Go p e below A0 (T4.setTop (mkF m 58 #[.val (.ref a1), .val (.int (0 : Int32)), .val (.int (3 : Int32)), .val (.ref t), .val (.int (3 : Int32)), .unset] [(.ref t)])) := by
                refine S5.trans ?_
                refine (Own.P.icmpYes K4.here K4.exec 57 (hb hby d_jdk_52_method_16_code_17) (by decide) (by decide) (by decide)).trans ?_
                refine (Own.P.aloadN K4.here K4.exec (hb hby d_jdk_52_method_16_code_57) rfl rfl).trans ?_
                exact Go.refl _
              exact ⟨vm4, T4, h4, (some (.ref t)), _, _, K4, by decide, by decide, ⟨t, cA_t, rfl, Or.inl ⟨⟨q0, q1, q2⟩, hY ⟨q0, q1, q2⟩⟩⟩, K4.retW S21 hret rfl (Or.inr (Or.inr (Or.inr (Or.inr ⟨rfl, rfl, rfl⟩)))) (hb hby d_jdk_52_method_16_code_58)⟩
theorem d_jdk_52_method_15_code_0 : decode jdk_52_method_15_code 0 = .ok (.iload_n 1, 1) := by decide +kernel
theorem d_jdk_52_method_15_code_1 : decode jdk_52_method_15_code 1 = .ok (.aload_n 0, 1) := by decide +kernel
theorem d_jdk_52_method_15_code_2 : decode jdk_52_method_15_code 2 = .ok (.arraylength, 1) := by decide +kernel
theorem d_jdk_52_method_15_code_3 : decode jdk_52_method_15_code 3 = .ok (.isub, 1) := by decide +kernel
theorem d_jdk_52_method_15_code_4 : decode jdk_52_method_15_code 4 = .ok (.bipush 31, 2) := by decide +kernel
theorem d_jdk_52_method_15_code_6 : decode jdk_52_method_15_code 6 = .ok (.iushr, 1) := by decide +kernel
theorem d_jdk_52_method_15_code_7 : decode jdk_52_method_15_code 7 = .ok (.i2b, 1) := by decide +kernel
theorem d_jdk_52_method_15_code_8 : decode jdk_52_method_15_code 8 = .ok (.ireturn, 1) := by decide +kernel
set_option maxRecDepth 65536 in
set_option maxHeartbeats 40000000 in
theorem c_cod3 (l : Launch) (Z : State) (a0 : Array Value) (hw : ∀ d ∈ tables_1, d.before a0 Z = true) (n0 : Nat) (h0 : Heap) (O0 : Old Z n0 h0) (a1 : Addr) (kb : ClassId) (vs : List Value) (V : Arv Z h0 a1 kb .byte 3 vs (.int 0)) :
    Own.Ctr false l (⟨"java/lang/StringUTF16", "coderFromArrayLen", "([BI)B"⟩ : MethodName) jdk_52_method_15_code 2 (some .byte) ({ frames := 0, cells := 0, slots := 0, locals := 0 } : Room) #[(.ref a1), (.int (3 : Int32))] Z h0 Own.VT [] (fun v h vm => v = some (.int 0) ∧ h = h0) := by
  refine Own.body (plainFor_of_name pn_1) O0 (fun _ _ _ _ q => by cases q) (fun _ _ _ _ q _ => q) ?_
  intro p e s m below meth c T0 hby hml0 hret hnm hV0 K0
  change Own.Wk false p l e ({ frames := 0, cells := 0, slots := 0, locals := 0 } : Room) s m #[(.ref a1), (.int (3 : Int32))] below meth c "java/lang/StringUTF16" Z n0 h0 [] s.vm T0 h0 0 0 at K0
  have hml : c.maxLocals = 2 := hml0
  have S0 : Go p e below (T0.setTop (entryFrame m #[(.ref a1), (.int (3 : Int32))] 2)) (T0.setTop (mkF m 0 #[.val (.ref a1), .val (.int (3 : Int32))] [])) := fun t k => castTop (by first | rfl | (simp [entryFrame, mkF, argsToLocals, Value.category]; done)) k
  generalize T0.setTop (entryFrame m #[(.ref a1), (.int (3 : Int32))] 2) = A0 at S0 ⊢
  have S1 : Go p e below A0 (T0.setTop (mkF m 2 #[.val (.ref a1), .val (.int (3 : Int32))] [(.ref a1), (.int (3 : Int32))])) := by
    refine S0.trans ?_
    refine (Own.P.iloadN K0.here K0.exec (hb hby d_jdk_52_method_15_code_0) rfl).trans ?_
    refine (Own.P.aloadN K0.here K0.exec (hb hby d_jdk_52_method_15_code_1) rfl rfl).trans ?_
    exact Go.refl _
  have G2 := K0.len V (pc := 2) (Ls := #[.val (.ref a1), .val (.int (3 : Int32))]) (rest := [(.int (3 : Int32))]) (hb hby d_jdk_52_method_15_code_2)
  have S2 : Go p e below A0 (T0.setTop (mkF m 3 #[.val (.ref a1), .val (.int (3 : Int32))] [(.int (3 : Int32)), (.int (3 : Int32))])) := S1.trans G2
  have S3 : Go p e below A0 (T0.setTop (mkF m 8 #[.val (.ref a1), .val (.int (3 : Int32))] [(.int ((XT.ushr ((3 : Int32) - (3 : Int32)) (31 : Int32)).toInt8.toInt32))])) := by
    refine S2.trans ?_
    refine (Own.P.isub K0.here K0.exec (hb hby d_jdk_52_method_15_code_3) ).trans ?_
    refine (Own.P.bipush K0.here K0.exec (31 : Int32) (hb hby d_jdk_52_method_15_code_4) rfl).trans ?_
    refine (Own.P.iushr K0.here K0.exec (hb hby d_jdk_52_method_15_code_6) ).trans ?_
    refine (Own.P.i2b K0.here K0.exec (hb hby d_jdk_52_method_15_code_7) ).trans ?_
    exact Go.refl _
  exact ⟨s.vm, T0, h0, (some (.int (0 : Int32))), _, _, K0, by decide, by decide, ⟨rfl, rfl⟩, K0.retW S3 hret rfl (Or.inl ⟨rfl, by decide, _, rfl⟩) (hb hby d_jdk_52_method_15_code_8)⟩
set_option maxRecDepth 65536 in
set_option maxHeartbeats 40000000 in
theorem c_cod6 (l : Launch) (Z : State) (a0 : Array Value) (hw : ∀ d ∈ tables_1, d.before a0 Z = true) (n0 : Nat) (h0 : Heap) (O0 : Old Z n0 h0) (a1 : Addr) (kb : ClassId) (vs : List Value) (V : Arv Z h0 a1 kb .byte 6 vs (.int 0)) :
    Own.Ctr false l (⟨"java/lang/StringUTF16", "coderFromArrayLen", "([BI)B"⟩ : MethodName) jdk_52_method_15_code 2 (some .byte) ({ frames := 0, cells := 0, slots := 0, locals := 0 } : Room) #[(.ref a1), (.int (3 : Int32))] Z h0 Own.VT [] (fun v h vm => v = some (.int 1) ∧ h = h0) := by
  refine Own.body (plainFor_of_name pn_1) O0 (fun _ _ _ _ q => by cases q) (fun _ _ _ _ q _ => q) ?_
  intro p e s m below meth c T0 hby hml0 hret hnm hV0 K0
  change Own.Wk false p l e ({ frames := 0, cells := 0, slots := 0, locals := 0 } : Room) s m #[(.ref a1), (.int (3 : Int32))] below meth c "java/lang/StringUTF16" Z n0 h0 [] s.vm T0 h0 0 0 at K0
  have hml : c.maxLocals = 2 := hml0
  have S0 : Go p e below (T0.setTop (entryFrame m #[(.ref a1), (.int (3 : Int32))] 2)) (T0.setTop (mkF m 0 #[.val (.ref a1), .val (.int (3 : Int32))] [])) := fun t k => castTop (by first | rfl | (simp [entryFrame, mkF, argsToLocals, Value.category]; done)) k
  generalize T0.setTop (entryFrame m #[(.ref a1), (.int (3 : Int32))] 2) = A0 at S0 ⊢
  have S1 : Go p e below A0 (T0.setTop (mkF m 2 #[.val (.ref a1), .val (.int (3 : Int32))] [(.ref a1), (.int (3 : Int32))])) := by
    refine S0.trans ?_
    refine (Own.P.iloadN K0.here K0.exec (hb hby d_jdk_52_method_15_code_0) rfl).trans ?_
    refine (Own.P.aloadN K0.here K0.exec (hb hby d_jdk_52_method_15_code_1) rfl rfl).trans ?_
    exact Go.refl _
  have G2 := K0.len V (pc := 2) (Ls := #[.val (.ref a1), .val (.int (3 : Int32))]) (rest := [(.int (3 : Int32))]) (hb hby d_jdk_52_method_15_code_2)
  have S2 : Go p e below A0 (T0.setTop (mkF m 3 #[.val (.ref a1), .val (.int (3 : Int32))] [(.int (6 : Int32)), (.int (3 : Int32))])) := S1.trans G2
  have S3 : Go p e below A0 (T0.setTop (mkF m 8 #[.val (.ref a1), .val (.int (3 : Int32))] [(.int ((XT.ushr ((3 : Int32) - (6 : Int32)) (31 : Int32)).toInt8.toInt32))])) := by
    refine S2.trans ?_
    refine (Own.P.isub K0.here K0.exec (hb hby d_jdk_52_method_15_code_3) ).trans ?_
    refine (Own.P.bipush K0.here K0.exec (31 : Int32) (hb hby d_jdk_52_method_15_code_4) rfl).trans ?_
    refine (Own.P.iushr K0.here K0.exec (hb hby d_jdk_52_method_15_code_6) ).trans ?_
    refine (Own.P.i2b K0.here K0.exec (hb hby d_jdk_52_method_15_code_7) ).trans ?_
    exact Go.refl _
  exact ⟨s.vm, T0, h0, (some (.int (1 : Int32))), _, _, K0, by decide, by decide, ⟨rfl, rfl⟩, K0.retW S3 hret rfl (Or.inl ⟨rfl, by decide, _, rfl⟩) (hb hby d_jdk_52_method_15_code_8)⟩
def StAt (Z : State) (h : Heap) (a : Addr) (vl : Value) (cd : Int32) : Prop := Exa Z h a "java/lang/String" ∧ Fld Z h a "java/lang/String" "value" "[B" (vl) ∧ Fld Z h a "java/lang/String" "coder" "B" (.int cd)
theorem StAt.keep {Z : State} {h h' : Heap} {a : Addr} {ws : List Addr} {vl : Value} {cd : Int32} (F : StAt Z h a vl cd) (K : Keep h h' ws) (q : a ∉ ws) : StAt Z h' a vl cd := ⟨F.1.keep K, (F.2.1).keep K q, (F.2.2).keep K q⟩
theorem StAt.ext {Z : State} {h h' : Heap} {a : Addr} {vl : Value} {cd : Int32} (F : StAt Z h a vl cd) (E : Ext h h') : StAt Z h' a vl cd := ⟨F.1.ext E, (F.2.1).ext E, (F.2.2).ext E⟩
theorem StAt.wrO {Z : State} {h h' : Heap} {a b : Addr} {sl : Nat} {w : Value} {vl : Value} {cd : Int32} (F : StAt Z h a vl cd) (W : Wr h h' b sl w) (q : a ≠ b) : StAt Z h' a vl cd := ⟨F.1.wr W, (F.2.1).other W (Or.inl q), (F.2.2).other W (Or.inl q)⟩
theorem StAt.set_vl {Z : State} {a0 : Array Value} (hw : ∀ d ∈ tables_1, d.before a0 Z = true) {h h' : Heap} {a : Addr} {vl : Value} {cd : Int32} {x' : Value} (F : StAt Z h a vl cd) (W : Wr h h' a (RoadKit.slotOf Z "java/lang/String" "value" "[B") (x')) : StAt Z h' a x' cd := ⟨F.1.wr W, (F.2.1).same W, (F.2.2).other W (Or.inr (slot_ne (C := "java/lang/String") (Or.inr (hw _ (List.mem_of_getElem? (i := 33) rfl))) (Or.inr (hw _ (List.mem_of_getElem? (i := 35) rfl))) (by decide) (t := .byte) (t' := (.array .byte)) (by decide) (by decide)))⟩
theorem StAt.set_cd {Z : State} {a0 : Array Value} (hw : ∀ d ∈ tables_1, d.before a0 Z = true) {h h' : Heap} {a : Addr} {vl : Value} {cd : Int32} {x' : Int32} (F : StAt Z h a vl cd) (W : Wr h h' a (RoadKit.slotOf Z "java/lang/String" "coder" "B") (.int x')) : StAt Z h' a vl x' := ⟨F.1.wr W, (F.2.1).other W (Or.inr (slot_ne (C := "java/lang/String") (Or.inr (hw _ (List.mem_of_getElem? (i := 35) rfl))) (Or.inr (hw _ (List.mem_of_getElem? (i := 33) rfl))) (by decide) (t := (.array .byte)) (t' := .byte) (by decide) (by decide))), (F.2.2).same W⟩
theorem StAt.new {Z : State} {a0 : Array Value} (hw : ∀ d ∈ tables_1, d.before a0 Z = true) {h : Heap} {a : Addr} (X : Exa Z h a "java/lang/String") (D : ∀ {O nm d : String} {ty : FieldType}, Laid Z a0 "java/lang/String" O nm d → parseFieldDescriptor d = some ty → Fld Z h a O nm d (defaultValue ty)) : Exa Z h a "java/lang/String" ∧ Fld Z h a "java/lang/String" "value" "[B" (.null) ∧ Fld Z h a "java/lang/String" "coder" "B" (.int 0) := ⟨X, D (Or.inr (hw _ (List.mem_of_getElem? (i := 35) rfl))) (ty := (.array .byte)) (by decide), D (Or.inr (hw _ (List.mem_of_getElem? (i := 33) rfl))) (ty := .byte) (by decide)⟩
theorem d_jdk_42_method_149_code_0 : decode jdk_42_method_149_code 0 = .ok (.aload_n 0, 1) := by decide +kernel
theorem d_jdk_42_method_149_code_1 : decode jdk_42_method_149_code 1 = .ok (.invokespecial 1, 3) := by decide +kernel
theorem d_jdk_42_method_149_code_4 : decode jdk_42_method_149_code 4 = .ok (.iload_n 3, 1) := by decide +kernel
theorem d_jdk_42_method_149_code_5 : decode jdk_42_method_149_code 5 = .ok (.ifCond .ne 22, 3) := by decide +kernel
theorem d_jdk_42_method_149_code_27 : decode jdk_42_method_149_code 27 = .ok (.getstatic 38, 3) := by decide +kernel
theorem d_jdk_42_method_149_code_30 : decode jdk_42_method_149_code 30 = .ok (.ifCond .eq 28, 3) := by decide +kernel
theorem d_jdk_42_method_149_code_33 : decode jdk_42_method_149_code 33 = .ok (.aload_n 1, 1) := by decide +kernel
theorem d_jdk_42_method_149_code_34 : decode jdk_42_method_149_code 34 = .ok (.iload_n 2, 1) := by decide +kernel
theorem d_jdk_42_method_149_code_35 : decode jdk_42_method_149_code 35 = .ok (.iload_n 3, 1) := by decide +kernel
theorem d_jdk_42_method_149_code_36 : decode jdk_42_method_149_code 36 = .ok (.invokestatic 177, 3) := by decide +kernel
theorem d_jdk_42_method_149_code_39 : decode jdk_42_method_149_code 39 = .ok (.astore 5, 2) := by decide +kernel
theorem d_jdk_42_method_149_code_41 : decode jdk_42_method_149_code 41 = .ok (.aload_n 0, 1) := by decide +kernel
theorem d_jdk_42_method_149_code_42 : decode jdk_42_method_149_code 42 = .ok (.aload 5, 2) := by decide +kernel
theorem d_jdk_42_method_149_code_44 : decode jdk_42_method_149_code 44 = .ok (.iload_n 3, 1) := by decide +kernel
theorem pd_6 : parseMethodDescriptor "([BI)B" = some ⟨[(.array .byte), .int], some .byte⟩ := by decide +kernel
theorem d_jdk_42_method_149_code_45 : decode jdk_42_method_149_code 45 = .ok (.invokestatic 47, 3) := by decide +kernel
theorem d_jdk_42_method_149_code_48 : decode jdk_42_method_149_code 48 = .ok (.putfield 15, 3) := by decide +kernel
theorem d_jdk_42_method_149_code_51 : decode jdk_42_method_149_code 51 = .ok (.aload_n 0, 1) := by decide +kernel
theorem d_jdk_42_method_149_code_52 : decode jdk_42_method_149_code 52 = .ok (.aload 5, 2) := by decide +kernel
theorem d_jdk_42_method_149_code_54 : decode jdk_42_method_149_code 54 = .ok (.putfield 9, 3) := by decide +kernel
theorem d_jdk_42_method_149_code_57 : decode jdk_42_method_149_code 57 = .ok (.return_, 1) := by decide +kernel
theorem pn_2 : plainName "java/lang/String" = true := by first | (simp [plainName, overriddenIn]; done) | decide +kernel
set_option maxRecDepth 65536 in
set_option maxHeartbeats 40000000 in
theorem c_new4 (l : Launch) (Z : State) (a0 : Array Value) (hw : ∀ d ∈ tables_1, d.before a0 Z = true) (n0 : Nat) (h0 : Heap) (O0 : Old Z n0 h0) (A1 : Sta Z Z.heap "java/lang/StringUTF16" "$assertionsDisabled" "Z" (.int 1)) (A2 : Sta Z Z.heap "java/lang/StringUTF16" "HI_BYTE_SHIFT" "I" (.int 0)) (A3 : Sta Z Z.heap "java/lang/StringUTF16" "LO_BYTE_SHIFT" "I" (.int 8)) (a1 a2 : Addr) (kc : ClassId) (dv : Value) (c0 c1 c2 : Int32) (r0 : ¬ c0 < 0 ∧ ¬ (65535 : Int32) < c0) (r1 : ¬ c1 < 0 ∧ ¬ (65535 : Int32) < c1) (r2 : ¬ c2 < 0 ∧ ¬ (65535 : Int32) < c2) (V : Arv Z h0 a2 kc .char 3 [.int c0, .int c1, .int c2] dv) (E : Exa Z h0 a1 "java/lang/String") (F1 : Fld Z h0 a1 "java/lang/String" "value" "[B" .null) (F2 : Fld Z h0 a1 "java/lang/String" "coder" "B" (.int 0)) (g1 : n0 ≤ a1) (zc : Int32) (hzc : ¬ zc = 0) (SC : Sta Z Z.heap "java/lang/String" "COMPACT_STRINGS" "Z" (.int zc)) :
    Own.Ctr false l (⟨"java/lang/String", "<init>", "([CIILjava/lang/Void;)V"⟩ : MethodName) jdk_42_method_149_code 6 none ({ frames := 4, cells := 2, slots := 9, locals := 57 } : Room) #[(.ref a1), (.ref a2), (.int (0 : Int32)), (.int (3 : Int32)), Value.null] Z h0 Own.VT [a1] (fun v h vm => v = none ∧ StrU Z h a1 c0 c1 c2) := by
  refine Own.body (plainFor_of_name pn_2) O0 (fun v h vm q _ => q.1) (fun _ _ _ _ q _ => q) ?_
  intro p e s m below meth c T0 hby hml0 hret hnm hV0 K0
  change Own.Wk false p l e ({ frames := 4, cells := 2, slots := 9, locals := 57 } : Room) s m #[(.ref a1), (.ref a2), (.int (0 : Int32)), (.int (3 : Int32)), Value.null] below meth c "java/lang/String" Z n0 h0 [] s.vm T0 h0 0 0 at K0
  replace K0 := K0.weaken [a1] (allS g1 all0)
  have hml : c.maxLocals = 6 := hml0
  have S0 : Go p e below (T0.setTop (entryFrame m #[(.ref a1), (.ref a2), (.int (0 : Int32)), (.int (3 : Int32)), Value.null] 6)) (T0.setTop (mkF m 0 #[.val (.ref a1), .val (.ref a2), .val (.int (0 : Int32)), .val (.int (3 : Int32)), .val Value.null, .unset] [])) := fun t k => castTop (by first | rfl | (simp [entryFrame, mkF, argsToLocals, Value.category]; done)) k
  generalize T0.setTop (entryFrame m #[(.ref a1), (.ref a2), (.int (0 : Int32)), (.int (3 : Int32)), Value.null] 6) = A0 at S0 ⊢
  have B0 : StAt Z h0 a1 .null 0 := ⟨E, F1, F2⟩
  have S1 : Go p e below A0 (T0.setTop (mkF m 1 #[.val (.ref a1), .val (.ref a2), .val (.int (0 : Int32)), .val (.int (3 : Int32)), .val Value.null, .unset] [(.ref a1)])) := by
    refine S0.trans ?_
    refine (Own.P.aloadN K0.here K0.exec (hb hby d_jdk_42_method_149_code_0) rfl rfl).trans ?_
    exact Go.refl _
  obtain ⟨T2, K2, G2⟩ := K0.initO (hw _ (List.mem_of_getElem? (i := 17) rfl)) (hw _ (List.mem_of_getElem? (i := 18) rfl)) (hw _ (List.mem_of_getElem? (i := 19) rfl)) (pc := 1) (Ls := #[.val (.ref a1), .val (.ref a2), .val (.int (0 : Int32)), .val (.int (3 : Int32)), .val Value.null, .unset]) (rest := []) (by rw [hml]; rfl) (hb hby d_jdk_42_method_149_code_1) (by decide) (W := 0) (Nat.le_of_eq rfl) (by decide)
  have S2 : Go p e below A0 (T2.setTop (mkF m 4 #[.val (.ref a1), .val (.ref a2), .val (.int (0 : Int32)), .val (.int (3 : Int32)), .val Value.null, .unset] [])) := S1.trans G2
  have S3 : Go p e below A0 (T2.setTop (mkF m 27 #[.val (.ref a1), .val (.ref a2), .val (.int (0 : Int32)), .val (.int (3 : Int32)), .val Value.null, .unset] [])) := by
    refine S2.trans ?_
    refine (Own.P.iloadN K2.here K2.exec (hb hby d_jdk_42_method_149_code_4) rfl).trans ?_
    refine (Own.P.ifYes K2.here K2.exec 27 (hb hby d_jdk_42_method_149_code_5) (by decide) (by decide) (by decide)).trans ?_
    exact Go.refl _
  obtain ⟨T4, K4, G4⟩ := K2.getS "" (Or.inl (hw _ (List.mem_of_getElem? (i := 20) rfl))) Via.refl (SC.ext K2.ext) (pc := 27) (Ls := #[.val (.ref a1), .val (.ref a2), .val (.int (0 : Int32)), .val (.int (3 : Int32)), .val Value.null, .unset]) (rest := []) (hb hby d_jdk_42_method_149_code_27)
  have S4 : Go p e below A0 (T4.setTop (mkF m 30 #[.val (.ref a1), .val (.ref a2), .val (.int (0 : Int32)), .val (.int (3 : Int32)), .val Value.null, .unset] [(.int zc)])) := S3.trans G4
  have S5 : Go p e below A0 (T4.setTop (mkF m 36 #[.val (.ref a1), .val (.ref a2), .val (.int (0 : Int32)), .val (.int (3 : Int32)), .val Value.null, .unset] [(.int (3 : Int32)), (.int (0 : Int32)), (.ref a2)])) := by
    refine S4.trans ?_
    refine (Own.P.ifNo K4.here K4.exec (hb hby d_jdk_42_method_149_code_30) (XT.i0_eq_f hzc)).trans ?_
    refine (Own.P.aloadN K4.here K4.exec (hb hby d_jdk_42_method_149_code_33) rfl rfl).trans ?_
    refine (Own.P.iloadN K4.here K4.exec (hb hby d_jdk_42_method_149_code_34) rfl).trans ?_
    refine (Own.P.iloadN K4.here K4.exec (hb hby d_jdk_42_method_149_code_35) rfl).trans ?_
    exact Go.refl _
  obtain ⟨v6, vm6, vq6, T6, h6, K6, KK6, ev6, Q6, G6⟩ := K4.callS (y := (⟨"java/lang/StringUTF16", "compress", "([CII)[B"⟩ : MethodName)) (hw _ (List.mem_of_getElem? (i := 21) rfl)) (hw _ (List.mem_of_getElem? (i := 22) rfl)) (hw _ (List.mem_of_getElem? (i := 23) rfl)) (hw _ (List.mem_of_getElem? (i := 24) rfl)) (by decide) (W := 0) (argsL := [(.ref a2), (.int (0 : Int32)), (.int (3 : Int32))]) (rest := []) ((c_cmp3 l Z a0 hw n0 h0 (K4.old) A1 A2 A3 a2 kc dv c0 c1 c2 r0 r1 r2 V).pay Own.VT.cl (hw _ (List.mem_of_getElem? (i := 24) rfl)) (hw _ (List.mem_of_getElem? (i := 23) rfl)) (by decide) (by decide)) trivial (pc := 36) (Ls := #[.val (.ref a1), .val (.ref a2), .val (.int (0 : Int32)), .val (.int (3 : Int32)), .val Value.null, .unset]) (st := [(.int (3 : Int32)), (.int (0 : Int32)), (.ref a2)]) (by rw [hml]; rfl) (lenOf pd_4 rfl) rfl (Nat.le_of_eq rfl) (hb hby d_jdk_42_method_149_code_36) (by decide) (by decide) all0
  obtain ⟨t, kb, rfl, hY⟩ := Q6
  have S6 : Go p e below A0 (T6.setTop (mkF m 39 #[.val (.ref a1), .val (.ref a2), .val (.int (0 : Int32)), .val (.int (3 : Int32)), .val Value.null, .unset] [(.ref t)])) := S5.trans G6
  have B1 := B0.keep KK6 nin0
  have S7 : Go p e below A0 (T6.setTop (mkF m 45 #[.val (.ref a1), .val (.ref a2), .val (.int (0 : Int32)), .val (.int (3 : Int32)), .val Value.null, .val (.ref t)] [(.int (3 : Int32)), (.ref t), (.ref a1)])) := by
    refine S6.trans ?_
    refine (Own.P.astore K6.here K6.exec (l' := #[.val (.ref a1), .val (.ref a2), .val (.int (0 : Int32)), .val (.int (3 : Int32)), .val Value.null, .val (.ref t)]) (hb hby d_jdk_42_method_149_code_39) rfl rfl).trans ?_
    refine (Own.P.aloadN K6.here K6.exec (hb hby d_jdk_42_method_149_code_41) rfl rfl).trans ?_
    refine (Own.P.aload K6.here K6.exec (hb hby d_jdk_42_method_149_code_42) rfl rfl).trans ?_
    refine (Own.P.iloadN K6.here K6.exec (hb hby d_jdk_42_method_149_code_44) rfl).trans ?_
    exact Go.refl _
  rcases hY with ⟨hq, Y⟩ | Y
  case inl =>
      obtain ⟨v8, vm8, vq8, T8, h8, K8, KK8, ev8, Q8, G8⟩ := K6.callS (y := (⟨"java/lang/StringUTF16", "coderFromArrayLen", "([BI)B"⟩ : MethodName)) (hw _ (List.mem_of_getElem? (i := 29) rfl)) (hw _ (List.mem_of_getElem? (i := 30) rfl)) (hw _ (List.mem_of_getElem? (i := 23) rfl)) (hw _ (List.mem_of_getElem? (i := 31) rfl)) (by decide) (W := 1) (argsL := [(.ref t), (.int (3 : Int32))]) (rest := [(.ref a1)]) ((c_cod3 l Z a0 hw n0 h6 (K6.old) t kb _ Y).pay Own.VT.cl (hw _ (List.mem_of_getElem? (i := 31) rfl)) (hw _ (List.mem_of_getElem? (i := 23) rfl)) (by decide) (by decide)) trivial (pc := 45) (Ls := #[.val (.ref a1), .val (.ref a2), .val (.int (0 : Int32)), .val (.int (3 : Int32)), .val Value.null, .val (.ref t)]) (st := [(.int (3 : Int32)), (.ref t), (.ref a1)]) (by rw [hml]; rfl) (lenOf pd_6 rfl) rfl (Nat.le_of_eq rfl) (hb hby d_jdk_42_method_149_code_45) (by decide) (by decide) all0
      obtain ⟨rfl, e8⟩ := Q8
      have S8 : Go p e below A0 (T8.setTop (mkF m 48 #[.val (.ref a1), .val (.ref a2), .val (.int (0 : Int32)), .val (.int (3 : Int32)), .val Value.null, .val (.ref t)] [(.int (0 : Int32)), (.ref a1)])) := S7.trans G8
      subst e8
      obtain ⟨T9, h9, K9, W9, G9⟩ := K8.putF "" (Or.inl (hw _ (List.mem_of_getElem? (i := 32) rfl))) Via.refl B1.2.2 B1.1 (Or.inr ⟨(hw _ (List.mem_of_getElem? (i := 33) rfl)), rfl, hnm⟩) (hw _ (List.mem_of_getElem? (i := 8) rfl)) (ty := .byte) (by decide) (v := (.int (0 : Int32))) rfl rfl (Or.inl (List.mem_of_getElem? (i := 0) rfl)) (pc := 48) (Ls := #[.val (.ref a1), .val (.ref a2), .val (.int (0 : Int32)), .val (.int (3 : Int32)), .val Value.null, .val (.ref t)]) (rest := []) (hb hby d_jdk_42_method_149_code_48)
      have S9 : Go p e below A0 (T9.setTop (mkF m 51 #[.val (.ref a1), .val (.ref a2), .val (.int (0 : Int32)), .val (.int (3 : Int32)), .val Value.null, .val (.ref t)] [])) := S8.trans G9
      have B2 := B1.set_cd hw W9
      have nt : t ≠ a1 := Ne.symm (Exa.neArv B1.1 Y (hw _ (List.mem_of_getElem? (i := 8) rfl)))
      have Y1 := Y.other W9 nt
      have S10 : Go p e below A0 (T9.setTop (mkF m 54 #[.val (.ref a1), .val (.ref a2), .val (.int (0 : Int32)), .val (.int (3 : Int32)), .val Value.null, .val (.ref t)] [(.ref t), (.ref a1)])) := by
        refine S9.trans ?_
        refine (Own.P.aloadN K9.here K9.exec (hb hby d_jdk_42_method_149_code_51) rfl rfl).trans ?_
        refine (Own.P.aload K9.here K9.exec (hb hby d_jdk_42_method_149_code_52) rfl rfl).trans ?_
        exact Go.refl _
      obtain ⟨T11, h11, K11, W11, G11⟩ := K9.putF "" (Or.inl (hw _ (List.mem_of_getElem? (i := 34) rfl))) Via.refl B2.2.1 B2.1 (Or.inr ⟨(hw _ (List.mem_of_getElem? (i := 35) rfl)), rfl, hnm⟩) (hw _ (List.mem_of_getElem? (i := 8) rfl)) (ty := (.array .byte)) (by decide) (v := (.ref t)) rfl rfl (Or.inl (List.mem_of_getElem? (i := 0) rfl)) (pc := 54) (Ls := #[.val (.ref a1), .val (.ref a2), .val (.int (0 : Int32)), .val (.int (3 : Int32)), .val Value.null, .val (.ref t)]) (rest := []) (hb hby d_jdk_42_method_149_code_54)
      have S11 : Go p e below A0 (T11.setTop (mkF m 57 #[.val (.ref a1), .val (.ref a2), .val (.int (0 : Int32)), .val (.int (3 : Int32)), .val Value.null, .val (.ref t)] [])) := S10.trans G11
      have B3 := B2.set_vl hw W11
      have Y2 := Y1.other W11 nt
      exact ⟨vm8, T11, h11, none, _, _, K11, by decide, by decide, ⟨rfl, B3.1, t, kb, B3.2.1, Or.inl ⟨B3.2.2, hq, Y2⟩⟩, K11.retV S11 hret (hb hby d_jdk_42_method_149_code_57)⟩
  case inr =>
      obtain ⟨v12, vm12, vq12, T12, h12, K12, KK12, ev12, Q12, G12⟩ := K6.callS (y := (⟨"java/lang/StringUTF16", "coderFromArrayLen", "([BI)B"⟩ : MethodName)) (hw _ (List.mem_of_getElem? (i := 29) rfl)) (hw _ (List.mem_of_getElem? (i := 30) rfl)) (hw _ (List.mem_of_getElem? (i := 23) rfl)) (hw _ (List.mem_of_getElem? (i := 31) rfl)) (by decide) (W := 1) (argsL := [(.ref t), (.int (3 : Int32))]) (rest := [(.ref a1)]) ((c_cod6 l Z a0 hw n0 h6 (K6.old) t kb _ Y).pay Own.VT.cl (hw _ (List.mem_of_getElem? (i := 31) rfl)) (hw _ (List.mem_of_getElem? (i := 23) rfl)) (by decide) (by decide)) trivial (pc := 45) (Ls := #[.val (.ref a1), .val (.ref a2), .val (.int (0 : Int32)), .val (.int (3 : Int32)), .val Value.null, .val (.ref t)]) (st := [(.int (3 : Int32)), (.ref t), (.ref a1)]) (by rw [hml]; rfl) (lenOf pd_6 rfl) rfl (Nat.le_of_eq rfl) (hb hby d_jdk_42_method_149_code_45) (by decide) (by decide) all0
      obtain ⟨rfl, e12⟩ := Q12
      have S12 : Go p e below A0 (T12.setTop (mkF m 48 #[.val (.ref a1), .val (.ref a2), .val (.int (0 : Int32)), .val (.int (3 : Int32)), .val Value.null, .val (.ref t)] [(.int (1 : Int32)), (.ref a1)])) := S7.trans G12
      subst e12
      obtain ⟨T13, h13, K13, W13, G13⟩ := K12.putF "" (Or.inl (hw _ (List.mem_of_getElem? (i := 32) rfl))) Via.refl B1.2.2 B1.1 (Or.inr ⟨(hw _ (List.mem_of_getElem? (i := 33) rfl)), rfl, hnm⟩) (hw _ (List.mem_of_getElem? (i := 8) rfl)) (ty := .byte) (by decide) (v := (.int (1 : Int32))) rfl rfl (Or.inl (List.mem_of_getElem? (i := 0) rfl)) (pc := 48) (Ls := #[.val (.ref a1), .val (.ref a2), .val (.int (0 : Int32)), .val (.int (3 : Int32)), .val Value.null, .val (.ref t)]) (rest := []) (hb hby d_jdk_42_method_149_code_48)
      have S13 : Go p e below A0 (T13.setTop (mkF m 51 #[.val (.ref a1), .val (.ref a2), .val (.int (0 : Int32)), .val (.int (3 : Int32)), .val Value.null, .val (.ref t)] [])) := S12.trans G13
      have B2 := B1.set_cd hw W13
      have nt : t ≠ a1 := Ne.symm (Exa.neArv B1.1 Y (hw _ (List.mem_of_getElem? (i := 8) rfl)))
      have Y1 := Y.other W13 nt
      have S14 : Go p e below A0 (T13.setTop (mkF m 54 #[.val (.ref a1), .val (.ref a2), .val (.int (0 : Int32)), .val (.int (3 : Int32)), .val Value.null, .val (.ref t)] [(.ref t), (.ref a1)])) := by
        refine S13.trans ?_
        refine (Own.P.aloadN K13.here K13.exec (hb hby d_jdk_42_method_149_code_51) rfl rfl).trans ?_
        refine (Own.P.aload K13.here K13.exec (hb hby d_jdk_42_method_149_code_52) rfl rfl).trans ?_
        exact Go.refl _
      obtain ⟨T15, h15, K15, W15, G15⟩ := K13.putF "" (Or.inl (hw _ (List.mem_of_getElem? (i := 34) rfl))) Via.refl B2.2.1 B2.1 (Or.inr ⟨(hw _ (List.mem_of_getElem? (i := 35) rfl)), rfl, hnm⟩) (hw _ (List.mem_of_getElem? (i := 8) rfl)) (ty := (.array .byte)) (by decide) (v := (.ref t)) rfl rfl (Or.inl (List.mem_of_getElem? (i := 0) rfl)) (pc := 54) (Ls := #[.val (.ref a1), .val (.ref a2), .val (.int (0 : Int32)), .val (.int (3 : Int32)), .val Value.null, .val (.ref t)]) (rest := []) (hb hby d_jdk_42_method_149_code_54)
      have S15 : Go p e below A0 (T15.setTop (mkF m 57 #[.val (.ref a1), .val (.ref a2), .val (.int (0 : Int32)), .val (.int (3 : Int32)), .val Value.null, .val (.ref t)] [])) := S14.trans G15
      have B3 := B2.set_vl hw W15
      have Y2 := Y1.other W15 nt
      exact ⟨vm12, T15, h15, none, _, _, K15, by decide, by decide, ⟨rfl, B3.1, t, kb, B3.2.1, Or.inr ⟨B3.2.2, Y2⟩⟩, K15.retV S15 hret (hb hby d_jdk_42_method_149_code_57)⟩
theorem d_jdk_42_method_3_code_0 : decode jdk_42_method_3_code 0 = .ok (.aload_n 0, 1) := by decide +kernel
theorem d_jdk_42_method_3_code_1 : decode jdk_42_method_3_code 1 = .ok (.aload_n 1, 1) := by decide +kernel
theorem d_jdk_42_method_3_code_2 : decode jdk_42_method_3_code 2 = .ok (.iconst 0, 1) := by decide +kernel
theorem d_jdk_42_method_3_code_3 : decode jdk_42_method_3_code 3 = .ok (.aload_n 1, 1) := by decide +kernel
theorem d_jdk_42_method_3_code_4 : decode jdk_42_method_3_code 4 = .ok (.arraylength, 1) := by decide +kernel
theorem d_jdk_42_method_3_code_5 : decode jdk_42_method_3_code 5 = .ok (.aconst_null, 1) := by decide +kernel
theorem pd_7 : parseMethodDescriptor "([CIILjava/lang/Void;)V" = some ⟨[(.array .char), .int, .int, (.object "java/lang/Void")], none⟩ := by decide +kernel
theorem d_jdk_42_method_3_code_6 : decode jdk_42_method_3_code 6 = .ok (.invokespecial 27, 3) := by decide +kernel
theorem d_jdk_42_method_3_code_9 : decode jdk_42_method_3_code 9 = .ok (.return_, 1) := by decide +kernel
set_option maxRecDepth 65536 in
set_option maxHeartbeats 40000000 in
theorem c_new1 (l : Launch) (Z : State) (a0 : Array Value) (hw : ∀ d ∈ tables_1, d.before a0 Z = true) (n0 : Nat) (h0 : Heap) (O0 : Old Z n0 h0) (A1 : Sta Z Z.heap "java/lang/StringUTF16" "$assertionsDisabled" "Z" (.int 1)) (A2 : Sta Z Z.heap "java/lang/StringUTF16" "HI_BYTE_SHIFT" "I" (.int 0)) (A3 : Sta Z Z.heap "java/lang/StringUTF16" "LO_BYTE_SHIFT" "I" (.int 8)) (a1 a2 : Addr) (kc : ClassId) (dv : Value) (c0 c1 c2 : Int32) (r0 : ¬ c0 < 0 ∧ ¬ (65535 : Int32) < c0) (r1 : ¬ c1 < 0 ∧ ¬ (65535 : Int32) < c1) (r2 : ¬ c2 < 0 ∧ ¬ (65535 : Int32) < c2) (V : Arv Z h0 a2 kc .char 3 [.int c0, .int c1, .int c2] dv) (E : Exa Z h0 a1 "java/lang/String") (F1 : Fld Z h0 a1 "java/lang/String" "value" "[B" .null) (F2 : Fld Z h0 a1 "java/lang/String" "coder" "B" (.int 0)) (g1 : n0 ≤ a1) (zc : Int32) (hzc : ¬ zc = 0) (SC : Sta Z Z.heap "java/lang/String" "COMPACT_STRINGS" "Z" (.int zc)) :
    Own.Ctr false l (⟨"java/lang/String", "<init>", "([C)V"⟩ : MethodName) jdk_42_method_3_code 2 none ({ frames := 5, cells := 2, slots := 9, locals := 74 } : Room) #[(.ref a1), (.ref a2)] Z h0 Own.VT [a1] (fun v h vm => v = none ∧ StrU Z h a1 c0 c1 c2) := by
  refine Own.body (plainFor_of_name pn_2) O0 (fun v h vm q _ => q.1) (fun _ _ _ _ q _ => q) ?_
  intro p e s m below meth c T0 hby hml0 hret hnm hV0 K0
  change Own.Wk false p l e ({ frames := 5, cells := 2, slots := 9, locals := 74 } : Room) s m #[(.ref a1), (.ref a2)] below meth c "java/lang/String" Z n0 h0 [] s.vm T0 h0 0 0 at K0
  replace K0 := K0.weaken [a1] (allS g1 all0)
  have hml : c.maxLocals = 2 := hml0
  have S0 : Go p e below (T0.setTop (entryFrame m #[(.ref a1), (.ref a2)] 2)) (T0.setTop (mkF m 0 #[.val (.ref a1), .val (.ref a2)] [])) := fun t k => castTop (by first | rfl | (simp [entryFrame, mkF, argsToLocals, Value.category]; done)) k
  generalize T0.setTop (entryFrame m #[(.ref a1), (.ref a2)] 2) = A0 at S0 ⊢
  have S1 : Go p e below A0 (T0.setTop (mkF m 4 #[.val (.ref a1), .val (.ref a2)] [(.ref a2), (.int (0 : Int32)), (.ref a2), (.ref a1)])) := by
    refine S0.trans ?_
    refine (Own.P.aloadN K0.here K0.exec (hb hby d_jdk_42_method_3_code_0) rfl rfl).trans ?_
    refine (Own.P.aloadN K0.here K0.exec (hb hby d_jdk_42_method_3_code_1) rfl rfl).trans ?_
    refine (Own.P.iconst K0.here K0.exec (0 : Int32) (hb hby d_jdk_42_method_3_code_2) rfl).trans ?_
    refine (Own.P.aloadN K0.here K0.exec (hb hby d_jdk_42_method_3_code_3) rfl rfl).trans ?_
    exact Go.refl _
  have G2 := K0.len V (pc := 4) (Ls := #[.val (.ref a1), .val (.ref a2)]) (rest := [(.int (0 : Int32)), (.ref a2), (.ref a1)]) (hb hby d_jdk_42_method_3_code_4)
  have S2 : Go p e below A0 (T0.setTop (mkF m 5 #[.val (.ref a1), .val (.ref a2)] [(.int (3 : Int32)), (.int (0 : Int32)), (.ref a2), (.ref a1)])) := S1.trans G2
  have S3 : Go p e below A0 (T0.setTop (mkF m 6 #[.val (.ref a1), .val (.ref a2)] [Value.null, (.int (3 : Int32)), (.int (0 : Int32)), (.ref a2), (.ref a1)])) := by
    refine S2.trans ?_
    refine (Own.P.null K0.here K0.exec (hb hby d_jdk_42_method_3_code_5) ).trans ?_
    exact Go.refl _
  obtain ⟨v4, vm4, vq4, T4, h4, K4, KK4, ev4, Q4, G4⟩ := K0.callI (y := (⟨"java/lang/String", "<init>", "([CIILjava/lang/Void;)V"⟩ : MethodName)) rfl (hw _ (List.mem_of_getElem? (i := 13) rfl)) (hw _ (List.mem_of_getElem? (i := 14) rfl)) (hw _ (List.mem_of_getElem? (i := 16) rfl)) (by decide) (W := 0) (a := a1) (argsL := [(.ref a2), (.int (0 : Int32)), (.int (3 : Int32)), Value.null]) (rest := []) ((c_new4 l Z a0 hw n0 h0 (K0.old) A1 A2 A3 a1 a2 kc dv c0 c1 c2 r0 r1 r2 V E F1 F2 g1 zc hzc SC).pay Own.VT.cl (hw _ (List.mem_of_getElem? (i := 16) rfl)) (hw _ (List.mem_of_getElem? (i := 9) rfl)) (by decide) (by decide)) trivial (pc := 6) (Ls := #[.val (.ref a1), .val (.ref a2)]) (st := [Value.null, (.int (3 : Int32)), (.int (0 : Int32)), (.ref a2), (.ref a1)]) (by rw [hml]; rfl) (lenOf pd_7 rfl) rfl (Nat.le_of_eq rfl) (hb hby d_jdk_42_method_3_code_6) (by decide) (by decide) (allS (Or.inl (List.mem_of_getElem? (i := 0) rfl)) all0)
  obtain ⟨rfl, SU⟩ := Q4
  have S4 : Go p e below A0 (T4.setTop (mkF m 9 #[.val (.ref a1), .val (.ref a2)] [])) := S3.trans G4
  exact ⟨vm4, T4, h4, none, _, _, K4, by decide, by decide, ⟨rfl, SU⟩, K4.retV S4 hret (hb hby d_jdk_42_method_3_code_9)⟩
theorem d_jdk_41_method_11_code_0 : decode jdk_41_method_11_code 0 = .ok (.iload_n 0, 1) := by decide +kernel
theorem d_jdk_41_method_11_code_1 : decode jdk_41_method_11_code 1 = .ok (.ifCond .lt 8, 3) := by decide +kernel
theorem d_jdk_41_method_11_code_4 : decode jdk_41_method_11_code 4 = .ok (.iload_n 0, 1) := by decide +kernel
theorem d_jdk_41_method_11_code_5 : decode jdk_41_method_11_code 5 = .ok (.iload_n 1, 1) := by decide +kernel
theorem d_jdk_41_method_11_code_6 : decode jdk_41_method_11_code 6 = .ok (.if_icmp .lt 10, 3) := by decide +kernel
theorem d_jdk_41_method_11_code_16 : decode jdk_41_method_11_code 16 = .ok (.iload_n 0, 1) := by decide +kernel
theorem d_jdk_41_method_11_code_17 : decode jdk_41_method_11_code 17 = .ok (.ireturn, 1) := by decide +kernel
theorem pn_3 : plainName "jdk/internal/util/Preconditions" = true := by first | (simp [plainName, overriddenIn]; done) | decide +kernel
set_option maxRecDepth 65536 in
set_option maxHeartbeats 40000000 in
theorem c_pci (l : Launch) (Z : State) (a0 : Array Value) (hw : ∀ d ∈ tables_1, d.before a0 Z = true) (n0 : Nat) (h0 : Heap) (O0 : Old Z n0 h0) (i n : Int32) (fm : Value) (rf : fm.isRef = true) (q1 : ¬ i < 0) (q2 : i < n) :
    Own.Ctr false l (⟨"jdk/internal/util/Preconditions", "checkIndex", "(IILjava/util/function/BiFunction;)I"⟩ : MethodName) jdk_41_method_11_code 3 (some .int) ({ frames := 0, cells := 0, slots := 0, locals := 0 } : Room) #[(.int i), (.int n), fm] Z h0 Own.VT [] (fun v h vm => v = some (.int i) ∧ h = h0) := by
  refine Own.body (plainFor_of_name pn_3) O0 (fun _ _ _ _ q => by cases q) (fun _ _ _ _ q _ => q) ?_
  intro p e s m below meth c T0 hby hml0 hret hnm hV0 K0
  change Own.Wk false p l e ({ frames := 0, cells := 0, slots := 0, locals := 0 } : Room) s m #[(.int i), (.int n), fm] below meth c "jdk/internal/util/Preconditions" Z n0 h0 [] s.vm T0 h0 0 0 at K0
  have hml : c.maxLocals = 3 := hml0
  have S0 : Go p e below (T0.setTop (entryFrame m #[(.int i), (.int n), fm] 3)) (T0.setTop (mkF m 0 #[.val (.int i), .val (.int n), .val fm] [])) := fun t k => castTop (by first | rfl | (simp [entryFrame, mkF, argsToLocals, Value.category]; done) | (rcases ref_cases rf with rfl | ⟨r, rfl⟩ <;> rfl)) k
  generalize T0.setTop (entryFrame m #[(.int i), (.int n), fm] 3) = A0 at S0 ⊢
  have S1 : Go p e below A0 (T0.setTop (mkF m 17 #[.val (.int i), .val (.int n), .val fm] [(.int i)])) := by
    refine S0.trans ?_
    refine (Own.P.iloadN K0.here K0.exec (hb hby d_jdk_41_method_11_code_0) rfl).trans ?_
    refine (Own.P.ifNo K0.here K0.exec (hb hby d_jdk_41_method_11_code_1) (XT.i0_lt_f q1)).trans ?_
    refine (Own.P.iloadN K0.here K0.exec (hb hby d_jdk_41_method_11_code_4) rfl).trans ?_
    refine (Own.P.iloadN K0.here K0.exec (hb hby d_jdk_41_method_11_code_5) rfl).trans ?_
    refine (Own.P.icmpYes K0.here K0.exec 16 (hb hby d_jdk_41_method_11_code_6) (XT.ii_lt_t q2) (by decide) (by decide)).trans ?_
    refine (Own.P.iloadN K0.here K0.exec (hb hby d_jdk_41_method_11_code_16) rfl).trans ?_
    exact Go.refl _
  exact ⟨s.vm, T0, h0, (some (.int i)), _, _, K0, by decide, by decide, ⟨rfl, rfl⟩, K0.retW S1 hret rfl (Or.inl ⟨rfl, by decide, _, rfl⟩) (hb hby d_jdk_41_method_11_code_17)⟩
theorem d_jdk_42_method_155_code_0 : decode jdk_42_method_155_code 0 = .ok (.iload_n 0, 1) := by decide +kernel
theorem d_jdk_42_method_155_code_1 : decode jdk_42_method_155_code 1 = .ok (.iload_n 1, 1) := by decide +kernel
theorem d_jdk_42_method_155_code_2 : decode jdk_42_method_155_code 2 = .ok (.getstatic 1053, 3) := by decide +kernel
theorem pd_8 : parseMethodDescriptor "(IILjava/util/function/BiFunction;)I" = some ⟨[.int, .int, (.object "java/util/function/BiFunction")], some .int⟩ := by decide +kernel
theorem d_jdk_42_method_155_code_5 : decode jdk_42_method_155_code 5 = .ok (.invokestatic 1059, 3) := by decide +kernel
theorem d_jdk_42_method_155_code_8 : decode jdk_42_method_155_code 8 = .ok (.pop, 1) := by decide +kernel
theorem d_jdk_42_method_155_code_9 : decode jdk_42_method_155_code 9 = .ok (.return_, 1) := by decide +kernel
set_option maxRecDepth 65536 in
set_option maxHeartbeats 40000000 in
theorem c_sci (l : Launch) (Z : State) (a0 : Array Value) (hw : ∀ d ∈ tables_1, d.before a0 Z = true) (n0 : Nat) (h0 : Heap) (O0 : Old Z n0 h0) (fm : Value) (rf : fm.isRef = true) (SF : Sta Z Z.heap "jdk/internal/util/Preconditions" "SIOOBE_FORMATTER" "Ljava/util/function/BiFunction;" fm) (i n : Int32) (q1 : ¬ i < 0) (q2 : i < n) :
    Own.Ctr false l (⟨"java/lang/String", "checkIndex", "(II)V"⟩ : MethodName) jdk_42_method_155_code 2 none ({ frames := 1, cells := 0, slots := 0, locals := 14 } : Room) #[(.int i), (.int n)] Z h0 Own.VT [] (fun v h vm => v = none ∧ h = h0) := by
  refine Own.body (plainFor_of_name pn_2) O0 (fun v h vm q _ => q.1) (fun _ _ _ _ q _ => q) ?_
  intro p e s m below meth c T0 hby hml0 hret hnm hV0 K0
  change Own.Wk false p l e ({ frames := 1, cells := 0, slots := 0, locals := 14 } : Room) s m #[(.int i), (.int n)] below meth c "java/lang/String" Z n0 h0 [] s.vm T0 h0 0 0 at K0
  have hml : c.maxLocals = 2 := hml0
  have S0 : Go p e below (T0.setTop (entryFrame m #[(.int i), (.int n)] 2)) (T0.setTop (mkF m 0 #[.val (.int i), .val (.int n)] [])) := fun t k => castTop (by first | rfl | (simp [entryFrame, mkF, argsToLocals, Value.category]; done)) k
  generalize T0.setTop (entryFrame m #[(.int i), (.int n)] 2) = A0 at S0 ⊢
  have S1 : Go p e below A0 (T0.setTop (mkF m 2 #[.val (.int i), .val (.int n)] [(.int n), (.int i)])) := by
    refine S0.trans ?_
    refine (Own.P.iloadN K0.here K0.exec (hb hby d_jdk_42_method_155_code_0) rfl).trans ?_
    refine (Own.P.iloadN K0.here K0.exec (hb hby d_jdk_42_method_155_code_1) rfl).trans ?_
    exact Go.refl _
  obtain ⟨T2, K2, G2⟩ := K0.getS "" (Or.inl (hw _ (List.mem_of_getElem? (i := 75) rfl))) Via.refl (SF.ext K0.ext) (pc := 2) (Ls := #[.val (.int i), .val (.int n)]) (rest := [(.int n), (.int i)]) (hb hby d_jdk_42_method_155_code_2)
  have S2 : Go p e below A0 (T2.setTop (mkF m 5 #[.val (.int i), .val (.int n)] [fm, (.int n), (.int i)])) := S1.trans G2
  obtain ⟨v3, vm3, vq3, T3, h3, K3, KK3, ev3, Q3, G3⟩ := K2.callS (y := (⟨"jdk/internal/util/Preconditions", "checkIndex", "(IILjava/util/function/BiFunction;)I"⟩ : MethodName)) (hw _ (List.mem_of_getElem? (i := 77) rfl)) (hw _ (List.mem_of_getElem? (i := 78) rfl)) (hw _ (List.mem_of_getElem? (i := 76) rfl)) (hw _ (List.mem_of_getElem? (i := 79) rfl)) (by decide) (W := 0) (argsL := [(.int i), (.int n), fm]) (rest := []) ((c_pci l Z a0 hw n0 h0 (K2.old) i n fm rf q1 q2).pay Own.VT.cl (hw _ (List.mem_of_getElem? (i := 79) rfl)) (hw _ (List.mem_of_getElem? (i := 76) rfl)) (by decide) (by decide)) trivial (pc := 5) (Ls := #[.val (.int i), .val (.int n)]) (st := [fm, (.int n), (.int i)]) (by rw [hml]; rfl) (lenOf pd_8 rfl) rfl (Nat.le_of_eq rfl) (hb hby d_jdk_42_method_155_code_5) (by decide) (by decide) all0
  obtain ⟨rfl, e3⟩ := Q3
  have S3 : Go p e below A0 (T3.setTop (mkF m 8 #[.val (.int i), .val (.int n)] [(.int i)])) := S2.trans G3
  subst e3
  have S4 : Go p e below A0 (T3.setTop (mkF m 9 #[.val (.int i), .val (.int n)] [])) := by
    refine S3.trans ?_
    refine (Own.P.pop K3.here K3.exec (hb hby d_jdk_42_method_155_code_8) rfl).trans ?_
    exact Go.refl _
  exact ⟨vm3, T3, h3, none, _, _, K3, by decide, by decide, ⟨rfl, rfl⟩, K3.retV S4 hret (hb hby d_jdk_42_method_155_code_9)⟩
theorem d_jdk_52_method_91_code_0 : decode jdk_52_method_91_code 0 = .ok (.iload_n 0, 1) := by decide +kernel
theorem d_jdk_52_method_91_code_1 : decode jdk_52_method_91_code 1 = .ok (.aload_n 1, 1) := by decide +kernel
theorem pd_9 : parseMethodDescriptor "([B)I" = some ⟨[(.array .byte)], some .int⟩ := by decide +kernel
theorem d_jdk_52_method_91_code_2 : decode jdk_52_method_91_code 2 = .ok (.invokestatic 48, 3) := by decide +kernel
theorem pd_10 : parseMethodDescriptor "(II)V" = some ⟨[.int, .int], none⟩ := by decide +kernel
theorem d_jdk_52_method_91_code_5 : decode jdk_52_method_91_code 5 = .ok (.invokestatic 414, 3) := by decide +kernel
theorem d_jdk_52_method_91_code_8 : decode jdk_52_method_91_code 8 = .ok (.return_, 1) := by decide +kernel
set_option maxRecDepth 65536 in
set_option maxHeartbeats 40000000 in
theorem c_uci (l : Launch) (Z : State) (a0 : Array Value) (hw : ∀ d ∈ tables_1, d.before a0 Z = true) (n0 : Nat) (h0 : Heap) (O0 : Old Z n0 h0) (fm : Value) (rf : fm.isRef = true) (SF : Sta Z Z.heap "jdk/internal/util/Preconditions" "SIOOBE_FORMATTER" "Ljava/util/function/BiFunction;" fm) (i : Int32) (a1 : Addr) (kb : ClassId) (vs : List Value) (V : Arv Z h0 a1 kb .byte 6 vs (.int 0)) (q1 : ¬ i < 0) (q2 : i < 3) :
    Own.Ctr false l (⟨"java/lang/StringUTF16", "checkIndex", "(I[B)V"⟩ : MethodName) jdk_52_method_91_code 2 none ({ frames := 2, cells := 0, slots := 0, locals := 27 } : Room) #[(.int i), (.ref a1)] Z h0 Own.VT [] (fun v h vm => v = none ∧ h = h0) := by
  refine Own.body (plainFor_of_name pn_1) O0 (fun v h vm q _ => q.1) (fun _ _ _ _ q _ => q) ?_
  intro p e s m below meth c T0 hby hml0 hret hnm hV0 K0
  change Own.Wk false p l e ({ frames := 2, cells := 0, slots := 0, locals := 27 } : Room) s m #[(.int i), (.ref a1)] below meth c "java/lang/StringUTF16" Z n0 h0 [] s.vm T0 h0 0 0 at K0
  have hml : c.maxLocals = 2 := hml0
  have S0 : Go p e below (T0.setTop (entryFrame m #[(.int i), (.ref a1)] 2)) (T0.setTop (mkF m 0 #[.val (.int i), .val (.ref a1)] [])) := fun t k => castTop (by first | rfl | (simp [entryFrame, mkF, argsToLocals, Value.category]; done)) k
  generalize T0.setTop (entryFrame m #[(.int i), (.ref a1)] 2) = A0 at S0 ⊢
  have S1 : Go p e below A0 (T0.setTop (mkF m 2 #[.val (.int i), .val (.ref a1)] [(.ref a1), (.int i)])) := by
    refine S0.trans ?_
    refine (Own.P.iloadN K0.here K0.exec (hb hby d_jdk_52_method_91_code_0) rfl).trans ?_
    refine (Own.P.aloadN K0.here K0.exec (hb hby d_jdk_52_method_91_code_1) rfl rfl).trans ?_
    exact Go.refl _
  obtain ⟨v2, vm2, vq2, T2, h2, K2, KK2, ev2, Q2, G2⟩ := K0.callS (y := (⟨"java/lang/StringUTF16", "length", "([B)I"⟩ : MethodName)) (hw _ (List.mem_of_getElem? (i := 105) rfl)) (hw _ (List.mem_of_getElem? (i := 106) rfl)) (hw _ (List.mem_of_getElem? (i := 23) rfl)) (hw _ (List.mem_of_getElem? (i := 107) rfl)) (by decide) (W := 1) (argsL := [(.ref a1)]) (rest := [(.int i)]) ((c_ulen l Z a0 hw n0 h0 (K0.old) a1 kb vs V).pay Own.VT.cl (hw _ (List.mem_of_getElem? (i := 107) rfl)) (hw _ (List.mem_of_getElem? (i := 23) rfl)) (by decide) (by decide)) trivial (pc := 2) (Ls := #[.val (.int i), .val (.ref a1)]) (st := [(.ref a1), (.int i)]) (by rw [hml]; rfl) (lenOf pd_9 rfl) rfl (Nat.le_of_eq rfl) (hb hby d_jdk_52_method_91_code_2) (by decide) (by decide) all0
  obtain ⟨rfl, e2⟩ := Q2
  have S2 : Go p e below A0 (T2.setTop (mkF m 5 #[.val (.int i), .val (.ref a1)] [(.int (3 : Int32)), (.int i)])) := S1.trans G2
  subst e2
  obtain ⟨v3, vm3, vq3, T3, h3, K3, KK3, ev3, Q3, G3⟩ := K2.callS (y := (⟨"java/lang/String", "checkIndex", "(II)V"⟩ : MethodName)) (hw _ (List.mem_of_getElem? (i := 108) rfl)) (hw _ (List.mem_of_getElem? (i := 73) rfl)) (hw _ (List.mem_of_getElem? (i := 9) rfl)) (hw _ (List.mem_of_getElem? (i := 74) rfl)) (by decide) (W := 0) (argsL := [(.int i), (.int (3 : Int32))]) (rest := []) ((c_sci l Z a0 hw n0 h2 (K2.old) fm rf SF i 3 q1 q2).pay Own.VT.cl (hw _ (List.mem_of_getElem? (i := 74) rfl)) (hw _ (List.mem_of_getElem? (i := 9) rfl)) (by decide) (by decide)) trivial (pc := 5) (Ls := #[.val (.int i), .val (.ref a1)]) (st := [(.int (3 : Int32)), (.int i)]) (by rw [hml]; rfl) (lenOf pd_10 rfl) rfl (Nat.le_of_eq rfl) (hb hby d_jdk_52_method_91_code_5) (by decide) (by decide) all0
  obtain ⟨rfl, e3⟩ := Q3
  have S3 : Go p e below A0 (T3.setTop (mkF m 8 #[.val (.int i), .val (.ref a1)] [])) := S2.trans G3
  subst e3
  exact ⟨vm3, T3, h3, none, _, _, K3, by decide, by decide, ⟨rfl, rfl⟩, K3.retV S3 hret (hb hby d_jdk_52_method_91_code_8)⟩
theorem d_jdk_42_method_154_code_0 : decode jdk_42_method_154_code 0 = .ok (.getstatic 38, 3) := by decide +kernel
theorem d_jdk_42_method_154_code_3 : decode jdk_42_method_154_code 3 = .ok (.ifCond .eq 14, 3) := by decide +kernel
theorem d_jdk_42_method_154_code_6 : decode jdk_42_method_154_code 6 = .ok (.aload_n 0, 1) := by decide +kernel
theorem d_jdk_42_method_154_code_7 : decode jdk_42_method_154_code 7 = .ok (.getfield 15, 3) := by decide +kernel
theorem d_jdk_42_method_154_code_10 : decode jdk_42_method_154_code 10 = .ok (.ifCond .ne 7, 3) := by decide +kernel
theorem d_jdk_42_method_154_code_13 : decode jdk_42_method_154_code 13 = .ok (.iconst 1, 1) := by decide +kernel
theorem d_jdk_42_method_154_code_14 : decode jdk_42_method_154_code 14 = .ok (.goto 4, 3) := by decide +kernel
theorem d_jdk_42_method_154_code_18 : decode jdk_42_method_154_code 18 = .ok (.ireturn, 1) := by decide +kernel
set_option maxRecDepth 65536 in
set_option maxHeartbeats 40000000 in
theorem c_isl0 (l : Launch) (Z : State) (a0 : Array Value) (hw : ∀ d ∈ tables_1, d.before a0 Z = true) (n0 : Nat) (h0 : Heap) (O0 : Old Z n0 h0) (a1 : Addr) (zc : Int32) (hzc : ¬ zc = 0) (SC : Sta Z Z.heap "java/lang/String" "COMPACT_STRINGS" "Z" (.int zc)) (F : Fld Z h0 a1 "java/lang/String" "coder" "B" (.int 0)) :
    Own.Ctr false l (⟨"java/lang/String", "isLatin1", "()Z"⟩ : MethodName) jdk_42_method_154_code 1 (some .boolean) ({ frames := 0, cells := 0, slots := 0, locals := 0 } : Room) #[(.ref a1)] Z h0 Own.VT [] (fun v h vm => v = some (.int 1) ∧ h = h0) := by
  refine Own.body (plainFor_of_name pn_2) O0 (fun _ _ _ _ q => by cases q) (fun _ _ _ _ q _ => q) ?_
  intro p e s m below meth c T0 hby hml0 hret hnm hV0 K0
  change Own.Wk false p l e ({ frames := 0, cells := 0, slots := 0, locals := 0 } : Room) s m #[(.ref a1)] below meth c "java/lang/String" Z n0 h0 [] s.vm T0 h0 0 0 at K0
  have hml : c.maxLocals = 1 := hml0
  have S0 : Go p e below (T0.setTop (entryFrame m #[(.ref a1)] 1)) (T0.setTop (mkF m 0 #[.val (.ref a1)] [])) := fun t k => castTop (by first | rfl | (simp [entryFrame, mkF, argsToLocals, Value.category]; done)) k
  generalize T0.setTop (entryFrame m #[(.ref a1)] 1) = A0 at S0 ⊢
  obtain ⟨T1, K1, G1⟩ := K0.getS "" (Or.inl (hw _ (List.mem_of_getElem? (i := 20) rfl))) Via.refl (SC.ext K0.ext) (pc := 0) (Ls := #[.val (.ref a1)]) (rest := []) (hb hby d_jdk_42_method_154_code_0)
  have S1 : Go p e below A0 (T1.setTop (mkF m 3 #[.val (.ref a1)] [(.int zc)])) := S0.trans G1
  have S2 : Go p e below A0 (T1.setTop (mkF m 7 #[.val (.ref a1)] [(.ref a1)])) := by
    refine S1.trans ?_
    refine (Own.P.ifNo K1.here K1.exec (hb hby d_jdk_42_method_154_code_3) (XT.i0_eq_f hzc)).trans ?_
    refine (Own.P.aloadN K1.here K1.exec (hb hby d_jdk_42_method_154_code_6) rfl rfl).trans ?_
    exact Go.refl _
  obtain ⟨T3, K3, G3⟩ := K1.getF "" (Or.inl (hw _ (List.mem_of_getElem? (i := 32) rfl))) Via.refl F (pc := 7) (Ls := #[.val (.ref a1)]) (rest := []) (hb hby d_jdk_42_method_154_code_7)
  have S3 : Go p e below A0 (T3.setTop (mkF m 10 #[.val (.ref a1)] [(.int (0 : Int32))])) := S2.trans G3
  have S4 : Go p e below A0 (T3.setTop (mkF m 18 #[.val (.ref a1)] [(.int (1 : Int32))])) := by
    refine S3.trans ?_
    refine (Own.P.ifNo K3.here K3.exec (hb hby d_jdk_42_method_154_code_10) (by decide)).trans ?_
    refine (Own.P.iconst K3.here K3.exec (1 : Int32) (hb hby d_jdk_42_method_154_code_13) rfl).trans ?_
    refine (Own.P.goto K3.here K3.exec 18 (hb hby d_jdk_42_method_154_code_14) (by decide) (by decide)).trans ?_
    exact Go.refl _
  exact ⟨s.vm, T3, h0, (some (.int (1 : Int32))), _, _, K3, by decide, by decide, ⟨rfl, rfl⟩, K3.retW S4 hret rfl (Or.inl ⟨rfl, by decide, _, rfl⟩) (hb hby d_jdk_42_method_154_code_18)⟩
theorem d_jdk_42_method_154_code_17 : decode jdk_42_method_154_code 17 = .ok (.iconst 0, 1) := by decide +kernel
set_option maxRecDepth 65536 in
set_option maxHeartbeats 40000000 in
theorem c_isl1 (l : Launch) (Z : State) (a0 : Array Value) (hw : ∀ d ∈ tables_1, d.before a0 Z = true) (n0 : Nat) (h0 : Heap) (O0 : Old Z n0 h0) (a1 : Addr) (zc : Int32) (hzc : ¬ zc = 0) (SC : Sta Z Z.heap "java/lang/String" "COMPACT_STRINGS" "Z" (.int zc)) (F : Fld Z h0 a1 "java/lang/String" "coder" "B" (.int 1)) :
    Own.Ctr false l (⟨"java/lang/String", "isLatin1", "()Z"⟩ : MethodName) jdk_42_method_154_code 1 (some .boolean) ({ frames := 0, cells := 0, slots := 0, locals := 0 } : Room) #[(.ref a1)] Z h0 Own.VT [] (fun v h vm => v = some (.int 0) ∧ h = h0) := by
  refine Own.body (plainFor_of_name pn_2) O0 (fun _ _ _ _ q => by cases q) (fun _ _ _ _ q _ => q) ?_
  intro p e s m below meth c T0 hby hml0 hret hnm hV0 K0
  change Own.Wk false p l e ({ frames := 0, cells := 0, slots := 0, locals := 0 } : Room) s m #[(.ref a1)] below meth c "java/lang/String" Z n0 h0 [] s.vm T0 h0 0 0 at K0
  have hml : c.maxLocals = 1 := hml0
  have S0 : Go p e below (T0.setTop (entryFrame m #[(.ref a1)] 1)) (T0.setTop (mkF m 0 #[.val (.ref a1)] [])) := fun t k => castTop (by first | rfl | (simp [entryFrame, mkF, argsToLocals, Value.category]; done)) k
  generalize T0.setTop (entryFrame m #[(.ref a1)] 1) = A0 at S0 ⊢
  obtain ⟨T1, K1, G1⟩ := K0.getS "" (Or.inl (hw _ (List.mem_of_getElem? (i := 20) rfl))) Via.refl (SC.ext K0.ext) (pc := 0) (Ls := #[.val (.ref a1)]) (rest := []) (hb hby d_jdk_42_method_154_code_0)
  have S1 : Go p e below A0 (T1.setTop (mkF m 3 #[.val (.ref a1)] [(.int zc)])) := S0.trans G1
  have S2 : Go p e below A0 (T1.setTop (mkF m 7 #[.val (.ref a1)] [(.ref a1)])) := by
    refine S1.trans ?_
    refine (Own.P.ifNo K1.here K1.exec (hb hby d_jdk_42_method_154_code_3) (XT.i0_eq_f hzc)).trans ?_
    refine (Own.P.aloadN K1.here K1.exec (hb hby d_jdk_42_method_154_code_6) rfl rfl).trans ?_
    exact Go.refl _
  obtain ⟨T3, K3, G3⟩ := K1.getF "" (Or.inl (hw _ (List.mem_of_getElem? (i := 32) rfl))) Via.refl F (pc := 7) (Ls := #[.val (.ref a1)]) (rest := []) (hb hby d_jdk_42_method_154_code_7)
  have S3 : Go p e below A0 (T3.setTop (mkF m 10 #[.val (.ref a1)] [(.int (1 : Int32))])) := S2.trans G3
  have S4 : Go p e below A0 (T3.setTop (mkF m 18 #[.val (.ref a1)] [(.int (0 : Int32))])) := by
    refine S3.trans ?_
    refine (Own.P.ifYes K3.here K3.exec 17 (hb hby d_jdk_42_method_154_code_10) (by decide) (by decide) (by decide)).trans ?_
    refine (Own.P.iconst K3.here K3.exec (0 : Int32) (hb hby d_jdk_42_method_154_code_17) rfl).trans ?_
    exact Go.refl _
  exact ⟨s.vm, T3, h0, (some (.int (0 : Int32))), _, _, K3, by decide, by decide, ⟨rfl, rfl⟩, K3.retW S4 hret rfl (Or.inl ⟨rfl, by decide, _, rfl⟩) (hb hby d_jdk_42_method_154_code_18)⟩
theorem d_jdk_43_method_2_code_0 : decode jdk_43_method_2_code 0 = .ok (.iload_n 1, 1) := by decide +kernel
theorem d_jdk_43_method_2_code_1 : decode jdk_43_method_2_code 1 = .ok (.aload_n 0, 1) := by decide +kernel
theorem d_jdk_43_method_2_code_2 : decode jdk_43_method_2_code 2 = .ok (.arraylength, 1) := by decide +kernel
theorem d_jdk_43_method_2_code_3 : decode jdk_43_method_2_code 3 = .ok (.invokestatic 9, 3) := by decide +kernel
theorem d_jdk_43_method_2_code_6 : decode jdk_43_method_2_code 6 = .ok (.aload_n 0, 1) := by decide +kernel
theorem d_jdk_43_method_2_code_7 : decode jdk_43_method_2_code 7 = .ok (.iload_n 1, 1) := by decide +kernel
theorem d_jdk_43_method_2_code_8 : decode jdk_43_method_2_code 8 = .ok (.baload, 1) := by decide +kernel
theorem d_jdk_43_method_2_code_9 : decode jdk_43_method_2_code 9 = .ok (.sipush 255, 3) := by decide +kernel
theorem d_jdk_43_method_2_code_12 : decode jdk_43_method_2_code 12 = .ok (.iand, 1) := by decide +kernel
theorem d_jdk_43_method_2_code_13 : decode jdk_43_method_2_code 13 = .ok (.i2c, 1) := by decide +kernel
theorem d_jdk_43_method_2_code_14 : decode jdk_43_method_2_code 14 = .ok (.ireturn, 1) := by decide +kernel
theorem pn_4 : plainName "java/lang/StringLatin1" = true := by first | (simp [plainName, overriddenIn]; done) | decide +kernel
set_option maxRecDepth 65536 in
set_option maxHeartbeats 40000000 in
theorem c_lch0 (l : Launch) (Z : State) (a0 : Array Value) (hw : ∀ d ∈ tables_1, d.before a0 Z = true) (n0 : Nat) (h0 : Heap) (O0 : Old Z n0 h0) (fm : Value) (rf : fm.isRef = true) (SF : Sta Z Z.heap "jdk/internal/util/Preconditions" "SIOOBE_FORMATTER" "Ljava/util/function/BiFunction;" fm) (a1 : Addr) (kb : ClassId) (c0 c1 c2 : Int32) (V : Arv Z h0 a1 kb .byte 3 [.int (lo8 c0), .int (lo8 c1), .int (lo8 c2)] (.int 0)) (rc : ¬ c0 < 0 ∧ ¬ (65535 : Int32) < c0) (q : ¬ 255 < c0) :
    Own.Ctr false l (⟨"java/lang/StringLatin1", "charAt", "([BI)C"⟩ : MethodName) jdk_43_method_2_code 2 (some .char) ({ frames := 2, cells := 0, slots := 0, locals := 27 } : Room) #[(.ref a1), (.int (0 : Int32))] Z h0 Own.VT [] (fun v h vm => v = some (.int c0) ∧ h = h0) := by
  refine Own.body (plainFor_of_name pn_4) O0 (fun _ _ _ _ q => by cases q) (fun _ _ _ _ q _ => q) ?_
  intro p e s m below meth c T0 hby hml0 hret hnm hV0 K0
  change Own.Wk false p l e ({ frames := 2, cells := 0, slots := 0, locals := 27 } : Room) s m #[(.ref a1), (.int (0 : Int32))] below meth c "java/lang/StringLatin1" Z n0 h0 [] s.vm T0 h0 0 0 at K0
  have hml : c.maxLocals = 2 := hml0
  have S0 : Go p e below (T0.setTop (entryFrame m #[(.ref a1), (.int (0 : Int32))] 2)) (T0.setTop (mkF m 0 #[.val (.ref a1), .val (.int (0 : Int32))] [])) := fun t k => castTop (by first | rfl | (simp [entryFrame, mkF, argsToLocals, Value.category]; done)) k
  generalize T0.setTop (entryFrame m #[(.ref a1), (.int (0 : Int32))] 2) = A0 at S0 ⊢
  have S1 : Go p e below A0 (T0.setTop (mkF m 2 #[.val (.ref a1), .val (.int (0 : Int32))] [(.ref a1), (.int (0 : Int32))])) := by
    refine S0.trans ?_
    refine (Own.P.iloadN K0.here K0.exec (hb hby d_jdk_43_method_2_code_0) rfl).trans ?_
    refine (Own.P.aloadN K0.here K0.exec (hb hby d_jdk_43_method_2_code_1) rfl rfl).trans ?_
    exact Go.refl _
  have G2 := K0.len V (pc := 2) (Ls := #[.val (.ref a1), .val (.int (0 : Int32))]) (rest := [(.int (0 : Int32))]) (hb hby d_jdk_43_method_2_code_2)
  have S2 : Go p e below A0 (T0.setTop (mkF m 3 #[.val (.ref a1), .val (.int (0 : Int32))] [(.int (3 : Int32)), (.int (0 : Int32))])) := S1.trans G2
  obtain ⟨v3, vm3, vq3, T3, h3, K3, KK3, ev3, Q3, G3⟩ := K0.callS (y := (⟨"java/lang/String", "checkIndex", "(II)V"⟩ : MethodName)) (hw _ (List.mem_of_getElem? (i := 72) rfl)) (hw _ (List.mem_of_getElem? (i := 73) rfl)) (hw _ (List.mem_of_getElem? (i := 9) rfl)) (hw _ (List.mem_of_getElem? (i := 74) rfl)) (by decide) (W := 0) (argsL := [(.int (0 : Int32)), (.int (3 : Int32))]) (rest := []) ((c_sci l Z a0 hw n0 h0 (K0.old) fm rf SF 0 3 (by decide) (by decide)).pay Own.VT.cl (hw _ (List.mem_of_getElem? (i := 74) rfl)) (hw _ (List.mem_of_getElem? (i := 9) rfl)) (by decide) (by decide)) trivial (pc := 3) (Ls := #[.val (.ref a1), .val (.int (0 : Int32))]) (st := [(.int (3 : Int32)), (.int (0 : Int32))]) (by rw [hml]; rfl) (lenOf pd_10 rfl) rfl (Nat.le_of_eq rfl) (hb hby d_jdk_43_method_2_code_3) (by decide) (by decide) all0
  obtain ⟨rfl, e3⟩ := Q3
  have S3 : Go p e below A0 (T3.setTop (mkF m 6 #[.val (.ref a1), .val (.int (0 : Int32))] [])) := S2.trans G3
  subst e3
  have S4 : Go p e below A0 (T3.setTop (mkF m 8 #[.val (.ref a1), .val (.int (0 : Int32))] [(.int (0 : Int32)), (.ref a1)])) := by
    refine S3.trans ?_
    refine (Own.P.aloadN K3.here K3.exec (hb hby d_jdk_43_method_2_code_6) rfl rfl).trans ?_
    refine (Own.P.iloadN K3.here K3.exec (hb hby d_jdk_43_method_2_code_7) rfl).trans ?_
    exact Go.refl _
  have G5 := K3.ldB V (j := (0 : Int32)) ⟨by decide, by decide⟩ (v := (.int (lo8 c0))) rfl (pc := 8) (Ls := #[.val (.ref a1), .val (.int (0 : Int32))]) (rest := []) (hb hby d_jdk_43_method_2_code_8)
  have S5 : Go p e below A0 (T3.setTop (mkF m 9 #[.val (.ref a1), .val (.int (0 : Int32))] [(.int (lo8 c0))])) := S4.trans G5
  have S6 : Go p e below A0 (T3.setTop (mkF m 14 #[.val (.ref a1), .val (.int (0 : Int32))] [(.int (((lo8 c0) &&& (255 : Int32)).toUInt32.toUInt16.toUInt32.toInt32))])) := by
    refine S5.trans ?_
    refine (Own.P.sipush K3.here K3.exec (255 : Int32) (hb hby d_jdk_43_method_2_code_9) rfl).trans ?_
    refine (Own.P.iand K3.here K3.exec (hb hby d_jdk_43_method_2_code_12) ).trans ?_
    refine (Own.P.i2c K3.here K3.exec (hb hby d_jdk_43_method_2_code_13) ).trans ?_
    exact Go.refl _
  have ec : (((lo8 c0) &&& (255 : Int32)).toUInt32.toUInt16.toUInt32.toInt32) = c0 := by rw [lo8_mask rc.1 q, own_c rc.1 rc.2]
  rw [ec] at S6
  exact ⟨vm3, T3, h3, (some (.int c0)), _, _, K3, by decide, by decide, ⟨rfl, rfl⟩, K3.retW S6 hret (own_cn rc.1 rc.2) (Or.inl ⟨rfl, by decide, _, rfl⟩) (hb hby d_jdk_43_method_2_code_14)⟩
theorem d_jdk_52_method_83_code_0 : decode jdk_52_method_83_code 0 = .ok (.iload_n 1, 1) := by decide +kernel
theorem d_jdk_52_method_83_code_1 : decode jdk_52_method_83_code 1 = .ok (.aload_n 0, 1) := by decide +kernel
theorem pd_11 : parseMethodDescriptor "(I[B)V" = some ⟨[.int, (.array .byte)], none⟩ := by decide +kernel
theorem d_jdk_52_method_83_code_2 : decode jdk_52_method_83_code 2 = .ok (.invokestatic 67, 3) := by decide +kernel
theorem d_jdk_52_method_83_code_5 : decode jdk_52_method_83_code 5 = .ok (.aload_n 0, 1) := by decide +kernel
theorem d_jdk_52_method_83_code_6 : decode jdk_52_method_83_code 6 = .ok (.iload_n 1, 1) := by decide +kernel
theorem d_jdk_52_method_83_code_7 : decode jdk_52_method_83_code 7 = .ok (.invokestatic 71, 3) := by decide +kernel
theorem d_jdk_52_method_83_code_10 : decode jdk_52_method_83_code 10 = .ok (.ireturn, 1) := by decide +kernel
set_option maxRecDepth 65536 in
set_option maxHeartbeats 40000000 in
theorem c_uch0 (l : Launch) (Z : State) (a0 : Array Value) (hw : ∀ d ∈ tables_1, d.before a0 Z = true) (n0 : Nat) (h0 : Heap) (O0 : Old Z n0 h0) (A1 : Sta Z Z.heap "java/lang/StringUTF16" "$assertionsDisabled" "Z" (.int 1)) (A2 : Sta Z Z.heap "java/lang/StringUTF16" "HI_BYTE_SHIFT" "I" (.int 0)) (A3 : Sta Z Z.heap "java/lang/StringUTF16" "LO_BYTE_SHIFT" "I" (.int 8)) (fm : Value) (rf : fm.isRef = true) (SF : Sta Z Z.heap "jdk/internal/util/Preconditions" "SIOOBE_FORMATTER" "Ljava/util/function/BiFunction;" fm) (a1 : Addr) (kb : ClassId) (c0 c1 c2 : Int32) (V : Arv Z h0 a1 kb .byte 6 [.int (lo8 c0), .int (hi8 c0), .int (lo8 c1), .int (hi8 c1), .int (lo8 c2), .int (hi8 c2)] (.int 0)) (rc : ¬ c0 < 0 ∧ ¬ (65535 : Int32) < c0) :
    Own.Ctr false l (⟨"java/lang/StringUTF16", "charAt", "([BI)C"⟩ : MethodName) jdk_52_method_83_code 2 (some .char) ({ frames := 3, cells := 0, slots := 0, locals := 40 } : Room) #[(.ref a1), (.int (0 : Int32))] Z h0 Own.VT [] (fun v h vm => v = some (.int c0) ∧ h = h0) := by
  refine Own.body (plainFor_of_name pn_1) O0 (fun _ _ _ _ q => by cases q) (fun _ _ _ _ q _ => q) ?_
  intro p e s m below meth c T0 hby hml0 hret hnm hV0 K0
  change Own.Wk false p l e ({ frames := 3, cells := 0, slots := 0, locals := 40 } : Room) s m #[(.ref a1), (.int (0 : Int32))] below meth c "java/lang/StringUTF16" Z n0 h0 [] s.vm T0 h0 0 0 at K0
  have hml : c.maxLocals = 2 := hml0
  have S0 : Go p e below (T0.setTop (entryFrame m #[(.ref a1), (.int (0 : Int32))] 2)) (T0.setTop (mkF m 0 #[.val (.ref a1), .val (.int (0 : Int32))] [])) := fun t k => castTop (by first | rfl | (simp [entryFrame, mkF, argsToLocals, Value.category]; done)) k
  generalize T0.setTop (entryFrame m #[(.ref a1), (.int (0 : Int32))] 2) = A0 at S0 ⊢
  have S1 : Go p e below A0 (T0.setTop (mkF m 2 #[.val (.ref a1), .val (.int (0 : Int32))] [(.ref a1), (.int (0 : Int32))])) := by
    refine S0.trans ?_
    refine (Own.P.iloadN K0.here K0.exec (hb hby d_jdk_52_method_83_code_0) rfl).trans ?_
    refine (Own.P.aloadN K0.here K0.exec (hb hby d_jdk_52_method_83_code_1) rfl rfl).trans ?_
    exact Go.refl _
  obtain ⟨v2, vm2, vq2, T2, h2, K2, KK2, ev2, Q2, G2⟩ := K0.callS (y := (⟨"java/lang/StringUTF16", "checkIndex", "(I[B)V"⟩ : MethodName)) (hw _ (List.mem_of_getElem? (i := 102) rfl)) (hw _ (List.mem_of_getElem? (i := 103) rfl)) (hw _ (List.mem_of_getElem? (i := 23) rfl)) (hw _ (List.mem_of_getElem? (i := 104) rfl)) (by decide) (W := 0) (argsL := [(.int (0 : Int32)), (.ref a1)]) (rest := []) ((c_uci l Z a0 hw n0 h0 (K0.old) fm rf SF 0 a1 kb _ V (by decide) (by decide)).pay Own.VT.cl (hw _ (List.mem_of_getElem? (i := 104) rfl)) (hw _ (List.mem_of_getElem? (i := 23) rfl)) (by decide) (by decide)) trivial (pc := 2) (Ls := #[.val (.ref a1), .val (.int (0 : Int32))]) (st := [(.ref a1), (.int (0 : Int32))]) (by rw [hml]; rfl) (lenOf pd_11 rfl) rfl (Nat.le_of_eq rfl) (hb hby d_jdk_52_method_83_code_2) (by decide) (by decide) all0
  obtain ⟨rfl, e2⟩ := Q2
  have S2 : Go p e below A0 (T2.setTop (mkF m 5 #[.val (.ref a1), .val (.int (0 : Int32))] [])) := S1.trans G2
  subst e2
  have S3 : Go p e below A0 (T2.setTop (mkF m 7 #[.val (.ref a1), .val (.int (0 : Int32))] [(.int (0 : Int32)), (.ref a1)])) := by
    refine S2.trans ?_
    refine (Own.P.aloadN K2.here K2.exec (hb hby d_jdk_52_method_83_code_5) rfl rfl).trans ?_
    refine (Own.P.iloadN K2.here K2.exec (hb hby d_jdk_52_method_83_code_6) rfl).trans ?_
    exact Go.refl _
  obtain ⟨v4, vm4, vq4, T4, h4, K4, KK4, ev4, Q4, G4⟩ := K2.callS (y := (⟨"java/lang/StringUTF16", "getChar", "([BI)C"⟩ : MethodName)) (hw _ (List.mem_of_getElem? (i := 96) rfl)) (hw _ (List.mem_of_getElem? (i := 97) rfl)) (hw _ (List.mem_of_getElem? (i := 23) rfl)) (hw _ (List.mem_of_getElem? (i := 98) rfl)) (by decide) (W := 0) (argsL := [(.ref a1), (.int (0 : Int32))]) (rest := []) ((c_get0 l Z a0 hw n0 h2 (K2.old) A1 A2 A3 a1 kb _ _ _ _ _ _ V c0 rc rfl rfl).pay Own.VT.cl (hw _ (List.mem_of_getElem? (i := 98) rfl)) (hw _ (List.mem_of_getElem? (i := 23) rfl)) (by decide) (by decide)) trivial (pc := 7) (Ls := #[.val (.ref a1), .val (.int (0 : Int32))]) (st := [(.int (0 : Int32)), (.ref a1)]) (by rw [hml]; rfl) (lenOf pd_5 rfl) rfl (Nat.le_of_eq rfl) (hb hby d_jdk_52_method_83_code_7) (by decide) (by decide) all0
  obtain ⟨rfl, e4⟩ := Q4
  have S4 : Go p e below A0 (T4.setTop (mkF m 10 #[.val (.ref a1), .val (.int (0 : Int32))] [(.int c0)])) := S3.trans G4
  subst e4
  exact ⟨vm4, T4, h4, (some (.int c0)), _, _, K4, by decide, by decide, ⟨rfl, rfl⟩, K4.retW S4 hret (own_cn rc.1 rc.2) (Or.inl ⟨rfl, by decide, _, rfl⟩) (hb hby d_jdk_52_method_83_code_10)⟩
theorem d_jdk_42_method_56_code_0 : decode jdk_42_method_56_code 0 = .ok (.aload_n 0, 1) := by decide +kernel
theorem pd_12 : parseMethodDescriptor "()Z" = some ⟨[], some .boolean⟩ := by decide +kernel
theorem d_jdk_42_method_56_code_1 : decode jdk_42_method_56_code 1 = .ok (.invokevirtual 492, 3) := by decide +kernel
theorem d_jdk_42_method_56_code_4 : decode jdk_42_method_56_code 4 = .ok (.ifCond .eq 12, 3) := by decide +kernel
theorem d_jdk_42_method_56_code_7 : decode jdk_42_method_56_code 7 = .ok (.aload_n 0, 1) := by decide +kernel
theorem d_jdk_42_method_56_code_8 : decode jdk_42_method_56_code 8 = .ok (.getfield 9, 3) := by decide +kernel
theorem d_jdk_42_method_56_code_11 : decode jdk_42_method_56_code 11 = .ok (.iload_n 1, 1) := by decide +kernel
theorem d_jdk_42_method_56_code_12 : decode jdk_42_method_56_code 12 = .ok (.invokestatic 495, 3) := by decide +kernel
theorem d_jdk_42_method_56_code_15 : decode jdk_42_method_56_code 15 = .ok (.ireturn, 1) := by decide +kernel
theorem d_jdk_42_method_56_code_16 : decode jdk_42_method_56_code 16 = .ok (.aload_n 0, 1) := by decide +kernel
theorem d_jdk_42_method_56_code_17 : decode jdk_42_method_56_code 17 = .ok (.getfield 9, 3) := by decide +kernel
theorem d_jdk_42_method_56_code_20 : decode jdk_42_method_56_code 20 = .ok (.iload_n 1, 1) := by decide +kernel
theorem d_jdk_42_method_56_code_21 : decode jdk_42_method_56_code 21 = .ok (.invokestatic 498, 3) := by decide +kernel
theorem d_jdk_42_method_56_code_24 : decode jdk_42_method_56_code 24 = .ok (.ireturn, 1) := by decide +kernel
set_option maxRecDepth 65536 in
set_option maxHeartbeats 40000000 in
theorem c_cha0 (l : Launch) (Z : State) (a0 : Array Value) (hw : ∀ d ∈ tables_1, d.before a0 Z = true) (n0 : Nat) (h0 : Heap) (O0 : Old Z n0 h0) (A1 : Sta Z Z.heap "java/lang/StringUTF16" "$assertionsDisabled" "Z" (.int 1)) (A2 : Sta Z Z.heap "java/lang/StringUTF16" "HI_BYTE_SHIFT" "I" (.int 0)) (A3 : Sta Z Z.heap "java/lang/StringUTF16" "LO_BYTE_SHIFT" "I" (.int 8)) (fm : Value) (rf : fm.isRef = true) (SF : Sta Z Z.heap "jdk/internal/util/Preconditions" "SIOOBE_FORMATTER" "Ljava/util/function/BiFunction;" fm) (a1 : Addr) (c0 c1 c2 : Int32) (r0 : ¬ c0 < 0 ∧ ¬ (65535 : Int32) < c0) (r1 : ¬ c1 < 0 ∧ ¬ (65535 : Int32) < c1) (r2 : ¬ c2 < 0 ∧ ¬ (65535 : Int32) < c2) (SU : StrU Z h0 a1 c0 c1 c2) (zc : Int32) (hzc : ¬ zc = 0) (SC : Sta Z Z.heap "java/lang/String" "COMPACT_STRINGS" "Z" (.int zc)) :
    Own.Ctr false l (⟨"java/lang/String", "charAt", "(I)C"⟩ : MethodName) jdk_42_method_56_code 2 (some .char) ({ frames := 4, cells := 0, slots := 0, locals := 53 } : Room) #[(.ref a1), (.int (0 : Int32))] Z h0 Own.VT [] (fun v h vm => v = some (.int c0) ∧ h = h0) := by
  refine Own.body (plainFor_of_name pn_2) O0 (fun _ _ _ _ q => by cases q) (fun _ _ _ _ q _ => q) ?_
  intro p e s m below meth c T0 hby hml0 hret hnm hV0 K0
  change Own.Wk false p l e ({ frames := 4, cells := 0, slots := 0, locals := 53 } : Room) s m #[(.ref a1), (.int (0 : Int32))] below meth c "java/lang/String" Z n0 h0 [] s.vm T0 h0 0 0 at K0
  have hml : c.maxLocals = 2 := hml0
  have S0 : Go p e below (T0.setTop (entryFrame m #[(.ref a1), (.int (0 : Int32))] 2)) (T0.setTop (mkF m 0 #[.val (.ref a1), .val (.int (0 : Int32))] [])) := fun t k => castTop (by first | rfl | (simp [entryFrame, mkF, argsToLocals, Value.category]; done)) k
  generalize T0.setTop (entryFrame m #[(.ref a1), (.int (0 : Int32))] 2) = A0 at S0 ⊢
  obtain ⟨E, t, kb, Fv, ⟨Fc, hq, Y⟩ | ⟨Fc, Y⟩⟩ := SU
  case inl =>
    have S1 : Go p e below A0 (T0.setTop (mkF m 1 #[.val (.ref a1), .val (.int (0 : Int32))] [(.ref a1)])) := by
      refine S0.trans ?_
      refine (Own.P.aloadN K0.here K0.exec (hb hby d_jdk_42_method_56_code_0) rfl rfl).trans ?_
      exact Go.refl _
    obtain ⟨v2, vm2, vq2, T2, h2, K2, KK2, ev2, Q2, G2⟩ := K0.callV (C := "java/lang/String") (y := (⟨"java/lang/String", "isLatin1", "()Z"⟩ : MethodName)) (z := (⟨"java/lang/String", "isLatin1", "()Z"⟩ : MethodName)) (hw _ (List.mem_of_getElem? (i := 63) rfl)) (hw _ (List.mem_of_getElem? (i := 64) rfl)) (hw _ (List.mem_of_getElem? (i := 66) rfl)) (Or.inr (Or.inr rfl)) (hw _ (List.mem_of_getElem? (i := 65) rfl)) (by decide) (W := 0) E (argsL := []) (rest := []) ((c_isl0 l Z a0 hw n0 h0 (K0.old) a1 zc hzc SC Fc).pay Own.VT.cl (hw _ (List.mem_of_getElem? (i := 67) rfl)) (hw _ (List.mem_of_getElem? (i := 9) rfl)) (by decide) (by decide)) trivial (pc := 1) (Ls := #[.val (.ref a1), .val (.int (0 : Int32))]) (st := [(.ref a1)]) (by rw [hml]; rfl) (lenOf pd_12 rfl) rfl (Nat.le_of_eq rfl) (hb hby d_jdk_42_method_56_code_1) (by decide) (by decide) all0
    obtain ⟨rfl, e2⟩ := Q2
    have S2 : Go p e below A0 (T2.setTop (mkF m 4 #[.val (.ref a1), .val (.int (0 : Int32))] [(.int (1 : Int32))])) := S1.trans G2
    subst e2
    have S3 : Go p e below A0 (T2.setTop (mkF m 8 #[.val (.ref a1), .val (.int (0 : Int32))] [(.ref a1)])) := by
      refine S2.trans ?_
      refine (Own.P.ifNo K2.here K2.exec (hb hby d_jdk_42_method_56_code_4) (by decide)).trans ?_
      refine (Own.P.aloadN K2.here K2.exec (hb hby d_jdk_42_method_56_code_7) rfl rfl).trans ?_
      exact Go.refl _
    obtain ⟨T4, K4, G4⟩ := K2.getF "" (Or.inl (hw _ (List.mem_of_getElem? (i := 34) rfl))) Via.refl Fv (pc := 8) (Ls := #[.val (.ref a1), .val (.int (0 : Int32))]) (rest := []) (hb hby d_jdk_42_method_56_code_8)
    have S4 : Go p e below A0 (T4.setTop (mkF m 11 #[.val (.ref a1), .val (.int (0 : Int32))] [(.ref t)])) := S3.trans G4
    have S5 : Go p e below A0 (T4.setTop (mkF m 12 #[.val (.ref a1), .val (.int (0 : Int32))] [(.int (0 : Int32)), (.ref t)])) := by
      refine S4.trans ?_
      refine (Own.P.iloadN K4.here K4.exec (hb hby d_jdk_42_method_56_code_11) rfl).trans ?_
      exact Go.refl _
    obtain ⟨v6, vm6, vq6, T6, h6, K6, KK6, ev6, Q6, G6⟩ := K4.callS (y := (⟨"java/lang/StringLatin1", "charAt", "([BI)C"⟩ : MethodName)) (hw _ (List.mem_of_getElem? (i := 68) rfl)) (hw _ (List.mem_of_getElem? (i := 69) rfl)) (hw _ (List.mem_of_getElem? (i := 70) rfl)) (hw _ (List.mem_of_getElem? (i := 71) rfl)) (by decide) (W := 0) (argsL := [(.ref t), (.int (0 : Int32))]) (rest := []) ((c_lch0 l Z a0 hw n0 h2 (K4.old) fm rf SF t kb c0 c1 c2 Y r0 hq.1).pay Own.VT.cl (hw _ (List.mem_of_getElem? (i := 71) rfl)) (hw _ (List.mem_of_getElem? (i := 70) rfl)) (by decide) (by decide)) trivial (pc := 12) (Ls := #[.val (.ref a1), .val (.int (0 : Int32))]) (st := [(.int (0 : Int32)), (.ref t)]) (by rw [hml]; rfl) (lenOf pd_5 rfl) rfl (Nat.le_of_eq rfl) (hb hby d_jdk_42_method_56_code_12) (by decide) (by decide) all0
    obtain ⟨rfl, e6⟩ := Q6
    have S6 : Go p e below A0 (T6.setTop (mkF m 15 #[.val (.ref a1), .val (.int (0 : Int32))] [(.int c0)])) := S5.trans G6
    subst e6
    exact ⟨vm6, T6, h6, (some (.int c0)), _, _, K6, by decide, by decide, ⟨rfl, rfl⟩, K6.retW S6 hret (own_cn r0.1 r0.2) (Or.inl ⟨rfl, by decide, _, rfl⟩) (hb hby d_jdk_42_method_56_code_15)⟩
  case inr =>
    have S7 : Go p e below A0 (T0.setTop (mkF m 1 #[.val (.ref a1), .val (.int (0 : Int32))] [(.ref a1)])) := by
      refine S0.trans ?_
      refine (Own.P.aloadN K0.here K0.exec (hb hby d_jdk_42_method_56_code_0) rfl rfl).trans ?_
      exact Go.refl _
    obtain ⟨v8, vm8, vq8, T8, h8, K8, KK8, ev8, Q8, G8⟩ := K0.callV (C := "java/lang/String") (y := (⟨"java/lang/String", "isLatin1", "()Z"⟩ : MethodName)) (z := (⟨"java/lang/String", "isLatin1", "()Z"⟩ : MethodName)) (hw _ (List.mem_of_getElem? (i := 63) rfl)) (hw _ (List.mem_of_getElem? (i := 64) rfl)) (hw _ (List.mem_of_getElem? (i := 66) rfl)) (Or.inr (Or.inr rfl)) (hw _ (List.mem_of_getElem? (i := 65) rfl)) (by decide) (W := 0) E (argsL := []) (rest := []) ((c_isl1 l Z a0 hw n0 h0 (K0.old) a1 zc hzc SC Fc).pay Own.VT.cl (hw _ (List.mem_of_getElem? (i := 67) rfl)) (hw _ (List.mem_of_getElem? (i := 9) rfl)) (by decide) (by decide)) trivial (pc := 1) (Ls := #[.val (.ref a1), .val (.int (0 : Int32))]) (st := [(.ref a1)]) (by rw [hml]; rfl) (lenOf pd_12 rfl) rfl (Nat.le_of_eq rfl) (hb hby d_jdk_42_method_56_code_1) (by decide) (by decide) all0
    obtain ⟨rfl, e8⟩ := Q8
    have S8 : Go p e below A0 (T8.setTop (mkF m 4 #[.val (.ref a1), .val (.int (0 : Int32))] [(.int (0 : Int32))])) := S7.trans G8
    subst e8
    have S9 : Go p e below A0 (T8.setTop (mkF m 17 #[.val (.ref a1), .val (.int (0 : Int32))] [(.ref a1)])) := by
      refine S8.trans ?_
      refine (Own.P.ifYes K8.here K8.exec 16 (hb hby d_jdk_42_method_56_code_4) (by decide) (by decide) (by decide)).trans ?_
      refine (Own.P.aloadN K8.here K8.exec (hb hby d_jdk_42_method_56_code_16) rfl rfl).trans ?_
      exact Go.refl _
    obtain ⟨T10, K10, G10⟩ := K8.getF "" (Or.inl (hw _ (List.mem_of_getElem? (i := 34) rfl))) Via.refl Fv (pc := 17) (Ls := #[.val (.ref a1), .val (.int (0 : Int32))]) (rest := []) (hb hby d_jdk_42_method_56_code_17)
    have S10 : Go p e below A0 (T10.setTop (mkF m 20 #[.val (.ref a1), .val (.int (0 : Int32))] [(.ref t)])) := S9.trans G10
    have S11 : Go p e below A0 (T10.setTop (mkF m 21 #[.val (.ref a1), .val (.int (0 : Int32))] [(.int (0 : Int32)), (.ref t)])) := by
      refine S10.trans ?_
      refine (Own.P.iloadN K10.here K10.exec (hb hby d_jdk_42_method_56_code_20) rfl).trans ?_
      exact Go.refl _
    obtain ⟨v12, vm12, vq12, T12, h12, K12, KK12, ev12, Q12, G12⟩ := K10.callS (y := (⟨"java/lang/StringUTF16", "charAt", "([BI)C"⟩ : MethodName)) (hw _ (List.mem_of_getElem? (i := 99) rfl)) (hw _ (List.mem_of_getElem? (i := 100) rfl)) (hw _ (List.mem_of_getElem? (i := 23) rfl)) (hw _ (List.mem_of_getElem? (i := 101) rfl)) (by decide) (W := 0) (argsL := [(.ref t), (.int (0 : Int32))]) (rest := []) ((c_uch0 l Z a0 hw n0 h8 (K10.old) A1 A2 A3 fm rf SF t kb c0 c1 c2 Y r0).pay Own.VT.cl (hw _ (List.mem_of_getElem? (i := 101) rfl)) (hw _ (List.mem_of_getElem? (i := 23) rfl)) (by decide) (by decide)) trivial (pc := 21) (Ls := #[.val (.ref a1), .val (.int (0 : Int32))]) (st := [(.int (0 : Int32)), (.ref t)]) (by rw [hml]; rfl) (lenOf pd_5 rfl) rfl (Nat.le_of_eq rfl) (hb hby d_jdk_42_method_56_code_21) (by decide) (by decide) all0
    obtain ⟨rfl, e12⟩ := Q12
    have S12 : Go p e below A0 (T12.setTop (mkF m 24 #[.val (.ref a1), .val (.int (0 : Int32))] [(.int c0)])) := S11.trans G12
    subst e12
    exact ⟨vm12, T12, h12, (some (.int c0)), _, _, K12, by decide, by decide, ⟨rfl, rfl⟩, K12.retW S12 hret (own_cn r0.1 r0.2) (Or.inl ⟨rfl, by decide, _, rfl⟩) (hb hby d_jdk_42_method_56_code_24)⟩
set_option maxRecDepth 65536 in
set_option maxHeartbeats 40000000 in
theorem c_lch1 (l : Launch) (Z : State) (a0 : Array Value) (hw : ∀ d ∈ tables_1, d.before a0 Z = true) (n0 : Nat) (h0 : Heap) (O0 : Old Z n0 h0) (fm : Value) (rf : fm.isRef = true) (SF : Sta Z Z.heap "jdk/internal/util/Preconditions" "SIOOBE_FORMATTER" "Ljava/util/function/BiFunction;" fm) (a1 : Addr) (kb : ClassId) (c0 c1 c2 : Int32) (V : Arv Z h0 a1 kb .byte 3 [.int (lo8 c0), .int (lo8 c1), .int (lo8 c2)] (.int 0)) (rc : ¬ c1 < 0 ∧ ¬ (65535 : Int32) < c1) (q : ¬ 255 < c1) :
    Own.Ctr false l (⟨"java/lang/StringLatin1", "charAt", "([BI)C"⟩ : MethodName) jdk_43_method_2_code 2 (some .char) ({ frames := 2, cells := 0, slots := 0, locals := 27 } : Room) #[(.ref a1), (.int (1 : Int32))] Z h0 Own.VT [] (fun v h vm => v = some (.int c1) ∧ h = h0) := by
  refine Own.body (plainFor_of_name pn_4) O0 (fun _ _ _ _ q => by cases q) (fun _ _ _ _ q _ => q) ?_
  intro p e s m below meth c T0 hby hml0 hret hnm hV0 K0
  change Own.Wk false p l e ({ frames := 2, cells := 0, slots := 0, locals := 27 } : Room) s m #[(.ref a1), (.int (1 : Int32))] below meth c "java/lang/StringLatin1" Z n0 h0 [] s.vm T0 h0 0 0 at K0
  have hml : c.maxLocals = 2 := hml0
  have S0 : Go p e below (T0.setTop (entryFrame m #[(.ref a1), (.int (1 : Int32))] 2)) (T0.setTop (mkF m 0 #[.val (.ref a1), .val (.int (1 : Int32))] [])) := fun t k => castTop (by first | rfl | (simp [entryFrame, mkF, argsToLocals, Value.category]; done)) k
  generalize T0.setTop (entryFrame m #[(.ref a1), (.int (1 : Int32))] 2) = A0 at S0 ⊢
  have S1 : Go p e below A0 (T0.setTop (mkF m 2 #[.val (.ref a1), .val (.int (1 : Int32))] [(.ref a1), (.int (1 : Int32))])) := by
    refine S0.trans ?_
    refine (Own.P.iloadN K0.here K0.exec (hb hby d_jdk_43_method_2_code_0) rfl).trans ?_
    refine (Own.P.aloadN K0.here K0.exec (hb hby d_jdk_43_method_2_code_1) rfl rfl).trans ?_
    exact Go.refl _
  have G2 := K0.len V (pc := 2) (Ls := #[.val (.ref a1), .val (.int (1 : Int32))]) (rest := [(.int (1 : Int32))]) (hb hby d_jdk_43_method_2_code_2)
  have S2 : Go p e below A0 (T0.setTop (mkF m 3 #[.val (.ref a1), .val (.int (1 : Int32))] [(.int (3 : Int32)), (.int (1 : Int32))])) := S1.trans G2
  obtain ⟨v3, vm3, vq3, T3, h3, K3, KK3, ev3, Q3, G3⟩ := K0.callS (y := (⟨"java/lang/String", "checkIndex", "(II)V"⟩ : MethodName)) (hw _ (List.mem_of_getElem? (i := 72) rfl)) (hw _ (List.mem_of_getElem? (i := 73) rfl)) (hw _ (List.mem_of_getElem? (i := 9) rfl)) (hw _ (List.mem_of_getElem? (i := 74) rfl)) (by decide) (W := 0) (argsL := [(.int (1 : Int32)), (.int (3 : Int32))]) (rest := []) ((c_sci l Z a0 hw n0 h0 (K0.old) fm rf SF 1 3 (by decide) (by decide)).pay Own.VT.cl (hw _ (List.mem_of_getElem? (i := 74) rfl)) (hw _ (List.mem_of_getElem? (i := 9) rfl)) (by decide) (by decide)) trivial (pc := 3) (Ls := #[.val (.ref a1), .val (.int (1 : Int32))]) (st := [(.int (3 : Int32)), (.int (1 : Int32))]) (by rw [hml]; rfl) (lenOf pd_10 rfl) rfl (Nat.le_of_eq rfl) (hb hby d_jdk_43_method_2_code_3) (by decide) (by decide) all0
  obtain ⟨rfl, e3⟩ := Q3
  have S3 : Go p e below A0 (T3.setTop (mkF m 6 #[.val (.ref a1), .val (.int (1 : Int32))] [])) := S2.trans G3
  subst e3
  have S4 : Go p e below A0 (T3.setTop (mkF m 8 #[.val (.ref a1), .val (.int (1 : Int32))] [(.int (1 : Int32)), (.ref a1)])) := by
    refine S3.trans ?_
    refine (Own.P.aloadN K3.here K3.exec (hb hby d_jdk_43_method_2_code_6) rfl rfl).trans ?_
    refine (Own.P.iloadN K3.here K3.exec (hb hby d_jdk_43_method_2_code_7) rfl).trans ?_
    exact Go.refl _
  have G5 := K3.ldB V (j := (1 : Int32)) ⟨by decide, by decide⟩ (v := (.int (lo8 c1))) rfl (pc := 8) (Ls := #[.val (.ref a1), .val (.int (1 : Int32))]) (rest := []) (hb hby d_jdk_43_method_2_code_8)
  have S5 : Go p e below A0 (T3.setTop (mkF m 9 #[.val (.ref a1), .val (.int (1 : Int32))] [(.int (lo8 c1))])) := S4.trans G5
  have S6 : Go p e below A0 (T3.setTop (mkF m 14 #[.val (.ref a1), .val (.int (1 : Int32))] [(.int (((lo8 c1) &&& (255 : Int32)).toUInt32.toUInt16.toUInt32.toInt32))])) := by
    refine S5.trans ?_
    refine (Own.P.sipush K3.here K3.exec (255 : Int32) (hb hby d_jdk_43_method_2_code_9) rfl).trans ?_
    refine (Own.P.iand K3.here K3.exec (hb hby d_jdk_43_method_2_code_12) ).trans ?_
    refine (Own.P.i2c K3.here K3.exec (hb hby d_jdk_43_method_2_code_13) ).trans ?_
    exact Go.refl _
  have ec : (((lo8 c1) &&& (255 : Int32)).toUInt32.toUInt16.toUInt32.toInt32) = c1 := by rw [lo8_mask rc.1 q, own_c rc.1 rc.2]
  rw [ec] at S6
  exact ⟨vm3, T3, h3, (some (.int c1)), _, _, K3, by decide, by decide, ⟨rfl, rfl⟩, K3.retW S6 hret (own_cn rc.1 rc.2) (Or.inl ⟨rfl, by decide, _, rfl⟩) (hb hby d_jdk_43_method_2_code_14)⟩
set_option maxRecDepth 65536 in
set_option maxHeartbeats 40000000 in
theorem c_uch1 (l : Launch) (Z : State) (a0 : Array Value) (hw : ∀ d ∈ tables_1, d.before a0 Z = true) (n0 : Nat) (h0 : Heap) (O0 : Old Z n0 h0) (A1 : Sta Z Z.heap "java/lang/StringUTF16" "$assertionsDisabled" "Z" (.int 1)) (A2 : Sta Z Z.heap "java/lang/StringUTF16" "HI_BYTE_SHIFT" "I" (.int 0)) (A3 : Sta Z Z.heap "java/lang/StringUTF16" "LO_BYTE_SHIFT" "I" (.int 8)) (fm : Value) (rf : fm.isRef = true) (SF : Sta Z Z.heap "jdk/internal/util/Preconditions" "SIOOBE_FORMATTER" "Ljava/util/function/BiFunction;" fm) (a1 : Addr) (kb : ClassId) (c0 c1 c2 : Int32) (V : Arv Z h0 a1 kb .byte 6 [.int (lo8 c0), .int (hi8 c0), .int (lo8 c1), .int (hi8 c1), .int (lo8 c2), .int (hi8 c2)] (.int 0)) (rc : ¬ c1 < 0 ∧ ¬ (65535 : Int32) < c1) :
    Own.Ctr false l (⟨"java/lang/StringUTF16", "charAt", "([BI)C"⟩ : MethodName) jdk_52_method_83_code 2 (some .char) ({ frames := 3, cells := 0, slots := 0, locals := 40 } : Room) #[(.ref a1), (.int (1 : Int32))] Z h0 Own.VT [] (fun v h vm => v = some (.int c1) ∧ h = h0) := by
  refine Own.body (plainFor_of_name pn_1) O0 (fun _ _ _ _ q => by cases q) (fun _ _ _ _ q _ => q) ?_
  intro p e s m below meth c T0 hby hml0 hret hnm hV0 K0
  change Own.Wk false p l e ({ frames := 3, cells := 0, slots := 0, locals := 40 } : Room) s m #[(.ref a1), (.int (1 : Int32))] below meth c "java/lang/StringUTF16" Z n0 h0 [] s.vm T0 h0 0 0 at K0
  have hml : c.maxLocals = 2 := hml0
  have S0 : Go p e below (T0.setTop (entryFrame m #[(.ref a1), (.int (1 : Int32))] 2)) (T0.setTop (mkF m 0 #[.val (.ref a1), .val (.int (1 : Int32))] [])) := fun t k => castTop (by first | rfl | (simp [entryFrame, mkF, argsToLocals, Value.category]; done)) k
  generalize T0.setTop (entryFrame m #[(.ref a1), (.int (1 : Int32))] 2) = A0 at S0 ⊢
  have S1 : Go p e below A0 (T0.setTop (mkF m 2 #[.val (.ref a1), .val (.int (1 : Int32))] [(.ref a1), (.int (1 : Int32))])) := by
    refine S0.trans ?_
    refine (Own.P.iloadN K0.here K0.exec (hb hby d_jdk_52_method_83_code_0) rfl).trans ?_
    refine (Own.P.aloadN K0.here K0.exec (hb hby d_jdk_52_method_83_code_1) rfl rfl).trans ?_
    exact Go.refl _
  obtain ⟨v2, vm2, vq2, T2, h2, K2, KK2, ev2, Q2, G2⟩ := K0.callS (y := (⟨"java/lang/StringUTF16", "checkIndex", "(I[B)V"⟩ : MethodName)) (hw _ (List.mem_of_getElem? (i := 102) rfl)) (hw _ (List.mem_of_getElem? (i := 103) rfl)) (hw _ (List.mem_of_getElem? (i := 23) rfl)) (hw _ (List.mem_of_getElem? (i := 104) rfl)) (by decide) (W := 0) (argsL := [(.int (1 : Int32)), (.ref a1)]) (rest := []) ((c_uci l Z a0 hw n0 h0 (K0.old) fm rf SF 1 a1 kb _ V (by decide) (by decide)).pay Own.VT.cl (hw _ (List.mem_of_getElem? (i := 104) rfl)) (hw _ (List.mem_of_getElem? (i := 23) rfl)) (by decide) (by decide)) trivial (pc := 2) (Ls := #[.val (.ref a1), .val (.int (1 : Int32))]) (st := [(.ref a1), (.int (1 : Int32))]) (by rw [hml]; rfl) (lenOf pd_11 rfl) rfl (Nat.le_of_eq rfl) (hb hby d_jdk_52_method_83_code_2) (by decide) (by decide) all0
  obtain ⟨rfl, e2⟩ := Q2
  have S2 : Go p e below A0 (T2.setTop (mkF m 5 #[.val (.ref a1), .val (.int (1 : Int32))] [])) := S1.trans G2
  subst e2
  have S3 : Go p e below A0 (T2.setTop (mkF m 7 #[.val (.ref a1), .val (.int (1 : Int32))] [(.int (1 : Int32)), (.ref a1)])) := by
    refine S2.trans ?_
    refine (Own.P.aloadN K2.here K2.exec (hb hby d_jdk_52_method_83_code_5) rfl rfl).trans ?_
    refine (Own.P.iloadN K2.here K2.exec (hb hby d_jdk_52_method_83_code_6) rfl).trans ?_
    exact Go.refl _
  obtain ⟨v4, vm4, vq4, T4, h4, K4, KK4, ev4, Q4, G4⟩ := K2.callS (y := (⟨"java/lang/StringUTF16", "getChar", "([BI)C"⟩ : MethodName)) (hw _ (List.mem_of_getElem? (i := 96) rfl)) (hw _ (List.mem_of_getElem? (i := 97) rfl)) (hw _ (List.mem_of_getElem? (i := 23) rfl)) (hw _ (List.mem_of_getElem? (i := 98) rfl)) (by decide) (W := 0) (argsL := [(.ref a1), (.int (1 : Int32))]) (rest := []) ((c_get1 l Z a0 hw n0 h2 (K2.old) A1 A2 A3 a1 kb _ _ _ _ _ _ V c1 rc rfl rfl).pay Own.VT.cl (hw _ (List.mem_of_getElem? (i := 98) rfl)) (hw _ (List.mem_of_getElem? (i := 23) rfl)) (by decide) (by decide)) trivial (pc := 7) (Ls := #[.val (.ref a1), .val (.int (1 : Int32))]) (st := [(.int (1 : Int32)), (.ref a1)]) (by rw [hml]; rfl) (lenOf pd_5 rfl) rfl (Nat.le_of_eq rfl) (hb hby d_jdk_52_method_83_code_7) (by decide) (by decide) all0
  obtain ⟨rfl, e4⟩ := Q4
  have S4 : Go p e below A0 (T4.setTop (mkF m 10 #[.val (.ref a1), .val (.int (1 : Int32))] [(.int c1)])) := S3.trans G4
  subst e4
  exact ⟨vm4, T4, h4, (some (.int c1)), _, _, K4, by decide, by decide, ⟨rfl, rfl⟩, K4.retW S4 hret (own_cn rc.1 rc.2) (Or.inl ⟨rfl, by decide, _, rfl⟩) (hb hby d_jdk_52_method_83_code_10)⟩
set_option maxRecDepth 65536 in
set_option maxHeartbeats 40000000 in
theorem c_cha1 (l : Launch) (Z : State) (a0 : Array Value) (hw : ∀ d ∈ tables_1, d.before a0 Z = true) (n0 : Nat) (h0 : Heap) (O0 : Old Z n0 h0) (A1 : Sta Z Z.heap "java/lang/StringUTF16" "$assertionsDisabled" "Z" (.int 1)) (A2 : Sta Z Z.heap "java/lang/StringUTF16" "HI_BYTE_SHIFT" "I" (.int 0)) (A3 : Sta Z Z.heap "java/lang/StringUTF16" "LO_BYTE_SHIFT" "I" (.int 8)) (fm : Value) (rf : fm.isRef = true) (SF : Sta Z Z.heap "jdk/internal/util/Preconditions" "SIOOBE_FORMATTER" "Ljava/util/function/BiFunction;" fm) (a1 : Addr) (c0 c1 c2 : Int32) (r0 : ¬ c0 < 0 ∧ ¬ (65535 : Int32) < c0) (r1 : ¬ c1 < 0 ∧ ¬ (65535 : Int32) < c1) (r2 : ¬ c2 < 0 ∧ ¬ (65535 : Int32) < c2) (SU : StrU Z h0 a1 c0 c1 c2) (zc : Int32) (hzc : ¬ zc = 0) (SC : Sta Z Z.heap "java/lang/String" "COMPACT_STRINGS" "Z" (.int zc)) :
    Own.Ctr false l (⟨"java/lang/String", "charAt", "(I)C"⟩ : MethodName) jdk_42_method_56_code 2 (some .char) ({ frames := 4, cells := 0, slots := 0, locals := 53 } : Room) #[(.ref a1), (.int (1 : Int32))] Z h0 Own.VT [] (fun v h vm => v = some (.int c1) ∧ h = h0) := by
  refine Own.body (plainFor_of_name pn_2) O0 (fun _ _ _ _ q => by cases q) (fun _ _ _ _ q _ => q) ?_
  intro p e s m below meth c T0 hby hml0 hret hnm hV0 K0
  change Own.Wk false p l e ({ frames := 4, cells := 0, slots := 0, locals := 53 } : Room) s m #[(.ref a1), (.int (1 : Int32))] below meth c "java/lang/String" Z n0 h0 [] s.vm T0 h0 0 0 at K0
  have hml : c.maxLocals = 2 := hml0
  have S0 : Go p e below (T0.setTop (entryFrame m #[(.ref a1), (.int (1 : Int32))] 2)) (T0.setTop (mkF m 0 #[.val (.ref a1), .val (.int (1 : Int32))] [])) := fun t k => castTop (by first | rfl | (simp [entryFrame, mkF, argsToLocals, Value.category]; done)) k
  generalize T0.setTop (entryFrame m #[(.ref a1), (.int (1 : Int32))] 2) = A0 at S0 ⊢
  obtain ⟨E, t, kb, Fv, ⟨Fc, hq, Y⟩ | ⟨Fc, Y⟩⟩ := SU
  case inl =>
    have S1 : Go p e below A0 (T0.setTop (mkF m 1 #[.val (.ref a1), .val (.int (1 : Int32))] [(.ref a1)])) := by
      refine S0.trans ?_
      refine (Own.P.aloadN K0.here K0.exec (hb hby d_jdk_42_method_56_code_0) rfl rfl).trans ?_
      exact Go.refl _
    obtain ⟨v2, vm2, vq2, T2, h2, K2, KK2, ev2, Q2, G2⟩ := K0.callV (C := "java/lang/String") (y := (⟨"java/lang/String", "isLatin1", "()Z"⟩ : MethodName)) (z := (⟨"java/lang/String", "isLatin1", "()Z"⟩ : MethodName)) (hw _ (List.mem_of_getElem? (i := 63) rfl)) (hw _ (List.mem_of_getElem? (i := 64) rfl)) (hw _ (List.mem_of_getElem? (i := 66) rfl)) (Or.inr (Or.inr rfl)) (hw _ (List.mem_of_getElem? (i := 65) rfl)) (by decide) (W := 0) E (argsL := []) (rest := []) ((c_isl0 l Z a0 hw n0 h0 (K0.old) a1 zc hzc SC Fc).pay Own.VT.cl (hw _ (List.mem_of_getElem? (i := 67) rfl)) (hw _ (List.mem_of_getElem? (i := 9) rfl)) (by decide) (by decide)) trivial (pc := 1) (Ls := #[.val (.ref a1), .val (.int (1 : Int32))]) (st := [(.ref a1)]) (by rw [hml]; rfl) (lenOf pd_12 rfl) rfl (Nat.le_of_eq rfl) (hb hby d_jdk_42_method_56_code_1) (by decide) (by decide) all0
    obtain ⟨rfl, e2⟩ := Q2
    have S2 : Go p e below A0 (T2.setTop (mkF m 4 #[.val (.ref a1), .val (.int (1 : Int32))] [(.int (1 : Int32))])) := S1.trans G2
    subst e2
    have S3 : Go p e below A0 (T2.setTop (mkF m 8 #[.val (.ref a1), .val (.int (1 : Int32))] [(.ref a1)])) := by
      refine S2.trans ?_
      refine (Own.P.ifNo K2.here K2.exec (hb hby d_jdk_42_method_56_code_4) (by decide)).trans ?_
      refine (Own.P.aloadN K2.here K2.exec (hb hby d_jdk_42_method_56_code_7) rfl rfl).trans ?_
      exact Go.refl _
    obtain ⟨T4, K4, G4⟩ := K2.getF "" (Or.inl (hw _ (List.mem_of_getElem? (i := 34) rfl))) Via.refl Fv (pc := 8) (Ls := #[.val (.ref a1), .val (.int (1 : Int32))]) (rest := []) (hb hby d_jdk_42_method_56_code_8)
    have S4 : Go p e below A0 (T4.setTop (mkF m 11 #[.val (.ref a1), .val (.int (1 : Int32))] [(.ref t)])) := S3.trans G4
    have S5 : Go p e below A0 (T4.setTop (mkF m 12 #[.val (.ref a1), .val (.int (1 : Int32))] [(.int (1 : Int32)), (.ref t)])) := by
      refine S4.trans ?_
      refine (Own.P.iloadN K4.here K4.exec (hb hby d_jdk_42_method_56_code_11) rfl).trans ?_
      exact Go.refl _
    obtain ⟨v6, vm6, vq6, T6, h6, K6, KK6, ev6, Q6, G6⟩ := K4.callS (y := (⟨"java/lang/StringLatin1", "charAt", "([BI)C"⟩ : MethodName)) (hw _ (List.mem_of_getElem? (i := 68) rfl)) (hw _ (List.mem_of_getElem? (i := 69) rfl)) (hw _ (List.mem_of_getElem? (i := 70) rfl)) (hw _ (List.mem_of_getElem? (i := 71) rfl)) (by decide) (W := 0) (argsL := [(.ref t), (.int (1 : Int32))]) (rest := []) ((c_lch1 l Z a0 hw n0 h2 (K4.old) fm rf SF t kb c0 c1 c2 Y r1 hq.2.1).pay Own.VT.cl (hw _ (List.mem_of_getElem? (i := 71) rfl)) (hw _ (List.mem_of_getElem? (i := 70) rfl)) (by decide) (by decide)) trivial (pc := 12) (Ls := #[.val (.ref a1), .val (.int (1 : Int32))]) (st := [(.int (1 : Int32)), (.ref t)]) (by rw [hml]; rfl) (lenOf pd_5 rfl) rfl (Nat.le_of_eq rfl) (hb hby d_jdk_42_method_56_code_12) (by decide) (by decide) all0
    obtain ⟨rfl, e6⟩ := Q6
    have S6 : Go p e below A0 (T6.setTop (mkF m 15 #[.val (.ref a1), .val (.int (1 : Int32))] [(.int c1)])) := S5.trans G6
    subst e6
    exact ⟨vm6, T6, h6, (some (.int c1)), _, _, K6, by decide, by decide, ⟨rfl, rfl⟩, K6.retW S6 hret (own_cn r1.1 r1.2) (Or.inl ⟨rfl, by decide, _, rfl⟩) (hb hby d_jdk_42_method_56_code_15)⟩
  case inr =>
    have S7 : Go p e below A0 (T0.setTop (mkF m 1 #[.val (.ref a1), .val (.int (1 : Int32))] [(.ref a1)])) := by
      refine S0.trans ?_
      refine (Own.P.aloadN K0.here K0.exec (hb hby d_jdk_42_method_56_code_0) rfl rfl).trans ?_
      exact Go.refl _
    obtain ⟨v8, vm8, vq8, T8, h8, K8, KK8, ev8, Q8, G8⟩ := K0.callV (C := "java/lang/String") (y := (⟨"java/lang/String", "isLatin1", "()Z"⟩ : MethodName)) (z := (⟨"java/lang/String", "isLatin1", "()Z"⟩ : MethodName)) (hw _ (List.mem_of_getElem? (i := 63) rfl)) (hw _ (List.mem_of_getElem? (i := 64) rfl)) (hw _ (List.mem_of_getElem? (i := 66) rfl)) (Or.inr (Or.inr rfl)) (hw _ (List.mem_of_getElem? (i := 65) rfl)) (by decide) (W := 0) E (argsL := []) (rest := []) ((c_isl1 l Z a0 hw n0 h0 (K0.old) a1 zc hzc SC Fc).pay Own.VT.cl (hw _ (List.mem_of_getElem? (i := 67) rfl)) (hw _ (List.mem_of_getElem? (i := 9) rfl)) (by decide) (by decide)) trivial (pc := 1) (Ls := #[.val (.ref a1), .val (.int (1 : Int32))]) (st := [(.ref a1)]) (by rw [hml]; rfl) (lenOf pd_12 rfl) rfl (Nat.le_of_eq rfl) (hb hby d_jdk_42_method_56_code_1) (by decide) (by decide) all0
    obtain ⟨rfl, e8⟩ := Q8
    have S8 : Go p e below A0 (T8.setTop (mkF m 4 #[.val (.ref a1), .val (.int (1 : Int32))] [(.int (0 : Int32))])) := S7.trans G8
    subst e8
    have S9 : Go p e below A0 (T8.setTop (mkF m 17 #[.val (.ref a1), .val (.int (1 : Int32))] [(.ref a1)])) := by
      refine S8.trans ?_
      refine (Own.P.ifYes K8.here K8.exec 16 (hb hby d_jdk_42_method_56_code_4) (by decide) (by decide) (by decide)).trans ?_
      refine (Own.P.aloadN K8.here K8.exec (hb hby d_jdk_42_method_56_code_16) rfl rfl).trans ?_
      exact Go.refl _
    obtain ⟨T10, K10, G10⟩ := K8.getF "" (Or.inl (hw _ (List.mem_of_getElem? (i := 34) rfl))) Via.refl Fv (pc := 17) (Ls := #[.val (.ref a1), .val (.int (1 : Int32))]) (rest := []) (hb hby d_jdk_42_method_56_code_17)
    have S10 : Go p e below A0 (T10.setTop (mkF m 20 #[.val (.ref a1), .val (.int (1 : Int32))] [(.ref t)])) := S9.trans G10
    have S11 : Go p e below A0 (T10.setTop (mkF m 21 #[.val (.ref a1), .val (.int (1 : Int32))] [(.int (1 : Int32)), (.ref t)])) := by
      refine S10.trans ?_
      refine (Own.P.iloadN K10.here K10.exec (hb hby d_jdk_42_method_56_code_20) rfl).trans ?_
      exact Go.refl _
    obtain ⟨v12, vm12, vq12, T12, h12, K12, KK12, ev12, Q12, G12⟩ := K10.callS (y := (⟨"java/lang/StringUTF16", "charAt", "([BI)C"⟩ : MethodName)) (hw _ (List.mem_of_getElem? (i := 99) rfl)) (hw _ (List.mem_of_getElem? (i := 100) rfl)) (hw _ (List.mem_of_getElem? (i := 23) rfl)) (hw _ (List.mem_of_getElem? (i := 101) rfl)) (by decide) (W := 0) (argsL := [(.ref t), (.int (1 : Int32))]) (rest := []) ((c_uch1 l Z a0 hw n0 h8 (K10.old) A1 A2 A3 fm rf SF t kb c0 c1 c2 Y r1).pay Own.VT.cl (hw _ (List.mem_of_getElem? (i := 101) rfl)) (hw _ (List.mem_of_getElem? (i := 23) rfl)) (by decide) (by decide)) trivial (pc := 21) (Ls := #[.val (.ref a1), .val (.int (1 : Int32))]) (st := [(.int (1 : Int32)), (.ref t)]) (by rw [hml]; rfl) (lenOf pd_5 rfl) rfl (Nat.le_of_eq rfl) (hb hby d_jdk_42_method_56_code_21) (by decide) (by decide) all0
    obtain ⟨rfl, e12⟩ := Q12
    have S12 : Go p e below A0 (T12.setTop (mkF m 24 #[.val (.ref a1), .val (.int (1 : Int32))] [(.int c1)])) := S11.trans G12
    subst e12
    exact ⟨vm12, T12, h12, (some (.int c1)), _, _, K12, by decide, by decide, ⟨rfl, rfl⟩, K12.retW S12 hret (own_cn r1.1 r1.2) (Or.inl ⟨rfl, by decide, _, rfl⟩) (hb hby d_jdk_42_method_56_code_24)⟩
set_option maxRecDepth 65536 in
set_option maxHeartbeats 40000000 in
theorem c_lch2 (l : Launch) (Z : State) (a0 : Array Value) (hw : ∀ d ∈ tables_1, d.before a0 Z = true) (n0 : Nat) (h0 : Heap) (O0 : Old Z n0 h0) (fm : Value) (rf : fm.isRef = true) (SF : Sta Z Z.heap "jdk/internal/util/Preconditions" "SIOOBE_FORMATTER" "Ljava/util/function/BiFunction;" fm) (a1 : Addr) (kb : ClassId) (c0 c1 c2 : Int32) (V : Arv Z h0 a1 kb .byte 3 [.int (lo8 c0), .int (lo8 c1), .int (lo8 c2)] (.int 0)) (rc : ¬ c2 < 0 ∧ ¬ (65535 : Int32) < c2) (q : ¬ 255 < c2) :
    Own.Ctr false l (⟨"java/lang/StringLatin1", "charAt", "([BI)C"⟩ : MethodName) jdk_43_method_2_code 2 (some .char) ({ frames := 2, cells := 0, slots := 0, locals := 27 } : Room) #[(.ref a1), (.int (2 : Int32))] Z h0 Own.VT [] (fun v h vm => v = some (.int c2) ∧ h = h0) := by
  refine Own.body (plainFor_of_name pn_4) O0 (fun _ _ _ _ q => by cases q) (fun _ _ _ _ q _ => q) ?_
  intro p e s m below meth c T0 hby hml0 hret hnm hV0 K0
  change Own.Wk false p l e ({ frames := 2, cells := 0, slots := 0, locals := 27 } : Room) s m #[(.ref a1), (.int (2 : Int32))] below meth c "java/lang/StringLatin1" Z n0 h0 [] s.vm T0 h0 0 0 at K0
  have hml : c.maxLocals = 2 := hml0
  have S0 : Go p e below (T0.setTop (entryFrame m #[(.ref a1), (.int (2 : Int32))] 2)) (T0.setTop (mkF m 0 #[.val (.ref a1), .val (.int (2 : Int32))] [])) := fun t k => castTop (by first | rfl | (simp [entryFrame, mkF, argsToLocals, Value.category]; done)) k
  generalize T0.setTop (entryFrame m #[(.ref a1), (.int (2 : Int32))] 2) = A0 at S0 ⊢
  have S1 : Go p e below A0 (T0.setTop (mkF m 2 #[.val (.ref a1), .val (.int (2 : Int32))] [(.ref a1), (.int (2 : Int32))])) := by
    refine S0.trans ?_
    refine (Own.P.iloadN K0.here K0.exec (hb hby d_jdk_43_method_2_code_0) rfl).trans ?_
    refine (Own.P.aloadN K0.here K0.exec (hb hby d_jdk_43_method_2_code_1) rfl rfl).trans ?_
    exact Go.refl _
  have G2 := K0.len V (pc := 2) (Ls := #[.val (.ref a1), .val (.int (2 : Int32))]) (rest := [(.int (2 : Int32))]) (hb hby d_jdk_43_method_2_code_2)
  have S2 : Go p e below A0 (T0.setTop (mkF m 3 #[.val (.ref a1), .val (.int (2 : Int32))] [(.int (3 : Int32)), (.int (2 : Int32))])) := S1.trans G2
  obtain ⟨v3, vm3, vq3, T3, h3, K3, KK3, ev3, Q3, G3⟩ := K0.callS (y := (⟨"java/lang/String", "checkIndex", "(II)V"⟩ : MethodName)) (hw _ (List.mem_of_getElem? (i := 72) rfl)) (hw _ (List.mem_of_getElem? (i := 73) rfl)) (hw _ (List.mem_of_getElem? (i := 9) rfl)) (hw _ (List.mem_of_getElem? (i := 74) rfl)) (by decide) (W := 0) (argsL := [(.int (2 : Int32)), (.int (3 : Int32))]) (rest := []) ((c_sci l Z a0 hw n0 h0 (K0.old) fm rf SF 2 3 (by decide) (by decide)).pay Own.VT.cl (hw _ (List.mem_of_getElem? (i := 74) rfl)) (hw _ (List.mem_of_getElem? (i := 9) rfl)) (by decide) (by decide)) trivial (pc := 3) (Ls := #[.val (.ref a1), .val (.int (2 : Int32))]) (st := [(.int (3 : Int32)), (.int (2 : Int32))]) (by rw [hml]; rfl) (lenOf pd_10 rfl) rfl (Nat.le_of_eq rfl) (hb hby d_jdk_43_method_2_code_3) (by decide) (by decide) all0
  obtain ⟨rfl, e3⟩ := Q3
  have S3 : Go p e below A0 (T3.setTop (mkF m 6 #[.val (.ref a1), .val (.int (2 : Int32))] [])) := S2.trans G3
  subst e3
  have S4 : Go p e below A0 (T3.setTop (mkF m 8 #[.val (.ref a1), .val (.int (2 : Int32))] [(.int (2 : Int32)), (.ref a1)])) := by
    refine S3.trans ?_
    refine (Own.P.aloadN K3.here K3.exec (hb hby d_jdk_43_method_2_code_6) rfl rfl).trans ?_
    refine (Own.P.iloadN K3.here K3.exec (hb hby d_jdk_43_method_2_code_7) rfl).trans ?_
    exact Go.refl _
  have G5 := K3.ldB V (j := (2 : Int32)) ⟨by decide, by decide⟩ (v := (.int (lo8 c2))) rfl (pc := 8) (Ls := #[.val (.ref a1), .val (.int (2 : Int32))]) (rest := []) (hb hby d_jdk_43_method_2_code_8)
  have S5 : Go p e below A0 (T3.setTop (mkF m 9 #[.val (.ref a1), .val (.int (2 : Int32))] [(.int (lo8 c2))])) := S4.trans G5
  have S6 : Go p e below A0 (T3.setTop (mkF m 14 #[.val (.ref a1), .val (.int (2 : Int32))] [(.int (((lo8 c2) &&& (255 : Int32)).toUInt32.toUInt16.toUInt32.toInt32))])) := by
    refine S5.trans ?_
    refine (Own.P.sipush K3.here K3.exec (255 : Int32) (hb hby d_jdk_43_method_2_code_9) rfl).trans ?_
    refine (Own.P.iand K3.here K3.exec (hb hby d_jdk_43_method_2_code_12) ).trans ?_
    refine (Own.P.i2c K3.here K3.exec (hb hby d_jdk_43_method_2_code_13) ).trans ?_
    exact Go.refl _
  have ec : (((lo8 c2) &&& (255 : Int32)).toUInt32.toUInt16.toUInt32.toInt32) = c2 := by rw [lo8_mask rc.1 q, own_c rc.1 rc.2]
  rw [ec] at S6
  exact ⟨vm3, T3, h3, (some (.int c2)), _, _, K3, by decide, by decide, ⟨rfl, rfl⟩, K3.retW S6 hret (own_cn rc.1 rc.2) (Or.inl ⟨rfl, by decide, _, rfl⟩) (hb hby d_jdk_43_method_2_code_14)⟩
set_option maxRecDepth 65536 in
set_option maxHeartbeats 40000000 in
theorem c_uch2 (l : Launch) (Z : State) (a0 : Array Value) (hw : ∀ d ∈ tables_1, d.before a0 Z = true) (n0 : Nat) (h0 : Heap) (O0 : Old Z n0 h0) (A1 : Sta Z Z.heap "java/lang/StringUTF16" "$assertionsDisabled" "Z" (.int 1)) (A2 : Sta Z Z.heap "java/lang/StringUTF16" "HI_BYTE_SHIFT" "I" (.int 0)) (A3 : Sta Z Z.heap "java/lang/StringUTF16" "LO_BYTE_SHIFT" "I" (.int 8)) (fm : Value) (rf : fm.isRef = true) (SF : Sta Z Z.heap "jdk/internal/util/Preconditions" "SIOOBE_FORMATTER" "Ljava/util/function/BiFunction;" fm) (a1 : Addr) (kb : ClassId) (c0 c1 c2 : Int32) (V : Arv Z h0 a1 kb .byte 6 [.int (lo8 c0), .int (hi8 c0), .int (lo8 c1), .int (hi8 c1), .int (lo8 c2), .int (hi8 c2)] (.int 0)) (rc : ¬ c2 < 0 ∧ ¬ (65535 : Int32) < c2) :
    Own.Ctr false l (⟨"java/lang/StringUTF16", "charAt", "([BI)C"⟩ : MethodName) jdk_52_method_83_code 2 (some .char) ({ frames := 3, cells := 0, slots := 0, locals := 40 } : Room) #[(.ref a1), (.int (2 : Int32))] Z h0 Own.VT [] (fun v h vm => v = some (.int c2) ∧ h = h0) := by
  refine Own.body (plainFor_of_name pn_1) O0 (fun _ _ _ _ q => by cases q) (fun _ _ _ _ q _ => q) ?_
  intro p e s m below meth c T0 hby hml0 hret hnm hV0 K0
  change Own.Wk false p l e ({ frames := 3, cells := 0, slots := 0, locals := 40 } : Room) s m #[(.ref a1), (.int (2 : Int32))] below meth c "java/lang/StringUTF16" Z n0 h0 [] s.vm T0 h0 0 0 at K0
  have hml : c.maxLocals = 2 := hml0
  have S0 : Go p e below (T0.setTop (entryFrame m #[(.ref a1), (.int (2 : Int32))] 2)) (T0.setTop (mkF m 0 #[.val (.ref a1), .val (.int (2 : Int32))] [])) := fun t k => castTop (by first | rfl | (simp [entryFrame, mkF, argsToLocals, Value.category]; done)) k
  generalize T0.setTop (entryFrame m #[(.ref a1), (.int (2 : Int32))] 2) = A0 at S0 ⊢
  have S1 : Go p e below A0 (T0.setTop (mkF m 2 #[.val (.ref a1), .val (.int (2 : Int32))] [(.ref a1), (.int (2 : Int32))])) := by
    refine S0.trans ?_
    refine (Own.P.iloadN K0.here K0.exec (hb hby d_jdk_52_method_83_code_0) rfl).trans ?_
    refine (Own.P.aloadN K0.here K0.exec (hb hby d_jdk_52_method_83_code_1) rfl rfl).trans ?_
    exact Go.refl _
  obtain ⟨v2, vm2, vq2, T2, h2, K2, KK2, ev2, Q2, G2⟩ := K0.callS (y := (⟨"java/lang/StringUTF16", "checkIndex", "(I[B)V"⟩ : MethodName)) (hw _ (List.mem_of_getElem? (i := 102) rfl)) (hw _ (List.mem_of_getElem? (i := 103) rfl)) (hw _ (List.mem_of_getElem? (i := 23) rfl)) (hw _ (List.mem_of_getElem? (i := 104) rfl)) (by decide) (W := 0) (argsL := [(.int (2 : Int32)), (.ref a1)]) (rest := []) ((c_uci l Z a0 hw n0 h0 (K0.old) fm rf SF 2 a1 kb _ V (by decide) (by decide)).pay Own.VT.cl (hw _ (List.mem_of_getElem? (i := 104) rfl)) (hw _ (List.mem_of_getElem? (i := 23) rfl)) (by decide) (by decide)) trivial (pc := 2) (Ls := #[.val (.ref a1), .val (.int (2 : Int32))]) (st := [(.ref a1), (.int (2 : Int32))]) (by rw [hml]; rfl) (lenOf pd_11 rfl) rfl (Nat.le_of_eq rfl) (hb hby d_jdk_52_method_83_code_2) (by decide) (by decide) all0
  obtain ⟨rfl, e2⟩ := Q2
  have S2 : Go p e below A0 (T2.setTop (mkF m 5 #[.val (.ref a1), .val (.int (2 : Int32))] [])) := S1.trans G2
  subst e2
  have S3 : Go p e below A0 (T2.setTop (mkF m 7 #[.val (.ref a1), .val (.int (2 : Int32))] [(.int (2 : Int32)), (.ref a1)])) := by
    refine S2.trans ?_
    refine (Own.P.aloadN K2.here K2.exec (hb hby d_jdk_52_method_83_code_5) rfl rfl).trans ?_
    refine (Own.P.iloadN K2.here K2.exec (hb hby d_jdk_52_method_83_code_6) rfl).trans ?_
    exact Go.refl _
  obtain ⟨v4, vm4, vq4, T4, h4, K4, KK4, ev4, Q4, G4⟩ := K2.callS (y := (⟨"java/lang/StringUTF16", "getChar", "([BI)C"⟩ : MethodName)) (hw _ (List.mem_of_getElem? (i := 96) rfl)) (hw _ (List.mem_of_getElem? (i := 97) rfl)) (hw _ (List.mem_of_getElem? (i := 23) rfl)) (hw _ (List.mem_of_getElem? (i := 98) rfl)) (by decide) (W := 0) (argsL := [(.ref a1), (.int (2 : Int32))]) (rest := []) ((c_get2 l Z a0 hw n0 h2 (K2.old) A1 A2 A3 a1 kb _ _ _ _ _ _ V c2 rc rfl rfl).pay Own.VT.cl (hw _ (List.mem_of_getElem? (i := 98) rfl)) (hw _ (List.mem_of_getElem? (i := 23) rfl)) (by decide) (by decide)) trivial (pc := 7) (Ls := #[.val (.ref a1), .val (.int (2 : Int32))]) (st := [(.int (2 : Int32)), (.ref a1)]) (by rw [hml]; rfl) (lenOf pd_5 rfl) rfl (Nat.le_of_eq rfl) (hb hby d_jdk_52_method_83_code_7) (by decide) (by decide) all0
  obtain ⟨rfl, e4⟩ := Q4
  have S4 : Go p e below A0 (T4.setTop (mkF m 10 #[.val (.ref a1), .val (.int (2 : Int32))] [(.int c2)])) := S3.trans G4
  subst e4
  exact ⟨vm4, T4, h4, (some (.int c2)), _, _, K4, by decide, by decide, ⟨rfl, rfl⟩, K4.retW S4 hret (own_cn rc.1 rc.2) (Or.inl ⟨rfl, by decide, _, rfl⟩) (hb hby d_jdk_52_method_83_code_10)⟩
set_option maxRecDepth 65536 in
set_option maxHeartbeats 40000000 in
theorem c_cha2 (l : Launch) (Z : State) (a0 : Array Value) (hw : ∀ d ∈ tables_1, d.before a0 Z = true) (n0 : Nat) (h0 : Heap) (O0 : Old Z n0 h0) (A1 : Sta Z Z.heap "java/lang/StringUTF16" "$assertionsDisabled" "Z" (.int 1)) (A2 : Sta Z Z.heap "java/lang/StringUTF16" "HI_BYTE_SHIFT" "I" (.int 0)) (A3 : Sta Z Z.heap "java/lang/StringUTF16" "LO_BYTE_SHIFT" "I" (.int 8)) (fm : Value) (rf : fm.isRef = true) (SF : Sta Z Z.heap "jdk/internal/util/Preconditions" "SIOOBE_FORMATTER" "Ljava/util/function/BiFunction;" fm) (a1 : Addr) (c0 c1 c2 : Int32) (r0 : ¬ c0 < 0 ∧ ¬ (65535 : Int32) < c0) (r1 : ¬ c1 < 0 ∧ ¬ (65535 : Int32) < c1) (r2 : ¬ c2 < 0 ∧ ¬ (65535 : Int32) < c2) (SU : StrU Z h0 a1 c0 c1 c2) (zc : Int32) (hzc : ¬ zc = 0) (SC : Sta Z Z.heap "java/lang/String" "COMPACT_STRINGS" "Z" (.int zc)) :
    Own.Ctr false l (⟨"java/lang/String", "charAt", "(I)C"⟩ : MethodName) jdk_42_method_56_code 2 (some .char) ({ frames := 4, cells := 0, slots := 0, locals := 53 } : Room) #[(.ref a1), (.int (2 : Int32))] Z h0 Own.VT [] (fun v h vm => v = some (.int c2) ∧ h = h0) := by
  refine Own.body (plainFor_of_name pn_2) O0 (fun _ _ _ _ q => by cases q) (fun _ _ _ _ q _ => q) ?_
  intro p e s m below meth c T0 hby hml0 hret hnm hV0 K0
  change Own.Wk false p l e ({ frames := 4, cells := 0, slots := 0, locals := 53 } : Room) s m #[(.ref a1), (.int (2 : Int32))] below meth c "java/lang/String" Z n0 h0 [] s.vm T0 h0 0 0 at K0
  have hml : c.maxLocals = 2 := hml0
  have S0 : Go p e below (T0.setTop (entryFrame m #[(.ref a1), (.int (2 : Int32))] 2)) (T0.setTop (mkF m 0 #[.val (.ref a1), .val (.int (2 : Int32))] [])) := fun t k => castTop (by first | rfl | (simp [entryFrame, mkF, argsToLocals, Value.category]; done)) k
  generalize T0.setTop (entryFrame m #[(.ref a1), (.int (2 : Int32))] 2) = A0 at S0 ⊢
  obtain ⟨E, t, kb, Fv, ⟨Fc, hq, Y⟩ | ⟨Fc, Y⟩⟩ := SU
  case inl =>
    have S1 : Go p e below A0 (T0.setTop (mkF m 1 #[.val (.ref a1), .val (.int (2 : Int32))] [(.ref a1)])) := by
      refine S0.trans ?_
      refine (Own.P.aloadN K0.here K0.exec (hb hby d_jdk_42_method_56_code_0) rfl rfl).trans ?_
      exact Go.refl _
    obtain ⟨v2, vm2, vq2, T2, h2, K2, KK2, ev2, Q2, G2⟩ := K0.callV (C := "java/lang/String") (y := (⟨"java/lang/String", "isLatin1", "()Z"⟩ : MethodName)) (z := (⟨"java/lang/String", "isLatin1", "()Z"⟩ : MethodName)) (hw _ (List.mem_of_getElem? (i := 63) rfl)) (hw _ (List.mem_of_getElem? (i := 64) rfl)) (hw _ (List.mem_of_getElem? (i := 66) rfl)) (Or.inr (Or.inr rfl)) (hw _ (List.mem_of_getElem? (i := 65) rfl)) (by decide) (W := 0) E (argsL := []) (rest := []) ((c_isl0 l Z a0 hw n0 h0 (K0.old) a1 zc hzc SC Fc).pay Own.VT.cl (hw _ (List.mem_of_getElem? (i := 67) rfl)) (hw _ (List.mem_of_getElem? (i := 9) rfl)) (by decide) (by decide)) trivial (pc := 1) (Ls := #[.val (.ref a1), .val (.int (2 : Int32))]) (st := [(.ref a1)]) (by rw [hml]; rfl) (lenOf pd_12 rfl) rfl (Nat.le_of_eq rfl) (hb hby d_jdk_42_method_56_code_1) (by decide) (by decide) all0
    obtain ⟨rfl, e2⟩ := Q2
    have S2 : Go p e below A0 (T2.setTop (mkF m 4 #[.val (.ref a1), .val (.int (2 : Int32))] [(.int (1 : Int32))])) := S1.trans G2
    subst e2
    have S3 : Go p e below A0 (T2.setTop (mkF m 8 #[.val (.ref a1), .val (.int (2 : Int32))] [(.ref a1)])) := by
      refine S2.trans ?_
      refine (Own.P.ifNo K2.here K2.exec (hb hby d_jdk_42_method_56_code_4) (by decide)).trans ?_
      refine (Own.P.aloadN K2.here K2.exec (hb hby d_jdk_42_method_56_code_7) rfl rfl).trans ?_
      exact Go.refl _
    obtain ⟨T4, K4, G4⟩ := K2.getF "" (Or.inl (hw _ (List.mem_of_getElem? (i := 34) rfl))) Via.refl Fv (pc := 8) (Ls := #[.val (.ref a1), .val (.int (2 : Int32))]) (rest := []) (hb hby d_jdk_42_method_56_code_8)
    have S4 : Go p e below A0 (T4.setTop (mkF m 11 #[.val (.ref a1), .val (.int (2 : Int32))] [(.ref t)])) := S3.trans G4
    have S5 : Go p e below A0 (T4.setTop (mkF m 12 #[.val (.ref a1), .val (.int (2 : Int32))] [(.int (2 : Int32)), (.ref t)])) := by
      refine S4.trans ?_
      refine (Own.P.iloadN K4.here K4.exec (hb hby d_jdk_42_method_56_code_11) rfl).trans ?_
      exact Go.refl _
    obtain ⟨v6, vm6, vq6, T6, h6, K6, KK6, ev6, Q6, G6⟩ := K4.callS (y := (⟨"java/lang/StringLatin1", "charAt", "([BI)C"⟩ : MethodName)) (hw _ (List.mem_of_getElem? (i := 68) rfl)) (hw _ (List.mem_of_getElem? (i := 69) rfl)) (hw _ (List.mem_of_getElem? (i := 70) rfl)) (hw _ (List.mem_of_getElem? (i := 71) rfl)) (by decide) (W := 0) (argsL := [(.ref t), (.int (2 : Int32))]) (rest := []) ((c_lch2 l Z a0 hw n0 h2 (K4.old) fm rf SF t kb c0 c1 c2 Y r2 hq.2.2).pay Own.VT.cl (hw _ (List.mem_of_getElem? (i := 71) rfl)) (hw _ (List.mem_of_getElem? (i := 70) rfl)) (by decide) (by decide)) trivial (pc := 12) (Ls := #[.val (.ref a1), .val (.int (2 : Int32))]) (st := [(.int (2 : Int32)), (.ref t)]) (by rw [hml]; rfl) (lenOf pd_5 rfl) rfl (Nat.le_of_eq rfl) (hb hby d_jdk_42_method_56_code_12) (by decide) (by decide) all0
    obtain ⟨rfl, e6⟩ := Q6
    have S6 : Go p e below A0 (T6.setTop (mkF m 15 #[.val (.ref a1), .val (.int (2 : Int32))] [(.int c2)])) := S5.trans G6
    subst e6
    exact ⟨vm6, T6, h6, (some (.int c2)), _, _, K6, by decide, by decide, ⟨rfl, rfl⟩, K6.retW S6 hret (own_cn r2.1 r2.2) (Or.inl ⟨rfl, by decide, _, rfl⟩) (hb hby d_jdk_42_method_56_code_15)⟩
  case inr =>
    have S7 : Go p e below A0 (T0.setTop (mkF m 1 #[.val (.ref a1), .val (.int (2 : Int32))] [(.ref a1)])) := by
      refine S0.trans ?_
      refine (Own.P.aloadN K0.here K0.exec (hb hby d_jdk_42_method_56_code_0) rfl rfl).trans ?_
      exact Go.refl _
    obtain ⟨v8, vm8, vq8, T8, h8, K8, KK8, ev8, Q8, G8⟩ := K0.callV (C := "java/lang/String") (y := (⟨"java/lang/String", "isLatin1", "()Z"⟩ : MethodName)) (z := (⟨"java/lang/String", "isLatin1", "()Z"⟩ : MethodName)) (hw _ (List.mem_of_getElem? (i := 63) rfl)) (hw _ (List.mem_of_getElem? (i := 64) rfl)) (hw _ (List.mem_of_getElem? (i := 66) rfl)) (Or.inr (Or.inr rfl)) (hw _ (List.mem_of_getElem? (i := 65) rfl)) (by decide) (W := 0) E (argsL := []) (rest := []) ((c_isl1 l Z a0 hw n0 h0 (K0.old) a1 zc hzc SC Fc).pay Own.VT.cl (hw _ (List.mem_of_getElem? (i := 67) rfl)) (hw _ (List.mem_of_getElem? (i := 9) rfl)) (by decide) (by decide)) trivial (pc := 1) (Ls := #[.val (.ref a1), .val (.int (2 : Int32))]) (st := [(.ref a1)]) (by rw [hml]; rfl) (lenOf pd_12 rfl) rfl (Nat.le_of_eq rfl) (hb hby d_jdk_42_method_56_code_1) (by decide) (by decide) all0
    obtain ⟨rfl, e8⟩ := Q8
    have S8 : Go p e below A0 (T8.setTop (mkF m 4 #[.val (.ref a1), .val (.int (2 : Int32))] [(.int (0 : Int32))])) := S7.trans G8
    subst e8
    have S9 : Go p e below A0 (T8.setTop (mkF m 17 #[.val (.ref a1), .val (.int (2 : Int32))] [(.ref a1)])) := by
      refine S8.trans ?_
      refine (Own.P.ifYes K8.here K8.exec 16 (hb hby d_jdk_42_method_56_code_4) (by decide) (by decide) (by decide)).trans ?_
      refine (Own.P.aloadN K8.here K8.exec (hb hby d_jdk_42_method_56_code_16) rfl rfl).trans ?_
      exact Go.refl _
    obtain ⟨T10, K10, G10⟩ := K8.getF "" (Or.inl (hw _ (List.mem_of_getElem? (i := 34) rfl))) Via.refl Fv (pc := 17) (Ls := #[.val (.ref a1), .val (.int (2 : Int32))]) (rest := []) (hb hby d_jdk_42_method_56_code_17)
    have S10 : Go p e below A0 (T10.setTop (mkF m 20 #[.val (.ref a1), .val (.int (2 : Int32))] [(.ref t)])) := S9.trans G10
    have S11 : Go p e below A0 (T10.setTop (mkF m 21 #[.val (.ref a1), .val (.int (2 : Int32))] [(.int (2 : Int32)), (.ref t)])) := by
      refine S10.trans ?_
      refine (Own.P.iloadN K10.here K10.exec (hb hby d_jdk_42_method_56_code_20) rfl).trans ?_
      exact Go.refl _
    obtain ⟨v12, vm12, vq12, T12, h12, K12, KK12, ev12, Q12, G12⟩ := K10.callS (y := (⟨"java/lang/StringUTF16", "charAt", "([BI)C"⟩ : MethodName)) (hw _ (List.mem_of_getElem? (i := 99) rfl)) (hw _ (List.mem_of_getElem? (i := 100) rfl)) (hw _ (List.mem_of_getElem? (i := 23) rfl)) (hw _ (List.mem_of_getElem? (i := 101) rfl)) (by decide) (W := 0) (argsL := [(.ref t), (.int (2 : Int32))]) (rest := []) ((c_uch2 l Z a0 hw n0 h8 (K10.old) A1 A2 A3 fm rf SF t kb c0 c1 c2 Y r2).pay Own.VT.cl (hw _ (List.mem_of_getElem? (i := 101) rfl)) (hw _ (List.mem_of_getElem? (i := 23) rfl)) (by decide) (by decide)) trivial (pc := 21) (Ls := #[.val (.ref a1), .val (.int (2 : Int32))]) (st := [(.int (2 : Int32)), (.ref t)]) (by rw [hml]; rfl) (lenOf pd_5 rfl) rfl (Nat.le_of_eq rfl) (hb hby d_jdk_42_method_56_code_21) (by decide) (by decide) all0
    obtain ⟨rfl, e12⟩ := Q12
    have S12 : Go p e below A0 (T12.setTop (mkF m 24 #[.val (.ref a1), .val (.int (2 : Int32))] [(.int c2)])) := S11.trans G12
    subst e12
    exact ⟨vm12, T12, h12, (some (.int c2)), _, _, K12, by decide, by decide, ⟨rfl, rfl⟩, K12.retW S12 hret (own_cn r2.1 r2.2) (Or.inl ⟨rfl, by decide, _, rfl⟩) (hb hby d_jdk_42_method_56_code_24)⟩
theorem d_jdk_30_method_1_code_0 : decode jdk_30_method_1_code 0 = .ok (.aload_n 0, 1) := by decide +kernel
theorem d_jdk_30_method_1_code_1 : decode jdk_30_method_1_code 1 = .ok (.invokespecial 1, 3) := by decide +kernel
theorem d_jdk_30_method_1_code_4 : decode jdk_30_method_1_code 4 = .ok (.return_, 1) := by decide +kernel
theorem pn_5 : plainName "java/lang/Record" = true := by first | (simp [plainName, overriddenIn]; done) | decide +kernel
set_option maxRecDepth 65536 in
set_option maxHeartbeats 40000000 in
theorem c_rec (l : Launch) (Z : State) (a0 : Array Value) (hw : ∀ d ∈ tables_1, d.before a0 Z = true) (n0 : Nat) (h0 : Heap) (O0 : Old Z n0 h0) (a1 : Addr) :
    Own.Ctr false l (⟨"java/lang/Record", "<init>", "()V"⟩ : MethodName) jdk_30_method_1_code 1 none ({ frames := 1, cells := 0, slots := 0, locals := 12 } : Room) #[(.ref a1)] Z h0 Own.VT [] (fun v h vm => v = none ∧ h = h0) := by
  refine Own.body (plainFor_of_name pn_5) O0 (fun v h vm q _ => q.1) (fun _ _ _ _ q _ => q) ?_
  intro p e s m below meth c T0 hby hml0 hret hnm hV0 K0
  change Own.Wk false p l e ({ frames := 1, cells := 0, slots := 0, locals := 12 } : Room) s m #[(.ref a1)] below meth c "java/lang/Record" Z n0 h0 [] s.vm T0 h0 0 0 at K0
  have hml : c.maxLocals = 1 := hml0
  have S0 : Go p e below (T0.setTop (entryFrame m #[(.ref a1)] 1)) (T0.setTop (mkF m 0 #[.val (.ref a1)] [])) := fun t k => castTop (by first | rfl | (simp [entryFrame, mkF, argsToLocals, Value.category]; done)) k
  generalize T0.setTop (entryFrame m #[(.ref a1)] 1) = A0 at S0 ⊢
  have S1 : Go p e below A0 (T0.setTop (mkF m 1 #[.val (.ref a1)] [(.ref a1)])) := by
    refine S0.trans ?_
    refine (Own.P.aloadN K0.here K0.exec (hb hby d_jdk_30_method_1_code_0) rfl rfl).trans ?_
    exact Go.refl _
  obtain ⟨T2, K2, G2⟩ := K0.initO (hw _ (List.mem_of_getElem? (i := 48) rfl)) (hw _ (List.mem_of_getElem? (i := 18) rfl)) (hw _ (List.mem_of_getElem? (i := 19) rfl)) (pc := 1) (Ls := #[.val (.ref a1)]) (rest := []) (by rw [hml]; rfl) (hb hby d_jdk_30_method_1_code_1) (by decide) (W := 0) (Nat.le_of_eq rfl) (by decide)
  have S2 : Go p e below A0 (T2.setTop (mkF m 4 #[.val (.ref a1)] [])) := S1.trans G2
  exact ⟨s.vm, T2, h0, none, _, _, K2, by decide, by decide, ⟨rfl, rfl⟩, K2.retV S2 hret (hb hby d_jdk_30_method_1_code_4)⟩
def TkAt (Z : State) (h : Heap) (a : Addr) (sa : Int32) (ea : Int32) : Prop := Exa Z h a "com/example/tautolog/tautolog/sql/Statements$Token" ∧ Fld Z h a "com/example/tautolog/tautolog/sql/Statements$Token" "start" "I" (.int sa) ∧ Fld Z h a "com/example/tautolog/tautolog/sql/Statements$Token" "end" "I" (.int ea)
theorem TkAt.keep {Z : State} {h h' : Heap} {a : Addr} {ws : List Addr} {sa : Int32} {ea : Int32} (F : TkAt Z h a sa ea) (K : Keep h h' ws) (q : a ∉ ws) : TkAt Z h' a sa ea := ⟨F.1.keep K, (F.2.1).keep K q, (F.2.2).keep K q⟩
theorem TkAt.ext {Z : State} {h h' : Heap} {a : Addr} {sa : Int32} {ea : Int32} (F : TkAt Z h a sa ea) (E : Ext h h') : TkAt Z h' a sa ea := ⟨F.1.ext E, (F.2.1).ext E, (F.2.2).ext E⟩
theorem TkAt.wrO {Z : State} {h h' : Heap} {a b : Addr} {sl : Nat} {w : Value} {sa : Int32} {ea : Int32} (F : TkAt Z h a sa ea) (W : Wr h h' b sl w) (q : a ≠ b) : TkAt Z h' a sa ea := ⟨F.1.wr W, (F.2.1).other W (Or.inl q), (F.2.2).other W (Or.inl q)⟩
theorem TkAt.set_sa {Z : State} {a0 : Array Value} (hw : ∀ d ∈ tables_1, d.before a0 Z = true) {h h' : Heap} {a : Addr} {sa : Int32} {ea : Int32} {x' : Int32} (F : TkAt Z h a sa ea) (W : Wr h h' a (RoadKit.slotOf Z "com/example/tautolog/tautolog/sql/Statements$Token" "start" "I") (.int x')) : TkAt Z h' a x' ea := ⟨F.1.wr W, (F.2.1).same W, (F.2.2).other W (Or.inr (slot_ne (C := "com/example/tautolog/tautolog/sql/Statements$Token") (Or.inr (hw _ (List.mem_of_getElem? (i := 52) rfl))) (Or.inr (hw _ (List.mem_of_getElem? (i := 50) rfl))) (by decide) (t := .int) (t' := .int) (by decide) (by decide)))⟩
theorem TkAt.set_ea {Z : State} {a0 : Array Value} (hw : ∀ d ∈ tables_1, d.before a0 Z = true) {h h' : Heap} {a : Addr} {sa : Int32} {ea : Int32} {x' : Int32} (F : TkAt Z h a sa ea) (W : Wr h h' a (RoadKit.slotOf Z "com/example/tautolog/tautolog/sql/Statements$Token" "end" "I") (.int x')) : TkAt Z h' a sa x' := ⟨F.1.wr W, (F.2.1).other W (Or.inr (slot_ne (C := "com/example/tautolog/tautolog/sql/Statements$Token") (Or.inr (hw _ (List.mem_of_getElem? (i := 50) rfl))) (Or.inr (hw _ (List.mem_of_getElem? (i := 52) rfl))) (by decide) (t := .int) (t' := .int) (by decide) (by decide))), (F.2.2).same W⟩
theorem TkAt.new {Z : State} {a0 : Array Value} (hw : ∀ d ∈ tables_1, d.before a0 Z = true) {h : Heap} {a : Addr} (X : Exa Z h a "com/example/tautolog/tautolog/sql/Statements$Token") (D : ∀ {O nm d : String} {ty : FieldType}, Laid Z a0 "com/example/tautolog/tautolog/sql/Statements$Token" O nm d → parseFieldDescriptor d = some ty → Fld Z h a O nm d (defaultValue ty)) : Exa Z h a "com/example/tautolog/tautolog/sql/Statements$Token" ∧ Fld Z h a "com/example/tautolog/tautolog/sql/Statements$Token" "start" "I" (.int 0) ∧ Fld Z h a "com/example/tautolog/tautolog/sql/Statements$Token" "end" "I" (.int 0) := ⟨X, D (Or.inr (hw _ (List.mem_of_getElem? (i := 50) rfl))) (ty := .int) (by decide), D (Or.inr (hw _ (List.mem_of_getElem? (i := 52) rfl))) (ty := .int) (by decide)⟩
theorem d_prog_243_method_1_code_0 : decode prog_243_method_1_code 0 = .ok (.aload_n 0, 1) := by decide +kernel
theorem pd_13 : parseMethodDescriptor "()V" = some ⟨[], none⟩ := by decide +kernel
theorem d_prog_243_method_1_code_1 : decode prog_243_method_1_code 1 = .ok (.invokespecial 1, 3) := by decide +kernel
theorem d_prog_243_method_1_code_4 : decode prog_243_method_1_code 4 = .ok (.aload_n 0, 1) := by decide +kernel
theorem d_prog_243_method_1_code_5 : decode prog_243_method_1_code 5 = .ok (.iload_n 1, 1) := by decide +kernel
theorem d_prog_243_method_1_code_6 : decode prog_243_method_1_code 6 = .ok (.putfield 7, 3) := by decide +kernel
theorem d_prog_243_method_1_code_9 : decode prog_243_method_1_code 9 = .ok (.aload_n 0, 1) := by decide +kernel
theorem d_prog_243_method_1_code_10 : decode prog_243_method_1_code 10 = .ok (.iload_n 2, 1) := by decide +kernel
theorem d_prog_243_method_1_code_11 : decode prog_243_method_1_code 11 = .ok (.putfield 13, 3) := by decide +kernel
theorem d_prog_243_method_1_code_14 : decode prog_243_method_1_code 14 = .ok (.return_, 1) := by decide +kernel
theorem pn_6 : plainName "com/example/tautolog/tautolog/sql/Statements$Token" = true := by first | (simp [plainName, overriddenIn]; done) | decide +kernel
set_option maxRecDepth 65536 in
set_option maxHeartbeats 40000000 in
theorem c_tok (l : Launch) (Z : State) (a0 : Array Value) (hw : ∀ d ∈ tables_1, d.before a0 Z = true) (n0 : Nat) (h0 : Heap) (O0 : Old Z n0 h0) (a1 : Addr) (i j : Int32) (B : TkAt Z h0 a1 0 0) (g1 : n0 ≤ a1) :
    Own.Ctr false l (⟨"com/example/tautolog/tautolog/sql/Statements$Token", "<init>", "(II)V"⟩ : MethodName) prog_243_method_1_code 3 none ({ frames := 2, cells := 0, slots := 0, locals := 24 } : Room) #[(.ref a1), (.int i), (.int j)] Z h0 Own.VT [a1] (fun v h vm => v = none ∧ TkAt Z h a1 i j) := by
  refine Own.body (plainFor_of_name pn_6) O0 (fun v h vm q _ => q.1) (fun _ _ _ _ q _ => q) ?_
  intro p e s m below meth c T0 hby hml0 hret hnm hV0 K0
  change Own.Wk false p l e ({ frames := 2, cells := 0, slots := 0, locals := 24 } : Room) s m #[(.ref a1), (.int i), (.int j)] below meth c "com/example/tautolog/tautolog/sql/Statements$Token" Z n0 h0 [] s.vm T0 h0 0 0 at K0
  replace K0 := K0.weaken [a1] (allS g1 all0)
  have hml : c.maxLocals = 3 := hml0
  have S0 : Go p e below (T0.setTop (entryFrame m #[(.ref a1), (.int i), (.int j)] 3)) (T0.setTop (mkF m 0 #[.val (.ref a1), .val (.int i), .val (.int j)] [])) := fun t k => castTop (by first | rfl | (simp [entryFrame, mkF, argsToLocals, Value.category]; done)) k
  generalize T0.setTop (entryFrame m #[(.ref a1), (.int i), (.int j)] 3) = A0 at S0 ⊢
  have S1 : Go p e below A0 (T0.setTop (mkF m 1 #[.val (.ref a1), .val (.int i), .val (.int j)] [(.ref a1)])) := by
    refine S0.trans ?_
    refine (Own.P.aloadN K0.here K0.exec (hb hby d_prog_243_method_1_code_0) rfl rfl).trans ?_
    exact Go.refl _
  obtain ⟨v2, vm2, vq2, T2, h2, K2, KK2, ev2, Q2, G2⟩ := K0.callI (y := (⟨"java/lang/Record", "<init>", "()V"⟩ : MethodName)) rfl (hw _ (List.mem_of_getElem? (i := 43) rfl)) (hw _ (List.mem_of_getElem? (i := 44) rfl)) (hw _ (List.mem_of_getElem? (i := 47) rfl)) (by decide) (W := 0) (a := a1) (argsL := []) (rest := []) ((c_rec l Z a0 hw n0 h0 (K0.old) a1).pay Own.VT.cl (hw _ (List.mem_of_getElem? (i := 47) rfl)) (hw _ (List.mem_of_getElem? (i := 46) rfl)) (by decide) (by decide)) trivial (pc := 1) (Ls := #[.val (.ref a1), .val (.int i), .val (.int j)]) (st := [(.ref a1)]) (by rw [hml]; rfl) (lenOf pd_13 rfl) rfl (Nat.le_of_eq rfl) (hb hby d_prog_243_method_1_code_1) (by decide) (by decide) all0
  obtain ⟨rfl, e2⟩ := Q2
  have S2 : Go p e below A0 (T2.setTop (mkF m 4 #[.val (.ref a1), .val (.int i), .val (.int j)] [])) := S1.trans G2
  subst e2
  have S3 : Go p e below A0 (T2.setTop (mkF m 6 #[.val (.ref a1), .val (.int i), .val (.int j)] [(.int i), (.ref a1)])) := by
    refine S2.trans ?_
    refine (Own.P.aloadN K2.here K2.exec (hb hby d_prog_243_method_1_code_4) rfl rfl).trans ?_
    refine (Own.P.iloadN K2.here K2.exec (hb hby d_prog_243_method_1_code_5) rfl).trans ?_
    exact Go.refl _
  obtain ⟨T4, h4, K4, W4, G4⟩ := K2.putF "" (Or.inl (hw _ (List.mem_of_getElem? (i := 49) rfl))) Via.refl B.2.1 B.1 (Or.inr ⟨(hw _ (List.mem_of_getElem? (i := 50) rfl)), rfl, hnm⟩) (hw _ (List.mem_of_getElem? (i := 38) rfl)) (ty := .int) (by decide) (v := (.int i)) rfl rfl (Or.inl (List.mem_of_getElem? (i := 0) rfl)) (pc := 6) (Ls := #[.val (.ref a1), .val (.int i), .val (.int j)]) (rest := []) (hb hby d_prog_243_method_1_code_6)
  have S4 : Go p e below A0 (T4.setTop (mkF m 9 #[.val (.ref a1), .val (.int i), .val (.int j)] [])) := S3.trans G4
  have B1 := B.set_sa hw W4
  have S5 : Go p e below A0 (T4.setTop (mkF m 11 #[.val (.ref a1), .val (.int i), .val (.int j)] [(.int j), (.ref a1)])) := by
    refine S4.trans ?_
    refine (Own.P.aloadN K4.here K4.exec (hb hby d_prog_243_method_1_code_9) rfl rfl).trans ?_
    refine (Own.P.iloadN K4.here K4.exec (hb hby d_prog_243_method_1_code_10) rfl).trans ?_
    exact Go.refl _
  obtain ⟨T6, h6, K6, W6, G6⟩ := K4.putF "" (Or.inl (hw _ (List.mem_of_getElem? (i := 51) rfl))) Via.refl B1.2.2 B1.1 (Or.inr ⟨(hw _ (List.mem_of_getElem? (i := 52) rfl)), rfl, hnm⟩) (hw _ (List.mem_of_getElem? (i := 38) rfl)) (ty := .int) (by decide) (v := (.int j)) rfl rfl (Or.inl (List.mem_of_getElem? (i := 0) rfl)) (pc := 11) (Ls := #[.val (.ref a1), .val (.int i), .val (.int j)]) (rest := []) (hb hby d_prog_243_method_1_code_11)
  have S6 : Go p e below A0 (T6.setTop (mkF m 14 #[.val (.ref a1), .val (.int i), .val (.int j)] [])) := S5.trans G6
  exact ⟨vm2, T6, h6, none, _, _, K6, by decide, by decide, ⟨rfl, B1.set_ea hw W6⟩, K6.retV S6 hret (hb hby d_prog_243_method_1_code_14)⟩
theorem d_prog_243_method_3_code_0 : decode prog_243_method_3_code 0 = .ok (.aload_n 1, 1) := by decide +kernel
theorem d_prog_243_method_3_code_1 : decode prog_243_method_3_code 1 = .ok (.aload_n 0, 1) := by decide +kernel
theorem d_prog_243_method_3_code_2 : decode prog_243_method_3_code 2 = .ok (.getfield 7, 3) := by decide +kernel
theorem pd_14 : parseMethodDescriptor "(I)C" = some ⟨[.int], some .char⟩ := by decide +kernel
theorem d_prog_243_method_3_code_5 : decode prog_243_method_3_code 5 = .ok (.invokevirtual 26, 3) := by decide +kernel
theorem d_prog_243_method_3_code_8 : decode prog_243_method_3_code 8 = .ok (.bipush 92, 2) := by decide +kernel
theorem d_prog_243_method_3_code_10 : decode prog_243_method_3_code 10 = .ok (.if_icmp .ne 7, 3) := by decide +kernel
theorem d_prog_243_method_3_code_13 : decode prog_243_method_3_code 13 = .ok (.iconst 1, 1) := by decide +kernel
theorem d_prog_243_method_3_code_14 : decode prog_243_method_3_code 14 = .ok (.goto 4, 3) := by decide +kernel
theorem d_prog_243_method_3_code_18 : decode prog_243_method_3_code 18 = .ok (.ireturn, 1) := by decide +kernel
theorem d_prog_243_method_3_code_17 : decode prog_243_method_3_code 17 = .ok (.iconst 0, 1) := by decide +kernel
set_option maxRecDepth 65536 in
set_option maxHeartbeats 40000000 in
theorem c_isc0 (l : Launch) (Z : State) (a0 : Array Value) (hw : ∀ d ∈ tables_1, d.before a0 Z = true) (n0 : Nat) (h0 : Heap) (O0 : Old Z n0 h0) (A1 : Sta Z Z.heap "java/lang/StringUTF16" "$assertionsDisabled" "Z" (.int 1)) (A2 : Sta Z Z.heap "java/lang/StringUTF16" "HI_BYTE_SHIFT" "I" (.int 0)) (A3 : Sta Z Z.heap "java/lang/StringUTF16" "LO_BYTE_SHIFT" "I" (.int 8)) (fm : Value) (rf : fm.isRef = true) (SF : Sta Z Z.heap "jdk/internal/util/Preconditions" "SIOOBE_FORMATTER" "Ljava/util/function/BiFunction;" fm) (a1 a2 : Addr) (ea : Int32) (B : TkAt Z h0 a1 0 ea) (c0 c1 c2 : Int32) (r0 : ¬ c0 < 0 ∧ ¬ (65535 : Int32) < c0) (r1 : ¬ c1 < 0 ∧ ¬ (65535 : Int32) < c1) (r2 : ¬ c2 < 0 ∧ ¬ (65535 : Int32) < c2) (SU : StrU Z h0 a2 c0 c1 c2) (zc : Int32) (hzc : ¬ zc = 0) (SC : Sta Z Z.heap "java/lang/String" "COMPACT_STRINGS" "Z" (.int zc)) :
    Own.Ctr false l (⟨"com/example/tautolog/tautolog/sql/Statements$Token", "isShellCommand", "(Ljava/lang/String;)Z"⟩ : MethodName) prog_243_method_3_code 2 (some .boolean) ({ frames := 5, cells := 0, slots := 0, locals := 66 } : Room) #[(.ref a1), (.ref a2)] Z h0 Own.VT [] (fun v h vm => v = some (.int (own_e c0)) ∧ h = h0) := by
  refine Own.body (plainFor_of_name pn_6) O0 (fun _ _ _ _ q => by cases q) (fun _ _ _ _ q _ => q) ?_
  intro p e s m below meth c T0 hby hml0 hret hnm hV0 K0
  change Own.Wk false p l e ({ frames := 5, cells := 0, slots := 0, locals := 66 } : Room) s m #[(.ref a1), (.ref a2)] below meth c "com/example/tautolog/tautolog/sql/Statements$Token" Z n0 h0 [] s.vm T0 h0 0 0 at K0
  have hml : c.maxLocals = 2 := hml0
  have S0 : Go p e below (T0.setTop (entryFrame m #[(.ref a1), (.ref a2)] 2)) (T0.setTop (mkF m 0 #[.val (.ref a1), .val (.ref a2)] [])) := fun t k => castTop (by first | rfl | (simp [entryFrame, mkF, argsToLocals, Value.category]; done)) k
  generalize T0.setTop (entryFrame m #[(.ref a1), (.ref a2)] 2) = A0 at S0 ⊢
  have S1 : Go p e below A0 (T0.setTop (mkF m 2 #[.val (.ref a1), .val (.ref a2)] [(.ref a1), (.ref a2)])) := by
    refine S0.trans ?_
    refine (Own.P.aloadN K0.here K0.exec (hb hby d_prog_243_method_3_code_0) rfl rfl).trans ?_
    refine (Own.P.aloadN K0.here K0.exec (hb hby d_prog_243_method_3_code_1) rfl rfl).trans ?_
    exact Go.refl _
  obtain ⟨T2, K2, G2⟩ := K0.getF "" (Or.inl (hw _ (List.mem_of_getElem? (i := 49) rfl))) Via.refl B.2.1 (pc := 2) (Ls := #[.val (.ref a1), .val (.ref a2)]) (rest := [(.ref a2)]) (hb hby d_prog_243_method_3_code_2)
  have S2 : Go p e below A0 (T2.setTop (mkF m 5 #[.val (.ref a1), .val (.ref a2)] [(.int (0 : Int32)), (.ref a2)])) := S1.trans G2
  obtain ⟨v3, vm3, vq3, T3, h3, K3, KK3, ev3, Q3, G3⟩ := K2.callV (C := "java/lang/String") (y := (⟨"java/lang/String", "charAt", "(I)C"⟩ : MethodName)) (z := (⟨"java/lang/String", "charAt", "(I)C"⟩ : MethodName)) (hw _ (List.mem_of_getElem? (i := 58) rfl)) (hw _ (List.mem_of_getElem? (i := 59) rfl)) (hw _ (List.mem_of_getElem? (i := 61) rfl)) (Or.inr (Or.inr rfl)) (hw _ (List.mem_of_getElem? (i := 60) rfl)) (by decide) (W := 0) SU.1 (argsL := [(.int (0 : Int32))]) (rest := []) ((c_cha0 l Z a0 hw n0 h0 (K2.old) A1 A2 A3 fm rf SF a2 c0 c1 c2 r0 r1 r2 SU zc hzc SC).pay Own.VT.cl (hw _ (List.mem_of_getElem? (i := 62) rfl)) (hw _ (List.mem_of_getElem? (i := 9) rfl)) (by decide) (by decide)) trivial (pc := 5) (Ls := #[.val (.ref a1), .val (.ref a2)]) (st := [(.int (0 : Int32)), (.ref a2)]) (by rw [hml]; rfl) (lenOf pd_14 rfl) rfl (Nat.le_of_eq rfl) (hb hby d_prog_243_method_3_code_5) (by decide) (by decide) all0
  obtain ⟨rfl, e3⟩ := Q3
  have S3 : Go p e below A0 (T3.setTop (mkF m 8 #[.val (.ref a1), .val (.ref a2)] [(.int c0)])) := S2.trans G3
  subst e3
  have S4 : Go p e below A0 (T3.setTop (mkF m 10 #[.val (.ref a1), .val (.ref a2)] [(.int (92 : Int32)), (.int c0)])) := by
    refine S3.trans ?_
    refine (Own.P.bipush K3.here K3.exec (92 : Int32) (hb hby d_prog_243_method_3_code_8) rfl).trans ?_
    exact Go.refl _
  by_cases q : c0 = 92
  case pos =>
    have S5 : Go p e below A0 (T3.setTop (mkF m 18 #[.val (.ref a1), .val (.ref a2)] [(.int (1 : Int32))])) := by
      refine S4.trans ?_
      refine (Own.P.icmpNo K3.here K3.exec (hb hby d_prog_243_method_3_code_10) (XT.ii_ne_f q)).trans ?_
      refine (Own.P.iconst K3.here K3.exec (1 : Int32) (hb hby d_prog_243_method_3_code_13) rfl).trans ?_
      refine (Own.P.goto K3.here K3.exec 18 (hb hby d_prog_243_method_3_code_14) (by decide) (by decide)).trans ?_
      exact Go.refl _
    rw [own_e1 q]
    exact ⟨vm3, T3, h3, (some (.int (1 : Int32))), _, _, K3, by decide, by decide, ⟨rfl, rfl⟩, K3.retW S5 hret rfl (Or.inl ⟨rfl, by decide, _, rfl⟩) (hb hby d_prog_243_method_3_code_18)⟩
  case neg =>
    have S6 : Go p e below A0 (T3.setTop (mkF m 18 #[.val (.ref a1), .val (.ref a2)] [(.int (0 : Int32))])) := by
      refine S4.trans ?_
      refine (Own.P.icmpYes K3.here K3.exec 17 (hb hby d_prog_243_method_3_code_10) (XT.ii_ne_t q) (by decide) (by decide)).trans ?_
      refine (Own.P.iconst K3.here K3.exec (0 : Int32) (hb hby d_prog_243_method_3_code_17) rfl).trans ?_
      exact Go.refl _
    rw [own_e0 q]
    exact ⟨vm3, T3, h3, (some (.int (0 : Int32))), _, _, K3, by decide, by decide, ⟨rfl, rfl⟩, K3.retW S6 hret rfl (Or.inl ⟨rfl, by decide, _, rfl⟩) (hb hby d_prog_243_method_3_code_18)⟩
set_option maxRecDepth 65536 in
set_option maxHeartbeats 40000000 in
theorem c_isc1 (l : Launch) (Z : State) (a0 : Array Value) (hw : ∀ d ∈ tables_1, d.before a0 Z = true) (n0 : Nat) (h0 : Heap) (O0 : Old Z n0 h0) (A1 : Sta Z Z.heap "java/lang/StringUTF16" "$assertionsDisabled" "Z" (.int 1)) (A2 : Sta Z Z.heap "java/lang/StringUTF16" "HI_BYTE_SHIFT" "I" (.int 0)) (A3 : Sta Z Z.heap "java/lang/StringUTF16" "LO_BYTE_SHIFT" "I" (.int 8)) (fm : Value) (rf : fm.isRef = true) (SF : Sta Z Z.heap "jdk/internal/util/Preconditions" "SIOOBE_FORMATTER" "Ljava/util/function/BiFunction;" fm) (a1 a2 : Addr) (ea : Int32) (B : TkAt Z h0 a1 1 ea) (c0 c1 c2 : Int32) (r0 : ¬ c0 < 0 ∧ ¬ (65535 : Int32) < c0) (r1 : ¬ c1 < 0 ∧ ¬ (65535 : Int32) < c1) (r2 : ¬ c2 < 0 ∧ ¬ (65535 : Int32) < c2) (SU : StrU Z h0 a2 c0 c1 c2) (zc : Int32) (hzc : ¬ zc = 0) (SC : Sta Z Z.heap "java/lang/String" "COMPACT_STRINGS" "Z" (.int zc)) :
    Own.Ctr false l (⟨"com/example/tautolog/tautolog/sql/Statements$Token", "isShellCommand", "(Ljava/lang/String;)Z"⟩ : MethodName) prog_243_method_3_code 2 (some .boolean) ({ frames := 5, cells := 0, slots := 0, locals := 66 } : Room) #[(.ref a1), (.ref a2)] Z h0 Own.VT [] (fun v h vm => v = some (.int (own_e c1)) ∧ h = h0) := by
  refine Own.body (plainFor_of_name pn_6) O0 (fun _ _ _ _ q => by cases q) (fun _ _ _ _ q _ => q) ?_
  intro p e s m below meth c T0 hby hml0 hret hnm hV0 K0
  change Own.Wk false p l e ({ frames := 5, cells := 0, slots := 0, locals := 66 } : Room) s m #[(.ref a1), (.ref a2)] below meth c "com/example/tautolog/tautolog/sql/Statements$Token" Z n0 h0 [] s.vm T0 h0 0 0 at K0
  have hml : c.maxLocals = 2 := hml0
  have S0 : Go p e below (T0.setTop (entryFrame m #[(.ref a1), (.ref a2)] 2)) (T0.setTop (mkF m 0 #[.val (.ref a1), .val (.ref a2)] [])) := fun t k => castTop (by first | rfl | (simp [entryFrame, mkF, argsToLocals, Value.category]; done)) k
  generalize T0.setTop (entryFrame m #[(.ref a1), (.ref a2)] 2) = A0 at S0 ⊢
  have S1 : Go p e below A0 (T0.setTop (mkF m 2 #[.val (.ref a1), .val (.ref a2)] [(.ref a1), (.ref a2)])) := by
    refine S0.trans ?_
    refine (Own.P.aloadN K0.here K0.exec (hb hby d_prog_243_method_3_code_0) rfl rfl).trans ?_
    refine (Own.P.aloadN K0.here K0.exec (hb hby d_prog_243_method_3_code_1) rfl rfl).trans ?_
    exact Go.refl _
  obtain ⟨T2, K2, G2⟩ := K0.getF "" (Or.inl (hw _ (List.mem_of_getElem? (i := 49) rfl))) Via.refl B.2.1 (pc := 2) (Ls := #[.val (.ref a1), .val (.ref a2)]) (rest := [(.ref a2)]) (hb hby d_prog_243_method_3_code_2)
  have S2 : Go p e below A0 (T2.setTop (mkF m 5 #[.val (.ref a1), .val (.ref a2)] [(.int (1 : Int32)), (.ref a2)])) := S1.trans G2
  obtain ⟨v3, vm3, vq3, T3, h3, K3, KK3, ev3, Q3, G3⟩ := K2.callV (C := "java/lang/String") (y := (⟨"java/lang/String", "charAt", "(I)C"⟩ : MethodName)) (z := (⟨"java/lang/String", "charAt", "(I)C"⟩ : MethodName)) (hw _ (List.mem_of_getElem? (i := 58) rfl)) (hw _ (List.mem_of_getElem? (i := 59) rfl)) (hw _ (List.mem_of_getElem? (i := 61) rfl)) (Or.inr (Or.inr rfl)) (hw _ (List.mem_of_getElem? (i := 60) rfl)) (by decide) (W := 0) SU.1 (argsL := [(.int (1 : Int32))]) (rest := []) ((c_cha1 l Z a0 hw n0 h0 (K2.old) A1 A2 A3 fm rf SF a2 c0 c1 c2 r0 r1 r2 SU zc hzc SC).pay Own.VT.cl (hw _ (List.mem_of_getElem? (i := 62) rfl)) (hw _ (List.mem_of_getElem? (i := 9) rfl)) (by decide) (by decide)) trivial (pc := 5) (Ls := #[.val (.ref a1), .val (.ref a2)]) (st := [(.int (1 : Int32)), (.ref a2)]) (by rw [hml]; rfl) (lenOf pd_14 rfl) rfl (Nat.le_of_eq rfl) (hb hby d_prog_243_method_3_code_5) (by decide) (by decide) all0
  obtain ⟨rfl, e3⟩ := Q3
  have S3 : Go p e below A0 (T3.setTop (mkF m 8 #[.val (.ref a1), .val (.ref a2)] [(.int c1)])) := S2.trans G3
  subst e3
  have S4 : Go p e below A0 (T3.setTop (mkF m 10 #[.val (.ref a1), .val (.ref a2)] [(.int (92 : Int32)), (.int c1)])) := by
    refine S3.trans ?_
    refine (Own.P.bipush K3.here K3.exec (92 : Int32) (hb hby d_prog_243_method_3_code_8) rfl).trans ?_
    exact Go.refl _
  by_cases q : c1 = 92
  case pos =>
    have S5 : Go p e below A0 (T3.setTop (mkF m 18 #[.val (.ref a1), .val (.ref a2)] [(.int (1 : Int32))])) := by
      refine S4.trans ?_
      refine (Own.P.icmpNo K3.here K3.exec (hb hby d_prog_243_method_3_code_10) (XT.ii_ne_f q)).trans ?_
      refine (Own.P.iconst K3.here K3.exec (1 : Int32) (hb hby d_prog_243_method_3_code_13) rfl).trans ?_
      refine (Own.P.goto K3.here K3.exec 18 (hb hby d_prog_243_method_3_code_14) (by decide) (by decide)).trans ?_
      exact Go.refl _
    rw [own_e1 q]
    exact ⟨vm3, T3, h3, (some (.int (1 : Int32))), _, _, K3, by decide, by decide, ⟨rfl, rfl⟩, K3.retW S5 hret rfl (Or.inl ⟨rfl, by decide, _, rfl⟩) (hb hby d_prog_243_method_3_code_18)⟩
  case neg =>
    have S6 : Go p e below A0 (T3.setTop (mkF m 18 #[.val (.ref a1), .val (.ref a2)] [(.int (0 : Int32))])) := by
      refine S4.trans ?_
      refine (Own.P.icmpYes K3.here K3.exec 17 (hb hby d_prog_243_method_3_code_10) (XT.ii_ne_t q) (by decide) (by decide)).trans ?_
      refine (Own.P.iconst K3.here K3.exec (0 : Int32) (hb hby d_prog_243_method_3_code_17) rfl).trans ?_
      exact Go.refl _
    rw [own_e0 q]
    exact ⟨vm3, T3, h3, (some (.int (0 : Int32))), _, _, K3, by decide, by decide, ⟨rfl, rfl⟩, K3.retW S6 hret rfl (Or.inl ⟨rfl, by decide, _, rfl⟩) (hb hby d_prog_243_method_3_code_18)⟩
set_option maxRecDepth 65536 in
set_option maxHeartbeats 40000000 in
theorem c_isc2 (l : Launch) (Z : State) (a0 : Array Value) (hw : ∀ d ∈ tables_1, d.before a0 Z = true) (n0 : Nat) (h0 : Heap) (O0 : Old Z n0 h0) (A1 : Sta Z Z.heap "java/lang/StringUTF16" "$assertionsDisabled" "Z" (.int 1)) (A2 : Sta Z Z.heap "java/lang/StringUTF16" "HI_BYTE_SHIFT" "I" (.int 0)) (A3 : Sta Z Z.heap "java/lang/StringUTF16" "LO_BYTE_SHIFT" "I" (.int 8)) (fm : Value) (rf : fm.isRef = true) (SF : Sta Z Z.heap "jdk/internal/util/Preconditions" "SIOOBE_FORMATTER" "Ljava/util/function/BiFunction;" fm) (a1 a2 : Addr) (ea : Int32) (B : TkAt Z h0 a1 2 ea) (c0 c1 c2 : Int32) (r0 : ¬ c0 < 0 ∧ ¬ (65535 : Int32) < c0) (r1 : ¬ c1 < 0 ∧ ¬ (65535 : Int32) < c1) (r2 : ¬ c2 < 0 ∧ ¬ (65535 : Int32) < c2) (SU : StrU Z h0 a2 c0 c1 c2) (zc : Int32) (hzc : ¬ zc = 0) (SC : Sta Z Z.heap "java/lang/String" "COMPACT_STRINGS" "Z" (.int zc)) :
    Own.Ctr false l (⟨"com/example/tautolog/tautolog/sql/Statements$Token", "isShellCommand", "(Ljava/lang/String;)Z"⟩ : MethodName) prog_243_method_3_code 2 (some .boolean) ({ frames := 5, cells := 0, slots := 0, locals := 66 } : Room) #[(.ref a1), (.ref a2)] Z h0 Own.VT [] (fun v h vm => v = some (.int (own_e c2)) ∧ h = h0) := by
  refine Own.body (plainFor_of_name pn_6) O0 (fun _ _ _ _ q => by cases q) (fun _ _ _ _ q _ => q) ?_
  intro p e s m below meth c T0 hby hml0 hret hnm hV0 K0
  change Own.Wk false p l e ({ frames := 5, cells := 0, slots := 0, locals := 66 } : Room) s m #[(.ref a1), (.ref a2)] below meth c "com/example/tautolog/tautolog/sql/Statements$Token" Z n0 h0 [] s.vm T0 h0 0 0 at K0
  have hml : c.maxLocals = 2 := hml0
  have S0 : Go p e below (T0.setTop (entryFrame m #[(.ref a1), (.ref a2)] 2)) (T0.setTop (mkF m 0 #[.val (.ref a1), .val (.ref a2)] [])) := fun t k => castTop (by first | rfl | (simp [entryFrame, mkF, argsToLocals, Value.category]; done)) k
  generalize T0.setTop (entryFrame m #[(.ref a1), (.ref a2)] 2) = A0 at S0 ⊢
  have S1 : Go p e below A0 (T0.setTop (mkF m 2 #[.val (.ref a1), .val (.ref a2)] [(.ref a1), (.ref a2)])) := by
    refine S0.trans ?_
    refine (Own.P.aloadN K0.here K0.exec (hb hby d_prog_243_method_3_code_0) rfl rfl).trans ?_
    refine (Own.P.aloadN K0.here K0.exec (hb hby d_prog_243_method_3_code_1) rfl rfl).trans ?_
    exact Go.refl _
  obtain ⟨T2, K2, G2⟩ := K0.getF "" (Or.inl (hw _ (List.mem_of_getElem? (i := 49) rfl))) Via.refl B.2.1 (pc := 2) (Ls := #[.val (.ref a1), .val (.ref a2)]) (rest := [(.ref a2)]) (hb hby d_prog_243_method_3_code_2)
  have S2 : Go p e below A0 (T2.setTop (mkF m 5 #[.val (.ref a1), .val (.ref a2)] [(.int (2 : Int32)), (.ref a2)])) := S1.trans G2
  obtain ⟨v3, vm3, vq3, T3, h3, K3, KK3, ev3, Q3, G3⟩ := K2.callV (C := "java/lang/String") (y := (⟨"java/lang/String", "charAt", "(I)C"⟩ : MethodName)) (z := (⟨"java/lang/String", "charAt", "(I)C"⟩ : MethodName)) (hw _ (List.mem_of_getElem? (i := 58) rfl)) (hw _ (List.mem_of_getElem? (i := 59) rfl)) (hw _ (List.mem_of_getElem? (i := 61) rfl)) (Or.inr (Or.inr rfl)) (hw _ (List.mem_of_getElem? (i := 60) rfl)) (by decide) (W := 0) SU.1 (argsL := [(.int (2 : Int32))]) (rest := []) ((c_cha2 l Z a0 hw n0 h0 (K2.old) A1 A2 A3 fm rf SF a2 c0 c1 c2 r0 r1 r2 SU zc hzc SC).pay Own.VT.cl (hw _ (List.mem_of_getElem? (i := 62) rfl)) (hw _ (List.mem_of_getElem? (i := 9) rfl)) (by decide) (by decide)) trivial (pc := 5) (Ls := #[.val (.ref a1), .val (.ref a2)]) (st := [(.int (2 : Int32)), (.ref a2)]) (by rw [hml]; rfl) (lenOf pd_14 rfl) rfl (Nat.le_of_eq rfl) (hb hby d_prog_243_method_3_code_5) (by decide) (by decide) all0
  obtain ⟨rfl, e3⟩ := Q3
  have S3 : Go p e below A0 (T3.setTop (mkF m 8 #[.val (.ref a1), .val (.ref a2)] [(.int c2)])) := S2.trans G3
  subst e3
  have S4 : Go p e below A0 (T3.setTop (mkF m 10 #[.val (.ref a1), .val (.ref a2)] [(.int (92 : Int32)), (.int c2)])) := by
    refine S3.trans ?_
    refine (Own.P.bipush K3.here K3.exec (92 : Int32) (hb hby d_prog_243_method_3_code_8) rfl).trans ?_
    exact Go.refl _
  by_cases q : c2 = 92
  case pos =>
    have S5 : Go p e below A0 (T3.setTop (mkF m 18 #[.val (.ref a1), .val (.ref a2)] [(.int (1 : Int32))])) := by
      refine S4.trans ?_
      refine (Own.P.icmpNo K3.here K3.exec (hb hby d_prog_243_method_3_code_10) (XT.ii_ne_f q)).trans ?_
      refine (Own.P.iconst K3.here K3.exec (1 : Int32) (hb hby d_prog_243_method_3_code_13) rfl).trans ?_
      refine (Own.P.goto K3.here K3.exec 18 (hb hby d_prog_243_method_3_code_14) (by decide) (by decide)).trans ?_
      exact Go.refl _
    rw [own_e1 q]
    exact ⟨vm3, T3, h3, (some (.int (1 : Int32))), _, _, K3, by decide, by decide, ⟨rfl, rfl⟩, K3.retW S5 hret rfl (Or.inl ⟨rfl, by decide, _, rfl⟩) (hb hby d_prog_243_method_3_code_18)⟩
  case neg =>
    have S6 : Go p e below A0 (T3.setTop (mkF m 18 #[.val (.ref a1), .val (.ref a2)] [(.int (0 : Int32))])) := by
      refine S4.trans ?_
      refine (Own.P.icmpYes K3.here K3.exec 17 (hb hby d_prog_243_method_3_code_10) (XT.ii_ne_t q) (by decide) (by decide)).trans ?_
      refine (Own.P.iconst K3.here K3.exec (0 : Int32) (hb hby d_prog_243_method_3_code_17) rfl).trans ?_
      exact Go.refl _
    rw [own_e0 q]
    exact ⟨vm3, T3, h3, (some (.int (0 : Int32))), _, _, K3, by decide, by decide, ⟨rfl, rfl⟩, K3.retW S6 hret rfl (Or.inl ⟨rfl, by decide, _, rfl⟩) (hb hby d_prog_243_method_3_code_18)⟩
theorem own_3 (s : Int32) : (s &&& 2147483647) % 3 = 0 ∨ (s &&& 2147483647) % 3 = 1 ∨ (s &&& 2147483647) % 3 = 2 := by
  have m := c_mask s 2147483647 31 (by decide) (by decide)
  have q := (c_iremV (s &&& 2147483647) 3).1 (by rw [m]; omega) (by decide)
  have e3 : (3 : Int32).toInt = 3 := rfl
  have h : ((s &&& 2147483647) % 3).toInt = 0 ∨ ((s &&& 2147483647) % 3).toInt = 1 ∨ ((s &&& 2147483647) % 3).toInt = 2 := by omega
  rcases h with h | h | h
  · exact Or.inl (Int32.toInt_inj.mp h)
  · exact Or.inr (Or.inl (Int32.toInt_inj.mp h))
  · exact Or.inr (Or.inr (Int32.toInt_inj.mp h))
theorem pd_15 : parseMethodDescriptor "([C)V" = some ⟨[(.array .char)], none⟩ := by decide +kernel
theorem pd_16 : parseMethodDescriptor "(Ljava/lang/String;)Z" = some ⟨[(.object "java/lang/String")], some .boolean⟩ := by decide +kernel
set_option maxRecDepth 65536 in
set_option maxHeartbeats 40000000 in
theorem c_law (l : Launch) (Z : State) (a0 : Array Value) (hw : ∀ d ∈ tables_1, d.before a0 Z = true) (n0 : Nat) (h0 : Heap) (O0 : Old Z n0 h0) (A1 : Sta Z Z.heap "java/lang/StringUTF16" "$assertionsDisabled" "Z" (.int 1)) (A2 : Sta Z Z.heap "java/lang/StringUTF16" "HI_BYTE_SHIFT" "I" (.int 0)) (A3 : Sta Z Z.heap "java/lang/StringUTF16" "LO_BYTE_SHIFT" "I" (.int 8)) (fm : Value) (rf : fm.isRef = true) (SF : Sta Z Z.heap "jdk/internal/util/Preconditions" "SIOOBE_FORMATTER" "Ljava/util/function/BiFunction;" fm) (a b' d s' e' : Int32) (zc : Int32) (hzc : ¬ zc = 0) (SC : Sta Z Z.heap "java/lang/String" "COMPACT_STRINGS" "Z" (.int zc)) :
    Own.Ctr false l x code maxLocals ret room_1 #[(.int a), (.int b'), (.int d), (.int s'), (.int e')] Z h0 Own.VT [] (fun v h vm => v = some (.int 1) ∧ True) := by
  refine Own.body (plainFor_of_name pn_0) O0 (fun _ _ _ _ q => by cases q) (fun _ _ _ _ q _ => q) ?_
  intro p e s m below meth c T0 hby hml0 hret hnm hV0 K0
  change Own.Wk false p l e room_1 s m #[(.int a), (.int b'), (.int d), (.int s'), (.int e')] below meth c "com/example/tautolog/tautolog/sql/TokenIsShellCommandPinLaw" Z n0 h0 [] s.vm T0 h0 0 0 at K0
  have hml : c.maxLocals = 14 := hml0
  have S0 : Go p e below (T0.setTop (entryFrame m #[(.int a), (.int b'), (.int d), (.int s'), (.int e')] maxLocals)) (T0.setTop (mkF m 0 #[.val (.int a), .val (.int b'), .val (.int d), .val (.int s'), .val (.int e'), .unset, .unset, .unset, .unset, .unset, .unset, .unset, .unset, .unset] [])) := fun t k => castTop (by first | rfl | (simp [entryFrame, mkF, argsToLocals, Value.category, maxLocals]; done)) k
  generalize T0.setTop (entryFrame m #[(.int a), (.int b'), (.int d), (.int s'), (.int e')] maxLocals) = A0 at S0 ⊢
  have S1 : Go p e below A0 (T0.setTop (mkF m 1 #[.val (.int a), .val (.int b'), .val (.int d), .val (.int s'), .val (.int e'), .unset, .unset, .unset, .unset, .unset, .unset, .unset, .unset, .unset] [(.int a)])) := by
    refine S0.trans ?_
    refine (Own.P.iloadN K0.here K0.exec (hb hby at_0) rfl).trans ?_
    exact Go.refl _
  obtain ⟨v2, vm2, vq2, T2, h2, K2, KK2, ev2, Q2, G2⟩ := K0.callS (y := (⟨"com/example/tautolog/tautolog/sql/TokenIsShellCommandPinLaw", "draw", "(I)C"⟩ : MethodName)) (hw _ (List.mem_of_getElem? (i := 0) rfl)) (hw _ (List.mem_of_getElem? (i := 1) rfl)) (hw _ (List.mem_of_getElem? (i := 2) rfl)) (hw _ (List.mem_of_getElem? (i := 3) rfl)) (by decide) (W := 0) (argsL := [(.int a)]) (rest := []) ((c_draw l Z a0 hw n0 h0 (K0.old) a).pay Own.VT.cl (hw _ (List.mem_of_getElem? (i := 3) rfl)) (hw _ (List.mem_of_getElem? (i := 2) rfl)) (by decide) (by decide)) trivial (pc := 1) (Ls := #[.val (.int a), .val (.int b'), .val (.int d), .val (.int s'), .val (.int e'), .unset, .unset, .unset, .unset, .unset, .unset, .unset, .unset, .unset]) (st := [(.int a)]) (by rw [hml]; rfl) (lenOf pd_14 rfl) rfl (Nat.le_of_eq rfl) (hb hby at_1) (by decide) (by decide) all0
  obtain ⟨rfl, e2⟩ := Q2
  have S2 : Go p e below A0 (T2.setTop (mkF m 4 #[.val (.int a), .val (.int b'), .val (.int d), .val (.int s'), .val (.int e'), .unset, .unset, .unset, .unset, .unset, .unset, .unset, .unset, .unset] [(.int (own_dr a))])) := S1.trans G2
  subst e2
  have r0 := own_dr_rng a
  generalize own_dr a = c0 at *
  have S3 : Go p e below A0 (T2.setTop (mkF m 7 #[.val (.int a), .val (.int b'), .val (.int d), .val (.int s'), .val (.int e'), .val (.int c0), .unset, .unset, .unset, .unset, .unset, .unset, .unset, .unset] [(.int b')])) := by
    refine S2.trans ?_
    refine (Own.P.istore K2.here K2.exec (l' := #[.val (.int a), .val (.int b'), .val (.int d), .val (.int s'), .val (.int e'), .val (.int c0), .unset, .unset, .unset, .unset, .unset, .unset, .unset, .unset]) (hb hby at_4) rfl).trans ?_
    refine (Own.P.iloadN K2.here K2.exec (hb hby at_6) rfl).trans ?_
    exact Go.refl _
  obtain ⟨v4, vm4, vq4, T4, h4, K4, KK4, ev4, Q4, G4⟩ := K2.callS (y := (⟨"com/example/tautolog/tautolog/sql/TokenIsShellCommandPinLaw", "draw", "(I)C"⟩ : MethodName)) (hw _ (List.mem_of_getElem? (i := 0) rfl)) (hw _ (List.mem_of_getElem? (i := 1) rfl)) (hw _ (List.mem_of_getElem? (i := 2) rfl)) (hw _ (List.mem_of_getElem? (i := 3) rfl)) (by decide) (W := 0) (argsL := [(.int b')]) (rest := []) ((c_draw l Z a0 hw n0 h2 (K2.old) b').pay Own.VT.cl (hw _ (List.mem_of_getElem? (i := 3) rfl)) (hw _ (List.mem_of_getElem? (i := 2) rfl)) (by decide) (by decide)) trivial (pc := 7) (Ls := #[.val (.int a), .val (.int b'), .val (.int d), .val (.int s'), .val (.int e'), .val (.int c0), .unset, .unset, .unset, .unset, .unset, .unset, .unset, .unset]) (st := [(.int b')]) (by rw [hml]; rfl) (lenOf pd_14 rfl) rfl (Nat.le_of_eq rfl) (hb hby at_7) (by decide) (by decide) all0
  obtain ⟨rfl, e4⟩ := Q4
  have S4 : Go p e below A0 (T4.setTop (mkF m 10 #[.val (.int a), .val (.int b'), .val (.int d), .val (.int s'), .val (.int e'), .val (.int c0), .unset, .unset, .unset, .unset, .unset, .unset, .unset, .unset] [(.int (own_dr b'))])) := S3.trans G4
  subst e4
  have r1 := own_dr_rng b'
  generalize own_dr b' = c1 at *
  have S5 : Go p e below A0 (T4.setTop (mkF m 13 #[.val (.int a), .val (.int b'), .val (.int d), .val (.int s'), .val (.int e'), .val (.int c0), .val (.int c1), .unset, .unset, .unset, .unset, .unset, .unset, .unset] [(.int d)])) := by
    refine S4.trans ?_
    refine (Own.P.istore K4.here K4.exec (l' := #[.val (.int a), .val (.int b'), .val (.int d), .val (.int s'), .val (.int e'), .val (.int c0), .val (.int c1), .unset, .unset, .unset, .unset, .unset, .unset, .unset]) (hb hby at_10) rfl).trans ?_
    refine (Own.P.iloadN K4.here K4.exec (hb hby at_12) rfl).trans ?_
    exact Go.refl _
  obtain ⟨v6, vm6, vq6, T6, h6, K6, KK6, ev6, Q6, G6⟩ := K4.callS (y := (⟨"com/example/tautolog/tautolog/sql/TokenIsShellCommandPinLaw", "draw", "(I)C"⟩ : MethodName)) (hw _ (List.mem_of_getElem? (i := 0) rfl)) (hw _ (List.mem_of_getElem? (i := 1) rfl)) (hw _ (List.mem_of_getElem? (i := 2) rfl)) (hw _ (List.mem_of_getElem? (i := 3) rfl)) (by decide) (W := 0) (argsL := [(.int d)]) (rest := []) ((c_draw l Z a0 hw n0 h4 (K4.old) d).pay Own.VT.cl (hw _ (List.mem_of_getElem? (i := 3) rfl)) (hw _ (List.mem_of_getElem? (i := 2) rfl)) (by decide) (by decide)) trivial (pc := 13) (Ls := #[.val (.int a), .val (.int b'), .val (.int d), .val (.int s'), .val (.int e'), .val (.int c0), .val (.int c1), .unset, .unset, .unset, .unset, .unset, .unset, .unset]) (st := [(.int d)]) (by rw [hml]; rfl) (lenOf pd_14 rfl) rfl (Nat.le_of_eq rfl) (hb hby at_13) (by decide) (by decide) all0
  obtain ⟨rfl, e6⟩ := Q6
  have S6 : Go p e below A0 (T6.setTop (mkF m 16 #[.val (.int a), .val (.int b'), .val (.int d), .val (.int s'), .val (.int e'), .val (.int c0), .val (.int c1), .unset, .unset, .unset, .unset, .unset, .unset, .unset] [(.int (own_dr d))])) := S5.trans G6
  subst e6
  have r2 := own_dr_rng d
  generalize own_dr d = c2 at *
  have S7 : Go p e below A0 (T6.setTop (mkF m 19 #[.val (.int a), .val (.int b'), .val (.int d), .val (.int s'), .val (.int e'), .val (.int c0), .val (.int c1), .val (.int c2), .unset, .unset, .unset, .unset, .unset, .unset] [(.int (3 : Int32))])) := by
    refine S6.trans ?_
    refine (Own.P.istore K6.here K6.exec (l' := #[.val (.int a), .val (.int b'), .val (.int d), .val (.int s'), .val (.int e'), .val (.int c0), .val (.int c1), .val (.int c2), .unset, .unset, .unset, .unset, .unset, .unset]) (hb hby at_16) rfl).trans ?_
    refine (Own.P.iconst K6.here K6.exec (3 : Int32) (hb hby at_18) rfl).trans ?_
    exact Go.refl _
  obtain ⟨T8, h8, ca, cA_ca, K8, E8, g_ca, l_ca, ne_ca, V_ca, G8⟩ := K6.newP (aty := .char) (hw _ (List.mem_of_getElem? (i := 6) rfl)) (n := (3 : Int32)) (pc := 19) (Ls := #[.val (.int a), .val (.int b'), .val (.int d), .val (.int s'), .val (.int e'), .val (.int c0), .val (.int c1), .val (.int c2), .unset, .unset, .unset, .unset, .unset, .unset]) (rest := []) (hb hby at_19) 3 (by decide) (by decide) (by decide) (by decide) (by decide)
  have S8 : Go p e below A0 (T8.setTop (mkF m 21 #[.val (.int a), .val (.int b'), .val (.int d), .val (.int s'), .val (.int e'), .val (.int c0), .val (.int c1), .val (.int c2), .unset, .unset, .unset, .unset, .unset, .unset] [(.ref ca)])) := S7.trans G8
  have V0 : Arv Z h8 ca cA_ca .char 3 [.int 0, .int 0, .int 0] (.int 0) := V_ca.pad (pad_rep [] (.int 0) 3)
  have S9 : Go p e below A0 (T8.setTop (mkF m 28 #[.val (.int a), .val (.int b'), .val (.int d), .val (.int s'), .val (.int e'), .val (.int c0), .val (.int c1), .val (.int c2), .val (.ref ca), .unset, .unset, .unset, .unset, .unset] [(.int c0), (.int (0 : Int32)), (.ref ca)])) := by
    refine S8.trans ?_
    refine (Own.P.astore K8.here K8.exec (l' := #[.val (.int a), .val (.int b'), .val (.int d), .val (.int s'), .val (.int e'), .val (.int c0), .val (.int c1), .val (.int c2), .val (.ref ca), .unset, .unset, .unset, .unset, .unset]) (hb hby at_21) rfl rfl).trans ?_
    refine (Own.P.aload K8.here K8.exec (hb hby at_23) rfl rfl).trans ?_
    refine (Own.P.iconst K8.here K8.exec (0 : Int32) (hb hby at_25) rfl).trans ?_
    refine (Own.P.iload K8.here K8.exec (hb hby at_26) rfl).trans ?_
    exact Go.refl _
  obtain ⟨T10, h10, K10, W10, V10, G10⟩ := K8.stC V0  (j := (0 : Int32)) ⟨by decide, by decide⟩ 0 rfl (Nat.le_of_ble_eq_true rfl) (Or.inr g_ca) (pc := 28) (Ls := #[.val (.int a), .val (.int b'), .val (.int d), .val (.int s'), .val (.int e'), .val (.int c0), .val (.int c1), .val (.int c2), .val (.ref ca), .unset, .unset, .unset, .unset, .unset]) (rest := []) (hb hby at_28)
  have S10 : Go p e below A0 (T10.setTop (mkF m 29 #[.val (.int a), .val (.int b'), .val (.int d), .val (.int s'), .val (.int e'), .val (.int c0), .val (.int c1), .val (.int c2), .val (.ref ca), .unset, .unset, .unset, .unset, .unset] [])) := S9.trans G10
  rw [show nar .char c0 = c0 from own_c r0.1 r0.2] at V10
  have S11 : Go p e below A0 (T10.setTop (mkF m 34 #[.val (.int a), .val (.int b'), .val (.int d), .val (.int s'), .val (.int e'), .val (.int c0), .val (.int c1), .val (.int c2), .val (.ref ca), .unset, .unset, .unset, .unset, .unset] [(.int c1), (.int (1 : Int32)), (.ref ca)])) := by
    refine S10.trans ?_
    refine (Own.P.aload K10.here K10.exec (hb hby at_29) rfl rfl).trans ?_
    refine (Own.P.iconst K10.here K10.exec (1 : Int32) (hb hby at_31) rfl).trans ?_
    refine (Own.P.iload K10.here K10.exec (hb hby at_32) rfl).trans ?_
    exact Go.refl _
  obtain ⟨T12, h12, K12, W12, V12, G12⟩ := K10.stC V10  (j := (1 : Int32)) ⟨by decide, by decide⟩ 1 rfl (Nat.le_of_ble_eq_true rfl) (Or.inr g_ca) (pc := 34) (Ls := #[.val (.int a), .val (.int b'), .val (.int d), .val (.int s'), .val (.int e'), .val (.int c0), .val (.int c1), .val (.int c2), .val (.ref ca), .unset, .unset, .unset, .unset, .unset]) (rest := []) (hb hby at_34)
  have S12 : Go p e below A0 (T12.setTop (mkF m 35 #[.val (.int a), .val (.int b'), .val (.int d), .val (.int s'), .val (.int e'), .val (.int c0), .val (.int c1), .val (.int c2), .val (.ref ca), .unset, .unset, .unset, .unset, .unset] [])) := S11.trans G12
  rw [show nar .char c1 = c1 from own_c r1.1 r1.2] at V12
  have S13 : Go p e below A0 (T12.setTop (mkF m 40 #[.val (.int a), .val (.int b'), .val (.int d), .val (.int s'), .val (.int e'), .val (.int c0), .val (.int c1), .val (.int c2), .val (.ref ca), .unset, .unset, .unset, .unset, .unset] [(.int c2), (.int (2 : Int32)), (.ref ca)])) := by
    refine S12.trans ?_
    refine (Own.P.aload K12.here K12.exec (hb hby at_35) rfl rfl).trans ?_
    refine (Own.P.iconst K12.here K12.exec (2 : Int32) (hb hby at_37) rfl).trans ?_
    refine (Own.P.iload K12.here K12.exec (hb hby at_38) rfl).trans ?_
    exact Go.refl _
  obtain ⟨T14, h14, K14, W14, V14, G14⟩ := K12.stC V12  (j := (2 : Int32)) ⟨by decide, by decide⟩ 2 rfl (Nat.le_of_ble_eq_true rfl) (Or.inr g_ca) (pc := 40) (Ls := #[.val (.int a), .val (.int b'), .val (.int d), .val (.int s'), .val (.int e'), .val (.int c0), .val (.int c1), .val (.int c2), .val (.ref ca), .unset, .unset, .unset, .unset, .unset]) (rest := []) (hb hby at_40)
  have S14 : Go p e below A0 (T14.setTop (mkF m 41 #[.val (.int a), .val (.int b'), .val (.int d), .val (.int s'), .val (.int e'), .val (.int c0), .val (.int c1), .val (.int c2), .val (.ref ca), .unset, .unset, .unset, .unset, .unset] [])) := S13.trans G14
  rw [show nar .char c2 = c2 from own_c r2.1 r2.2] at V14
  obtain ⟨T15, h15, sq, K15, E15, g_sq, l_sq, ne_sq, X_sq, D_sq, G15⟩ := K14.newO (hw _ (List.mem_of_getElem? (i := 7) rfl)) (hw _ (List.mem_of_getElem? (i := 8) rfl)) (hw _ (List.mem_of_getElem? (i := 9) rfl)) (pc := 41) (Ls := #[.val (.int a), .val (.int b'), .val (.int d), .val (.int s'), .val (.int e'), .val (.int c0), .val (.int c1), .val (.int c2), .val (.ref ca), .unset, .unset, .unset, .unset, .unset]) (rest := []) (hb hby at_41) (by decide) (by decide)
  have S15 : Go p e below A0 (T15.setTop (mkF m 44 #[.val (.int a), .val (.int b'), .val (.int d), .val (.int s'), .val (.int e'), .val (.int c0), .val (.int c1), .val (.int c2), .val (.ref ca), .unset, .unset, .unset, .unset, .unset] [(.ref sq)])) := S14.trans G15
  have V3 := V14.ext E15
  have gs : n0 ≤ sq := Nat.le_trans K0.2.2.2.1 g_sq
  have S16 : Go p e below A0 (T15.setTop (mkF m 47 #[.val (.int a), .val (.int b'), .val (.int d), .val (.int s'), .val (.int e'), .val (.int c0), .val (.int c1), .val (.int c2), .val (.ref ca), .unset, .unset, .unset, .unset, .unset] [(.ref ca), (.ref sq), (.ref sq)])) := by
    refine S15.trans ?_
    refine (Own.P.dup K15.here K15.exec (hb hby at_44) rfl).trans ?_
    refine (Own.P.aload K15.here K15.exec (hb hby at_45) rfl rfl).trans ?_
    exact Go.refl _
  obtain ⟨v17, vm17, vq17, T17, h17, K17, KK17, ev17, Q17, G17⟩ := K15.callI (y := (⟨"java/lang/String", "<init>", "([C)V"⟩ : MethodName)) rfl (hw _ (List.mem_of_getElem? (i := 10) rfl)) (hw _ (List.mem_of_getElem? (i := 11) rfl)) (hw _ (List.mem_of_getElem? (i := 12) rfl)) (by decide) (W := 1) (a := sq) (argsL := [(.ref ca)]) (rest := [(.ref sq)]) ((c_new1 l Z a0 hw n0 h15 (K15.old) A1 A2 A3 sq ca cA_ca _ c0 c1 c2 r0 r1 r2 V3 X_sq (D_sq (Or.inr (hw _ (List.mem_of_getElem? (i := 35) rfl))) (ty := .array .byte) (by decide)) (D_sq (Or.inr (hw _ (List.mem_of_getElem? (i := 33) rfl))) (ty := .byte) (by decide)) gs zc hzc SC).pay Own.VT.cl (hw _ (List.mem_of_getElem? (i := 12) rfl)) (hw _ (List.mem_of_getElem? (i := 9) rfl)) (by decide) (by decide)) trivial (pc := 47) (Ls := #[.val (.int a), .val (.int b'), .val (.int d), .val (.int s'), .val (.int e'), .val (.int c0), .val (.int c1), .val (.int c2), .val (.ref ca), .unset, .unset, .unset, .unset, .unset]) (st := [(.ref ca), (.ref sq), (.ref sq)]) (by rw [hml]; rfl) (lenOf pd_15 rfl) rfl (Nat.le_of_eq rfl) (hb hby at_47) (by decide) (by decide) (allS (Or.inr g_sq) all0)
  obtain ⟨rfl, SU⟩ := Q17
  have S17 : Go p e below A0 (T17.setTop (mkF m 50 #[.val (.int a), .val (.int b'), .val (.int d), .val (.int s'), .val (.int e'), .val (.int c0), .val (.int c1), .val (.int c2), .val (.ref ca), .unset, .unset, .unset, .unset, .unset] [(.ref sq)])) := S16.trans G17
  have S18 : Go p e below A0 (T17.setTop (mkF m 53 #[.val (.int a), .val (.int b'), .val (.int d), .val (.int s'), .val (.int e'), .val (.int c0), .val (.int c1), .val (.int c2), .val (.ref ca), .val (.ref sq), .unset, .unset, .unset, .unset] [(.int s')])) := by
    refine S17.trans ?_
    refine (Own.P.astore K17.here K17.exec (l' := #[.val (.int a), .val (.int b'), .val (.int d), .val (.int s'), .val (.int e'), .val (.int c0), .val (.int c1), .val (.int c2), .val (.ref ca), .val (.ref sq), .unset, .unset, .unset, .unset]) (hb hby at_50) rfl rfl).trans ?_
    refine (Own.P.iloadN K17.here K17.exec (hb hby at_52) rfl).trans ?_
    exact Go.refl _
  have G19 := K17.ldcI (v := 2147483647) (hw _ (List.mem_of_getElem? (i := 36) rfl)) (pc := 53) (Ls := #[.val (.int a), .val (.int b'), .val (.int d), .val (.int s'), .val (.int e'), .val (.int c0), .val (.int c1), .val (.int c2), .val (.ref ca), .val (.ref sq), .unset, .unset, .unset, .unset]) (rest := [(.int s')]) (hb hby at_53)
  have S19 : Go p e below A0 (T17.setTop (mkF m 55 #[.val (.int a), .val (.int b'), .val (.int d), .val (.int s'), .val (.int e'), .val (.int c0), .val (.int c1), .val (.int c2), .val (.ref ca), .val (.ref sq), .unset, .unset, .unset, .unset] [(.int (2147483647 : Int32)), (.int s')])) := S18.trans G19
  have S20 : Go p e below A0 (T17.setTop (mkF m 57 #[.val (.int a), .val (.int b'), .val (.int d), .val (.int s'), .val (.int e'), .val (.int c0), .val (.int c1), .val (.int c2), .val (.ref ca), .val (.ref sq), .unset, .unset, .unset, .unset] [(.int (3 : Int32)), (.int (s' &&& (2147483647 : Int32)))])) := by
    refine S19.trans ?_
    refine (Own.P.iand K17.here K17.exec (hb hby at_55) ).trans ?_
    refine (Own.P.iconst K17.here K17.exec (3 : Int32) (hb hby at_56) rfl).trans ?_
    exact Go.refl _
  have S21 : Go p e below A0 (T17.setTop (mkF m 60 #[.val (.int a), .val (.int b'), .val (.int d), .val (.int s'), .val (.int e'), .val (.int c0), .val (.int c1), .val (.int c2), .val (.ref ca), .val (.ref sq), .val (.int ((s' &&& (2147483647 : Int32)) % (3 : Int32))), .unset, .unset, .unset] [])) := by
    refine S20.trans ?_
    refine (Own.P.irem K17.here K17.exec (hb hby at_57) (by decide)).trans ?_
    refine (Own.P.istore K17.here K17.exec (l' := #[.val (.int a), .val (.int b'), .val (.int d), .val (.int s'), .val (.int e'), .val (.int c0), .val (.int c1), .val (.int c2), .val (.ref ca), .val (.ref sq), .val (.int ((s' &&& (2147483647 : Int32)) % (3 : Int32))), .unset, .unset, .unset]) (hb hby at_58) rfl).trans ?_
    exact Go.refl _
  have h3 := own_3 s'
  generalize (s' &&& 2147483647) % 3 = sx at *
  rcases h3 with rfl | rfl | rfl
  case inl =>
      have S22 : Go p e below A0 (T17.setTop (mkF m 93 #[.val (.int a), .val (.int b'), .val (.int d), .val (.int s'), .val (.int e'), .val (.int c0), .val (.int c1), .val (.int c2), .val (.ref ca), .val (.ref sq), .val (.int (0 : Int32)), .val (.int c0), .unset, .unset] [(.int (92 : Int32)), (.int c0)])) := by
        refine S21.trans ?_
        refine (Own.P.iload K17.here K17.exec (hb hby at_60) rfl).trans ?_
        refine (Own.P.ifNo K17.here K17.exec (hb hby at_62) (by decide)).trans ?_
        refine (Own.P.iload K17.here K17.exec (hb hby at_65) rfl).trans ?_
        refine (Own.P.istore K17.here K17.exec (l' := #[.val (.int a), .val (.int b'), .val (.int d), .val (.int s'), .val (.int e'), .val (.int c0), .val (.int c1), .val (.int c2), .val (.ref ca), .val (.ref sq), .val (.int (0 : Int32)), .val (.int c0), .unset, .unset]) (hb hby at_67) rfl).trans ?_
        refine (Own.P.goto K17.here K17.exec 89 (hb hby at_69) (by decide) (by decide)).trans ?_
        refine (Own.P.iload K17.here K17.exec (hb hby at_89) rfl).trans ?_
        refine (Own.P.bipush K17.here K17.exec (92 : Int32) (hb hby at_91) rfl).trans ?_
        exact Go.refl _
      have Se : Go p e below A0 (T17.setTop (mkF m 101 #[.val (.int a), .val (.int b'), .val (.int d), .val (.int s'), .val (.int e'), .val (.int c0), .val (.int c1), .val (.int c2), .val (.ref ca), .val (.ref sq), .val (.int (0 : Int32)), .val (.int c0), .unset, .unset] [(.int (own_e c0))])) := by
        by_cases q : c0 = 92
        case pos =>
          have S23 : Go p e below A0 (T17.setTop (mkF m 101 #[.val (.int a), .val (.int b'), .val (.int d), .val (.int s'), .val (.int e'), .val (.int c0), .val (.int c1), .val (.int c2), .val (.ref ca), .val (.ref sq), .val (.int (0 : Int32)), .val (.int c0), .unset, .unset] [(.int (1 : Int32))])) := by
            refine S22.trans ?_
            refine (Own.P.icmpNo K17.here K17.exec (hb hby at_93) (XT.ii_ne_f q)).trans ?_
            refine (Own.P.iconst K17.here K17.exec (1 : Int32) (hb hby at_96) rfl).trans ?_
            refine (Own.P.goto K17.here K17.exec 101 (hb hby at_97) (by decide) (by decide)).trans ?_
            exact Go.refl _
          rw [own_e1 q]; exact S23
        case neg =>
          have S24 : Go p e below A0 (T17.setTop (mkF m 101 #[.val (.int a), .val (.int b'), .val (.int d), .val (.int s'), .val (.int e'), .val (.int c0), .val (.int c1), .val (.int c2), .val (.ref ca), .val (.ref sq), .val (.int (0 : Int32)), .val (.int c0), .unset, .unset] [(.int (0 : Int32))])) := by
            refine S22.trans ?_
            refine (Own.P.icmpYes K17.here K17.exec 100 (hb hby at_93) (XT.ii_ne_t q) (by decide) (by decide)).trans ?_
            refine (Own.P.iconst K17.here K17.exec (0 : Int32) (hb hby at_100) rfl).trans ?_
            exact Go.refl _
          rw [own_e0 q]; exact S24
      have S25 : Go p e below A0 (T17.setTop (mkF m 103 #[.val (.int a), .val (.int b'), .val (.int d), .val (.int s'), .val (.int e'), .val (.int c0), .val (.int c1), .val (.int c2), .val (.ref ca), .val (.ref sq), .val (.int (0 : Int32)), .val (.int c0), .val (.int (own_e c0)), .unset] [])) := by
        refine Se.trans ?_
        refine (Own.P.istore K17.here K17.exec (l' := #[.val (.int a), .val (.int b'), .val (.int d), .val (.int s'), .val (.int e'), .val (.int c0), .val (.int c1), .val (.int c2), .val (.ref ca), .val (.ref sq), .val (.int (0 : Int32)), .val (.int c0), .val (.int (own_e c0)), .unset]) (hb hby at_101) rfl).trans ?_
        exact Go.refl _
      obtain ⟨T26, h26, tk, K26, E26, g_tk, l_tk, ne_tk, X_tk, D_tk, G26⟩ := K17.newO (hw _ (List.mem_of_getElem? (i := 37) rfl)) (hw _ (List.mem_of_getElem? (i := 38) rfl)) (hw _ (List.mem_of_getElem? (i := 39) rfl)) (pc := 103) (Ls := #[.val (.int a), .val (.int b'), .val (.int d), .val (.int s'), .val (.int e'), .val (.int c0), .val (.int c1), .val (.int c2), .val (.ref ca), .val (.ref sq), .val (.int (0 : Int32)), .val (.int c0), .val (.int (own_e c0)), .unset]) (rest := []) (hb hby at_103) (by decide) (by decide)
      have S26 : Go p e below A0 (T26.setTop (mkF m 106 #[.val (.int a), .val (.int b'), .val (.int d), .val (.int s'), .val (.int e'), .val (.int c0), .val (.int c1), .val (.int c2), .val (.ref ca), .val (.ref sq), .val (.int (0 : Int32)), .val (.int c0), .val (.int (own_e c0)), .unset] [(.ref tk)])) := S25.trans G26
      have SU1 := SU.keep ((Keep.refl _ []).ext E26)
      have gt : n0 ≤ tk := Nat.le_trans K0.2.2.2.1 g_tk
      have B0 := TkAt.new hw X_tk D_tk
      have S27 : Go p e below A0 (T26.setTop (mkF m 111 #[.val (.int a), .val (.int b'), .val (.int d), .val (.int s'), .val (.int e'), .val (.int c0), .val (.int c1), .val (.int c2), .val (.ref ca), .val (.ref sq), .val (.int (0 : Int32)), .val (.int c0), .val (.int (own_e c0)), .unset] [(.int e'), (.int (0 : Int32)), (.ref tk), (.ref tk)])) := by
        refine S26.trans ?_
        refine (Own.P.dup K26.here K26.exec (hb hby at_106) rfl).trans ?_
        refine (Own.P.iload K26.here K26.exec (hb hby at_107) rfl).trans ?_
        refine (Own.P.iload K26.here K26.exec (hb hby at_109) rfl).trans ?_
        exact Go.refl _
      obtain ⟨v28, vm28, vq28, T28, h28, K28, KK28, ev28, Q28, G28⟩ := K26.callI (y := (⟨"com/example/tautolog/tautolog/sql/Statements$Token", "<init>", "(II)V"⟩ : MethodName)) rfl (hw _ (List.mem_of_getElem? (i := 40) rfl)) (hw _ (List.mem_of_getElem? (i := 41) rfl)) (hw _ (List.mem_of_getElem? (i := 42) rfl)) (by decide) (W := 1) (a := tk) (argsL := [(.int (0 : Int32)), (.int e')]) (rest := [(.ref tk)]) ((c_tok l Z a0 hw n0 h26 (K26.old) tk 0 e' B0 gt).pay Own.VT.cl (hw _ (List.mem_of_getElem? (i := 42) rfl)) (hw _ (List.mem_of_getElem? (i := 39) rfl)) (by decide) (by decide)) trivial (pc := 111) (Ls := #[.val (.int a), .val (.int b'), .val (.int d), .val (.int s'), .val (.int e'), .val (.int c0), .val (.int c1), .val (.int c2), .val (.ref ca), .val (.ref sq), .val (.int (0 : Int32)), .val (.int c0), .val (.int (own_e c0)), .unset]) (st := [(.int e'), (.int (0 : Int32)), (.ref tk), (.ref tk)]) (by rw [hml]; rfl) (lenOf pd_10 rfl) rfl (Nat.le_of_eq rfl) (hb hby at_111) (by decide) (by decide) (allS (Or.inr g_tk) all0)
      obtain ⟨rfl, B1⟩ := Q28
      have S28 : Go p e below A0 (T28.setTop (mkF m 114 #[.val (.int a), .val (.int b'), .val (.int d), .val (.int s'), .val (.int e'), .val (.int c0), .val (.int c1), .val (.int c2), .val (.ref ca), .val (.ref sq), .val (.int (0 : Int32)), .val (.int c0), .val (.int (own_e c0)), .unset] [(.ref tk)])) := S27.trans G28
      have SU2 := SU.keep (((Keep.refl _ []).ext E26).trans KK28 (allS (Or.inr l_tk) all0))
      have S29 : Go p e below A0 (T28.setTop (mkF m 120 #[.val (.int a), .val (.int b'), .val (.int d), .val (.int s'), .val (.int e'), .val (.int c0), .val (.int c1), .val (.int c2), .val (.ref ca), .val (.ref sq), .val (.int (0 : Int32)), .val (.int c0), .val (.int (own_e c0)), .val (.ref tk)] [(.ref sq), (.ref tk)])) := by
        refine S28.trans ?_
        refine (Own.P.astore K28.here K28.exec (l' := #[.val (.int a), .val (.int b'), .val (.int d), .val (.int s'), .val (.int e'), .val (.int c0), .val (.int c1), .val (.int c2), .val (.ref ca), .val (.ref sq), .val (.int (0 : Int32)), .val (.int c0), .val (.int (own_e c0)), .val (.ref tk)]) (hb hby at_114) rfl rfl).trans ?_
        refine (Own.P.aload K28.here K28.exec (hb hby at_116) rfl rfl).trans ?_
        refine (Own.P.aload K28.here K28.exec (hb hby at_118) rfl rfl).trans ?_
        exact Go.refl _
      obtain ⟨v30, vm30, vq30, T30, h30, K30, KK30, ev30, Q30, G30⟩ := K28.callV (C := "com/example/tautolog/tautolog/sql/Statements$Token") (y := (⟨"com/example/tautolog/tautolog/sql/Statements$Token", "isShellCommand", "(Ljava/lang/String;)Z"⟩ : MethodName)) (z := (⟨"com/example/tautolog/tautolog/sql/Statements$Token", "isShellCommand", "(Ljava/lang/String;)Z"⟩ : MethodName)) (hw _ (List.mem_of_getElem? (i := 53) rfl)) (hw _ (List.mem_of_getElem? (i := 54) rfl)) (hw _ (List.mem_of_getElem? (i := 56) rfl)) (Or.inr (Or.inr rfl)) (hw _ (List.mem_of_getElem? (i := 55) rfl)) (by decide) (W := 0) B1.1 (argsL := [(.ref sq)]) (rest := []) ((c_isc0 l Z a0 hw n0 h28 (K28.old) A1 A2 A3 fm rf SF tk sq e' B1 c0 c1 c2 r0 r1 r2 SU2 zc hzc SC).pay Own.VT.cl (hw _ (List.mem_of_getElem? (i := 57) rfl)) (hw _ (List.mem_of_getElem? (i := 39) rfl)) (by decide) (by decide)) trivial (pc := 120) (Ls := #[.val (.int a), .val (.int b'), .val (.int d), .val (.int s'), .val (.int e'), .val (.int c0), .val (.int c1), .val (.int c2), .val (.ref ca), .val (.ref sq), .val (.int (0 : Int32)), .val (.int c0), .val (.int (own_e c0)), .val (.ref tk)]) (st := [(.ref sq), (.ref tk)]) (by rw [hml]; rfl) (lenOf pd_16 rfl) rfl (Nat.le_of_eq rfl) (hb hby at_120) (by decide) (by decide) all0
      obtain ⟨rfl, e30⟩ := Q30
      have S30 : Go p e below A0 (T30.setTop (mkF m 123 #[.val (.int a), .val (.int b'), .val (.int d), .val (.int s'), .val (.int e'), .val (.int c0), .val (.int c1), .val (.int c2), .val (.ref ca), .val (.ref sq), .val (.int (0 : Int32)), .val (.int c0), .val (.int (own_e c0)), .val (.ref tk)] [(.int (own_e c0))])) := S29.trans G30
      subst e30
      have S31 : Go p e below A0 (T30.setTop (mkF m 133 #[.val (.int a), .val (.int b'), .val (.int d), .val (.int s'), .val (.int e'), .val (.int c0), .val (.int c1), .val (.int c2), .val (.ref ca), .val (.ref sq), .val (.int (0 : Int32)), .val (.int c0), .val (.int (own_e c0)), .val (.ref tk)] [(.int (1 : Int32))])) := by
        refine S30.trans ?_
        refine (Own.P.iload K30.here K30.exec (hb hby at_123) rfl).trans ?_
        refine (Own.P.icmpNo K30.here K30.exec (hb hby at_125) (XT.ii_ne_f rfl)).trans ?_
        refine (Own.P.iconst K30.here K30.exec (1 : Int32) (hb hby at_128) rfl).trans ?_
        refine (Own.P.goto K30.here K30.exec 133 (hb hby at_129) (by decide) (by decide)).trans ?_
        exact Go.refl _
      exact ⟨vm30, T30, h30, (some (.int (1 : Int32))), _, _, K30, by decide, by decide, ⟨rfl, trivial⟩, K30.retW S31 hret rfl (Or.inl ⟨rfl, by decide, _, rfl⟩) (hb hby at_133)⟩
  case inr.inl =>
      have S32 : Go p e below A0 (T17.setTop (mkF m 93 #[.val (.int a), .val (.int b'), .val (.int d), .val (.int s'), .val (.int e'), .val (.int c0), .val (.int c1), .val (.int c2), .val (.ref ca), .val (.ref sq), .val (.int (1 : Int32)), .val (.int c1), .unset, .unset] [(.int (92 : Int32)), (.int c1)])) := by
        refine S21.trans ?_
        refine (Own.P.iload K17.here K17.exec (hb hby at_60) rfl).trans ?_
        refine (Own.P.ifYes K17.here K17.exec 72 (hb hby at_62) (by decide) (by decide) (by decide)).trans ?_
        refine (Own.P.iload K17.here K17.exec (hb hby at_72) rfl).trans ?_
        refine (Own.P.iconst K17.here K17.exec (1 : Int32) (hb hby at_74) rfl).trans ?_
        refine (Own.P.icmpNo K17.here K17.exec (hb hby at_75) (by decide)).trans ?_
        refine (Own.P.iload K17.here K17.exec (hb hby at_78) rfl).trans ?_
        refine (Own.P.istore K17.here K17.exec (l' := #[.val (.int a), .val (.int b'), .val (.int d), .val (.int s'), .val (.int e'), .val (.int c0), .val (.int c1), .val (.int c2), .val (.ref ca), .val (.ref sq), .val (.int (1 : Int32)), .val (.int c1), .unset, .unset]) (hb hby at_80) rfl).trans ?_
        refine (Own.P.goto K17.here K17.exec 89 (hb hby at_82) (by decide) (by decide)).trans ?_
        refine (Own.P.iload K17.here K17.exec (hb hby at_89) rfl).trans ?_
        refine (Own.P.bipush K17.here K17.exec (92 : Int32) (hb hby at_91) rfl).trans ?_
        exact Go.refl _
      have Se : Go p e below A0 (T17.setTop (mkF m 101 #[.val (.int a), .val (.int b'), .val (.int d), .val (.int s'), .val (.int e'), .val (.int c0), .val (.int c1), .val (.int c2), .val (.ref ca), .val (.ref sq), .val (.int (1 : Int32)), .val (.int c1), .unset, .unset] [(.int (own_e c1))])) := by
        by_cases q : c1 = 92
        case pos =>
          have S33 : Go p e below A0 (T17.setTop (mkF m 101 #[.val (.int a), .val (.int b'), .val (.int d), .val (.int s'), .val (.int e'), .val (.int c0), .val (.int c1), .val (.int c2), .val (.ref ca), .val (.ref sq), .val (.int (1 : Int32)), .val (.int c1), .unset, .unset] [(.int (1 : Int32))])) := by
            refine S32.trans ?_
            refine (Own.P.icmpNo K17.here K17.exec (hb hby at_93) (XT.ii_ne_f q)).trans ?_
            refine (Own.P.iconst K17.here K17.exec (1 : Int32) (hb hby at_96) rfl).trans ?_
            refine (Own.P.goto K17.here K17.exec 101 (hb hby at_97) (by decide) (by decide)).trans ?_
            exact Go.refl _
          rw [own_e1 q]; exact S33
        case neg =>
          have S34 : Go p e below A0 (T17.setTop (mkF m 101 #[.val (.int a), .val (.int b'), .val (.int d), .val (.int s'), .val (.int e'), .val (.int c0), .val (.int c1), .val (.int c2), .val (.ref ca), .val (.ref sq), .val (.int (1 : Int32)), .val (.int c1), .unset, .unset] [(.int (0 : Int32))])) := by
            refine S32.trans ?_
            refine (Own.P.icmpYes K17.here K17.exec 100 (hb hby at_93) (XT.ii_ne_t q) (by decide) (by decide)).trans ?_
            refine (Own.P.iconst K17.here K17.exec (0 : Int32) (hb hby at_100) rfl).trans ?_
            exact Go.refl _
          rw [own_e0 q]; exact S34
      have S35 : Go p e below A0 (T17.setTop (mkF m 103 #[.val (.int a), .val (.int b'), .val (.int d), .val (.int s'), .val (.int e'), .val (.int c0), .val (.int c1), .val (.int c2), .val (.ref ca), .val (.ref sq), .val (.int (1 : Int32)), .val (.int c1), .val (.int (own_e c1)), .unset] [])) := by
        refine Se.trans ?_
        refine (Own.P.istore K17.here K17.exec (l' := #[.val (.int a), .val (.int b'), .val (.int d), .val (.int s'), .val (.int e'), .val (.int c0), .val (.int c1), .val (.int c2), .val (.ref ca), .val (.ref sq), .val (.int (1 : Int32)), .val (.int c1), .val (.int (own_e c1)), .unset]) (hb hby at_101) rfl).trans ?_
        exact Go.refl _
      obtain ⟨T36, h36, tk, K36, E36, g_tk, l_tk, ne_tk, X_tk, D_tk, G36⟩ := K17.newO (hw _ (List.mem_of_getElem? (i := 37) rfl)) (hw _ (List.mem_of_getElem? (i := 38) rfl)) (hw _ (List.mem_of_getElem? (i := 39) rfl)) (pc := 103) (Ls := #[.val (.int a), .val (.int b'), .val (.int d), .val (.int s'), .val (.int e'), .val (.int c0), .val (.int c1), .val (.int c2), .val (.ref ca), .val (.ref sq), .val (.int (1 : Int32)), .val (.int c1), .val (.int (own_e c1)), .unset]) (rest := []) (hb hby at_103) (by decide) (by decide)
      have S36 : Go p e below A0 (T36.setTop (mkF m 106 #[.val (.int a), .val (.int b'), .val (.int d), .val (.int s'), .val (.int e'), .val (.int c0), .val (.int c1), .val (.int c2), .val (.ref ca), .val (.ref sq), .val (.int (1 : Int32)), .val (.int c1), .val (.int (own_e c1)), .unset] [(.ref tk)])) := S35.trans G36
      have SU1 := SU.keep ((Keep.refl _ []).ext E36)
      have gt : n0 ≤ tk := Nat.le_trans K0.2.2.2.1 g_tk
      have B0 := TkAt.new hw X_tk D_tk
      have S37 : Go p e below A0 (T36.setTop (mkF m 111 #[.val (.int a), .val (.int b'), .val (.int d), .val (.int s'), .val (.int e'), .val (.int c0), .val (.int c1), .val (.int c2), .val (.ref ca), .val (.ref sq), .val (.int (1 : Int32)), .val (.int c1), .val (.int (own_e c1)), .unset] [(.int e'), (.int (1 : Int32)), (.ref tk), (.ref tk)])) := by
        refine S36.trans ?_
        refine (Own.P.dup K36.here K36.exec (hb hby at_106) rfl).trans ?_
        refine (Own.P.iload K36.here K36.exec (hb hby at_107) rfl).trans ?_
        refine (Own.P.iload K36.here K36.exec (hb hby at_109) rfl).trans ?_
        exact Go.refl _
      obtain ⟨v38, vm38, vq38, T38, h38, K38, KK38, ev38, Q38, G38⟩ := K36.callI (y := (⟨"com/example/tautolog/tautolog/sql/Statements$Token", "<init>", "(II)V"⟩ : MethodName)) rfl (hw _ (List.mem_of_getElem? (i := 40) rfl)) (hw _ (List.mem_of_getElem? (i := 41) rfl)) (hw _ (List.mem_of_getElem? (i := 42) rfl)) (by decide) (W := 1) (a := tk) (argsL := [(.int (1 : Int32)), (.int e')]) (rest := [(.ref tk)]) ((c_tok l Z a0 hw n0 h36 (K36.old) tk 1 e' B0 gt).pay Own.VT.cl (hw _ (List.mem_of_getElem? (i := 42) rfl)) (hw _ (List.mem_of_getElem? (i := 39) rfl)) (by decide) (by decide)) trivial (pc := 111) (Ls := #[.val (.int a), .val (.int b'), .val (.int d), .val (.int s'), .val (.int e'), .val (.int c0), .val (.int c1), .val (.int c2), .val (.ref ca), .val (.ref sq), .val (.int (1 : Int32)), .val (.int c1), .val (.int (own_e c1)), .unset]) (st := [(.int e'), (.int (1 : Int32)), (.ref tk), (.ref tk)]) (by rw [hml]; rfl) (lenOf pd_10 rfl) rfl (Nat.le_of_eq rfl) (hb hby at_111) (by decide) (by decide) (allS (Or.inr g_tk) all0)
      obtain ⟨rfl, B1⟩ := Q38
      have S38 : Go p e below A0 (T38.setTop (mkF m 114 #[.val (.int a), .val (.int b'), .val (.int d), .val (.int s'), .val (.int e'), .val (.int c0), .val (.int c1), .val (.int c2), .val (.ref ca), .val (.ref sq), .val (.int (1 : Int32)), .val (.int c1), .val (.int (own_e c1)), .unset] [(.ref tk)])) := S37.trans G38
      have SU2 := SU.keep (((Keep.refl _ []).ext E36).trans KK38 (allS (Or.inr l_tk) all0))
      have S39 : Go p e below A0 (T38.setTop (mkF m 120 #[.val (.int a), .val (.int b'), .val (.int d), .val (.int s'), .val (.int e'), .val (.int c0), .val (.int c1), .val (.int c2), .val (.ref ca), .val (.ref sq), .val (.int (1 : Int32)), .val (.int c1), .val (.int (own_e c1)), .val (.ref tk)] [(.ref sq), (.ref tk)])) := by
        refine S38.trans ?_
        refine (Own.P.astore K38.here K38.exec (l' := #[.val (.int a), .val (.int b'), .val (.int d), .val (.int s'), .val (.int e'), .val (.int c0), .val (.int c1), .val (.int c2), .val (.ref ca), .val (.ref sq), .val (.int (1 : Int32)), .val (.int c1), .val (.int (own_e c1)), .val (.ref tk)]) (hb hby at_114) rfl rfl).trans ?_
        refine (Own.P.aload K38.here K38.exec (hb hby at_116) rfl rfl).trans ?_
        refine (Own.P.aload K38.here K38.exec (hb hby at_118) rfl rfl).trans ?_
        exact Go.refl _
      obtain ⟨v40, vm40, vq40, T40, h40, K40, KK40, ev40, Q40, G40⟩ := K38.callV (C := "com/example/tautolog/tautolog/sql/Statements$Token") (y := (⟨"com/example/tautolog/tautolog/sql/Statements$Token", "isShellCommand", "(Ljava/lang/String;)Z"⟩ : MethodName)) (z := (⟨"com/example/tautolog/tautolog/sql/Statements$Token", "isShellCommand", "(Ljava/lang/String;)Z"⟩ : MethodName)) (hw _ (List.mem_of_getElem? (i := 53) rfl)) (hw _ (List.mem_of_getElem? (i := 54) rfl)) (hw _ (List.mem_of_getElem? (i := 56) rfl)) (Or.inr (Or.inr rfl)) (hw _ (List.mem_of_getElem? (i := 55) rfl)) (by decide) (W := 0) B1.1 (argsL := [(.ref sq)]) (rest := []) ((c_isc1 l Z a0 hw n0 h38 (K38.old) A1 A2 A3 fm rf SF tk sq e' B1 c0 c1 c2 r0 r1 r2 SU2 zc hzc SC).pay Own.VT.cl (hw _ (List.mem_of_getElem? (i := 57) rfl)) (hw _ (List.mem_of_getElem? (i := 39) rfl)) (by decide) (by decide)) trivial (pc := 120) (Ls := #[.val (.int a), .val (.int b'), .val (.int d), .val (.int s'), .val (.int e'), .val (.int c0), .val (.int c1), .val (.int c2), .val (.ref ca), .val (.ref sq), .val (.int (1 : Int32)), .val (.int c1), .val (.int (own_e c1)), .val (.ref tk)]) (st := [(.ref sq), (.ref tk)]) (by rw [hml]; rfl) (lenOf pd_16 rfl) rfl (Nat.le_of_eq rfl) (hb hby at_120) (by decide) (by decide) all0
      obtain ⟨rfl, e40⟩ := Q40
      have S40 : Go p e below A0 (T40.setTop (mkF m 123 #[.val (.int a), .val (.int b'), .val (.int d), .val (.int s'), .val (.int e'), .val (.int c0), .val (.int c1), .val (.int c2), .val (.ref ca), .val (.ref sq), .val (.int (1 : Int32)), .val (.int c1), .val (.int (own_e c1)), .val (.ref tk)] [(.int (own_e c1))])) := S39.trans G40
      subst e40
      have S41 : Go p e below A0 (T40.setTop (mkF m 133 #[.val (.int a), .val (.int b'), .val (.int d), .val (.int s'), .val (.int e'), .val (.int c0), .val (.int c1), .val (.int c2), .val (.ref ca), .val (.ref sq), .val (.int (1 : Int32)), .val (.int c1), .val (.int (own_e c1)), .val (.ref tk)] [(.int (1 : Int32))])) := by
        refine S40.trans ?_
        refine (Own.P.iload K40.here K40.exec (hb hby at_123) rfl).trans ?_
        refine (Own.P.icmpNo K40.here K40.exec (hb hby at_125) (XT.ii_ne_f rfl)).trans ?_
        refine (Own.P.iconst K40.here K40.exec (1 : Int32) (hb hby at_128) rfl).trans ?_
        refine (Own.P.goto K40.here K40.exec 133 (hb hby at_129) (by decide) (by decide)).trans ?_
        exact Go.refl _
      exact ⟨vm40, T40, h40, (some (.int (1 : Int32))), _, _, K40, by decide, by decide, ⟨rfl, trivial⟩, K40.retW S41 hret rfl (Or.inl ⟨rfl, by decide, _, rfl⟩) (hb hby at_133)⟩
  case inr.inr =>
      have S42 : Go p e below A0 (T17.setTop (mkF m 93 #[.val (.int a), .val (.int b'), .val (.int d), .val (.int s'), .val (.int e'), .val (.int c0), .val (.int c1), .val (.int c2), .val (.ref ca), .val (.ref sq), .val (.int (2 : Int32)), .val (.int c2), .unset, .unset] [(.int (92 : Int32)), (.int c2)])) := by
        refine S21.trans ?_
        refine (Own.P.iload K17.here K17.exec (hb hby at_60) rfl).trans ?_
        refine (Own.P.ifYes K17.here K17.exec 72 (hb hby at_62) (by decide) (by decide) (by decide)).trans ?_
        refine (Own.P.iload K17.here K17.exec (hb hby at_72) rfl).trans ?_
        refine (Own.P.iconst K17.here K17.exec (1 : Int32) (hb hby at_74) rfl).trans ?_
        refine (Own.P.icmpYes K17.here K17.exec 85 (hb hby at_75) (by decide) (by decide) (by decide)).trans ?_
        refine (Own.P.iload K17.here K17.exec (hb hby at_85) rfl).trans ?_
        refine (Own.P.istore K17.here K17.exec (l' := #[.val (.int a), .val (.int b'), .val (.int d), .val (.int s'), .val (.int e'), .val (.int c0), .val (.int c1), .val (.int c2), .val (.ref ca), .val (.ref sq), .val (.int (2 : Int32)), .val (.int c2), .unset, .unset]) (hb hby at_87) rfl).trans ?_
        refine (Own.P.iload K17.here K17.exec (hb hby at_89) rfl).trans ?_
        refine (Own.P.bipush K17.here K17.exec (92 : Int32) (hb hby at_91) rfl).trans ?_
        exact Go.refl _
      have Se : Go p e below A0 (T17.setTop (mkF m 101 #[.val (.int a), .val (.int b'), .val (.int d), .val (.int s'), .val (.int e'), .val (.int c0), .val (.int c1), .val (.int c2), .val (.ref ca), .val (.ref sq), .val (.int (2 : Int32)), .val (.int c2), .unset, .unset] [(.int (own_e c2))])) := by
        by_cases q : c2 = 92
        case pos =>
          have S43 : Go p e below A0 (T17.setTop (mkF m 101 #[.val (.int a), .val (.int b'), .val (.int d), .val (.int s'), .val (.int e'), .val (.int c0), .val (.int c1), .val (.int c2), .val (.ref ca), .val (.ref sq), .val (.int (2 : Int32)), .val (.int c2), .unset, .unset] [(.int (1 : Int32))])) := by
            refine S42.trans ?_
            refine (Own.P.icmpNo K17.here K17.exec (hb hby at_93) (XT.ii_ne_f q)).trans ?_
            refine (Own.P.iconst K17.here K17.exec (1 : Int32) (hb hby at_96) rfl).trans ?_
            refine (Own.P.goto K17.here K17.exec 101 (hb hby at_97) (by decide) (by decide)).trans ?_
            exact Go.refl _
          rw [own_e1 q]; exact S43
        case neg =>
          have S44 : Go p e below A0 (T17.setTop (mkF m 101 #[.val (.int a), .val (.int b'), .val (.int d), .val (.int s'), .val (.int e'), .val (.int c0), .val (.int c1), .val (.int c2), .val (.ref ca), .val (.ref sq), .val (.int (2 : Int32)), .val (.int c2), .unset, .unset] [(.int (0 : Int32))])) := by
            refine S42.trans ?_
            refine (Own.P.icmpYes K17.here K17.exec 100 (hb hby at_93) (XT.ii_ne_t q) (by decide) (by decide)).trans ?_
            refine (Own.P.iconst K17.here K17.exec (0 : Int32) (hb hby at_100) rfl).trans ?_
            exact Go.refl _
          rw [own_e0 q]; exact S44
      have S45 : Go p e below A0 (T17.setTop (mkF m 103 #[.val (.int a), .val (.int b'), .val (.int d), .val (.int s'), .val (.int e'), .val (.int c0), .val (.int c1), .val (.int c2), .val (.ref ca), .val (.ref sq), .val (.int (2 : Int32)), .val (.int c2), .val (.int (own_e c2)), .unset] [])) := by
        refine Se.trans ?_
        refine (Own.P.istore K17.here K17.exec (l' := #[.val (.int a), .val (.int b'), .val (.int d), .val (.int s'), .val (.int e'), .val (.int c0), .val (.int c1), .val (.int c2), .val (.ref ca), .val (.ref sq), .val (.int (2 : Int32)), .val (.int c2), .val (.int (own_e c2)), .unset]) (hb hby at_101) rfl).trans ?_
        exact Go.refl _
      obtain ⟨T46, h46, tk, K46, E46, g_tk, l_tk, ne_tk, X_tk, D_tk, G46⟩ := K17.newO (hw _ (List.mem_of_getElem? (i := 37) rfl)) (hw _ (List.mem_of_getElem? (i := 38) rfl)) (hw _ (List.mem_of_getElem? (i := 39) rfl)) (pc := 103) (Ls := #[.val (.int a), .val (.int b'), .val (.int d), .val (.int s'), .val (.int e'), .val (.int c0), .val (.int c1), .val (.int c2), .val (.ref ca), .val (.ref sq), .val (.int (2 : Int32)), .val (.int c2), .val (.int (own_e c2)), .unset]) (rest := []) (hb hby at_103) (by decide) (by decide)
      have S46 : Go p e below A0 (T46.setTop (mkF m 106 #[.val (.int a), .val (.int b'), .val (.int d), .val (.int s'), .val (.int e'), .val (.int c0), .val (.int c1), .val (.int c2), .val (.ref ca), .val (.ref sq), .val (.int (2 : Int32)), .val (.int c2), .val (.int (own_e c2)), .unset] [(.ref tk)])) := S45.trans G46
      have SU1 := SU.keep ((Keep.refl _ []).ext E46)
      have gt : n0 ≤ tk := Nat.le_trans K0.2.2.2.1 g_tk
      have B0 := TkAt.new hw X_tk D_tk
      have S47 : Go p e below A0 (T46.setTop (mkF m 111 #[.val (.int a), .val (.int b'), .val (.int d), .val (.int s'), .val (.int e'), .val (.int c0), .val (.int c1), .val (.int c2), .val (.ref ca), .val (.ref sq), .val (.int (2 : Int32)), .val (.int c2), .val (.int (own_e c2)), .unset] [(.int e'), (.int (2 : Int32)), (.ref tk), (.ref tk)])) := by
        refine S46.trans ?_
        refine (Own.P.dup K46.here K46.exec (hb hby at_106) rfl).trans ?_
        refine (Own.P.iload K46.here K46.exec (hb hby at_107) rfl).trans ?_
        refine (Own.P.iload K46.here K46.exec (hb hby at_109) rfl).trans ?_
        exact Go.refl _
      obtain ⟨v48, vm48, vq48, T48, h48, K48, KK48, ev48, Q48, G48⟩ := K46.callI (y := (⟨"com/example/tautolog/tautolog/sql/Statements$Token", "<init>", "(II)V"⟩ : MethodName)) rfl (hw _ (List.mem_of_getElem? (i := 40) rfl)) (hw _ (List.mem_of_getElem? (i := 41) rfl)) (hw _ (List.mem_of_getElem? (i := 42) rfl)) (by decide) (W := 1) (a := tk) (argsL := [(.int (2 : Int32)), (.int e')]) (rest := [(.ref tk)]) ((c_tok l Z a0 hw n0 h46 (K46.old) tk 2 e' B0 gt).pay Own.VT.cl (hw _ (List.mem_of_getElem? (i := 42) rfl)) (hw _ (List.mem_of_getElem? (i := 39) rfl)) (by decide) (by decide)) trivial (pc := 111) (Ls := #[.val (.int a), .val (.int b'), .val (.int d), .val (.int s'), .val (.int e'), .val (.int c0), .val (.int c1), .val (.int c2), .val (.ref ca), .val (.ref sq), .val (.int (2 : Int32)), .val (.int c2), .val (.int (own_e c2)), .unset]) (st := [(.int e'), (.int (2 : Int32)), (.ref tk), (.ref tk)]) (by rw [hml]; rfl) (lenOf pd_10 rfl) rfl (Nat.le_of_eq rfl) (hb hby at_111) (by decide) (by decide) (allS (Or.inr g_tk) all0)
      obtain ⟨rfl, B1⟩ := Q48
      have S48 : Go p e below A0 (T48.setTop (mkF m 114 #[.val (.int a), .val (.int b'), .val (.int d), .val (.int s'), .val (.int e'), .val (.int c0), .val (.int c1), .val (.int c2), .val (.ref ca), .val (.ref sq), .val (.int (2 : Int32)), .val (.int c2), .val (.int (own_e c2)), .unset] [(.ref tk)])) := S47.trans G48
      have SU2 := SU.keep (((Keep.refl _ []).ext E46).trans KK48 (allS (Or.inr l_tk) all0))
      have S49 : Go p e below A0 (T48.setTop (mkF m 120 #[.val (.int a), .val (.int b'), .val (.int d), .val (.int s'), .val (.int e'), .val (.int c0), .val (.int c1), .val (.int c2), .val (.ref ca), .val (.ref sq), .val (.int (2 : Int32)), .val (.int c2), .val (.int (own_e c2)), .val (.ref tk)] [(.ref sq), (.ref tk)])) := by
        refine S48.trans ?_
        refine (Own.P.astore K48.here K48.exec (l' := #[.val (.int a), .val (.int b'), .val (.int d), .val (.int s'), .val (.int e'), .val (.int c0), .val (.int c1), .val (.int c2), .val (.ref ca), .val (.ref sq), .val (.int (2 : Int32)), .val (.int c2), .val (.int (own_e c2)), .val (.ref tk)]) (hb hby at_114) rfl rfl).trans ?_
        refine (Own.P.aload K48.here K48.exec (hb hby at_116) rfl rfl).trans ?_
        refine (Own.P.aload K48.here K48.exec (hb hby at_118) rfl rfl).trans ?_
        exact Go.refl _
      obtain ⟨v50, vm50, vq50, T50, h50, K50, KK50, ev50, Q50, G50⟩ := K48.callV (C := "com/example/tautolog/tautolog/sql/Statements$Token") (y := (⟨"com/example/tautolog/tautolog/sql/Statements$Token", "isShellCommand", "(Ljava/lang/String;)Z"⟩ : MethodName)) (z := (⟨"com/example/tautolog/tautolog/sql/Statements$Token", "isShellCommand", "(Ljava/lang/String;)Z"⟩ : MethodName)) (hw _ (List.mem_of_getElem? (i := 53) rfl)) (hw _ (List.mem_of_getElem? (i := 54) rfl)) (hw _ (List.mem_of_getElem? (i := 56) rfl)) (Or.inr (Or.inr rfl)) (hw _ (List.mem_of_getElem? (i := 55) rfl)) (by decide) (W := 0) B1.1 (argsL := [(.ref sq)]) (rest := []) ((c_isc2 l Z a0 hw n0 h48 (K48.old) A1 A2 A3 fm rf SF tk sq e' B1 c0 c1 c2 r0 r1 r2 SU2 zc hzc SC).pay Own.VT.cl (hw _ (List.mem_of_getElem? (i := 57) rfl)) (hw _ (List.mem_of_getElem? (i := 39) rfl)) (by decide) (by decide)) trivial (pc := 120) (Ls := #[.val (.int a), .val (.int b'), .val (.int d), .val (.int s'), .val (.int e'), .val (.int c0), .val (.int c1), .val (.int c2), .val (.ref ca), .val (.ref sq), .val (.int (2 : Int32)), .val (.int c2), .val (.int (own_e c2)), .val (.ref tk)]) (st := [(.ref sq), (.ref tk)]) (by rw [hml]; rfl) (lenOf pd_16 rfl) rfl (Nat.le_of_eq rfl) (hb hby at_120) (by decide) (by decide) all0
      obtain ⟨rfl, e50⟩ := Q50
      have S50 : Go p e below A0 (T50.setTop (mkF m 123 #[.val (.int a), .val (.int b'), .val (.int d), .val (.int s'), .val (.int e'), .val (.int c0), .val (.int c1), .val (.int c2), .val (.ref ca), .val (.ref sq), .val (.int (2 : Int32)), .val (.int c2), .val (.int (own_e c2)), .val (.ref tk)] [(.int (own_e c2))])) := S49.trans G50
      subst e50
      have S51 : Go p e below A0 (T50.setTop (mkF m 133 #[.val (.int a), .val (.int b'), .val (.int d), .val (.int s'), .val (.int e'), .val (.int c0), .val (.int c1), .val (.int c2), .val (.ref ca), .val (.ref sq), .val (.int (2 : Int32)), .val (.int c2), .val (.int (own_e c2)), .val (.ref tk)] [(.int (1 : Int32))])) := by
        refine S50.trans ?_
        refine (Own.P.iload K50.here K50.exec (hb hby at_123) rfl).trans ?_
        refine (Own.P.icmpNo K50.here K50.exec (hb hby at_125) (XT.ii_ne_f rfl)).trans ?_
        refine (Own.P.iconst K50.here K50.exec (1 : Int32) (hb hby at_128) rfl).trans ?_
        refine (Own.P.goto K50.here K50.exec 133 (hb hby at_129) (by decide) (by decide)).trans ?_
        exact Go.refl _
      exact ⟨vm50, T50, h50, (some (.int (1 : Int32))), _, _, K50, by decide, by decide, ⟨rfl, trivial⟩, K50.retW S51 hret rfl (Or.inl ⟨rfl, by decide, _, rfl⟩) (hb hby at_133)⟩
set_option maxRecDepth 65536 in
set_option maxHeartbeats 40000000 in
theorem comes_1 {Post : Tables → Env → Array Value → State → Outcome → State → Prop} (hpost : ∀ tb e args s v u, (limb_1_1.after args s (.returned v) u = true ∧ limb_1_2.after args s (.returned v) u = true ∧ True) → FrameEnd s (.returned v) u (Jvm.fieldLocs frame_1_writes args s ++ Jvm.arrayLocs frame_1_arrays args s ++ Jvm.staticLocs frame_1_statics s) 24 128 → Post tb e args s (.returned v) u) :
    ArmFor flags0 classFile x code maxLocals ret World_1 tables_1 room_1 Calls_1 rest_1 Pre_1 Post := by
  intro l hfl _ _ p e ha hc hk s m args below hf hA hF happ hP
  obtain ⟨hcalls, hrest, hpre⟩ := hP
  obtain ⟨-, -, -, hnamed, -, -, -, hat⟩ := (Spec.applies_iff hf).mp happ
  obtain ⟨hg, hn⟩ := and_e (Cond.before_iff.mp (show (Jvm.Cond.and given_1 narrow_1).before args s = true from hpre))
  obtain ⟨h1, g1⟩ := and_e hg
  obtain ⟨u0, g2⟩ := and_e g1
  obtain ⟨u1, g3⟩ := and_e g2
  obtain ⟨u2, g4⟩ := and_e g3
  obtain ⟨u3, u4⟩ := and_e g4
  obtain ⟨w0, w1, w2, w3, w4, rfl⟩ : ∃ w0 w1 w2 w3 w4 : Value, args = #[w0, w1, w2, w3, w4] := by
    have hs : args.size = 5 := by simpa [Cond.value, given_1] using h1
    obtain ⟨L⟩ := args
    match L, hs with
    | [w0, w1, w2, w3, w4], _ => exact ⟨w0, w1, w2, w3, w4, rfl⟩
  have hw := fun d (hd : d ∈ tables_1) => atoms_spec (ws := Jvm.Cond.code x code maxLocals ret :: tables_1) hat d (List.mem_cons_of_mem _ hd)
  obtain ⟨hsets, hown0⟩ := atoms_of _ (rest_1_c_eq ▸ (show rest_1_c.before _ s = true from hrest))
  have n5 := not_v (Cond.before_iff.mp (hsets _ (List.mem_of_getElem? (i := 2) rfl)))
  obtain ⟨i0, e0⟩ := is_v u0
  obtain rfl : w0 = (.int i0) := Option.some.inj e0
  obtain ⟨i1, e1⟩ := is_v u1
  obtain rfl : w1 = (.int i1) := Option.some.inj e1
  obtain ⟨i2, e2⟩ := is_v u2
  obtain rfl : w2 = (.int i2) := Option.some.inj e2
  obtain ⟨i3, e3⟩ := is_v u3
  obtain rfl : w3 = (.int i3) := Option.some.inj e3
  obtain ⟨i4, e4⟩ := is_v u4
  obtain rfl : w4 = (.int i4) := Option.some.inj e4
  obtain ⟨i11, e10⟩ := is_v (Cond.before_iff.mp (hsets _ (List.mem_of_getElem? (i := 1) rfl)))
  have S12 : Sta s s.heap "java/lang/String" "COMPACT_STRINGS" "Z" (.int i11) := Sta.start e10 (Or.inl (hsets _ (List.mem_of_getElem? (i := 0) rfl)))
  obtain ⟨v13, e14, r15⟩ := isR_v (Cond.before_iff.mp (hsets _ (List.mem_of_getElem? (i := 8) rfl)))
  have S16 : Sta s s.heap "jdk/internal/util/Preconditions" "SIOOBE_FORMATTER" "Ljava/util/function/BiFunction;" v13 := Sta.start e14 (Or.inl (hsets _ (List.mem_of_getElem? (i := 7) rfl)))
  have c17 : ¬ (i11 = (0 : Int32)) := gotF (Cond.eq_ints e10 (Term.int_eval (0))) n5
  have B1 : Sta s s.heap "java/lang/StringUTF16" "$assertionsDisabled" "Z" (.int 1) := Sta.start (Cond.eq_int (hsets _ (List.mem_of_getElem? (i := 12) rfl)) rfl) (Or.inl (hsets _ (List.mem_of_getElem? (i := 11) rfl)))
  have B2 : Sta s s.heap "java/lang/StringUTF16" "HI_BYTE_SHIFT" "I" (.int 0) := Sta.start (Cond.eq_int (hsets _ (List.mem_of_getElem? (i := 15) rfl)) rfl) (Or.inl (hsets _ (List.mem_of_getElem? (i := 14) rfl)))
  have B3 : Sta s s.heap "java/lang/StringUTF16" "LO_BYTE_SHIFT" "I" (.int 8) := Sta.start (Cond.eq_int (hsets _ (List.mem_of_getElem? (i := 18) rfl)) rfl) (Or.inl (hsets _ (List.mem_of_getElem? (i := 17) rfl)))
  obtain ⟨n, o, h1, h2, h3, v, L, rfl, ⟨⟨rfl, -⟩, -, NW⟩, hq⟩ := c_law l s _ hw s.heap.size s.heap (Old.start s) B1 B2 B3 v13 r15 S16 i0 i1 i2 i3 i4 i11 c17 S12 tables_1 p e ha hc hk s m _ below hf ((Spec.applies_iff_loose hf).mp happ).1 ⟨rfl, State.Warmed39.refl s, rfl, trivial⟩ trivial
  have N := NW.fr all0 (Nat.le_refl _)
  refine ⟨n, _, h1, h2, h3, hpost _ _ _ _ _ _ ⟨Cond.after_iff.mpr rfl, Cond.after_iff.mpr (eq_i res_at (Term.int_eval (1)) rfl), trivial⟩ ⟨hq.1, hq.2.1, (hq.2.2.sift fun y hy => Or.inr (N y hy)).mono (by decide) (by decide)⟩⟩
theorem main_1_1 : Claimed_1_1 := comes_1 fun _ _ _ _ _ _ h hF => ⟨h.1, hF⟩
theorem main_1_2 : Claimed_1_2 := comes_1 fun _ _ _ _ _ _ h hF => ⟨h.2.1, hF⟩
end Jvm.Pilot.@@N@@
namespace Jvm.Pilot.@@N@@
open Jvm Jvm.ClassFile Sem Op Lib Jvm.Free Jvm.Stand Jvm.Pilot.@@N@@.Jvm.D
/-! MADE BY PROGRAM (witnessworld.py) out of the Statement's table words and the real class files: 21 classes; the members and pool entries that the words name. The judged class is class 1, her method 2. -/
namespace start1
open Jvm.ClassFile
def u (s : String) : CpInfo := .utf8 (stringToUtf16 s)
/-- a pool by its gaps: so many unusable entries, then the entry; so many at the end -/
def gap : Nat → List CpInfo → List CpInfo
  | 0, r => r
  | n + 1, r => .unusable :: gap n r
def poolList (es : List (Nat × CpInfo)) (last : Nat) : List CpInfo := es.foldr (fun e r => gap e.1 (e.2 :: r)) (gap last [])
def pool (es : List (Nat × CpInfo)) (last : Nat) : Array CpInfo := ⟨poolList es last⟩
def fileOf (pool : Array CpInfo) (this : Nat) (attrs : Array Attribute := #[]) (ms : Array MethodInfo := #[]) (fl : Nat := 33) (sup : Nat := 0) (ifs : Array Nat := #[]) (fds : Array FieldInfo := #[]) : ClassFile where
  minorVersion := 0
  majorVersion := 65
  constantPool := pool
  accessFlags := fl
  thisClass := this
  superClass := sup
  interfaces := ifs
  fields := fds
  methods := ms
  attributes := attrs
def plain (name : String) (sup : Option ClassId) : Class where
  name := name
  kind := .ordinary
  loader := none
  accessFlags := 33
  super := sup
  interfaces := #[]
  cf := none
  fields := #[]
  methods := #[]
  instanceTypes := #[]
  staticTypes := #[]
  resolved := #[]
  callSites := []
  init := .initialized
  statics := none
  mirror := none

def pool0 : Array CpInfo := pool [(5, u "<init>"), (0, u "()V"), (1, .class_ 10), (1, u "java/lang/Object")] 113

def k0c0 : Code := { maxStack := 0, maxLocals := 1, code := object_method_1_code, exceptionTable := #[], attributes := #[] }
def k0m0 : Method := { name := "<init>", desc := "()V", sig := { parameters := [], returnType := none }, accessFlags := 1, code := some k0c0 }
/-- java/lang/Object -/
def k0 : Class := { plain "java/lang/Object" none with
  accessFlags := 33
  interfaces := #[]
  cf := some (fileOf pool0 8 #[] #[{ accessFlags := 1, nameIndex := 5, descriptorIndex := 6, attributes := #[] }] 33 0 #[] #[])
  fields := #[]
  methods := #[k0m0]
  instanceTypes := #[]
  staticTypes := #[]
  resolved := Array.replicate 124 none
  statics := none }

def pool1 : Array CpInfo := pool [(2, .class_ 4), (1, u "java/lang/Object"), (0, u "<init>"), (0, u "()V"), (0, .integer 65536), (0, .integer 65535), (0, .methodref 10 11), (0, .class_ 12), (0, .nameAndType 13 14), (0, u "com/example/tautolog/tautolog/sql/TokenIsShellCommandPinLaw"), (0, u "draw"), (0, u "(I)C"), (0, .class_ 16), (0, u "java/lang/String"), (0, .methodref 15 18), (0, .nameAndType 5 19), (0, u "([C)V"), (0, .integer 2147483647), (0, .class_ 22), (0, u "com/example/tautolog/tautolog/sql/Statements$Token"), (0, .methodref 21 24), (0, .nameAndType 5 25), (0, u "(II)V"), (0, .methodref 21 27), (0, .nameAndType 28 29), (0, u "isShellCommand"), (0, u "(Ljava/lang/String;)Z"), (3, u "law"), (0, u "(IIIII)Z")] 8

def k1m0 : Method := { name := "<init>", desc := "()V", sig := { parameters := [], returnType := none }, accessFlags := 2, code := none }
def k1c1 : Code := { maxStack := 2, maxLocals := 1, code := method_2_code, exceptionTable := #[], attributes := #[] }
def k1m1 : Method := { name := "draw", desc := "(I)C", sig := { parameters := [.int], returnType := some .char }, accessFlags := 10, code := some k1c1 }
def k1c2 : Code := { maxStack := 4, maxLocals := 14, code := code, exceptionTable := #[], attributes := #[] }
def k1m2 : Method := { name := "law", desc := "(IIIII)Z", sig := { parameters := [.int, .int, .int, .int, .int], returnType := some .boolean }, accessFlags := 9, code := some k1c2 }
/-- com/example/tautolog/tautolog/sql/TokenIsShellCommandPinLaw -/
def k1 : Class := { plain "com/example/tautolog/tautolog/sql/TokenIsShellCommandPinLaw" (some 0) with
  accessFlags := 49
  interfaces := #[]
  cf := some (fileOf pool1 10 #[] #[{ accessFlags := 2, nameIndex := 5, descriptorIndex := 6, attributes := #[] }, { accessFlags := 10, nameIndex := 13, descriptorIndex := 14, attributes := #[] }, { accessFlags := 9, nameIndex := 33, descriptorIndex := 34, attributes := #[] }] 49 2 #[] #[])
  fields := #[]
  methods := #[k1m0, k1m1, k1m2]
  instanceTypes := #[]
  staticTypes := #[]
  resolved := Array.replicate 43 none
  statics := none }

def pool2 : Array CpInfo := pool [(1, .class_ 2), (0, u "java/io/Serializable"), (0, .class_ 4), (0, u "java/lang/Object")] 2

/-- java/io/Serializable -/
def k2 : Class := { plain "java/io/Serializable" (some 0) with
  accessFlags := 1537
  interfaces := #[]
  cf := some (fileOf pool2 1 #[] #[] 1537 3 #[] #[])
  fields := #[]
  methods := #[]
  instanceTypes := #[]
  staticTypes := #[]
  resolved := Array.replicate 7 none
  statics := none }

def pool3 : Array CpInfo := pool [(1, .class_ 2), (0, u "java/lang/Comparable"), (0, .class_ 4), (0, u "java/lang/Object")] 7

/-- java/lang/Comparable -/
def k3 : Class := { plain "java/lang/Comparable" (some 0) with
  accessFlags := 1537
  interfaces := #[]
  cf := some (fileOf pool3 1 #[] #[] 1537 3 #[] #[])
  fields := #[]
  methods := #[]
  instanceTypes := #[]
  staticTypes := #[]
  resolved := Array.replicate 12 none
  statics := none }

def pool4 : Array CpInfo := pool [(2, .class_ 4), (1, u "java/lang/CharSequence"), (42, .class_ 48), (0, u "java/lang/CharSequence$1CodePointIterator"), (10, .class_ 60), (0, u "java/lang/CharSequence$1CharIterator"), (5, .class_ 67), (0, u "java/lang/Object")] 63

/-- java/lang/CharSequence -/
def k4 : Class := { plain "java/lang/CharSequence" (some 0) with
  accessFlags := 1537
  interfaces := #[]
  cf := some (fileOf pool4 2 #[.nestMembers #[47, 59]] #[] 1537 66 #[] #[])
  fields := #[]
  methods := #[]
  instanceTypes := #[]
  staticTypes := #[]
  resolved := Array.replicate 131 none
  statics := none }

def pool5 : Array CpInfo := pool [(1, .class_ 2), (0, u "java/lang/constant/Constable"), (0, .class_ 4), (0, u "java/lang/Object")] 6

/-- java/lang/constant/Constable -/
def k5 : Class := { plain "java/lang/constant/Constable" (some 0) with
  accessFlags := 1537
  interfaces := #[]
  cf := some (fileOf pool5 1 #[] #[] 1537 3 #[] #[])
  fields := #[]
  methods := #[]
  instanceTypes := #[]
  staticTypes := #[]
  resolved := Array.replicate 11 none
  statics := none }

def pool6 : Array CpInfo := pool [(1, .class_ 2), (0, u "java/lang/constant/ConstantDesc"), (0, .class_ 4), (0, u "java/lang/Object")] 32

/-- java/lang/constant/ConstantDesc -/
def k6 : Class := { plain "java/lang/constant/ConstantDesc" (some 0) with
  accessFlags := 1537
  interfaces := #[]
  cf := some (fileOf pool6 1 #[] #[] 1537 3 #[] #[])
  fields := #[]
  methods := #[]
  instanceTypes := #[]
  staticTypes := #[]
  resolved := Array.replicate 37 none
  statics := none }

def pool7 : Array CpInfo := pool [(1, .methodref 2 3), (0, .class_ 4), (0, .nameAndType 5 6), (0, u "java/lang/Object"), (0, u "<init>"), (0, u "()V"), (2, .fieldref 10 11), (0, .class_ 12), (0, .nameAndType 13 14), (0, u "java/lang/String"), (0, u "value"), (0, u "[B"), (0, .fieldref 10 16), (0, .nameAndType 17 18), (0, u "coder"), (0, u "B"), (2, u "hash"), (0, u "I"), (2, u "hashIsZero"), (0, u "Z"), (0, .methodref 10 28), (0, .nameAndType 5 29), (0, u "([CIILjava/lang/Void;)V"), (8, .fieldref 10 39), (0, .nameAndType 40 26), (0, u "COMPACT_STRINGS"), (1, .class_ 44), (1, u "java/lang/StringUTF16"), (0, u "compress"), (1, .methodref 42 48), (0, .nameAndType 49 50), (0, u "coderFromArrayLen"), (0, u "([BI)B"), (56, .class_ 109), (1, u "java/lang/StringLatin1"), (32, u "()Z"), (34, .methodref 42 178), (0, .nameAndType 45 179), (0, u "([CII)[B"), (183, u "([BI)C"), (27, u "(II)V"), (35, u "(I)C"), (64, .methodref 10 493), (0, .nameAndType 494 142), (0, u "isLatin1"), (0, .methodref 107 496), (0, .nameAndType 497 363), (0, u "charAt"), (0, .methodref 42 496), (2, u "checkIndex"), (73, .class_ 576), (0, u "java/lang/CharSequence"), (22, u "CASE_INSENSITIVE_ORDER"), (0, u "Ljava/util/Comparator;"), (409, u "([C)V"), (42, .fieldref 1054 1055), (0, .class_ 1056), (0, .nameAndType 1057 1058), (0, u "jdk/internal/util/Preconditions"), (0, u "SIOOBE_FORMATTER"), (0, u "Ljava/util/function/BiFunction;"), (0, .methodref 1054 1060), (0, .nameAndType 501 1061), (0, u "(IILjava/util/function/BiFunction;)I"), (39, u "serialPersistentFields"), (0, u "[Ljava/io/ObjectStreamField;"), (0, .class_ 1104), (0, u "java/lang/String$CaseInsensitiveComparator"), (1, .class_ 1107), (0, u "java/io/Serializable"), (0, .class_ 1109), (0, u "java/lang/Comparable"), (0, .class_ 1111), (0, u "java/lang/constant/Constable"), (0, .class_ 1113), (0, u "java/lang/constant/ConstantDesc"), (2, u "serialVersionUID"), (0, u "J"), (3, u "REPL"), (0, u "C"), (2, u "LATIN1"), (1, u "UTF16")] 323

def k7m0 : Method := { name := "<init>", desc := "()V", sig := { parameters := [], returnType := none }, accessFlags := 1, code := none }
def k7c1 : Code := { maxStack := 5, maxLocals := 2, code := jdk_42_method_3_code, exceptionTable := #[], attributes := #[] }
def k7m1 : Method := { name := "<init>", desc := "([C)V", sig := { parameters := [(.array .char)], returnType := none }, accessFlags := 1, code := some k7c1 }
def k7c2 : Code := { maxStack := 2, maxLocals := 2, code := jdk_42_method_56_code, exceptionTable := #[], attributes := #[] }
def k7m2 : Method := { name := "charAt", desc := "(I)C", sig := { parameters := [.int], returnType := some .char }, accessFlags := 1, code := some k7c2 }
def k7c3 : Code := { maxStack := 4, maxLocals := 6, code := jdk_42_method_149_code, exceptionTable := #[], attributes := #[] }
def k7m3 : Method := { name := "<init>", desc := "([CIILjava/lang/Void;)V", sig := { parameters := [(.array .char), .int, .int, (.object "java/lang/Void")], returnType := none }, accessFlags := 2, code := some k7c3 }
def k7c4 : Code := { maxStack := 1, maxLocals := 1, code := jdk_42_method_154_code, exceptionTable := #[], attributes := #[] }
def k7m4 : Method := { name := "isLatin1", desc := "()Z", sig := { parameters := [], returnType := some .boolean }, accessFlags := 0, code := some k7c4 }
def k7c5 : Code := { maxStack := 3, maxLocals := 2, code := jdk_42_method_155_code, exceptionTable := #[], attributes := #[] }
def k7m5 : Method := { name := "checkIndex", desc := "(II)V", sig := { parameters := [.int, .int], returnType := none }, accessFlags := 8, code := some k7c5 }
/-- java/lang/String -/
def k7 : Class := { plain "java/lang/String" (some 0) with
  accessFlags := 49
  interfaces := #[2, 3, 4, 5, 6]
  cf := some (fileOf pool7 10 #[.nestMembers #[1103]] #[{ accessFlags := 1, nameIndex := 5, descriptorIndex := 6, attributes := #[] }, { accessFlags := 1, nameIndex := 5, descriptorIndex := 1010, attributes := #[] }, { accessFlags := 1, nameIndex := 497, descriptorIndex := 427, attributes := #[] }, { accessFlags := 2, nameIndex := 5, descriptorIndex := 29, attributes := #[] }, { accessFlags := 0, nameIndex := 494, descriptorIndex := 142, attributes := #[] }, { accessFlags := 8, nameIndex := 501, descriptorIndex := 391, attributes := #[] }] 49 2 #[1106, 1108, 575, 1110, 1112] #[{ accessFlags := 18, nameIndex := 13, descriptorIndex := 14, attributes := #[] }, { accessFlags := 18, nameIndex := 17, descriptorIndex := 18, attributes := #[] }, { accessFlags := 2, nameIndex := 21, descriptorIndex := 22, attributes := #[] }, { accessFlags := 2, nameIndex := 25, descriptorIndex := 26, attributes := #[] }, { accessFlags := 26, nameIndex := 1116, descriptorIndex := 1117, attributes := #[] }, { accessFlags := 24, nameIndex := 40, descriptorIndex := 26, attributes := #[] }, { accessFlags := 26, nameIndex := 1101, descriptorIndex := 1102, attributes := #[] }, { accessFlags := 26, nameIndex := 1121, descriptorIndex := 1122, attributes := #[] }, { accessFlags := 25, nameIndex := 599, descriptorIndex := 600, attributes := #[] }, { accessFlags := 24, nameIndex := 1125, descriptorIndex := 18, attributes := #[] }, { accessFlags := 24, nameIndex := 1127, descriptorIndex := 18, attributes := #[] }])
  fields := #[{ name := "value", type := (.array .byte), accessFlags := 18, slot := 0, constantValue := 0 }, { name := "coder", type := .byte, accessFlags := 18, slot := 1, constantValue := 0 }, { name := "hash", type := .int, accessFlags := 2, slot := 2, constantValue := 0 }, { name := "hashIsZero", type := .boolean, accessFlags := 2, slot := 3, constantValue := 0 }, { name := "serialVersionUID", type := .long, accessFlags := 26, slot := 0, constantValue := 0 }, { name := "COMPACT_STRINGS", type := .boolean, accessFlags := 24, slot := 1, constantValue := 0 }, { name := "serialPersistentFields", type := (.array (.object "java/io/ObjectStreamField")), accessFlags := 26, slot := 2, constantValue := 0 }, { name := "REPL", type := .char, accessFlags := 26, slot := 3, constantValue := 0 }, { name := "CASE_INSENSITIVE_ORDER", type := (.object "java/util/Comparator"), accessFlags := 25, slot := 4, constantValue := 0 }, { name := "LATIN1", type := .byte, accessFlags := 24, slot := 5, constantValue := 0 }, { name := "UTF16", type := .byte, accessFlags := 24, slot := 6, constantValue := 0 }]
  methods := #[k7m0, k7m1, k7m2, k7m3, k7m4, k7m5]
  instanceTypes := #[(.array .byte), .byte, .int, .boolean]
  staticTypes := #[.long, .boolean, (.array (.object "java/io/ObjectStreamField")), .char, (.object "java/util/Comparator"), .byte, .byte]
  resolved := Array.replicate 1451 none
  statics := some 0 }

def pool8 : Array CpInfo := pool [(3, .class_ 4), (0, u "java/lang/String"), (1, .class_ 8), (1, u "java/lang/Object"), (0, u "<init>"), (0, u "()V"), (0, .methodref 12 13), (0, .class_ 14), (0, .nameAndType 15 16), (0, u "java/lang/StringUTF16"), (0, u "newBytesLength"), (0, u "(I)I"), (3, .integer 1073741823), (23, .fieldref 12 45), (0, .nameAndType 46 47), (0, u "$assertionsDisabled"), (0, u "Z"), (0, .methodref 12 49), (0, .nameAndType 50 51), (0, u "length"), (0, u "([B)I"), (7, .fieldref 12 60), (0, .nameAndType 61 62), (0, u "HI_BYTE_SHIFT"), (0, u "I"), (0, .fieldref 12 64), (0, .nameAndType 65 62), (0, u "LO_BYTE_SHIFT"), (1, .methodref 12 68), (0, .nameAndType 69 70), (0, u "checkIndex"), (0, u "(I[B)V"), (0, .methodref 12 72), (0, .nameAndType 73 74), (0, u "getChar"), (0, u "([BI)C"), (32, .methodref 12 108), (0, .nameAndType 109 110), (0, u "newBytesFor"), (0, u "(I)[B"), (0, .methodref 12 112), (0, .nameAndType 113 114), (0, u "putChar"), (0, u "([BII)V"), (0, .methodref 12 116), (0, .nameAndType 117 118), (0, u "compress"), (0, u "([CI[BII)I"), (0, .methodref 12 120), (0, .nameAndType 121 122), (0, u "toBytes"), (0, u "([CII)[B"), (138, u "coderFromArrayLen"), (0, u "([BI)B"), (106, .class_ 371), (1, u "java/lang/StringUTF16$LinesSpliterator"), (20, u "charAt"), (21, .methodref 3 415), (0, .nameAndType 69 416), (0, u "(II)V"), (13, u "MAX_LENGTH"), (196, .class_ 628), (0, u "java/lang/StringUTF16$CodePointsSpliterator"), (0, .class_ 630), (0, u "java/lang/StringUTF16$CharsSpliterator")] 4

def k8m0 : Method := { name := "<init>", desc := "()V", sig := { parameters := [], returnType := none }, accessFlags := 0, code := none }
def k8c1 : Code := { maxStack := 1, maxLocals := 1, code := jdk_52_method_2_code, exceptionTable := #[], attributes := #[] }
def k8m1 : Method := { name := "newBytesFor", desc := "(I)[B", sig := { parameters := [.int], returnType := some (.array .byte) }, accessFlags := 9, code := some k8c1 }
def k8c2 : Code := { maxStack := 4, maxLocals := 1, code := jdk_52_method_3_code, exceptionTable := #[], attributes := #[] }
def k8m2 : Method := { name := "newBytesLength", desc := "(I)I", sig := { parameters := [.int], returnType := some .int }, accessFlags := 9, code := some k8c2 }
def k8c3 : Code := { maxStack := 4, maxLocals := 3, code := jdk_52_method_4_code, exceptionTable := #[], attributes := #[] }
def k8m3 : Method := { name := "putChar", desc := "([BII)V", sig := { parameters := [(.array .byte), .int, .int], returnType := none }, accessFlags := 8, code := some k8c3 }
def k8c4 : Code := { maxStack := 3, maxLocals := 2, code := jdk_52_method_5_code, exceptionTable := #[], attributes := #[] }
def k8m4 : Method := { name := "getChar", desc := "([BI)C", sig := { parameters := [(.array .byte), .int], returnType := some .char }, accessFlags := 8, code := some k8c4 }
def k8c5 : Code := { maxStack := 2, maxLocals := 1, code := jdk_52_method_6_code, exceptionTable := #[], attributes := #[] }
def k8m5 : Method := { name := "length", desc := "([B)I", sig := { parameters := [(.array .byte)], returnType := some .int }, accessFlags := 9, code := some k8c5 }
def k8c6 : Code := { maxStack := 4, maxLocals := 5, code := jdk_52_method_14_code, exceptionTable := #[], attributes := #[] }
def k8m6 : Method := { name := "toBytes", desc := "([CII)[B", sig := { parameters := [(.array .char), .int, .int], returnType := some (.array .byte) }, accessFlags := 9, code := some k8c6 }
def k8c7 : Code := { maxStack := 2, maxLocals := 2, code := jdk_52_method_15_code, exceptionTable := #[], attributes := #[] }
def k8m7 : Method := { name := "coderFromArrayLen", desc := "([BI)B", sig := { parameters := [(.array .byte), .int], returnType := some .byte }, accessFlags := 8, code := some k8c7 }
def k8c8 : Code := { maxStack := 5, maxLocals := 6, code := jdk_52_method_16_code, exceptionTable := #[], attributes := #[] }
def k8m8 : Method := { name := "compress", desc := "([CII)[B", sig := { parameters := [(.array .char), .int, .int], returnType := some (.array .byte) }, accessFlags := 9, code := some k8c8 }
def k8c9 : Code := { maxStack := 3, maxLocals := 7, code := jdk_52_method_21_code, exceptionTable := #[], attributes := #[] }
def k8m9 : Method := { name := "compress", desc := "([CI[BII)I", sig := { parameters := [(.array .char), .int, (.array .byte), .int, .int], returnType := some .int }, accessFlags := 9, code := some k8c9 }
def k8c10 : Code := { maxStack := 2, maxLocals := 2, code := jdk_52_method_83_code, exceptionTable := #[], attributes := #[] }
def k8m10 : Method := { name := "charAt", desc := "([BI)C", sig := { parameters := [(.array .byte), .int], returnType := some .char }, accessFlags := 9, code := some k8c10 }
def k8c11 : Code := { maxStack := 2, maxLocals := 2, code := jdk_52_method_91_code, exceptionTable := #[], attributes := #[] }
def k8m11 : Method := { name := "checkIndex", desc := "(I[B)V", sig := { parameters := [.int, (.array .byte)], returnType := none }, accessFlags := 9, code := some k8c11 }
/-- java/lang/StringUTF16 -/
def k8 : Class := { plain "java/lang/StringUTF16" (some 0) with
  accessFlags := 48
  interfaces := #[]
  cf := some (fileOf pool8 12 #[.nestMembers #[627, 629, 369]] #[{ accessFlags := 0, nameIndex := 9, descriptorIndex := 10, attributes := #[] }, { accessFlags := 9, nameIndex := 109, descriptorIndex := 110, attributes := #[] }, { accessFlags := 9, nameIndex := 15, descriptorIndex := 16, attributes := #[] }, { accessFlags := 8, nameIndex := 113, descriptorIndex := 114, attributes := #[] }, { accessFlags := 8, nameIndex := 73, descriptorIndex := 74, attributes := #[] }, { accessFlags := 9, nameIndex := 50, descriptorIndex := 51, attributes := #[] }, { accessFlags := 9, nameIndex := 121, descriptorIndex := 122, attributes := #[] }, { accessFlags := 8, nameIndex := 261, descriptorIndex := 262, attributes := #[] }, { accessFlags := 9, nameIndex := 117, descriptorIndex := 122, attributes := #[] }, { accessFlags := 9, nameIndex := 117, descriptorIndex := 118, attributes := #[] }, { accessFlags := 9, nameIndex := 392, descriptorIndex := 74, attributes := #[] }, { accessFlags := 9, nameIndex := 69, descriptorIndex := 70, attributes := #[] }] 48 6 #[] #[{ accessFlags := 26, nameIndex := 61, descriptorIndex := 62, attributes := #[] }, { accessFlags := 26, nameIndex := 65, descriptorIndex := 62, attributes := #[] }, { accessFlags := 24, nameIndex := 430, descriptorIndex := 62, attributes := #[] }, { accessFlags := 4120, nameIndex := 46, descriptorIndex := 47, attributes := #[] }])
  fields := #[{ name := "HI_BYTE_SHIFT", type := .int, accessFlags := 26, slot := 0, constantValue := 0 }, { name := "LO_BYTE_SHIFT", type := .int, accessFlags := 26, slot := 1, constantValue := 0 }, { name := "MAX_LENGTH", type := .int, accessFlags := 24, slot := 2, constantValue := 0 }, { name := "$assertionsDisabled", type := .boolean, accessFlags := 4120, slot := 3, constantValue := 0 }]
  methods := #[k8m0, k8m1, k8m2, k8m3, k8m4, k8m5, k8m6, k8m7, k8m8, k8m9, k8m10, k8m11]
  instanceTypes := #[]
  staticTypes := #[.int, .int, .int, .boolean]
  resolved := Array.replicate 635 none
  statics := some 1 }

def pool9 : Array CpInfo := pool [(1, .methodref 2 3), (0, .class_ 4), (0, .nameAndType 5 6), (0, u "java/lang/Object"), (0, u "<init>"), (0, u "()V"), (0, .class_ 8), (0, u "java/lang/Record")] 13

def k9c0 : Code := { maxStack := 1, maxLocals := 1, code := jdk_30_method_1_code, exceptionTable := #[], attributes := #[] }
def k9m0 : Method := { name := "<init>", desc := "()V", sig := { parameters := [], returnType := none }, accessFlags := 4, code := some k9c0 }
/-- java/lang/Record -/
def k9 : Class := { plain "java/lang/Record" (some 0) with
  accessFlags := 1057
  interfaces := #[]
  cf := some (fileOf pool9 7 #[] #[{ accessFlags := 4, nameIndex := 5, descriptorIndex := 6, attributes := #[] }] 1057 2 #[] #[])
  fields := #[]
  methods := #[k9m0]
  instanceTypes := #[]
  staticTypes := #[]
  resolved := Array.replicate 22 none
  statics := none }

def pool10 : Array CpInfo := pool [(1, .methodref 2 3), (0, .class_ 4), (0, .nameAndType 5 6), (0, u "java/lang/Record"), (0, u "<init>"), (0, u "()V"), (0, .fieldref 8 9), (0, .class_ 10), (0, .nameAndType 11 12), (0, u "com/example/tautolog/tautolog/sql/Statements$Token"), (0, u "start"), (0, u "I"), (0, .fieldref 8 14), (0, .nameAndType 15 12), (0, u "end"), (1, .class_ 19), (1, u "java/lang/String"), (6, .methodref 17 27), (0, .nameAndType 28 29), (0, u "charAt"), (0, u "(I)C"), (12, u "(II)V"), (6, u "isShellCommand"), (0, u "(Ljava/lang/String;)Z"), (5, .class_ 57), (0, u "com/example/tautolog/tautolog/sql/Statements")] 20

def k10c0 : Code := { maxStack := 2, maxLocals := 3, code := prog_243_method_1_code, exceptionTable := #[], attributes := #[] }
def k10m0 : Method := { name := "<init>", desc := "(II)V", sig := { parameters := [.int, .int], returnType := none }, accessFlags := 1, code := some k10c0 }
def k10c1 : Code := { maxStack := 2, maxLocals := 2, code := prog_243_method_3_code, exceptionTable := #[], attributes := #[] }
def k10m1 : Method := { name := "isShellCommand", desc := "(Ljava/lang/String;)Z", sig := { parameters := [(.object "java/lang/String")], returnType := some .boolean }, accessFlags := 0, code := some k10c1 }
/-- com/example/tautolog/tautolog/sql/Statements$Token -/
def k10 : Class := { plain "com/example/tautolog/tautolog/sql/Statements$Token" (some 9) with
  accessFlags := 49
  interfaces := #[]
  cf := some (fileOf pool10 8 #[.nestHost 56] #[{ accessFlags := 1, nameIndex := 5, descriptorIndex := 42, attributes := #[] }, { accessFlags := 0, nameIndex := 49, descriptorIndex := 50, attributes := #[] }] 49 2 #[] #[{ accessFlags := 18, nameIndex := 11, descriptorIndex := 12, attributes := #[] }, { accessFlags := 18, nameIndex := 15, descriptorIndex := 12, attributes := #[] }])
  fields := #[{ name := "start", type := .int, accessFlags := 18, slot := 0, constantValue := 0 }, { name := "end", type := .int, accessFlags := 18, slot := 1, constantValue := 0 }]
  methods := #[k10m0, k10m1]
  instanceTypes := #[.int, .int]
  staticTypes := #[]
  resolved := Array.replicate 78 none
  statics := none }

def pool11 : Array CpInfo := pool [(1, .class_ 2), (0, u "java/lang/String"), (1, .class_ 6), (1, u "java/lang/Object"), (0, u "<init>"), (0, u "()V"), (0, .methodref 1 10), (0, .nameAndType 11 12), (0, u "checkIndex"), (0, u "(II)V"), (1, .class_ 16), (1, u "java/lang/StringLatin1"), (36, u "([BI)C"), (67, u "$assertionsDisabled"), (0, u "Z"), (98, .class_ 223), (1, u "java/lang/StringLatin1$LinesSpliterator"), (28, u "charAt"), (137, .class_ 391), (0, u "java/lang/StringLatin1$CharsSpliterator")] 3

def k11m0 : Method := { name := "<init>", desc := "()V", sig := { parameters := [], returnType := none }, accessFlags := 0, code := none }
def k11c1 : Code := { maxStack := 2, maxLocals := 2, code := jdk_43_method_2_code, exceptionTable := #[], attributes := #[] }
def k11m1 : Method := { name := "charAt", desc := "([BI)C", sig := { parameters := [(.array .byte), .int], returnType := some .char }, accessFlags := 9, code := some k11c1 }
/-- java/lang/StringLatin1 -/
def k11 : Class := { plain "java/lang/StringLatin1" (some 0) with
  accessFlags := 48
  interfaces := #[]
  cf := some (fileOf pool11 14 #[.nestMembers #[390, 221]] #[{ accessFlags := 0, nameIndex := 7, descriptorIndex := 8, attributes := #[] }, { accessFlags := 9, nameIndex := 252, descriptorIndex := 53, attributes := #[] }] 48 4 #[] #[{ accessFlags := 4120, nameIndex := 121, descriptorIndex := 122, attributes := #[] }])
  fields := #[{ name := "$assertionsDisabled", type := .boolean, accessFlags := 4120, slot := 0, constantValue := 0 }]
  methods := #[k11m0, k11m1]
  instanceTypes := #[]
  staticTypes := #[.boolean]
  resolved := Array.replicate 395 none
  statics := none }

def pool12 : Array CpInfo := pool [(2, .class_ 4), (1, u "java/lang/Object"), (0, u "<init>"), (0, u "()V"), (17, .class_ 26), (1, u "jdk/internal/util/Preconditions"), (6, u "checkIndex"), (21, .class_ 56), (0, u "jdk/internal/util/Preconditions$4"), (57, .class_ 115), (0, u "jdk/internal/util/Preconditions$1"), (7, u "SIOOBE_FORMATTER"), (0, u "Ljava/util/function/BiFunction;"), (0, .class_ 126), (0, u "jdk/internal/util/Preconditions$2"), (3, u "AIOOBE_FORMATTER"), (0, .class_ 132), (0, u "jdk/internal/util/Preconditions$3"), (3, u "IOOBE_FORMATTER"), (41, u "(IILjava/util/function/BiFunction;)I")] 15

def k12m0 : Method := { name := "<init>", desc := "()V", sig := { parameters := [], returnType := none }, accessFlags := 1, code := none }
def k12c1 : Code := { maxStack := 3, maxLocals := 3, code := jdk_41_method_11_code, exceptionTable := #[], attributes := #[] }
def k12m1 : Method := { name := "checkIndex", desc := "(IILjava/util/function/BiFunction;)I", sig := { parameters := [.int, .int, (.object "java/util/function/BiFunction")], returnType := some .int }, accessFlags := 9, code := some k12c1 }
/-- jdk/internal/util/Preconditions -/
def k12 : Class := { plain "jdk/internal/util/Preconditions" (some 0) with
  accessFlags := 33
  interfaces := #[]
  cf := some (fileOf pool12 24 #[.nestMembers #[55, 131, 125, 114]] #[{ accessFlags := 1, nameIndex := 5, descriptorIndex := 6, attributes := #[] }, { accessFlags := 9, nameIndex := 33, descriptorIndex := 178, attributes := #[] }] 33 2 #[] #[{ accessFlags := 25, nameIndex := 123, descriptorIndex := 124, attributes := #[] }, { accessFlags := 25, nameIndex := 130, descriptorIndex := 124, attributes := #[] }, { accessFlags := 25, nameIndex := 136, descriptorIndex := 124, attributes := #[] }])
  fields := #[{ name := "SIOOBE_FORMATTER", type := (.object "java/util/function/BiFunction"), accessFlags := 25, slot := 0, constantValue := 0 }, { name := "AIOOBE_FORMATTER", type := (.object "java/util/function/BiFunction"), accessFlags := 25, slot := 1, constantValue := 0 }, { name := "IOOBE_FORMATTER", type := (.object "java/util/function/BiFunction"), accessFlags := 25, slot := 2, constantValue := 0 }]
  methods := #[k12m0, k12m1]
  instanceTypes := #[]
  staticTypes := #[(.object "java/util/function/BiFunction"), (.object "java/util/function/BiFunction"), (.object "java/util/function/BiFunction")]
  resolved := Array.replicate 194 none
  statics := some 2 }

def pool13 : Array CpInfo := pool [(9, u "<init>"), (6, .class_ 18), (1, u "java/lang/Object"), (0, u "()V"), (1, .class_ 23), (1, u "jdk/internal/util/ArraysSupport"), (0, u "LOG2_ARRAY_LONG_INDEX_SCALE"), (0, u "I"), (2, u "U"), (0, u "Ljdk/internal/misc/Unsafe;"), (8, u "BIG_ENDIAN"), (0, u "Z"), (8, u "LOG2_BYTE_BIT_SIZE"), (4, u "LOG2_ARRAY_INT_INDEX_SCALE"), (54, u "JLA"), (0, u "Ljdk/internal/access/JavaLangAccess;"), (11, u "LOG2_ARRAY_BOOLEAN_INDEX_SCALE"), (9, u "LOG2_ARRAY_BYTE_INDEX_SCALE"), (5, u "LOG2_ARRAY_CHAR_INDEX_SCALE"), (5, u "LOG2_ARRAY_SHORT_INDEX_SCALE"), (18, u "LOG2_ARRAY_FLOAT_INDEX_SCALE"), (24, u "LOG2_ARRAY_DOUBLE_INDEX_SCALE"), (89, u "T_BOOLEAN"), (2, u "T_CHAR"), (1, u "T_FLOAT"), (1, u "T_DOUBLE"), (1, u "T_BYTE"), (1, u "T_SHORT"), (1, u "T_INT"), (1, u "T_LONG"), (1, u "SOFT_MAX_ARRAY_LENGTH")] 83

def k13m0 : Method := { name := "<init>", desc := "()V", sig := { parameters := [], returnType := none }, accessFlags := 2, code := none }
/-- jdk/internal/util/ArraysSupport -/
def k13 : Class := { plain "jdk/internal/util/ArraysSupport" (some 0) with
  accessFlags := 33
  interfaces := #[]
  cf := some (fileOf pool13 21 #[] #[{ accessFlags := 2, nameIndex := 9, descriptorIndex := 19, attributes := #[] }] 33 16 #[] #[{ accessFlags := 24, nameIndex := 28, descriptorIndex := 29, attributes := #[] }, { accessFlags := 26, nameIndex := 38, descriptorIndex := 39, attributes := #[] }, { accessFlags := 25, nameIndex := 121, descriptorIndex := 25, attributes := #[] }, { accessFlags := 25, nameIndex := 131, descriptorIndex := 25, attributes := #[] }, { accessFlags := 25, nameIndex := 137, descriptorIndex := 25, attributes := #[] }, { accessFlags := 25, nameIndex := 143, descriptorIndex := 25, attributes := #[] }, { accessFlags := 25, nameIndex := 53, descriptorIndex := 25, attributes := #[] }, { accessFlags := 25, nameIndex := 24, descriptorIndex := 25, attributes := #[] }, { accessFlags := 25, nameIndex := 162, descriptorIndex := 25, attributes := #[] }, { accessFlags := 25, nameIndex := 187, descriptorIndex := 25, attributes := #[] }, { accessFlags := 26, nameIndex := 48, descriptorIndex := 25, attributes := #[] }, { accessFlags := 25, nameIndex := 277, descriptorIndex := 25, attributes := #[] }, { accessFlags := 25, nameIndex := 280, descriptorIndex := 25, attributes := #[] }, { accessFlags := 25, nameIndex := 282, descriptorIndex := 25, attributes := #[] }, { accessFlags := 25, nameIndex := 284, descriptorIndex := 25, attributes := #[] }, { accessFlags := 25, nameIndex := 286, descriptorIndex := 25, attributes := #[] }, { accessFlags := 25, nameIndex := 288, descriptorIndex := 25, attributes := #[] }, { accessFlags := 25, nameIndex := 290, descriptorIndex := 25, attributes := #[] }, { accessFlags := 25, nameIndex := 292, descriptorIndex := 25, attributes := #[] }, { accessFlags := 26, nameIndex := 108, descriptorIndex := 109, attributes := #[] }, { accessFlags := 25, nameIndex := 294, descriptorIndex := 25, attributes := #[] }])
  fields := #[{ name := "U", type := (.object "jdk/internal/misc/Unsafe"), accessFlags := 24, slot := 0, constantValue := 0 }, { name := "BIG_ENDIAN", type := .boolean, accessFlags := 26, slot := 1, constantValue := 0 }, { name := "LOG2_ARRAY_BOOLEAN_INDEX_SCALE", type := .int, accessFlags := 25, slot := 2, constantValue := 0 }, { name := "LOG2_ARRAY_BYTE_INDEX_SCALE", type := .int, accessFlags := 25, slot := 3, constantValue := 0 }, { name := "LOG2_ARRAY_CHAR_INDEX_SCALE", type := .int, accessFlags := 25, slot := 4, constantValue := 0 }, { name := "LOG2_ARRAY_SHORT_INDEX_SCALE", type := .int, accessFlags := 25, slot := 5, constantValue := 0 }, { name := "LOG2_ARRAY_INT_INDEX_SCALE", type := .int, accessFlags := 25, slot := 6, constantValue := 0 }, { name := "LOG2_ARRAY_LONG_INDEX_SCALE", type := .int, accessFlags := 25, slot := 7, constantValue := 0 }, { name := "LOG2_ARRAY_FLOAT_INDEX_SCALE", type := .int, accessFlags := 25, slot := 8, constantValue := 0 }, { name := "LOG2_ARRAY_DOUBLE_INDEX_SCALE", type := .int, accessFlags := 25, slot := 9, constantValue := 0 }, { name := "LOG2_BYTE_BIT_SIZE", type := .int, accessFlags := 26, slot := 10, constantValue := 0 }, { name := "T_BOOLEAN", type := .int, accessFlags := 25, slot := 11, constantValue := 0 }, { name := "T_CHAR", type := .int, accessFlags := 25, slot := 12, constantValue := 0 }, { name := "T_FLOAT", type := .int, accessFlags := 25, slot := 13, constantValue := 0 }, { name := "T_DOUBLE", type := .int, accessFlags := 25, slot := 14, constantValue := 0 }, { name := "T_BYTE", type := .int, accessFlags := 25, slot := 15, constantValue := 0 }, { name := "T_SHORT", type := .int, accessFlags := 25, slot := 16, constantValue := 0 }, { name := "T_INT", type := .int, accessFlags := 25, slot := 17, constantValue := 0 }, { name := "T_LONG", type := .int, accessFlags := 25, slot := 18, constantValue := 0 }, { name := "JLA", type := (.object "jdk/internal/access/JavaLangAccess"), accessFlags := 26, slot := 19, constantValue := 0 }, { name := "SOFT_MAX_ARRAY_LENGTH", type := .int, accessFlags := 25, slot := 20, constantValue := 0 }]
  methods := #[k13m0]
  instanceTypes := #[]
  staticTypes := #[(.object "jdk/internal/misc/Unsafe"), .boolean, .int, .int, .int, .int, .int, .int, .int, .int, .int, .int, .int, .int, .int, .int, .int, .int, .int, (.object "jdk/internal/access/JavaLangAccess"), .int]
  resolved := Array.replicate 378 none
  statics := none }

def pool14 : Array CpInfo := pool [(1, u "java/lang/Cloneable"), (0, .class_ 1), (0, u "java/lang/Object"), (0, .class_ 3)] 3

/-- java/lang/Cloneable -/
def k14 : Class := { plain "java/lang/Cloneable" (some 0) with
  accessFlags := 1537
  interfaces := #[]
  cf := some (fileOf pool14 2 #[] #[] 1537 4 #[] #[])
  fields := #[]
  methods := #[]
  instanceTypes := #[]
  staticTypes := #[]
  resolved := Array.replicate 8 none
  statics := none }

/-- the primitive byte -/
def k15 : Class := { plain "byte" none with kind := .primitive 'B', accessFlags := 0x411 }
/-- [B -/
def k16 : Class := { plain "[B" (some 0) with kind := .array 15 .byte, interfaces := #[14, 2], accessFlags := 1041 }

/-- the primitive char -/
def k17 : Class := { plain "char" none with kind := .primitive 'C', accessFlags := 0x411 }
/-- [C -/
def k18 : Class := { plain "[C" (some 0) with kind := .array 17 .char, interfaces := #[14, 2], accessFlags := 1041 }

/-- the primitive int -/
def k19 : Class := { plain "int" none with kind := .primitive 'I', accessFlags := 0x411 }
/-- [I -/
def k20 : Class := { plain "[I" (some 0) with kind := .array 19 .int, interfaces := #[14, 2], accessFlags := 1041 }

def heap : Heap := #[{ cls := 7, slots := #[.long 0, .int 1, .null, .int 0, .null, .int 0, .int 0], vm := .statics 7 },
  { cls := 8, slots := #[.int 0, .int 8, .int 0, .int 1], vm := .statics 8 },
  { cls := 12, slots := #[.null, .null, .null], vm := .statics 12 }]
def classes : Array Class := #[k0, k1, k2, k3, k4, k5, k6, k7, k8, k9, k10, k11, k12, k13, k14, k15, k16, k17, k18, k19, k20]
def interned : List (Array UInt16 × Addr) := []
def slotsUsed : Nat := 14
def theMethod : MethodId := ⟨1, 2⟩
def args0 : Array Value := #[.int 5, .int 6, .int 7, .int 1, .int 9]
def aboutOver (below : List Frame) : State where
  vm := { classes := classes, interned := interned.toArray }
  heap := heap
  slotsUsed := slotsUsed
  threads := #[{ frames := .invoking theMethod args0 :: below }]
def below0 : List Frame := [.native { method := ⟨0, 0⟩, args := #[] }]
def about1 : State := aboutOver below0
def p0 : Program := .bare "" "" ""
def e0 : Env := launch0.env 0 0 0
theorem w_frames : about1.frames = Frame.invoking theMethod args0 :: below0 := rfl
set_option maxRecDepth 65536 in
theorem w_args : argsFit about1.vm theMethod args0 = true := by decide +kernel
set_option maxRecDepth 65536 in
theorem w_heap : heapFits about1 = true := by decide +kernel
set_option maxRecDepth 65536 in
theorem w_runnable : about1.curStatus? = some .runnable := by decide +kernel
set_option maxRecDepth 65536 in
theorem w_alone : about1.alone = true := by decide +kernel
set_option maxRecDepth 65536 in
theorem w_named : about1.methodNamed? x = some theMethod := by decide +kernel
set_option maxRecDepth 65536 in
theorem w_hears : about1.hears theMethod below0 = true := by decide +kernel
set_option maxRecDepth 65536 in
theorem w_ripe : about1.ripe theMethod args0 below0 = true := by decide +kernel
theorem w_running : about1.status = .running := rfl
set_option maxRecDepth 65536 in
theorem w_room : about1.hasRoom e0.platform room_1 = true :=
  launch0.hasRoom_least _ room_1 (by decide +kernel) (by decide +kernel) (by decide +kernel) (by decide +kernel) (by decide +kernel) (by decide +kernel)
theorem allAtoms_all (ts : List Jvm.Cond) (a : Array Jvm.Value) (st : Jvm.State) : (allAtoms ts).before a st = ts.all (fun c => c.before a st) := by
  induction ts with
  | nil => rfl
  | cons c t ih =>
    show (Jvm.Cond.and c (allAtoms t)).before a st = _
    rw [Jvm.Cond.before_and, ih, List.all_cons]
def words1 : List Jvm.Cond := Jvm.Cond.code x code maxLocals ret :: tables_1
/-- a 'code' word, met by the world's own term for the bytes: nothing is compared byte by byte -/
theorem code_word {y : MethodName} {bytes : ByteArray} {mx : Nat} {rt : Option FieldType} {a : Array Value} {s : State} {m : MethodId} {meth : Method} {c : Code} (h1 : s.methodNamed? y = some m) (h2 : s.vm.method? m = some meth) (h3 : meth.code = some c) (h4 : c.code = bytes)
    (h5 : (c.maxLocals == mx && c.exceptionTable.isEmpty && decide (c.maxStack ≤ mostOperands) && decide (meth.sig.returnType = rt) && !meth.locks && decide (parseMethodDescriptor y.desc = some meth.sig)) = true) : (Jvm.Cond.code y bytes mx rt).before a s = true := by
  simp only [Bool.and_eq_true, beq_iff_eq, Bool.not_eq_true', decide_eq_true_eq] at h5
  obtain ⟨⟨⟨⟨⟨g1, g2⟩, g3⟩, g4⟩, g5⟩, g6⟩ := h5
  simp [Cond.before, Cond.holds, Cond.value, h1, h2, h3, h4, g1, g2, g3, g4, g5, g6]
def isCode : Jvm.Cond → Bool
  | .code _ _ _ _ => true
  | _ => false
theorem all_split {L : List Jvm.Cond} {P : Jvm.Cond → Bool} (h1 : L.all (fun c => isCode c || P c) = true) (h2 : ∀ c ∈ L.filter isCode, P c = true) : L.all P = true := by
  refine List.all_eq_true.mpr fun c hc => ?_
  have h := List.all_eq_true.mp h1 c hc
  rcases Bool.eq_false_or_eq_true (isCode c) with hi | hi
  · exact h2 c (List.mem_filter.mpr ⟨hc, hi⟩)
  · simpa [hi] using h
set_option maxRecDepth 65536 in
theorem w_c0 : (Jvm.Cond.code x code maxLocals ret).before args0 about1 = true := code_word (m := ⟨1, 2⟩) (meth := k1m2) (c := k1c2) (by decide +kernel) rfl rfl rfl (by decide +kernel)
set_option maxRecDepth 65536 in
theorem w_c1 : (Jvm.Cond.code ({ cls := "com/example/tautolog/tautolog/sql/TokenIsShellCommandPinLaw", name := "draw", desc := "(I)C" } : Jvm.MethodName) method_2_code (1 : Nat) (Option.some Jvm.ClassFile.FieldType.char)).before args0 about1 = true := code_word (m := ⟨1, 1⟩) (meth := k1m1) (c := k1c1) (by decide +kernel) rfl rfl rfl (by decide +kernel)
set_option maxRecDepth 65536 in
theorem w_c2 : (Jvm.Cond.code ({ cls := "java/lang/String", name := "<init>", desc := "([C)V" } : Jvm.MethodName) jdk_42_method_3_code (2 : Nat) (Option.none : Option Jvm.ClassFile.FieldType)).before args0 about1 = true := code_word (m := ⟨7, 1⟩) (meth := k7m1) (c := k7c1) (by decide +kernel) rfl rfl rfl (by decide +kernel)
set_option maxRecDepth 65536 in
theorem w_c3 : (Jvm.Cond.code ({ cls := "java/lang/String", name := "<init>", desc := "([CIILjava/lang/Void;)V" } : Jvm.MethodName) jdk_42_method_149_code (6 : Nat) (Option.none : Option Jvm.ClassFile.FieldType)).before args0 about1 = true := code_word (m := ⟨7, 3⟩) (meth := k7m3) (c := k7c3) (by decide +kernel) rfl rfl rfl (by decide +kernel)
set_option maxRecDepth 65536 in
theorem w_c4 : (Jvm.Cond.code ({ cls := "java/lang/Object", name := "<init>", desc := "()V" } : Jvm.MethodName) object_method_1_code (1 : Nat) (Option.none : Option Jvm.ClassFile.FieldType)).before args0 about1 = true := code_word (m := ⟨0, 0⟩) (meth := k0m0) (c := k0c0) (by decide +kernel) rfl rfl rfl (by decide +kernel)
set_option maxRecDepth 65536 in
theorem w_c5 : (Jvm.Cond.code ({ cls := "java/lang/StringUTF16", name := "compress", desc := "([CII)[B" } : Jvm.MethodName) jdk_52_method_16_code (6 : Nat) (Option.some (Jvm.ClassFile.FieldType.array Jvm.ClassFile.FieldType.byte))).before args0 about1 = true := code_word (m := ⟨8, 8⟩) (meth := k8m8) (c := k8c8) (by decide +kernel) rfl rfl rfl (by decide +kernel)
set_option maxRecDepth 65536 in
theorem w_c6 : (Jvm.Cond.code ({ cls := "java/lang/StringUTF16", name := "compress", desc := "([CI[BII)I" } : Jvm.MethodName) jdk_52_method_21_code (7 : Nat) (Option.some Jvm.ClassFile.FieldType.int)).before args0 about1 = true := code_word (m := ⟨8, 9⟩) (meth := k8m9) (c := k8c9) (by decide +kernel) rfl rfl rfl (by decide +kernel)
set_option maxRecDepth 65536 in
theorem w_c7 : (Jvm.Cond.code ({ cls := "java/lang/StringUTF16", name := "coderFromArrayLen", desc := "([BI)B" } : Jvm.MethodName) jdk_52_method_15_code (2 : Nat) (Option.some Jvm.ClassFile.FieldType.byte)).before args0 about1 = true := code_word (m := ⟨8, 7⟩) (meth := k8m7) (c := k8c7) (by decide +kernel) rfl rfl rfl (by decide +kernel)
set_option maxRecDepth 65536 in
theorem w_c8 : (Jvm.Cond.code ({ cls := "com/example/tautolog/tautolog/sql/Statements$Token", name := "<init>", desc := "(II)V" } : Jvm.MethodName) prog_243_method_1_code (3 : Nat) (Option.none : Option Jvm.ClassFile.FieldType)).before args0 about1 = true := code_word (m := ⟨10, 0⟩) (meth := k10m0) (c := k10c0) (by decide +kernel) rfl rfl rfl (by decide +kernel)
set_option maxRecDepth 65536 in
theorem w_c9 : (Jvm.Cond.code ({ cls := "java/lang/Record", name := "<init>", desc := "()V" } : Jvm.MethodName) jdk_30_method_1_code (1 : Nat) (Option.none : Option Jvm.ClassFile.FieldType)).before args0 about1 = true := code_word (m := ⟨9, 0⟩) (meth := k9m0) (c := k9c0) (by decide +kernel) rfl rfl rfl (by decide +kernel)
set_option maxRecDepth 65536 in
theorem w_c10 : (Jvm.Cond.code ({ cls := "com/example/tautolog/tautolog/sql/Statements$Token", name := "isShellCommand", desc := "(Ljava/lang/String;)Z" } : Jvm.MethodName) prog_243_method_3_code (2 : Nat) (Option.some Jvm.ClassFile.FieldType.boolean)).before args0 about1 = true := code_word (m := ⟨10, 1⟩) (meth := k10m1) (c := k10c1) (by decide +kernel) rfl rfl rfl (by decide +kernel)
set_option maxRecDepth 65536 in
theorem w_c11 : (Jvm.Cond.code ({ cls := "java/lang/String", name := "charAt", desc := "(I)C" } : Jvm.MethodName) jdk_42_method_56_code (2 : Nat) (Option.some Jvm.ClassFile.FieldType.char)).before args0 about1 = true := code_word (m := ⟨7, 2⟩) (meth := k7m2) (c := k7c2) (by decide +kernel) rfl rfl rfl (by decide +kernel)
set_option maxRecDepth 65536 in
theorem w_c12 : (Jvm.Cond.code ({ cls := "java/lang/String", name := "isLatin1", desc := "()Z" } : Jvm.MethodName) jdk_42_method_154_code (1 : Nat) (Option.some Jvm.ClassFile.FieldType.boolean)).before args0 about1 = true := code_word (m := ⟨7, 4⟩) (meth := k7m4) (c := k7c4) (by decide +kernel) rfl rfl rfl (by decide +kernel)
set_option maxRecDepth 65536 in
theorem w_c13 : (Jvm.Cond.code ({ cls := "java/lang/StringLatin1", name := "charAt", desc := "([BI)C" } : Jvm.MethodName) jdk_43_method_2_code (2 : Nat) (Option.some Jvm.ClassFile.FieldType.char)).before args0 about1 = true := code_word (m := ⟨11, 1⟩) (meth := k11m1) (c := k11c1) (by decide +kernel) rfl rfl rfl (by decide +kernel)
set_option maxRecDepth 65536 in
theorem w_c14 : (Jvm.Cond.code ({ cls := "java/lang/String", name := "checkIndex", desc := "(II)V" } : Jvm.MethodName) jdk_42_method_155_code (2 : Nat) (Option.none : Option Jvm.ClassFile.FieldType)).before args0 about1 = true := code_word (m := ⟨7, 5⟩) (meth := k7m5) (c := k7c5) (by decide +kernel) rfl rfl rfl (by decide +kernel)
set_option maxRecDepth 65536 in
theorem w_c15 : (Jvm.Cond.code ({ cls := "jdk/internal/util/Preconditions", name := "checkIndex", desc := "(IILjava/util/function/BiFunction;)I" } : Jvm.MethodName) jdk_41_method_11_code (3 : Nat) (Option.some Jvm.ClassFile.FieldType.int)).before args0 about1 = true := code_word (m := ⟨12, 1⟩) (meth := k12m1) (c := k12c1) (by decide +kernel) rfl rfl rfl (by decide +kernel)
set_option maxRecDepth 65536 in
theorem w_c16 : (Jvm.Cond.code ({ cls := "java/lang/StringUTF16", name := "toBytes", desc := "([CII)[B" } : Jvm.MethodName) jdk_52_method_14_code (5 : Nat) (Option.some (Jvm.ClassFile.FieldType.array Jvm.ClassFile.FieldType.byte))).before args0 about1 = true := code_word (m := ⟨8, 6⟩) (meth := k8m6) (c := k8c6) (by decide +kernel) rfl rfl rfl (by decide +kernel)
set_option maxRecDepth 65536 in
theorem w_c17 : (Jvm.Cond.code ({ cls := "java/lang/StringUTF16", name := "newBytesFor", desc := "(I)[B" } : Jvm.MethodName) jdk_52_method_2_code (1 : Nat) (Option.some (Jvm.ClassFile.FieldType.array Jvm.ClassFile.FieldType.byte))).before args0 about1 = true := code_word (m := ⟨8, 1⟩) (meth := k8m1) (c := k8c1) (by decide +kernel) rfl rfl rfl (by decide +kernel)
set_option maxRecDepth 65536 in
theorem w_c18 : (Jvm.Cond.code ({ cls := "java/lang/StringUTF16", name := "newBytesLength", desc := "(I)I" } : Jvm.MethodName) jdk_52_method_3_code (1 : Nat) (Option.some Jvm.ClassFile.FieldType.int)).before args0 about1 = true := code_word (m := ⟨8, 2⟩) (meth := k8m2) (c := k8c2) (by decide +kernel) rfl rfl rfl (by decide +kernel)
set_option maxRecDepth 65536 in
theorem w_c19 : (Jvm.Cond.code ({ cls := "java/lang/StringUTF16", name := "putChar", desc := "([BII)V" } : Jvm.MethodName) jdk_52_method_4_code (3 : Nat) (Option.none : Option Jvm.ClassFile.FieldType)).before args0 about1 = true := code_word (m := ⟨8, 3⟩) (meth := k8m3) (c := k8c3) (by decide +kernel) rfl rfl rfl (by decide +kernel)
set_option maxRecDepth 65536 in
theorem w_c20 : (Jvm.Cond.code ({ cls := "java/lang/StringUTF16", name := "getChar", desc := "([BI)C" } : Jvm.MethodName) jdk_52_method_5_code (2 : Nat) (Option.some Jvm.ClassFile.FieldType.char)).before args0 about1 = true := code_word (m := ⟨8, 4⟩) (meth := k8m4) (c := k8c4) (by decide +kernel) rfl rfl rfl (by decide +kernel)
set_option maxRecDepth 65536 in
theorem w_c21 : (Jvm.Cond.code ({ cls := "java/lang/StringUTF16", name := "charAt", desc := "([BI)C" } : Jvm.MethodName) jdk_52_method_83_code (2 : Nat) (Option.some Jvm.ClassFile.FieldType.char)).before args0 about1 = true := code_word (m := ⟨8, 10⟩) (meth := k8m10) (c := k8c10) (by decide +kernel) rfl rfl rfl (by decide +kernel)
set_option maxRecDepth 65536 in
theorem w_c22 : (Jvm.Cond.code ({ cls := "java/lang/StringUTF16", name := "checkIndex", desc := "(I[B)V" } : Jvm.MethodName) jdk_52_method_91_code (2 : Nat) (Option.none : Option Jvm.ClassFile.FieldType)).before args0 about1 = true := code_word (m := ⟨8, 11⟩) (meth := k8m11) (c := k8c11) (by decide +kernel) rfl rfl rfl (by decide +kernel)
set_option maxRecDepth 65536 in
theorem w_c23 : (Jvm.Cond.code ({ cls := "java/lang/StringUTF16", name := "length", desc := "([B)I" } : Jvm.MethodName) jdk_52_method_6_code (1 : Nat) (Option.some Jvm.ClassFile.FieldType.int)).before args0 about1 = true := code_word (m := ⟨8, 5⟩) (meth := k8m5) (c := k8c5) (by decide +kernel) rfl rfl rfl (by decide +kernel)
def codes1 : List Jvm.Cond := [Jvm.Cond.code x code maxLocals ret, Jvm.Cond.code ({ cls := "com/example/tautolog/tautolog/sql/TokenIsShellCommandPinLaw", name := "draw", desc := "(I)C" } : Jvm.MethodName) method_2_code (1 : Nat) (Option.some Jvm.ClassFile.FieldType.char), Jvm.Cond.code ({ cls := "java/lang/String", name := "<init>", desc := "([C)V" } : Jvm.MethodName) jdk_42_method_3_code (2 : Nat) (Option.none : Option Jvm.ClassFile.FieldType), Jvm.Cond.code ({ cls := "java/lang/String", name := "<init>", desc := "([CIILjava/lang/Void;)V" } : Jvm.MethodName) jdk_42_method_149_code (6 : Nat) (Option.none : Option Jvm.ClassFile.FieldType), Jvm.Cond.code ({ cls := "java/lang/Object", name := "<init>", desc := "()V" } : Jvm.MethodName) object_method_1_code (1 : Nat) (Option.none : Option Jvm.ClassFile.FieldType), Jvm.Cond.code ({ cls := "java/lang/StringUTF16", name := "compress", desc := "([CII)[B" } : Jvm.MethodName) jdk_52_method_16_code (6 : Nat) (Option.some (Jvm.ClassFile.FieldType.array Jvm.ClassFile.FieldType.byte)), Jvm.Cond.code ({ cls := "java/lang/StringUTF16", name := "compress", desc := "([CI[BII)I" } : Jvm.MethodName) jdk_52_method_21_code (7 : Nat) (Option.some Jvm.ClassFile.FieldType.int), Jvm.Cond.code ({ cls := "java/lang/StringUTF16", name := "coderFromArrayLen", desc := "([BI)B" } : Jvm.MethodName) jdk_52_method_15_code (2 : Nat) (Option.some Jvm.ClassFile.FieldType.byte), Jvm.Cond.code ({ cls := "com/example/tautolog/tautolog/sql/Statements$Token", name := "<init>", desc := "(II)V" } : Jvm.MethodName) prog_243_method_1_code (3 : Nat) (Option.none : Option Jvm.ClassFile.FieldType), Jvm.Cond.code ({ cls := "java/lang/Record", name := "<init>", desc := "()V" } : Jvm.MethodName) jdk_30_method_1_code (1 : Nat) (Option.none : Option Jvm.ClassFile.FieldType), Jvm.Cond.code ({ cls := "com/example/tautolog/tautolog/sql/Statements$Token", name := "isShellCommand", desc := "(Ljava/lang/String;)Z" } : Jvm.MethodName) prog_243_method_3_code (2 : Nat) (Option.some Jvm.ClassFile.FieldType.boolean), Jvm.Cond.code ({ cls := "java/lang/String", name := "charAt", desc := "(I)C" } : Jvm.MethodName) jdk_42_method_56_code (2 : Nat) (Option.some Jvm.ClassFile.FieldType.char), Jvm.Cond.code ({ cls := "java/lang/String", name := "isLatin1", desc := "()Z" } : Jvm.MethodName) jdk_42_method_154_code (1 : Nat) (Option.some Jvm.ClassFile.FieldType.boolean), Jvm.Cond.code ({ cls := "java/lang/StringLatin1", name := "charAt", desc := "([BI)C" } : Jvm.MethodName) jdk_43_method_2_code (2 : Nat) (Option.some Jvm.ClassFile.FieldType.char), Jvm.Cond.code ({ cls := "java/lang/String", name := "checkIndex", desc := "(II)V" } : Jvm.MethodName) jdk_42_method_155_code (2 : Nat) (Option.none : Option Jvm.ClassFile.FieldType), Jvm.Cond.code ({ cls := "jdk/internal/util/Preconditions", name := "checkIndex", desc := "(IILjava/util/function/BiFunction;)I" } : Jvm.MethodName) jdk_41_method_11_code (3 : Nat) (Option.some Jvm.ClassFile.FieldType.int), Jvm.Cond.code ({ cls := "java/lang/StringUTF16", name := "toBytes", desc := "([CII)[B" } : Jvm.MethodName) jdk_52_method_14_code (5 : Nat) (Option.some (Jvm.ClassFile.FieldType.array Jvm.ClassFile.FieldType.byte)), Jvm.Cond.code ({ cls := "java/lang/StringUTF16", name := "newBytesFor", desc := "(I)[B" } : Jvm.MethodName) jdk_52_method_2_code (1 : Nat) (Option.some (Jvm.ClassFile.FieldType.array Jvm.ClassFile.FieldType.byte)), Jvm.Cond.code ({ cls := "java/lang/StringUTF16", name := "newBytesLength", desc := "(I)I" } : Jvm.MethodName) jdk_52_method_3_code (1 : Nat) (Option.some Jvm.ClassFile.FieldType.int), Jvm.Cond.code ({ cls := "java/lang/StringUTF16", name := "putChar", desc := "([BII)V" } : Jvm.MethodName) jdk_52_method_4_code (3 : Nat) (Option.none : Option Jvm.ClassFile.FieldType), Jvm.Cond.code ({ cls := "java/lang/StringUTF16", name := "getChar", desc := "([BI)C" } : Jvm.MethodName) jdk_52_method_5_code (2 : Nat) (Option.some Jvm.ClassFile.FieldType.char), Jvm.Cond.code ({ cls := "java/lang/StringUTF16", name := "charAt", desc := "([BI)C" } : Jvm.MethodName) jdk_52_method_83_code (2 : Nat) (Option.some Jvm.ClassFile.FieldType.char), Jvm.Cond.code ({ cls := "java/lang/StringUTF16", name := "checkIndex", desc := "(I[B)V" } : Jvm.MethodName) jdk_52_method_91_code (2 : Nat) (Option.none : Option Jvm.ClassFile.FieldType), Jvm.Cond.code ({ cls := "java/lang/StringUTF16", name := "length", desc := "([B)I" } : Jvm.MethodName) jdk_52_method_6_code (1 : Nat) (Option.some Jvm.ClassFile.FieldType.int)]
set_option maxRecDepth 65536 in
theorem codes_eq : words1.filter isCode = codes1 := rfl
theorem w_codes : ∀ c ∈ words1.filter isCode, c.before args0 about1 = true := by
  rw [codes_eq]
  intro c hc
  simp only [codes1, List.mem_cons, List.not_mem_nil, or_false] at hc
  rcases hc with rfl | rfl | rfl | rfl | rfl | rfl | rfl | rfl | rfl | rfl | rfl | rfl | rfl | rfl | rfl | rfl | rfl | rfl | rfl | rfl | rfl | rfl | rfl | rfl
  · exact w_c0
  · exact w_c1
  · exact w_c2
  · exact w_c3
  · exact w_c4
  · exact w_c5
  · exact w_c6
  · exact w_c7
  · exact w_c8
  · exact w_c9
  · exact w_c10
  · exact w_c11
  · exact w_c12
  · exact w_c13
  · exact w_c14
  · exact w_c15
  · exact w_c16
  · exact w_c17
  · exact w_c18
  · exact w_c19
  · exact w_c20
  · exact w_c21
  · exact w_c22
  · exact w_c23
set_option maxRecDepth 65536 in
theorem w_t1 : (words1.take 24).all (fun c => isCode c || c.before args0 about1) = true := by decide +kernel
set_option maxRecDepth 65536 in
theorem w_t2 : ((words1.drop 24).take 24).all (fun c => isCode c || c.before args0 about1) = true := by decide +kernel
set_option maxRecDepth 65536 in
theorem w_t3 : (((words1.drop 24).drop 24).take 24).all (fun c => isCode c || c.before args0 about1) = true := by decide +kernel
set_option maxRecDepth 65536 in
theorem w_t4 : ((((words1.drop 24).drop 24).drop 24).take 24).all (fun c => isCode c || c.before args0 about1) = true := by decide +kernel
set_option maxRecDepth 65536 in
theorem w_t5 : ((((words1.drop 24).drop 24).drop 24).drop 24).all (fun c => isCode c || c.before args0 about1) = true := by decide +kernel
theorem w_tables : (allAtoms (Jvm.Cond.code x code maxLocals ret :: tables_1)).before args0 about1 = true := by
  rw [allAtoms_all]
  show words1.all (fun c => c.before args0 about1) = true
  refine all_split ?_ w_codes
  rw [← List.take_append_drop 24 words1, List.all_append, w_t1, ← List.take_append_drop 24 (words1.drop 24), List.all_append, w_t2, ← List.take_append_drop 24 ((words1.drop 24).drop 24), List.all_append, w_t3, ← List.take_append_drop 24 (((words1.drop 24).drop 24).drop 24), List.all_append, w_t4, w_t5]
  rfl
set_option maxRecDepth 65536 in
theorem w_rest : rest_1_c.before args0 about1 = true := by decide +kernel
set_option maxRecDepth 65536 in
theorem w_case : (Jvm.Cond.and given_1 narrow_1).before args0 about1 = true := by decide +kernel
theorem w_applies : (headSpec (Jvm.Cond.code x code maxLocals ret :: tables_1) room_1).applies x e0.platform about1 = true :=
  (Spec.applies_iff w_frames).mpr ⟨w_running, w_runnable, w_alone, w_named, w_hears, w_ripe, w_room, w_tables⟩
theorem atStart : AtStart classFile x code maxLocals ret World_1 tables_1 room_1 Calls_1 rest_1 Pre_1 launch0 p0 e0 about1 theMethod args0 below0 :=
  ⟨lists_1, trivial, launch0.admits_env _ _ _, launch0.least_env, fairChoices_fair.cas, fairChoices_fair.clock, w_frames, w_args, w_heap, w_applies, trivial, w_rest, w_case⟩
end start1
theorem witness_1 : WitnessClaimed_1 := ⟨start1.p0, start1.e0, start1.about1, start1.theMethod, start1.args0, start1.below0, start1.atStart⟩
end Jvm.Pilot.@@N@@
