import JvmDerived
import JvmDerived.Pilot.@@N@@Statement
import JvmDerived.Pilot.@@N@@Code
set_option linter.unusedVariables false
set_option linter.unusedSimpArgs false
namespace Jvm.RoadKit
open Sem ClassFile Op Lib Jvm.Stand Jvm.Free Jvm.LawKit
section New
variable {p : Program} {l : Launch} {e : Env} {R : Room} {s : State} {m : MethodId} {args : Array Value} {below : List Frame} {meth : Method} {c : Code} {T : State} {locs : List Loc} {cells slots : Nat}
theorem retI (X : Stand p l e R s m args below meth c T locs cells slots) (hx : p.tables.exec = Jvm.exec) {pc : Nat} {Ls : Array Slot} {z : Int32} {rest : List Value} (hret : meth.sig.returnType = some .int) (hd : decode c.code pc = .ok (.ireturn, 1)) {fs : List Frame}
    (hl : ∀ (f : JFrame) (acts : List Action), f.method = m → f.locked = none → f.entered = [] → (doReturn e (T.setTop f) acts (some (.int z))).1 = T.setFrames fs) : Steps p.tables e below (T.setTop (mkF m pc Ls (.int z :: rest))) (T.setFrames fs) := by
  have hm' : T.vm.method? m = some meth := X.method'
  have hn : narrow .int (.int z) = .int z := rfl
  show Steps p.tables e below (T.setTop { method := m, pc := pc, locals := Ls, stack := _ :: rest, locked := none }) _
  jvm_step X.here [X.here.top, hx, hd, hm', hret, hn]
  first | (intro acts; rw [hl _ acts rfl rfl rfl]) | rw [hl _ _ rfl rfl rfl]
  exact Steps.refl _
end New
end Jvm.RoadKit
namespace Jvm.Pilot.@@N@@.Own
open Jvm Jvm.ClassFile Sem Op Lib Jvm.Free Jvm.Stand Jvm.LawKit Jvm.RoadKit Bundle
section Layer
variable {p : Program} {l : Launch} {e : Env} {R : Room} {s : State} {m : MethodId} {args : Array Value} {below : List Frame} {meth : Method} {c : Code} {Z : State} {a0 : Array Value} {own : String} {n0 : Nat} {h0 h : Heap} {ws ws' : List Addr} {Q Q' : Option Value → Heap → Prop} {k n k' n' : Nat} {g g' : JFrame}
/-- the walk's end: it returns, writes at n0 and above alone, keeps h0 but for ws, and Q holds -/
def Fin (p : Program) (e : Env) (below : List Frame) (s : State) (R : Room) (n0 : Nat) (h0 : Heap) (ws : List Addr) (Q : Option Value → Heap → Prop) (G : State) : Prop :=
  ∃ U o, Steps p.tables e below G U ∧ U.status = .running ∧ Ended U below o ∧ ∃ v L, o = .returned v ∧ (Fr n0 L ∧ Keep h0 U.heap ws ∧ Q v U.heap) ∧ FrameEnd s o U L R.cells R.slots
theorem Fin.step {G G' : State} (st : ∀ t, Steps p.tables e below G' t → Steps p.tables e below G t) (q : Fin p e below s R n0 h0 ws Q G') : Fin p e below s R n0 h0 ws Q G := by
  obtain ⟨U, o, h1, r⟩ := q
  exact ⟨U, o, st _ h1, r⟩
def Cx (own : String) (p : Program) (s : State) (m : MethodId) (meth : Method) (Z : State) (n0 : Nat) (h0 : Heap) (ws : List Addr) : Prop :=
  p.tables.exec = Jvm.exec ∧ Z.Warmed39 s.vm ∧ s.vm.findClass own = some m.cls ∧ meth.locks = false ∧ Old Z n0 h0 ∧ ∀ x ∈ ws, n0 ≤ x
/-- from the heap h and the frame g, k cells and n slots made, the walk ends well -/
def Go (own : String) (p : Program) (l : Launch) (e : Env) (R : Room) (s : State) (m : MethodId) (args : Array Value) (below : List Frame) (meth : Method) (c : Code) (Z : State) (n0 : Nat) (h0 : Heap) (ws : List Addr) (Q : Option Value → Heap → Prop) (k n : Nat) (h : Heap) (g : JFrame) : Prop :=
  Cx own p s m meth Z n0 h0 ws → ∀ (T : State) (L : List Loc), Stand p l e R s m args below meth c T L k n → T.heap = h → Fr n0 L → Keep h0 h ws → Fin p e below s R n0 h0 ws Q (T.setTop g)
theorem Go.cast (q : g = g') (r : Go own p l e R s m args below meth c Z n0 h0 ws Q k n h g') : Go own p l e R s m args below meth c Z n0 h0 ws Q k n h g := q ▸ r
theorem Go.keep (r : Keep h0 h ws → Go own p l e R s m args below meth c Z n0 h0 ws Q k n h g) : Go own p l e R s m args below meth c Z n0 h0 ws Q k n h g := fun hC T L X eT N K => r K hC T L X eT N K
theorem Old.le {Z : State} {n0 : Nat} {h : Heap} (O : Old Z n0 h) : n0 ≤ h.size := O.1 ▸ O.2.1
theorem Go.old (r : Old Z n0 h → Go own p l e R s m args below meth c Z n0 h0 ws Q k n h g) : Go own p l e R s m args below meth c Z n0 h0 ws Q k n h g := fun hC T L X eT N K => r (hC.2.2.2.2.1.keep K hC.2.2.2.2.2) hC T L X eT N K
/-- a step that changes the frame alone -/
theorem Go.sp (st : ∀ T : State, At T m c below → ∀ t, Steps p.tables e below (T.setTop g') t → Steps p.tables e below (T.setTop g) t) (q : Go own p l e R s m args below meth c Z n0 h0 ws Q k n h g') : Go own p l e R s m args below meth c Z n0 h0 ws Q k n h g :=
  fun hC T L X eT N K => (q hC T L X eT N K).step (st T X.here)
/-- a step that reads the heap -/
theorem Go.r (st : ∀ (s' T : State) (L : List Loc), Stand p l e R s' m args below meth c T L k n → T.heap = h → Z.Warmed39 s'.vm → ∀ t, Steps p.tables e below (T.setTop g') t → Steps p.tables e below (T.setTop g) t) (q : Go own p l e R s m args below meth c Z n0 h0 ws Q k n h g') : Go own p l e R s m args below meth c Z n0 h0 ws Q k n h g :=
  fun hC T L X eT N K => (q hC T L X eT N K).step (st s T L X eT hC.2.1)
/-- a step that may warm the tables -/
theorem Go.v (st : ∀ (s' T : State) (L : List Loc), Stand p l e R s' m args below meth c T L k n → T.heap = h → Z.Warmed39 s'.vm → s'.vm.findClass own = some m.cls → ∃ T' : State, Stand p l e R s' m args below meth c T' L k n ∧ T'.heap = h ∧ ∀ t, Steps p.tables e below (T'.setTop g') t → Steps p.tables e below (T.setTop g) t)
    (q : Go own p l e R s m args below meth c Z n0 h0 ws Q k n h g') : Go own p l e R s m args below meth c Z n0 h0 ws Q k n h g := fun hC T L X eT N K => by
  obtain ⟨T', X', e', st'⟩ := st s T L X eT hC.2.1 hC.2.2.1
  exact (q hC T' L X' e' N K).step st'
theorem Cx.ok {a : Addr} (hC : Cx own p s m meth Z n0 h0 ws) (ob : a ∈ ws ∨ h0.size ≤ a) : n0 ≤ a := ob.elim (hC.2.2.2.2.2 a) (Nat.le_trans (Old.le hC.2.2.2.2.1))
/-- a step that writes one place -/
theorem Go.w {a : Addr} {sl : Nat} {v : Value} (st : ∀ (s' T : State) (L : List Loc), Stand p l e R s' m args below meth c T L k n → T.heap = h → Z.Warmed39 s'.vm → s'.vm.findClass own = some m.cls → ∃ (T' : State) (h' : Heap), Stand p l e R s' m args below meth c T' (L ++ [⟨a, sl⟩]) k n ∧ T'.heap = h' ∧ Wr h h' a sl v ∧ ∀ t, Steps p.tables e below (T'.setTop g') t → Steps p.tables e below (T.setTop g) t)
    (ob : a ∈ ws ∨ h0.size ≤ a) (q : ∀ h' : Heap, Wr h h' a sl v → Go own p l e R s m args below meth c Z n0 h0 ws Q k n h' g') : Go own p l e R s m args below meth c Z n0 h0 ws Q k n h g := fun hC T L X eT N K => by
  obtain ⟨T', h', X', e', W, st'⟩ := st s T L X eT hC.2.1 hC.2.2.1
  exact (q h' W hC T' _ X' e' (Fr.snoc X' N (hC.ok ob)) (K.wr W ob)).step st'
/-- a step that makes cells -/
theorem Go.x {P : Heap → Prop} (st : ∀ (s' T : State) (L : List Loc), Stand p l e R s' m args below meth c T L k n → T.heap = h → Z.Warmed39 s'.vm → s'.vm.findClass own = some m.cls → ∃ (T' : State) (h' : Heap), Stand p l e R s' m args below meth c T' L k' n' ∧ T'.heap = h' ∧ Ext h h' ∧ P h' ∧ ∀ t, Steps p.tables e below (T'.setTop g') t → Steps p.tables e below (T.setTop g) t)
    (q : ∀ h' : Heap, Ext h h' → P h' → Go own p l e R s m args below meth c Z n0 h0 ws Q k' n' h' g') : Go own p l e R s m args below meth c Z n0 h0 ws Q k n h g := fun hC T L X eT N K => by
  obtain ⟨T', h', X', e', E, hP, st'⟩ := st s T L X eT hC.2.1 hC.2.2.1
  exact (q h' E hP hC T' L X' e' N (K.ext E)).step st'
/-- a step that writes objects at ws' -/
theorem Go.kp {P : Heap → Prop} (st : ∀ (s' T : State) (L : List Loc), Stand p l e R s' m args below meth c T L k n → T.heap = h → Fr n0 L → Z.Warmed39 s'.vm → s'.vm.findClass own = some m.cls → ∃ (T' : State) (h' : Heap) (L' : List Loc), Stand p l e R s' m args below meth c T' L' k n ∧ T'.heap = h' ∧ Fr n0 L' ∧ Keep h h' ws' ∧ P h' ∧ ∀ t, Steps p.tables e below (T'.setTop g') t → Steps p.tables e below (T.setTop g) t)
    (ob : ∀ x ∈ ws', x ∈ ws ∨ h0.size ≤ x) (q : ∀ h' : Heap, Keep h h' ws' → P h' → Go own p l e R s m args below meth c Z n0 h0 ws Q k n h' g') : Go own p l e R s m args below meth c Z n0 h0 ws Q k n h g := fun hC T L X eT N K => by
  obtain ⟨T', h', L', X', e', N', K', hP, st'⟩ := st s T L X eT N hC.2.1 hC.2.2.1
  exact (q h' K' hP hC T' L' X' e' N' (K.trans K' ob)).step st'
/-- new C -/
theorem Go.newO {C : String} {idx sl pc pc' : Nat} {Ls : Array Slot} {S : List Value} (hd : decode c.code pc = .ok (.new idx, 3)) (w : (Cond.classLink own idx C).before a0 Z = true) (wi : (Cond.instantiable C sl).before a0 Z = true) (wz : (Cond.initialized C).before a0 Z = true)
    (hk : k' = k + 1) (hn : n' = n + sl) (hp : pc' = pc + 3) (hc : k' ≤ R.cells) (hl : n' ≤ R.slots)
    (q : ∀ (a : Addr) (h' : Heap), a = h.size → h0.size ≤ a → Ext h h' → Exa Z h' a C → (∀ {O nm d : String} {ty : FieldType}, Laid Z a0 C O nm d → parseFieldDescriptor d = some ty → Fld Z h' a O nm d (defaultValue ty)) → Go own p l e R s m args below meth c Z n0 h0 ws Q k' n' h' (mkF m pc' Ls (.ref a :: S))) :
    Go own p l e R s m args below meth c Z n0 h0 ws Q k n h (mkF m pc Ls S) := fun hC T L X eT N K => by
  subst hk hn hp
  obtain ⟨T2, h2, X2, e2, E2, A2, D2, -, st2⟩ := RoadKit.newO X hC.1 hC.2.1 hC.2.2.1 w wi wz eT (g := (mkF m pc Ls S)) rfl hd hc hl
  exact (q _ h2 rfl K.1 E2 A2 D2 hC T2 _ X2 e2 N (K.ext E2)).step st2
/-- newarray of a primitive kind -/
theorem Go.newP {aty : ArrayType} {ty : FieldType} {dv : Value} {pc pc' cap : Nat} {z : Int32} {Ls : Array Slot} {S : List Value} (hd : decode c.code pc = .ok (.newarray aty, 2)) (hty : newarray.typeOf aty = ty) (hdv : defaultValue ty = dv) (w : (Cond.arrayClass ty).before a0 Z = true) (hz : ¬ z < 0) (hcap : z.toNatClampNeg ≤ cap) (hb : cap * 8 ≤ 536870912)
    (hk : k' = k + 1) (hn : n' = n + cap) (hp : pc' = pc + 2) (hc : k' ≤ R.cells) (hl : n' ≤ R.slots)
    (q : ∀ (a : Addr) (h' : Heap) (cA : ClassId), a = h.size → h0.size ≤ a → Ext h h' → Arv Z h' a cA ty z [] dv → Go own p l e R s m args below meth c Z n0 h0 ws Q k' n' h' (mkF m pc' Ls (.ref a :: S))) :
    Go own p l e R s m args below meth c Z n0 h0 ws Q k n h (mkF m pc Ls (.int z :: S)) := fun hC T L X eT N K => by
  subst hk hn hp hty hdv
  obtain ⟨T2, h2, k2, X2, e2, E2, A2, st2⟩ := RoadKit.newP X hC.1 hC.2.1 w eT (g := (mkF m pc Ls (.int z :: S))) rfl hd rfl hz hcap hb hc hl
  exact (q _ h2 k2 rfl K.1 E2 (Arv.new A2 hz) hC T2 _ X2 e2 N (K.ext E2)).step st2
/-- the return -/
theorem Go.ret {v : Option Value} (st : ∀ (s' T : State) (L : List Loc) (fs : List Frame), Stand p l e R s' m args below meth c T L k n → (∀ (f : JFrame) (acts : List Action), f.method = m → f.locked = none → f.entered = [] → (doReturn e (T.setTop f) acts v).1 = T.setFrames fs) → Steps p.tables e below (T.setTop g) (T.setFrames fs))
    (hv : meth.sig.returnType = none → v = none) (hc : k ≤ R.cells) (hs : n ≤ R.slots) (q : Q v h) : Go own p l e R s m args below meth c Z n0 h0 ws Q k n h g := fun hC T L X eT N K => by
  obtain ⟨fs, hr, hrun, hended, hW, hsame⟩ := X.leave (v := v) hv hC.2.2.2.1
  refine ⟨_, _, st s T L fs X hr, hrun, hended, _, _, rfl, ⟨N, ?_, ?_⟩, ⟨_, rfl⟩, hW, hsame.mono hc hs⟩
  · show Keep h0 T.heap ws
    rw [eT]; exact K
  · show Q v T.heap
    rw [eT]; exact q
/-- what a call asks and leaves -/
def Bk (l : Launch) (R : Room) (p : Program) (e : Env) (below : List Frame) (s : State) (args : Array Value) (y : MethodName) (len W : Nat) (as' : Array Value) (h : Heap) (rc rs n0 : Nat) (ws' : List Addr) (Q' : Option Value → Heap → Prop) : Prop :=
  Back l R p e below s args y len W (fun A a => a = as' ∧ A.U.heap = h ∧ A.cells + rc ≤ R.cells ∧ A.slots + rs ≤ R.slots)
    (fun A _ v B => ∃ L, (Fr n0 L ∧ Keep h B.U.heap ws' ∧ Q' v B.U.heap) ∧ B.locs = A.locs ++ L ∧ B.cells = A.cells + rc ∧ B.slots = A.slots + rs)
/-- a contract -/
def Ct (l : Launch) (Z : State) (y : MethodName) (bytes : ByteArray) (ml : Nat) (ret : Option FieldType) (wds : List Cond) (R : Room) (as' : Array Value) (n0 : Nat) (h0 : Heap) (ws : List Addr) (Q : Option Value → Heap → Prop) : Prop :=
  MetFree l y (head1 (Cond.code y bytes ml ret :: wds) R) (fun a U => a = as' ∧ Z.Warmed39 U.vm ∧ U.heap = h0) (fun _ _ _ _ _ => True) (fun _ U o U' => ∃ v L, o = .returned v ∧ (Fr n0 L ∧ Keep h0 U'.heap ws ∧ Q v U'.heap) ∧ FrameEnd U o U' L R.cells R.slots)
theorem Ct.of {y : MethodName} {bytes : ByteArray} {ml : Nat} {ret : Option FieldType} {wds : List Cond} {as' : Array Value} (pn : plainFor y = true) (hn : Old Z n0 h0) (hws : ∀ x ∈ ws, n0 ≤ x)
    (body : ∀ (p : Program) (e : Env) (s : State) (m : MethodId) (below : List Frame) (meth : Method) (c : Code), p.tables.exec = Jvm.exec → c.code = bytes → c.maxLocals = ml → meth.sig.returnType = ret → meth.name = y.name → Go y.cls p l e R s m as' below meth c Z n0 h0 ws Q 0 0 h0 (entryFrame m as' ml)) :
    Ct l Z y bytes ml ret wds R as' n0 h0 ws Q := by
  refine MetFree.of_bodySF pn hisR ?_
  intro p e s m args below meth c s₁ Bd hml0 hP hK
  obtain ⟨rfl, hZ, hh⟩ := hP
  have X0 : Stand p l e R s m args below meth c s₁ [] 0 0 := Stand.of_body Bd
  have e0 : s₁.heap = h0 := by rw [← hh, Bd.state]; rfl
  exact body p e s m below meth c Bd.exec Bd.bytes hml0 Bd.returns (name_of_methodNamed Bd.named Bd.method).1 ⟨Bd.exec, hZ, findClass_of_methodNamed Bd.named, Bd.notSynchronized, hn, hws⟩ s₁ [] X0 e0 (Fr.nil n0) (Keep.refl _ _)
theorem Ct.bk {y : MethodName} {bytes : ByteArray} {ml : Nat} {ret : Option FieldType} {rm : Room} {as' : Array Value} {len W : Nat} (hM : Ct l Z y bytes ml ret [] rm as' n0 h ws' Q') (hZ : Z.Warmed39 s.vm) (wc : (Cond.code y bytes ml ret).before a0 Z = true) (wz : (Cond.initialized y.cls).before a0 Z = true) (hf : rm.frames + 1 ≤ R.frames) (hl : W + (ml + 11) + rm.locals ≤ R.locals) :
    Bk l R p e below s args y len W as' h rm.cells rm.slots n0 ws' Q' := RoadKit.backOf (Q := fun v h' L => Fr n0 L ∧ Keep h h' ws' ∧ Q' v h') hM hZ wc wz hf hl
/-- a law of the library that changes nothing -/
theorem Bk.pure {y : MethodName} {as' : Array Value} {len W : Nat} {P : Option Value → Prop} (hB : Back l R p e below s args y len W (fun A a => a = as' ∧ A.U.heap = h ∧ A.cells + 0 ≤ R.cells ∧ A.slots + 0 ≤ R.slots) (fun A _ v B => ∃ L, (P v ∧ L = [] ∧ B.U.heap = h) ∧ B.locs = A.locs ++ L ∧ B.cells = A.cells + 0 ∧ B.slots = A.slots + 0)) :
    Bk l R p e below s args y len W as' h 0 0 n0 [] (fun v h' => P v ∧ h' = h) :=
  Back.mono hB (fun _ _ q => q) fun A a v B _ ⟨L, ⟨q1, q2, q3⟩, q4, q5, q6⟩ => ⟨L, ⟨q2 ▸ Fr.nil n0, q3 ▸ Keep.refl _ _, q1, q3⟩, q4, q5, q6⟩
theorem Bk.mono {y : MethodName} {as' : Array Value} {len W rc rs : Nat} {Q'' : Option Value → Heap → Prop} (hB : Bk l R p e below s args y len W as' h rc rs n0 ws' Q') (f : ∀ v h', Keep h h' ws' → Q' v h' → Q'' v h') : Bk l R p e below s args y len W as' h rc rs n0 ws' Q'' :=
  Back.mono hB (fun _ _ q => q) fun A a v B _ ⟨L, ⟨q1, q2, q3⟩, r⟩ => ⟨L, ⟨q1, q2, f _ _ q2 q3⟩, r⟩
theorem catOf {m : MethodId} {pc : Nat} {Ls : Array Slot} {S : List Value} {x W : Nat} (hW : x ≤ W) : 2 * (mkF m pc Ls S).monitorRoom + x ≤ W := by
  show 2 * 0 + _ ≤ _
  omega
/-- a constructor's call -/
theorem Go.callC {y : MethodName} {bytes : ByteArray} {ml idx W rc rs pc pc' : Nat} {a : Addr} {argsL rest S : List Value} {Ls : Array Slot} (hd : decode c.code pc = .ok (.invokespecial idx, 3)) (hy1 : y.name = "<init>") (w1 : (Cond.methodLink own idx y).before a0 Z = true) (w2 : (Cond.instanceMethod y).before a0 Z = true) (w3 : (Cond.code y bytes ml none).before a0 Z = true)
    (hy : y.cls ≠ "java/lang/invoke/MethodHandle" ∧ y.cls ≠ "java/lang/invoke/VarHandle") (hK : ∀ (s' : State), Z.Warmed39 s'.vm → Bk l R p e below s' args y 3 W (.ref a :: argsL).toArray h rc rs n0 ws' Q')
    (hsz : Ls.size = c.maxLocals) (hlen : ∀ sig, parseMethodDescriptor y.desc = some sig → argsL.length = sig.parameters.length) (hst : S = argsL.reverse ++ .ref a :: rest) (hW : (rest.map fun v => v.category).sum ≤ W)
    (hk : k' = k + rc) (hn : n' = n + rs) (hp : pc' = pc + 3) (hc : k' ≤ R.cells) (hl : n' ≤ R.slots) (ob : ∀ x ∈ ws', x ∈ ws ∨ h0.size ≤ x)
    (q : ∀ (v : Option Value) (h' : Heap), Keep h h' ws' → Q' v h' → Go own p l e R s m args below meth c Z n0 h0 ws Q k' n' h' (mkF m pc' Ls (v.toList ++ rest))) :
    Go own p l e R s m args below meth c Z n0 h0 ws Q k n h (mkF m pc Ls S) := fun hC T L X eT N K => by
  subst hk hn hp
  obtain ⟨v, _, ⟨T1, L1, k1, n1⟩, -, X1, ⟨Lc, hQ, l1, y1, z1⟩, st⟩ := X.specialBack hC.1 (y := y) hy1 hC.2.2.1 (mvT hC.2.1 w1) (mvT hC.2.1 w2) (mvT hC.2.1 w3) hy (hK s hC.2.1) (g := mkF m pc Ls S) rfl hsz (Steps.refl _) (a := a) (argsL := argsL) (rest := rest) hlen hst (catOf hW) hd (fun _ _ => ⟨rfl, eT, hc, hl⟩)
  dsimp only [Pt.U, Pt.locs, Pt.cells, Pt.slots] at X1 l1 y1 z1 st hQ
  subst l1 y1 z1
  obtain ⟨N1, K1, q1⟩ := hQ
  exact (q v T1.heap K1 q1 hC T1 _ X1 rfl (N.app N1) (K.trans K1 ob)).step (fun t r => st.trans r)
/-- an instance method's call -/
theorem Go.callV {y z : MethodName} {C : String} {idx W rc rs pc pc' : Nat} {a : Addr} {argsL rest S : List Value} {Ls : Array Slot} (hd : decode c.code pc = .ok (.invokevirtual idx, 3)) (w1 : (Cond.methodLink own idx y).before a0 Z = true) (w2 : (Cond.declares y).before a0 Z = true) (nf : ∀ s' : State, Z.Warmed39 s'.vm → NotFace s' y) (w3 : (Cond.selects C y z).before a0 Z = true) (w4 : (Cond.instanceMethod z).before a0 Z = true)
    (hy : y.cls ≠ "java/lang/invoke/MethodHandle" ∧ y.cls ≠ "java/lang/invoke/VarHandle") (hK : ∀ (s' : State), Z.Warmed39 s'.vm → Bk l R p e below s' args z 3 W (.ref a :: argsL).toArray h rc rs n0 ws' Q') (E : Exa Z h a C)
    (hsz : Ls.size = c.maxLocals) (hlen : ∀ sig, parseMethodDescriptor y.desc = some sig → argsL.length = sig.parameters.length) (hst : S = argsL.reverse ++ .ref a :: rest) (hW : (rest.map fun v => v.category).sum ≤ W)
    (hk : k' = k + rc) (hn : n' = n + rs) (hp : pc' = pc + 3) (hc : k' ≤ R.cells) (hl : n' ≤ R.slots) (ob : ∀ x ∈ ws', x ∈ ws ∨ h0.size ≤ x)
    (q : ∀ (v : Option Value) (h' : Heap), Keep h h' ws' → Q' v h' → Go own p l e R s m args below meth c Z n0 h0 ws Q k' n' h' (mkF m pc' Ls (v.toList ++ rest))) :
    Go own p l e R s m args below meth c Z n0 h0 ws Q k n h (mkF m pc Ls S) := fun hC T L X eT N K => by
  subst hk hn hp
  obtain ⟨cq, kq, qa, qb, qc⟩ := isOf hC.2.1 eT E
  obtain ⟨v, _, ⟨T1, L1, k1, n1⟩, -, X1, ⟨Lc, hQ, l1, y1, z1⟩, st⟩ := X.virtualBack hC.1 (y := y) (z := z) hC.2.2.1 (mvT hC.2.1 w1) (mvT hC.2.1 w2) (nf s hC.2.1) (mvT hC.2.1 w3) (mvT hC.2.1 w4) hy (hK s hC.2.1) qa qc (g := mkF m pc Ls S) rfl hsz (Steps.refl _) (argsL := argsL) (rest := rest) hlen hst (catOf hW) hd (fun _ _ => ⟨rfl, eT, hc, hl⟩)
  dsimp only [Pt.U, Pt.locs, Pt.cells, Pt.slots] at X1 l1 y1 z1 st hQ
  subst l1 y1 z1
  obtain ⟨N1, K1, q1⟩ := hQ
  exact (q v T1.heap K1 q1 hC T1 _ X1 rfl (N.app N1) (K.trans K1 ob)).step (fun t r => st.trans r)
/-- a static method's call -/
theorem Go.callS {y : MethodName} {bytes : ByteArray} {ml idx W rc rs pc pc' : Nat} {rt : Option FieldType} {argsL rest S : List Value} {Ls : Array Slot} (hd : decode c.code pc = .ok (.invokestatic idx, 3)) (w1 : (Cond.methodLink own idx y).before a0 Z = true) (w2 : (Cond.static y).before a0 Z = true) (w3 : (Cond.initialized y.cls).before a0 Z = true) (w4 : (Cond.code y bytes ml rt).before a0 Z = true)
    (hy : y.cls ≠ "java/lang/invoke/MethodHandle" ∧ y.cls ≠ "java/lang/invoke/VarHandle") (hK : ∀ (s' : State), Z.Warmed39 s'.vm → Bk l R p e below s' args y 3 W argsL.toArray h rc rs n0 ws' Q')
    (hsz : Ls.size = c.maxLocals) (hlen : ∀ sig, parseMethodDescriptor y.desc = some sig → argsL.length = sig.parameters.length) (hst : S = argsL.reverse ++ rest) (hW : (rest.map fun v => v.category).sum ≤ W)
    (hk : k' = k + rc) (hn : n' = n + rs) (hp : pc' = pc + 3) (hc : k' ≤ R.cells) (hl : n' ≤ R.slots) (ob : ∀ x ∈ ws', x ∈ ws ∨ h0.size ≤ x)
    (q : ∀ (v : Option Value) (h' : Heap), Keep h h' ws' → Q' v h' → Go own p l e R s m args below meth c Z n0 h0 ws Q k' n' h' (mkF m pc' Ls (v.toList ++ rest))) :
    Go own p l e R s m args below meth c Z n0 h0 ws Q k n h (mkF m pc Ls S) := fun hC T L X eT N K => by
  subst hk hn hp
  obtain ⟨v, _, ⟨T1, L1, k1, n1⟩, -, X1, ⟨Lc, hQ, l1, y1, z1⟩, st⟩ := Jvm.LawKit.callS X hC.1 (y := y) hC.2.2.1 (mvT hC.2.1 w1) (mvT hC.2.1 w2) (mvT hC.2.1 w3) (mvT hC.2.1 w4) hy (hK s hC.2.1) (g := mkF m pc Ls S) rfl hsz (argsL := argsL) (rest := rest) hlen hst (catOf hW) hd (fun _ _ => ⟨rfl, eT, hc, hl⟩)
  dsimp only [Pt.U, Pt.locs, Pt.cells, Pt.slots] at X1 l1 y1 z1 st hQ
  subst l1 y1 z1
  obtain ⟨N1, K1, q1⟩ := hQ
  exact (q v T1.heap K1 q1 hC T1 _ X1 rfl (N.app N1) (K.trans K1 ob)).step st
/-- calls that change nothing -/
theorem Go.callSP {y : MethodName} {bytes : ByteArray} {ml idx W pc pc' : Nat} {rt : Option FieldType} {argsL rest S : List Value} {Ls : Array Slot} {P : Option Value → Prop} (hd : decode c.code pc = .ok (.invokestatic idx, 3)) (w1 : (Cond.methodLink own idx y).before a0 Z = true) (w2 : (Cond.static y).before a0 Z = true) (w3 : (Cond.initialized y.cls).before a0 Z = true) (w4 : (Cond.code y bytes ml rt).before a0 Z = true)
    (hy : y.cls ≠ "java/lang/invoke/MethodHandle" ∧ y.cls ≠ "java/lang/invoke/VarHandle") (hK : ∀ (s' : State), Z.Warmed39 s'.vm → Bk l R p e below s' args y 3 W argsL.toArray h 0 0 n0 [] (fun v h' => P v ∧ h' = h))
    (hsz : Ls.size = c.maxLocals) (hlen : ∀ sig, parseMethodDescriptor y.desc = some sig → argsL.length = sig.parameters.length) (hst : S = argsL.reverse ++ rest) (hW : (rest.map fun v => v.category).sum ≤ W) (hp : pc' = pc + 3) (hc : k ≤ R.cells) (hl : n ≤ R.slots)
    (q : ∀ v : Option Value, P v → Go own p l e R s m args below meth c Z n0 h0 ws Q k n h (mkF m pc' Ls (v.toList ++ rest))) :
    Go own p l e R s m args below meth c Z n0 h0 ws Q k n h (mkF m pc Ls S) :=
  Go.callS hd w1 w2 w3 w4 hy hK hsz hlen hst hW rfl rfl hp hc hl all0 (fun v h' _ ⟨q1, q2⟩ => q2 ▸ q v q1)
theorem Go.callVP {y z : MethodName} {C : String} {idx W pc pc' : Nat} {a : Addr} {argsL rest S : List Value} {Ls : Array Slot} {P : Option Value → Prop} (hd : decode c.code pc = .ok (.invokevirtual idx, 3)) (w1 : (Cond.methodLink own idx y).before a0 Z = true) (w2 : (Cond.declares y).before a0 Z = true) (nf : ∀ s' : State, Z.Warmed39 s'.vm → NotFace s' y) (w3 : (Cond.selects C y z).before a0 Z = true) (w4 : (Cond.instanceMethod z).before a0 Z = true)
    (hy : y.cls ≠ "java/lang/invoke/MethodHandle" ∧ y.cls ≠ "java/lang/invoke/VarHandle") (hK : ∀ (s' : State), Z.Warmed39 s'.vm → Bk l R p e below s' args z 3 W (.ref a :: argsL).toArray h 0 0 n0 [] (fun v h' => P v ∧ h' = h)) (E : Exa Z h a C)
    (hsz : Ls.size = c.maxLocals) (hlen : ∀ sig, parseMethodDescriptor y.desc = some sig → argsL.length = sig.parameters.length) (hst : S = argsL.reverse ++ .ref a :: rest) (hW : (rest.map fun v => v.category).sum ≤ W) (hp : pc' = pc + 3) (hc : k ≤ R.cells) (hl : n ≤ R.slots)
    (q : ∀ v : Option Value, P v → Go own p l e R s m args below meth c Z n0 h0 ws Q k n h (mkF m pc' Ls (v.toList ++ rest))) :
    Go own p l e R s m args below meth c Z n0 h0 ws Q k n h (mkF m pc Ls S) :=
  Go.callV hd w1 w2 nf w3 w4 hy hK E hsz hlen hst hW rfl rfl hp hc hl all0 (fun v h' _ ⟨q1, q2⟩ => q2 ▸ q v q1)
theorem Go.callCP {y : MethodName} {bytes : ByteArray} {ml idx W pc pc' : Nat} {a : Addr} {argsL rest S : List Value} {Ls : Array Slot} {P : Option Value → Prop} (hd : decode c.code pc = .ok (.invokespecial idx, 3)) (hy1 : y.name = "<init>") (w1 : (Cond.methodLink own idx y).before a0 Z = true) (w2 : (Cond.instanceMethod y).before a0 Z = true) (w3 : (Cond.code y bytes ml none).before a0 Z = true)
    (hy : y.cls ≠ "java/lang/invoke/MethodHandle" ∧ y.cls ≠ "java/lang/invoke/VarHandle") (hK : ∀ (s' : State), Z.Warmed39 s'.vm → Bk l R p e below s' args y 3 W (.ref a :: argsL).toArray h 0 0 n0 [] (fun v h' => P v ∧ h' = h))
    (hsz : Ls.size = c.maxLocals) (hlen : ∀ sig, parseMethodDescriptor y.desc = some sig → argsL.length = sig.parameters.length) (hst : S = argsL.reverse ++ .ref a :: rest) (hW : (rest.map fun v => v.category).sum ≤ W) (hp : pc' = pc + 3) (hc : k ≤ R.cells) (hl : n ≤ R.slots)
    (q : ∀ v : Option Value, P v → Go own p l e R s m args below meth c Z n0 h0 ws Q k n h (mkF m pc' Ls (v.toList ++ rest))) :
    Go own p l e R s m args below meth c Z n0 h0 ws Q k n h (mkF m pc Ls S) :=
  Go.callC hd hy1 w1 w2 w3 hy hK hsz hlen hst hW rfl rfl hp hc hl all0 (fun v h' _ ⟨q1, q2⟩ => q2 ▸ q v q1)
end Layer
theorem nar_ref {C : String} {v : Value} (h : v.isRef = true) : narrow (.object C) v = v := by rcases ref_cases h with rfl | ⟨_, rfl⟩ <;> rfl
theorem fit_ref {C : String} {v : Value} (h : v.isRef = true) : fits (.object C) v = true := by rcases ref_cases h with rfl | ⟨_, rfl⟩ <;> rfl
end Jvm.Pilot.@@N@@.Own
namespace Jvm.Pilot.@@N@@
open Jvm Jvm.ClassFile Sem Op Lib Jvm.Free Jvm.Stand Jvm.LawKit Jvm.RoadKit Bundle
theorem own_w {a0 : Array Value} {Z : State} (hw : ∀ d ∈ tables_1, d.before a0 Z = true) {d : Jvm.Cond} (i : Nat) (h : tables_1[i]? = some d) : d.before a0 Z = true := hw d (List.mem_of_getElem? h)
section Small
variable {p : Program} {l : Launch} {e : Env} {R : Room} {s : State} {m : MethodId} {args : Array Value} {below : List Frame} {meth : Method} {c : Code} {T : State} {locs : List Loc} {cells slots : Nat} {Z : State} {a0 : Array Value} {h h' : Heap} {a : Addr} {k : ClassId} {ty : FieldType} {z j : Int32} {vs : List Value} {dv v : Value} {g : JFrame} {rest : List Value}
theorem own_len (X : Stand p l e R s m args below meth c T locs cells slots) (hx : p.tables.exec = Jvm.exec) (hZ : Z.Warmed39 s.vm) (eT : T.heap = h) (F : Arv Z h a k ty z vs dv) (hg : g.method = m) (hs : g.stack = .ref a :: rest) (hd : decode c.code g.pc = .ok (.arraylength, 1)) (t : State)
    (r : Steps p.tables e below (T.setTop { g with pc := g.pc + 1, stack := .int z :: rest }) t) : Steps p.tables e below (T.setTop g) t := by
  obtain ⟨cl, A, -, S, hz, -, -⟩ := F
  refine X.arraylength hx (by rw [eT]; exact A.1) (State.isArrayOf_alike hZ.alike A.2.1) hg hs hd t ?_
  rw [len_of S hz]; exact r
theorem own_ldC (X : Stand p l e R s m args below meth c T locs cells slots) (hx : p.tables.exec = Jvm.exec) (hZ : Z.Warmed39 s.vm) (eT : T.heap = h) (F : Arv Z h a k .char z vs dv) (hj : ¬ j < 0 ∧ j < z) (hv : vs.getD j.toNatClampNeg dv = v) (hg : g.method = m) (hs : g.stack = .int j :: .ref a :: rest) (hd : decode c.code g.pc = .ok (.caload, 1)) (t : State)
    (r : Steps p.tables e below (T.setTop { g with pc := g.pc + 1, stack := v :: rest }) t) : Steps p.tables e below (T.setTop g) t := by
  obtain ⟨cl, A, -, S, hz, H, -⟩ := F
  exact X.caload hx (by rw [eT]; exact A.1) (State.isArrayOf_alike hZ.alike A.2.1) A.2.2 (inb_of S hj) (H.at (inb_of S hj) hv) hg hs hd t r
theorem own_ldB (X : Stand p l e R s m args below meth c T locs cells slots) (hx : p.tables.exec = Jvm.exec) (hZ : Z.Warmed39 s.vm) (eT : T.heap = h) (F : Arv Z h a k .byte z vs dv) (hj : ¬ j < 0 ∧ j < z) (hv : vs.getD j.toNatClampNeg dv = v) (hg : g.method = m) (hs : g.stack = .int j :: .ref a :: rest) (hd : decode c.code g.pc = .ok (.baload, 1)) (t : State)
    (r : Steps p.tables e below (T.setTop { g with pc := g.pc + 1, stack := v :: rest }) t) : Steps p.tables e below (T.setTop g) t := by
  obtain ⟨cl, A, -, S, hz, H, -⟩ := F
  exact X.baloadBytes hx (by rw [eT]; exact A.1) (State.isArrayOf_alike hZ.alike A.2.1) A.2.2 (inb_of S hj) (H.at (inb_of S hj) hv) hg hs hd t r
theorem own_ldI (X : Stand p l e R s m args below meth c T locs cells slots) (hx : p.tables.exec = Jvm.exec) (hZ : Z.Warmed39 s.vm) (eT : T.heap = h) (F : Arv Z h a k .int z vs dv) (hj : ¬ j < 0 ∧ j < z) (hv : vs.getD j.toNatClampNeg dv = v) (hg : g.method = m) (hs : g.stack = .int j :: .ref a :: rest) (hd : decode c.code g.pc = .ok (.iaload, 1)) (t : State)
    (r : Steps p.tables e below (T.setTop { g with pc := g.pc + 1, stack := v :: rest }) t) : Steps p.tables e below (T.setTop g) t := by
  obtain ⟨cl, A, -, S, hz, H, -⟩ := F
  exact X.iaload hx (by rw [eT]; exact A.1) (State.isArrayOf_alike hZ.alike A.2.1) A.2.2 (inb_of S hj) (H.at (inb_of S hj) hv) hg hs hd t r
theorem own_ldL (X : Stand p l e R s m args below meth c T locs cells slots) (hx : p.tables.exec = Jvm.exec) (hZ : Z.Warmed39 s.vm) (eT : T.heap = h) (F : Arv Z h a k .long z vs dv) (hj : ¬ j < 0 ∧ j < z) (hv : vs.getD j.toNatClampNeg dv = v) (hg : g.method = m) (hs : g.stack = .int j :: .ref a :: rest) (hd : decode c.code g.pc = .ok (.laload, 1)) (t : State)
    (r : Steps p.tables e below (T.setTop { g with pc := g.pc + 1, stack := v :: rest }) t) : Steps p.tables e below (T.setTop g) t := by
  obtain ⟨cl, A, -, S, hz, H, -⟩ := F
  exact X.laload hx (by rw [eT]; exact A.1) (State.isArrayOf_alike hZ.alike A.2.1) A.2.2 (inb_of S hj) (H.at (inb_of S hj) hv) hg hs hd t r
theorem own_ldA {C : String} (X : Stand p l e R s m args below meth c T locs cells slots) (hx : p.tables.exec = Jvm.exec) (hZ : Z.Warmed39 s.vm) (eT : T.heap = h) (F : Arv Z h a k (.object C) z vs dv) (hj : ¬ j < 0 ∧ j < z) (hv : vs.getD j.toNatClampNeg dv = v) (hg : g.method = m) (hs : g.stack = .int j :: .ref a :: rest) (hd : decode c.code g.pc = .ok (.aaload, 1)) (t : State)
    (r : Steps p.tables e below (T.setTop { g with pc := g.pc + 1, stack := v :: rest }) t) : Steps p.tables e below (T.setTop g) t := by
  obtain ⟨cl, A, -, S, hz, H, -⟩ := F
  exact X.aaload hx (by rw [eT]; exact A.1) (State.isArrayOf_alike hZ.alike A.2.1) rfl A.2.2 (inb_of S hj) (H.at (inb_of S hj) hv) hg hs hd t r
theorem own_stC {x : Int32} (X : Stand p l e R s m args below meth c T locs cells slots) (hx : p.tables.exec = Jvm.exec) (hZ : Z.Warmed39 s.vm) (eT : T.heap = h) (F : Arv Z h a k .char z vs dv) (hj : ¬ j < 0 ∧ j < z) (hg : g.method = m) (hs : g.stack = .int x :: .int j :: .ref a :: rest) (hd : decode c.code g.pc = .ok (.castore, 1)) :
    ∃ (T' : State) (h' : Heap), Stand p l e R s m args below meth c T' (locs ++ [⟨a, j.toNatClampNeg⟩]) cells slots ∧ T'.heap = h' ∧ Wr h h' a j.toNatClampNeg (.int (nar .char x)) ∧ ∀ t, Steps p.tables e below (T'.setTop { g with pc := g.pc + 1, stack := rest }) t → Steps p.tables e below (T.setTop g) t := by
  obtain ⟨cl, A, -, S, hz, H, -⟩ := F
  exact stC X hx hZ eT A (inb_of S hj) hg hs hd
theorem own_stB {x : Int32} (X : Stand p l e R s m args below meth c T locs cells slots) (hx : p.tables.exec = Jvm.exec) (hZ : Z.Warmed39 s.vm) (eT : T.heap = h) (F : Arv Z h a k .byte z vs dv) (hj : ¬ j < 0 ∧ j < z) (hg : g.method = m) (hs : g.stack = .int x :: .int j :: .ref a :: rest) (hd : decode c.code g.pc = .ok (.bastore, 1)) :
    ∃ (T' : State) (h' : Heap), Stand p l e R s m args below meth c T' (locs ++ [⟨a, j.toNatClampNeg⟩]) cells slots ∧ T'.heap = h' ∧ Wr h h' a j.toNatClampNeg (.int (nar .byte x)) ∧ ∀ t, Steps p.tables e below (T'.setTop { g with pc := g.pc + 1, stack := rest }) t → Steps p.tables e below (T.setTop g) t := by
  obtain ⟨cl, A, -, S, hz, H, -⟩ := F
  exact stB X hx hZ eT A (inb_of S hj) hg hs hd
theorem own_stI {x : Int32} (X : Stand p l e R s m args below meth c T locs cells slots) (hx : p.tables.exec = Jvm.exec) (hZ : Z.Warmed39 s.vm) (eT : T.heap = h) (F : Arv Z h a k .int z vs dv) (hj : ¬ j < 0 ∧ j < z) (hg : g.method = m) (hs : g.stack = .int x :: .int j :: .ref a :: rest) (hd : decode c.code g.pc = .ok (.iastore, 1)) :
    ∃ (T' : State) (h' : Heap), Stand p l e R s m args below meth c T' (locs ++ [⟨a, j.toNatClampNeg⟩]) cells slots ∧ T'.heap = h' ∧ Wr h h' a j.toNatClampNeg (.int x) ∧ ∀ t, Steps p.tables e below (T'.setTop { g with pc := g.pc + 1, stack := rest }) t → Steps p.tables e below (T.setTop g) t := by
  obtain ⟨cl, A, -, S, hz, H, -⟩ := F
  exact stI X hx hZ eT A (inb_of S hj) hg hs hd
theorem own_stJ {x : Int64} (X : Stand p l e R s m args below meth c T locs cells slots) (hx : p.tables.exec = Jvm.exec) (hZ : Z.Warmed39 s.vm) (eT : T.heap = h) (F : Arv Z h a k .long z vs dv) (hj : ¬ j < 0 ∧ j < z) (hg : g.method = m) (hs : g.stack = .long x :: .int j :: .ref a :: rest) (hd : decode c.code g.pc = .ok (.lastore, 1)) :
    ∃ (T' : State) (h' : Heap), Stand p l e R s m args below meth c T' (locs ++ [⟨a, j.toNatClampNeg⟩]) cells slots ∧ T'.heap = h' ∧ Wr h h' a j.toNatClampNeg (.long x) ∧ ∀ t, Steps p.tables e below (T'.setTop { g with pc := g.pc + 1, stack := rest }) t → Steps p.tables e below (T.setTop g) t := by
  obtain ⟨cl, A, -, S, hz, H, -⟩ := F
  exact stJ X hx hZ eT A (inb_of S hj) hg hs hd
theorem own_set {v' : Value} (F : Arv Z h a k ty z vs dv) (hv : fits ty v = true) (W : Wr h h' a j.toNatClampNeg v) (e : v = v') (i : Nat) (hj : j.toNatClampNeg = i) (hi : i < vs.length) : Arv Z h' a k ty z (vs.set i v') dv := by
  subst e
  obtain ⟨cl, A, q1, S, q3, H, G⟩ := F
  exact Arv.set A q1 S q3 H G hv W i hj hi
theorem own_setx (F : Arv Z h a k ty z vs dv) (hv : fits ty v = true) (W : Wr h h' a j.toNatClampNeg v) (hj : ¬ j < 0 ∧ j < z) : ∃ vs', Arv Z h' a k ty z vs' dv := by
  refine ⟨_, own_set (vs := vs ++ List.replicate (j.toNatClampNeg + 1) dv) (F.pad (pad_rep vs dv _)) hv W rfl j.toNatClampNeg rfl ?_⟩
  simp only [List.length_append, List.length_replicate]
  omega
theorem own_ldcI {own : String} {index : Nat} {x : Int32} (X : Stand p l e R s m args below meth c T locs cells slots) (hx : p.tables.exec = Jvm.exec) (hZ : Z.Warmed39 s.vm) (hown : s.vm.findClass own = some m.cls) (w : (Cond.constant own index x).before a0 Z = true) (eT : T.heap = h) (hg : g.method = m) (hd : decode c.code g.pc = .ok (.ldc index, 2)) :
    ∃ T' : State, Stand p l e R s m args below meth c T' locs cells slots ∧ T'.heap = h ∧ ∀ t, Steps p.tables e below (T'.setTop { g with pc := g.pc + 2, stack := .int x :: g.stack }) t → Steps p.tables e below (T.setTop g) t := ⟨T, X, eT, X.ldcInt hx hown (mv hZ w) hg hd⟩
theorem own_ldcJ {own : String} {index : Nat} {x : Int64} (X : Stand p l e R s m args below meth c T locs cells slots) (hx : p.tables.exec = Jvm.exec) (hZ : Z.Warmed39 s.vm) (hown : s.vm.findClass own = some m.cls) (w : (Cond.constantLong own index x).before a0 Z = true) (eT : T.heap = h) (hg : g.method = m) (hd : decode c.code g.pc = .ok (.ldc2_w index, 3)) :
    ∃ T' : State, Stand p l e R s m args below meth c T' locs cells slots ∧ T'.heap = h ∧ ∀ t, Steps p.tables e below (T'.setTop { g with pc := g.pc + 3, stack := .long x :: g.stack }) t → Steps p.tables e below (T.setTop g) t := ⟨T, X, eT, X.ldc2Long hx hown (mv hZ w) hg hd⟩
theorem own_retJ (X : Stand p l e R s m args below meth c T locs cells slots) (hx : p.tables.exec = Jvm.exec) {pc : Nat} {Ls : Array Slot} {x : Int64} (hret : meth.sig.returnType = some .long) (hd : decode c.code pc = .ok (.lreturn, 1)) {fs : List Frame}
    (hl : ∀ (f : JFrame) (acts : List Action), f.method = m → f.locked = none → f.entered = [] → (doReturn e (T.setTop f) acts (some (.long x))).1 = T.setFrames fs) : Steps p.tables e below (T.setTop (mkF m pc Ls (.long x :: rest))) (T.setFrames fs) :=
  retOut X hx hret rfl (Or.inr (Or.inl ⟨rfl, rfl, _, rfl⟩)) hd hl
theorem own_retR (X : Stand p l e R s m args below meth c T locs cells slots) (hx : p.tables.exec = Jvm.exec) {pc : Nat} {Ls : Array Slot} {x : Value} {t : FieldType} (hret : meth.sig.returnType = some t) (ht : t.isReference = true) (hv : x.isRef = true) (hd : decode c.code pc = .ok (.areturn, 1)) {fs : List Frame}
    (hl : ∀ (f : JFrame) (acts : List Action), f.method = m → f.locked = none → f.entered = [] → (doReturn e (T.setTop f) acts (some x)).1 = T.setFrames fs) : Steps p.tables e below (T.setTop (mkF m pc Ls (x :: rest))) (T.setFrames fs) :=
  retOut X hx hret (by rcases ref_cases hv with rfl | ⟨_, rfl⟩ <;> cases t <;> first | rfl | cases ht) (Or.inr (Or.inr (Or.inr (Or.inr ⟨rfl, ht, hv⟩)))) hd hl
end Small
end Jvm.Pilot.@@N@@
/- laws to paste: Road.backV, Road.lenW, Road.chN, Road.codOf (cut by pick.py; bodies as the Statement names them) -/
namespace Jvm.Pilot.@@N@@
namespace StrChars
open Jvm Sem ClassFile Op Lib Jvm.Stand Jvm.Free.XT Jvm.Free.ALB Jvm.Free.JM Jvm.Free
open Jvm.Lib.Cold (StaticIs)
/-- a char array whose places are chars -/
def Ch (a : Addr) (A : Cell) (U : State) : Prop := Arr .char a A U ∧ Typed .char A
theorem Ch.mv {a : Addr} {A : Cell} {U U' : State} (h : Ch a A U) (hal : U.vm.Alike U'.vm) (hh : U'.heap = U.heap) : Ch a A U' := ⟨h.1.mv hal hh, h.2⟩
theorem Ch.keep {a : Addr} {A : Cell} {U U' : State} (h : Ch a A U) (hal : U.vm.Alike U'.vm) (hk : U'.heap[a]? = some A) : Ch a A U' := ⟨h.1.keep hal hk, h.2⟩
/-- what place i of a char[]'s cell holds -/
def cv (A : Cell) (i : Nat) : Int32 := match A.slots[i]? with | some (.int x) => x | _ => 0
theorem Ch.get {a : Addr} {A : Cell} {U : State} (h : Ch a A U) {i : Nat} (hi : i < A.slots.size) : A.slots[i]? = some (.int (cv A i)) := by
  have e := Array.getElem?_eq_getElem hi
  have f := h.2 i _ e
  unfold cv; rw [e]
  generalize A.slots[i] = v at f
  cases v <;> simp [fits] at f ⊢
/-- the byte that i2b leaves of a char -/
def lo8 (x : Int32) : Int32 := x.toInt8.toInt32
theorem fits_lo8 (y : Int32) : fits .byte (.int (lo8 y)) = true := by
  have h1 := y.toInt8.le_toInt
  have h2 := y.toInt8.toInt_lt
  simp only [lo8, fits, Bool.and_eq_true, decide_eq_true_eq, Int32.le_iff_toInt_le, Int8.toInt_toInt32, show (-128 : Int32).toInt = -128 from by decide, show (127 : Int32).toInt = 127 from by decide]
  omega
/-- A' is A but that each place j of lo .. hi - 1 holds f j -/
def Laid (A A' : Cell) (lo hi : Nat) (f : Nat → Value) : Prop := A'.cls = A.cls ∧ A'.vm = A.vm ∧ A'.slots.size = A.slots.size ∧ ∀ i, A'.slots[i]? = if lo ≤ i ∧ i < hi then some (f i) else A.slots[i]?
theorem Laid.zero (A : Cell) (lo : Nat) (f : Nat → Value) : Laid A A lo (lo + 0) f := ⟨rfl, rfl, rfl, fun i => by rw [if_neg (by omega)]⟩
theorem Laid.step {A Ak : Cell} {lo k : Nat} {f : Nat → Value} {v : Value} (h : Laid A Ak lo k f) (hlo : lo ≤ k) (hk : k < Ak.slots.size) (hv : v = f k) : Laid A (Ak.setSlot k v) lo (k + 1) f := by
  refine ⟨h.1, h.2.1, by simpa [Cell.setSlot] using h.2.2.1, fun i => ?_⟩
  by_cases e : k = i
  · subst e; rw [Cell.slots_setSlot_self v hk, if_pos (by omega), hv]
  · rw [Cell.slots_setSlot_ne v e, h.2.2.2 i]
    by_cases q : lo ≤ i ∧ i < k
    · rw [if_pos q, if_pos (by omega)]
    · rw [if_neg q, if_neg (by omega)]
def U16 : String := "java/lang/StringUTF16"
namespace Cmp5
def yN : MethodName := ⟨"java/lang/StringUTF16", "compress", "([CI[BII)I"⟩
abbrev yB : ByteArray := jdk_52_method_21_code
theorem d0 : decode yB 0 = .ok (.iconst 0, 1) := by decide +kernel
theorem d1 : decode yB 1 = .ok (.istore 5, 2) := by decide +kernel
theorem d3 : decode yB 3 = .ok (.iload 5, 2) := by decide +kernel
theorem d5 : decode yB 5 = .ok (.iload 4, 2) := by decide +kernel
theorem d7 : decode yB 7 = .ok (.if_icmp (.ge) 37, 3) := by decide +kernel
theorem d10 : decode yB 10 = .ok (.aload_n 0, 1) := by decide +kernel
theorem d11 : decode yB 11 = .ok (.iload_n 1, 1) := by decide +kernel
theorem d12 : decode yB 12 = .ok (.caload, 1) := by decide +kernel
theorem d13 : decode yB 13 = .ok (.istore 6, 2) := by decide +kernel
theorem d15 : decode yB 15 = .ok (.iload 6, 2) := by decide +kernel
theorem d17 : decode yB 17 = .ok (.sipush 255, 3) := by decide +kernel
theorem d20 : decode yB 20 = .ok (.if_icmp (.le) 6, 3) := by decide +kernel
theorem d26 : decode yB 26 = .ok (.aload_n 2, 1) := by decide +kernel
theorem d27 : decode yB 27 = .ok (.iload_n 3, 1) := by decide +kernel
theorem d28 : decode yB 28 = .ok (.iload 6, 2) := by decide +kernel
theorem d30 : decode yB 30 = .ok (.i2b, 1) := by decide +kernel
theorem d31 : decode yB 31 = .ok (.bastore, 1) := by decide +kernel
theorem d32 : decode yB 32 = .ok (.iinc 1 1, 3) := by decide +kernel
theorem d35 : decode yB 35 = .ok (.iinc 3 1, 3) := by decide +kernel
theorem d38 : decode yB 38 = .ok (.iinc 5 1, 3) := by decide +kernel
theorem d41 : decode yB 41 = .ok (.goto (-38), 3) := by decide +kernel
theorem d44 : decode yB 44 = .ok (.iload 4, 2) := by decide +kernel
theorem d46 : decode yB 46 = .ok (.ireturn, 1) := by decide +kernel
def site : List Cond := []
def tab : Cond := tabOf yN yB 7 (some .int) site
def P (b : Addr) (A : Cell) (d : Addr) (B : Cell) (o q len : Nat) (args : Array Value) (s : State) : Prop := args = #[.ref b, .int (Int32.ofNat o), .ref d, .int (Int32.ofNat q), .int (Int32.ofNat len)] ∧ Ch b A s ∧ Arr .byte d B s ∧ b ≠ d ∧ o + len ≤ A.slots.size ∧ q + len ≤ B.slots.size ∧ ∀ i, i < len → ¬ 255 < cv A (o + i)
def E (b : Addr) (A : Cell) (d : Addr) (B : Cell) (o q len : Nat) (r : Option Value) (s u : State) : Prop := r = some (.int (Int32.ofNat len)) ∧ ∃ B', Put d B' s u ∧ Laid B B' q (q + len) (fun j => Value.int (lo8 (cv A (o + (j - q)))))
/-- no char of the range above 255: len; the places written hold each char's low byte -/
theorem law (l : Launch) (b : Addr) (A : Cell) (d : Addr) (B : Cell) (o q len : Nat) : Law l yN 5 5 0 0 yB 7 (some .int) site (P b A d B o q len) (E b A d B o q len) (copyLocs d q len) 0 0 := by
  refine Law.of_walk (plainFor_of_name (by decide +kernel)) (by decide +kernel) (by decide +kernel) (by decide) (fun _ _ h => by rw [h.1]; rfl) (fun _ U U' hal hh h => ⟨h.1, h.2.1.mv hal hh, h.2.2.1.mv hal hh, h.2.2.2⟩) (fun r U U' V V' h1 hal h2 h => ⟨h.1, h.2.elim fun B' q => ⟨B', q.1.mv h1 h2, q.2⟩⟩) ?_
  intro p e s m args below meth c s₁ X0 hexec hbytes hml hret hlk hnm hown hh0 W hP
  obtain ⟨rfl, hA, hB, hne, l1, l2, hp⟩ := hP
  have c1 : Steps p.tables e below (s₁.setTop (entryFrame m #[.ref b, .int (Int32.ofNat o), .ref d, .int (Int32.ofNat q), .int (Int32.ofNat len)] 7)) (s₁.setTop (mkF m 0 #[.val (.ref b), .val (.int (Int32.ofNat o)), .val (.ref d), .val (.int (Int32.ofNat q)), .val (.int (Int32.ofNat len)), .unset, .unset] [])) := entry rfl
  have hA0 := hA.1.mv X0.warmed.alike hh0
  have hB0 := hB.mv X0.warmed.alike hh0
  have a31 := hA.1.2.2.2
  have c2 : Steps p.tables e below (s₁.setTop (entryFrame m #[.ref b, .int (Int32.ofNat o), .ref d, .int (Int32.ofNat q), .int (Int32.ofNat len)] 7)) (s₁.setTop (mkF m 3 #[.val (.ref b), .val (.int (Int32.ofNat o)), .val (.ref d), .val (.int (Int32.ofNat q)), .val (.int (Int32.ofNat len)), .val (.int 0), .unset] [])) := c1.trans (by
    refine iconstV X0.here hexec rfl 0 (hb hbytes d0) (by decide) ?_
    refine XS.istore X0.here hexec rfl (hb hbytes d1) rfl rfl ?_
    exact Steps.refl _)
  have loop : ∀ (r i : Nat), i + r = len → ∀ (z : Slot), (z = .unset ∨ ∃ w, z = .val w ∧ w.category = 1) → ∀ (Tl : State) (Bk : Cell), Stand p l e { frames := 0, locals := 0, cells := 0, slots := 0 } s m #[.ref b, .int (Int32.ofNat o), .ref d, .int (Int32.ofNat q), .int (Int32.ofNat len)] below meth c Tl ([] ++ copyLocs d q i) 0 0 → Put d Bk s₁ Tl → Laid B Bk q (q + i) (fun j => Value.int (lo8 (cv A (o + (j - q))))) →
      Steps p.tables e below (s₁.setTop (entryFrame m #[.ref b, .int (Int32.ofNat o), .ref d, .int (Int32.ofNat q), .int (Int32.ofNat len)] 7)) (Tl.setTop (mkF m 3 #[.val (.ref b), .val (.int (Int32.ofNat (o + i))), .val (.ref d), .val (.int (Int32.ofNat (q + i))), .val (.int (Int32.ofNat len)), .val (.int (Int32.ofNat i)), z] [])) → ∃ (T' : State) (B' : Cell) (z' : Slot), Stand p l e { frames := 0, locals := 0, cells := 0, slots := 0 } s m #[.ref b, .int (Int32.ofNat o), .ref d, .int (Int32.ofNat q), .int (Int32.ofNat len)] below meth c T' ([] ++ copyLocs d q len) 0 0 ∧ Put d B' s₁ T' ∧ Laid B B' q (q + len) (fun j => Value.int (lo8 (cv A (o + (j - q))))) ∧
      Steps p.tables e below (s₁.setTop (entryFrame m #[.ref b, .int (Int32.ofNat o), .ref d, .int (Int32.ofNat q), .int (Int32.ofNat len)] 7)) (T'.setTop (mkF m 3 #[.val (.ref b), .val (.int (Int32.ofNat (o + len))), .val (.ref d), .val (.int (Int32.ofNat (q + len))), .val (.int (Int32.ofNat len)), .val (.int (Int32.ofNat len)), z'] [])) := by
    intro r
    induction r with
    | zero =>
      intro i hi z hz Tl Bk Xl pl fl cl
      have hil : i = len := by omega
      rw [hil] at Xl fl cl
      exact ⟨Tl, Bk, z, Xl, pl, fl, cl⟩
    | succ r ih =>
      intro i hi z hz Tl Bk Xl pl fl cl
      have all := X0.warmed.alike.symm.trans Xl.warmed.alike
      have hAl := hA0.keep all (pl.other hne hA0.1)
      have hBk := hB0.like all pl.1 fl.1 fl.2.1 fl.2.2.1
      have hlt : q + i < Bk.slots.size := by rw [fl.2.2.1]; omega
      have c3 : Steps p.tables e below (s₁.setTop (entryFrame m #[.ref b, .int (Int32.ofNat o), .ref d, .int (Int32.ofNat q), .int (Int32.ofNat len)] 7)) (Tl.setTop (mkF m 12 #[.val (.ref b), .val (.int (Int32.ofNat (o + i))), .val (.ref d), .val (.int (Int32.ofNat (q + i))), .val (.int (Int32.ofNat len)), .val (.int (Int32.ofNat i)), z] [.int (Int32.ofNat (o + i)), .ref b])) := cl.trans (by
        refine XS.iload Xl.here hexec rfl (hb hbytes d3) rfl ?_
        refine XS.iload Xl.here hexec rfl (hb hbytes d5) rfl ?_
        refine XS.icmpNo Xl.here hexec rfl (hb hbytes d7) rfl (ii_ge_f (lt32 (by omega) (by omega))) ?_
        refine XS.aloadN Xl.here hexec rfl (hb hbytes d10) rfl rfl ?_
        refine XS.iloadN Xl.here hexec rfl (hb hbytes d11) rfl ?_
        exact Steps.refl _)
      have c4 : Steps p.tables e below (s₁.setTop (entryFrame m #[.ref b, .int (Int32.ofNat o), .ref d, .int (Int32.ofNat q), .int (Int32.ofNat len)] 7)) (Tl.setTop (mkF m 13 #[.val (.ref b), .val (.int (Int32.ofNat (o + i))), .val (.ref d), .val (.int (Int32.ofNat (q + i))), .val (.int (Int32.ofNat len)), .val (.int (Int32.ofNat i)), z] [.int (cv A (o + i))])) := c3.trans (by
        refine Xl.aget hexec hAl rfl (hA.get (i := o + i) (by omega)) rfl rfl (hb hbytes d12) ?_
        exact Steps.refl _)
      have c5 : Steps p.tables e below (s₁.setTop (entryFrame m #[.ref b, .int (Int32.ofNat o), .ref d, .int (Int32.ofNat q), .int (Int32.ofNat len)] 7)) (Tl.setTop (mkF m 15 #[.val (.ref b), .val (.int (Int32.ofNat (o + i))), .val (.ref d), .val (.int (Int32.ofNat (q + i))), .val (.int (Int32.ofNat len)), .val (.int (Int32.ofNat i)), .val (.int (cv A (o + i)))] [])) := c4.trans (by
        refine XS.istoreS Xl.here hexec rfl (hb hbytes d13) rfl rfl hz ?_
        exact Steps.refl _)
      have c6 : Steps p.tables e below (s₁.setTop (entryFrame m #[.ref b, .int (Int32.ofNat o), .ref d, .int (Int32.ofNat q), .int (Int32.ofNat len)] 7)) (Tl.setTop (mkF m 31 #[.val (.ref b), .val (.int (Int32.ofNat (o + i))), .val (.ref d), .val (.int (Int32.ofNat (q + i))), .val (.int (Int32.ofNat len)), .val (.int (Int32.ofNat i)), .val (.int (cv A (o + i)))] [.int (lo8 (cv A (o + i))), .int (Int32.ofNat (q + i)), .ref d])) := c5.trans (by
        refine XS.iload Xl.here hexec rfl (hb hbytes d15) rfl ?_
        refine sipushV Xl.here hexec rfl 255 (hb hbytes d17) (by decide) ?_
        refine XS.icmpYes Xl.here hexec rfl (pc0 := 20) rfl (hb hbytes d20) rfl (ii_le_t (hp i (by omega))) (by decide) rfl ?_
        refine XS.aloadN Xl.here hexec rfl (hb hbytes d26) rfl rfl ?_
        refine XS.iloadN Xl.here hexec rfl (hb hbytes d27) rfl ?_
        refine XS.iload Xl.here hexec rfl (hb hbytes d28) rfl ?_
        refine i2b Xl.here hexec rfl (hb hbytes d30) rfl ?_
        exact Steps.refl _)
      obtain ⟨T7, X7, p7, st7⟩ := Xl.aput hexec hBk rfl hlt rfl (fits_lo8 (cv A (o + i))) (g := (mkF m 31 #[.val (.ref b), .val (.int (Int32.ofNat (o + i))), .val (.ref d), .val (.int (Int32.ofNat (q + i))), .val (.int (Int32.ofNat len)), .val (.int (Int32.ofNat i)), .val (.int (cv A (o + i)))] [.int (lo8 (cv A (o + i))), .int (Int32.ofNat (q + i)), .ref d])) rfl (rest := []) rfl (hb hbytes d31)
      have c8 : Steps p.tables e below (s₁.setTop (entryFrame m #[.ref b, .int (Int32.ofNat o), .ref d, .int (Int32.ofNat q), .int (Int32.ofNat len)] 7)) (T7.setTop (mkF m 32 #[.val (.ref b), .val (.int (Int32.ofNat (o + i))), .val (.ref d), .val (.int (Int32.ofNat (q + i))), .val (.int (Int32.ofNat len)), .val (.int (Int32.ofNat i)), .val (.int (cv A (o + i)))] [])) := c6.trans (st7 _ (Steps.refl _))
      have c9 : Steps p.tables e below (s₁.setTop (entryFrame m #[.ref b, .int (Int32.ofNat o), .ref d, .int (Int32.ofNat q), .int (Int32.ofNat len)] 7)) (T7.setTop (mkF m 3 #[.val (.ref b), .val (.int (Int32.ofNat (o + i) + 1)), .val (.ref d), .val (.int (Int32.ofNat (q + i) + 1)), .val (.int (Int32.ofNat len)), .val (.int (Int32.ofNat i + 1)), .val (.int (cv A (o + i)))] [])) := c8.trans (by
        refine iincV X7.here hexec rfl 1 (hb hbytes d32) (by decide) rfl rfl ?_
        refine iincV X7.here hexec rfl 1 (hb hbytes d35) (by decide) rfl rfl ?_
        refine iincV X7.here hexec rfl 1 (hb hbytes d38) (by decide) rfl rfl ?_
        refine XS.goto X7.here hexec rfl (pc0 := 41) rfl (hb hbytes d41) (by decide) rfl ?_
        exact Steps.refl _)
      have c10 : Steps p.tables e below (s₁.setTop (entryFrame m #[.ref b, .int (Int32.ofNat o), .ref d, .int (Int32.ofNat q), .int (Int32.ofNat len)] 7)) (T7.setTop (mkF m 3 #[.val (.ref b), .val (.int (Int32.ofNat (o + (i + 1)))), .val (.ref d), .val (.int (Int32.ofNat (q + (i + 1)))), .val (.int (Int32.ofNat len)), .val (.int (Int32.ofNat (i + 1))), .val (.int (cv A (o + i)))] [])) := by
        have := c9
        rw [succ32, succ32, succ32] at this
        exact this
      exact ih (i + 1) (by omega) _ (Or.inr ⟨_, rfl, rfl⟩) T7 _ (by rw [copyLocs_step, ← List.append_assoc]; exact X7) (pl.trans p7) (fl.step (by omega) hlt (by simp)) c10
  obtain ⟨T9, B9, z9, X9, p9, f9, g9⟩ := loop len 0 (by omega) .unset (Or.inl rfl) s₁ B (by simpa [copyLocs] using X0) ⟨hB0.1, fun _ _ => rfl, rfl⟩ (Laid.zero _ _ _) c2
  have c11 : Steps p.tables e below (s₁.setTop (entryFrame m #[.ref b, .int (Int32.ofNat o), .ref d, .int (Int32.ofNat q), .int (Int32.ofNat len)] 7)) (T9.setTop (mkF m 46 #[.val (.ref b), .val (.int (Int32.ofNat (o + len))), .val (.ref d), .val (.int (Int32.ofNat (q + len))), .val (.int (Int32.ofNat len)), .val (.int (Int32.ofNat len)), z9] [.int (Int32.ofNat len)])) := g9.trans (by
    refine XS.iload X9.here hexec rfl (hb hbytes d3) rfl ?_
    refine XS.iload X9.here hexec rfl (hb hbytes d5) rfl ?_
    refine XS.icmpYes X9.here hexec rfl (pc0 := 7) rfl (hb hbytes d7) rfl (ii_ge_t (nlt32 (by omega) (Nat.le_refl _))) (by decide) rfl ?_
    refine XS.iload X9.here hexec rfl (hb hbytes d44) rfl ?_
    exact Steps.refl _)
  exact ⟨T9, some (.int (Int32.ofNat len)), _, _, _, X9, by simp, rfl, rfl, (fun h => by cases h), ⟨rfl, B9, p9.from hh0, f9⟩, fun fs hl => c11.trans (X9.ireturnOut hexec hret rfl (Or.inl rfl) (hb hbytes d46) hl)⟩
end Cmp5
namespace Cmp3
def yN : MethodName := ⟨"java/lang/StringUTF16", "compress", "([CII)[B"⟩
abbrev yB : ByteArray := jdk_52_method_16_code
theorem d0 : decode yB 0 = .ok (.iload_n 2, 1) := by decide +kernel
theorem d1 : decode yB 1 = .ok (.newarray .byte, 2) := by decide +kernel
theorem d3 : decode yB 3 = .ok (.astore_n 3, 1) := by decide +kernel
theorem d4 : decode yB 4 = .ok (.aload_n 0, 1) := by decide +kernel
theorem d5 : decode yB 5 = .ok (.iload_n 1, 1) := by decide +kernel
theorem d6 : decode yB 6 = .ok (.aload_n 3, 1) := by decide +kernel
theorem d7 : decode yB 7 = .ok (.iconst 0, 1) := by decide +kernel
theorem d8 : decode yB 8 = .ok (.iload_n 2, 1) := by decide +kernel
theorem d9 : decode yB 9 = .ok (.invokestatic 115, 3) := by decide +kernel
theorem d12 : decode yB 12 = .ok (.istore 4, 2) := by decide +kernel
theorem d14 : decode yB 14 = .ok (.iload 4, 2) := by decide +kernel
theorem d16 : decode yB 16 = .ok (.iload_n 2, 1) := by decide +kernel
theorem d17 : decode yB 17 = .ok (.if_icmp (.eq) 40, 3) := by decide +kernel
theorem d57 : decode yB 57 = .ok (.aload_n 3, 1) := by decide +kernel
theorem d58 : decode yB 58 = .ok (.areturn, 1) := by decide +kernel
def site : List Cond := [.arrayClass .byte, Cmp5.tab] ++ staticW U16 115 Cmp5.yN
def tab : Cond := tabOf yN yB 6 (some (.array .byte)) site
def P (b : Addr) (A : Cell) (o len : Nat) (args : Array Value) (s : State) : Prop := args = #[.ref b, .int (Int32.ofNat o), .int (Int32.ofNat len)] ∧ Ch b A s ∧ o + len ≤ A.slots.size ∧ len ≤ 536870912 ∧ ∀ i, i < len → ¬ 255 < cv A (o + i)
def E (b : Addr) (A : Cell) (o len : Nat) (r : Option Value) (s u : State) : Prop := NewArr .byte "[B" len (fun j => .int (lo8 (cv A (o + j)))) r s u ∧ u.heap.size = s.heap.size + 1
/-- no char of the range above 255: a new byte[] of their low bytes -/
theorem law (l : Launch) (b : Addr) (A : Cell) (o len : Nat) : Law l yN 3 3 1 18 yB 6 (some (.array .byte)) site (P b A o len) (E b A o len) [] 1 len := by
  refine Law.of_walk (plainFor_of_name (by decide +kernel)) (by decide +kernel) (by decide +kernel) (by decide) (fun _ _ h => by rw [h.1]; rfl) (fun _ U U' hal hh h => ⟨h.1, h.2.1.mv hal hh, h.2.2⟩) (fun r U U' V V' h1 hal h2 h => ⟨NewArr.mv r U U' V V' h1 hal h2 h.1, by rw [h1, h2]; exact h.2⟩) ?_
  intro p e s m args below meth c s₁ X0 hexec hbytes hml hret hlk hnm hown hh0 W hP
  obtain ⟨rfl, hA, l1, l2, hp⟩ := hP
  have a31 := hA.1.2.2.2
  have c1 : Steps p.tables e below (s₁.setTop (entryFrame m #[.ref b, .int (Int32.ofNat o), .int (Int32.ofNat len)] 6)) (s₁.setTop (mkF m 0 #[.val (.ref b), .val (.int (Int32.ofNat o)), .val (.int (Int32.ofNat len)), .unset, .unset, .unset] [])) := entry rfl
  have c2 : Steps p.tables e below (s₁.setTop (entryFrame m #[.ref b, .int (Int32.ofNat o), .int (Int32.ofNat len)] 6)) (s₁.setTop (mkF m 1 #[.val (.ref b), .val (.int (Int32.ofNat o)), .val (.int (Int32.ofNat len)), .unset, .unset, .unset] [.int (Int32.ofNat len)])) := c1.trans (by
    refine XS.iloadN X0.here hexec rfl (hb hbytes d0) rfl ?_
    exact Steps.refl _)
  obtain ⟨T3, B3, X3, ba3, bs3, bv3, bh3, bf3, st3⟩ := X0.anew hexec (atype := .byte) (wk W (.arrayClass .byte)) rfl (by show len * 1 ≤ _; omega) (by omega) (g := (mkF m 1 #[.val (.ref b), .val (.int (Int32.ofNat o)), .val (.int (Int32.ofNat len)), .unset, .unset, .unset] [.int (Int32.ofNat len)])) rfl (hb hbytes d1) (rest := []) rfl (Nat.le_refl _) (by show 0 + len ≤ len; omega)
  rw [hh0] at ba3 st3
  have kp3 : XT.Kept s T3 := (XT.Kept.of_eq hh0).push bh3
  have hA3 := hA.keep X3.warmed.alike (kp3 _ _ hA.1.1)
  have hne : b ≠ s.heap.size := hA.1.ne
  have c4 : Steps p.tables e below (s₁.setTop (entryFrame m #[.ref b, .int (Int32.ofNat o), .int (Int32.ofNat len)] 6)) (T3.setTop (mkF m 3 #[.val (.ref b), .val (.int (Int32.ofNat o)), .val (.int (Int32.ofNat len)), .unset, .unset, .unset] [.ref s.heap.size])) := c2.trans (st3 _ (Steps.refl _))
  have c5 : Steps p.tables e below (s₁.setTop (entryFrame m #[.ref b, .int (Int32.ofNat o), .int (Int32.ofNat len)] 6)) (T3.setTop (mkF m 9 #[.val (.ref b), .val (.int (Int32.ofNat o)), .val (.int (Int32.ofNat len)), .val (.ref s.heap.size), .unset, .unset] [.int (Int32.ofNat len), .int 0, .ref s.heap.size, .int (Int32.ofNat o), .ref b])) := c4.trans (by
    refine XS.astoreN X3.here hexec rfl (hb hbytes d3) rfl rfl rfl ?_
    refine XS.aloadN X3.here hexec rfl (hb hbytes d4) rfl rfl ?_
    refine XS.iloadN X3.here hexec rfl (hb hbytes d5) rfl ?_
    refine XS.aloadN X3.here hexec rfl (hb hbytes d6) rfl rfl ?_
    refine iconstV X3.here hexec rfl 0 (hb hbytes d7) (by decide) ?_
    refine XS.iloadN X3.here hexec rfl (hb hbytes d8) rfl ?_
    exact Steps.refl _)
  obtain ⟨v6, T6, X6, E6, g6⟩ := X3.callS hexec (Cmp5.law l b A s.heap.size B3 o 0 len) hown (wks W (staticW U16 115 Cmp5.yN)) (wk W Cmp5.tab) (W := 0) (Nat.le_of_ble_eq_true rfl) (Nat.le_of_ble_eq_true rfl) (Nat.le_refl _) (by show 0 + len + 0 ≤ len; omega) (g := (mkF m 9 #[.val (.ref b), .val (.int (Int32.ofNat o)), .val (.int (Int32.ofNat len)), .val (.ref s.heap.size), .unset, .unset] [.int (Int32.ofNat len), .int (Int32.ofNat 0), .ref s.heap.size, .int (Int32.ofNat o), .ref b])) rfl (by rw [hml]; rfl) c5 (argsL := [.ref b, .int (Int32.ofNat o), .ref s.heap.size, .int (Int32.ofNat 0), .int (Int32.ofNat len)]) (rest := []) rfl rfl (by show 2 * 0 + 0 ≤ _; decide) (hb hbytes d9) (⟨rfl, hA3, ba3, hne, l1, by rw [bs3]; simp, hp⟩)
  obtain ⟨rfl, B6, p6, f6⟩ := E6
  have c7 : Steps p.tables e below (s₁.setTop (entryFrame m #[.ref b, .int (Int32.ofNat o), .int (Int32.ofNat len)] 6)) (T6.setTop (mkF m 12 #[.val (.ref b), .val (.int (Int32.ofNat o)), .val (.int (Int32.ofNat len)), .val (.ref s.heap.size), .unset, .unset] [.int (Int32.ofNat len)])) := g6
  have c8 : Steps p.tables e below (s₁.setTop (entryFrame m #[.ref b, .int (Int32.ofNat o), .int (Int32.ofNat len)] 6)) (T6.setTop (mkF m 58 #[.val (.ref b), .val (.int (Int32.ofNat o)), .val (.int (Int32.ofNat len)), .val (.ref s.heap.size), .val (.int (Int32.ofNat len)), .unset] [.ref s.heap.size])) := c7.trans (by
    refine XS.istore X6.here hexec rfl (hb hbytes d12) rfl rfl ?_
    refine XS.iload X6.here hexec rfl (hb hbytes d14) rfl ?_
    refine XS.iloadN X6.here hexec rfl (hb hbytes d16) rfl ?_
    refine XS.icmpYes X6.here hexec rfl (pc0 := 17) rfl (hb hbytes d17) rfl (ii_eq_t rfl) (by decide) rfl ?_
    refine XS.aloadN X6.here hexec rfl (hb hbytes d57) rfl rfl ?_
    exact Steps.refl _)
  have X8 := X6.wide (L' := []) (cells' := 1) (slots' := len) (fun x hx hlt => by
    simp only [List.nil_append, copyLocs, List.mem_map, List.mem_range] at hx
    obtain ⟨i, -, rfl⟩ := hx
    exact absurd hlt (Nat.lt_irrefl _)) (Nat.le_refl _) (by omega)
  exact ⟨T6, some (.ref s.heap.size), _, _, _, X8, rfl, rfl, rfl, (fun h => by cases h), ⟨⟨rfl, B6, ba3.like (X3.warmed.alike.symm.trans X6.warmed.alike) p6.1 f6.1 f6.2.1 f6.2.2.1, f6.2.1.trans bv3, by rw [X6.warmed.alike.findClass, f6.1]; exact bf3, by rw [f6.2.2.1, bs3]; simp, fun j hj => by rw [f6.2.2.2 j, if_pos (by omega)]; rfl, kp3.put p6 (Nat.le_refl _)⟩, by rw [p6.2.2, bh3, hh0]; simp⟩, fun fs hl => c8.trans (X8.areturnOut hexec rfl hret rfl (hb hbytes d58) hl)⟩
end Cmp3
namespace CodL
def yN : MethodName := ⟨"java/lang/StringUTF16", "coderFromArrayLen", "([BI)B"⟩
abbrev yB : ByteArray := jdk_52_method_15_code
theorem d0 : decode yB 0 = .ok (.iload_n 1, 1) := by decide +kernel
theorem d1 : decode yB 1 = .ok (.aload_n 0, 1) := by decide +kernel
theorem d2 : decode yB 2 = .ok (.arraylength, 1) := by decide +kernel
theorem d3 : decode yB 3 = .ok (.isub, 1) := by decide +kernel
theorem d4 : decode yB 4 = .ok (.bipush 31, 2) := by decide +kernel
theorem d6 : decode yB 6 = .ok (.iushr, 1) := by decide +kernel
theorem d7 : decode yB 7 = .ok (.i2b, 1) := by decide +kernel
theorem d8 : decode yB 8 = .ok (.ireturn, 1) := by decide +kernel
def site : List Cond := []
def tab : Cond := tabOf yN yB 2 (some .byte) site
def P (d : Addr) (B : Cell) (args : Array Value) (s : State) : Prop := args = #[.ref d, .int (Int32.ofNat B.slots.size)] ∧ Arr .byte d B s
def E (r : Option Value) (s u : State) : Prop := XT.PureE (some (.int 0)) r s u
/-- an array as long as the number of chars: LATIN1 -/
theorem law (l : Launch) (d : Addr) (B : Cell) : Law l yN 2 2 0 0 yB 2 (some .byte) site (P d B) E [] 0 0 := by
  refine Law.of_walk (plainFor_of_name (by decide +kernel)) (by decide +kernel) (by decide +kernel) (by decide) (fun _ _ h => by rw [h.1]; rfl) (fun _ U U' hal hh h => ⟨h.1, h.2.mv hal hh⟩) (fun r U U' V V' h1 hal h2 h => XT.PureE.mv r U U' V V' h1 hal h2 h) ?_
  intro p e s m args below meth c s₁ X0 hexec hbytes hml hret hlk hnm hown hh0 W hP
  obtain ⟨rfl, hB⟩ := hP
  have hB0 := hB.mv X0.warmed.alike hh0
  have c1 : Steps p.tables e below (s₁.setTop (entryFrame m #[.ref d, .int (Int32.ofNat B.slots.size)] 2)) (s₁.setTop (mkF m 0 #[.val (.ref d), .val (.int (Int32.ofNat B.slots.size))] [])) := entry rfl
  have c2 : Steps p.tables e below (s₁.setTop (entryFrame m #[.ref d, .int (Int32.ofNat B.slots.size)] 2)) (s₁.setTop (mkF m 2 #[.val (.ref d), .val (.int (Int32.ofNat B.slots.size))] [.ref d, .int (Int32.ofNat B.slots.size)])) := c1.trans (by
    refine XS.iloadN X0.here hexec rfl (hb hbytes d0) rfl ?_
    refine XS.aloadN X0.here hexec rfl (hb hbytes d1) rfl rfl ?_
    exact Steps.refl _)
  have c3 : Steps p.tables e below (s₁.setTop (entryFrame m #[.ref d, .int (Int32.ofNat B.slots.size)] 2)) (s₁.setTop (mkF m 8 #[.val (.ref d), .val (.int (Int32.ofNat B.slots.size))] [.int (lo8 (ushr (Int32.ofNat B.slots.size - Int32.ofNat B.slots.size) 31))])) := c2.trans (by
    refine X0.alen hexec hB0 rfl rfl (hb hbytes d2) ?_
    refine XS.isub X0.here hexec rfl (hb hbytes d3) rfl ?_
    refine bipushV X0.here hexec rfl 31 (hb hbytes d4) (by decide) ?_
    refine iushr X0.here hexec rfl (hb hbytes d6) rfl ?_
    refine i2b X0.here hexec rfl (hb hbytes d7) rfl ?_
    exact Steps.refl _)
  have e0 : lo8 (ushr (Int32.ofNat B.slots.size - Int32.ofNat B.slots.size) 31) = 0 := by rw [Int32.sub_self]; decide
  rw [e0] at c3
  exact ⟨s₁, some (.int 0), _, _, _, X0, rfl, rfl, rfl, (fun h => by cases h), ⟨rfl, hh0⟩, fun fs hl => c3.trans (X0.ireturnOut hexec hret rfl (Or.inr (Or.inr (Or.inl rfl))) (hb hbytes d8) hl)⟩
end CodL
/-- the String at a is Latin-1 over a new byte[] (the heap's one new cell): the low bytes of the len chars of A from o on; every cell but a is kept -/
def Got (a : Addr) (D : Cell) (fV fC : Field) (A : Cell) (o len : Nat) (r : Option Value) (s u : State) : Prop := r = none ∧ ∃ D' V : Cell, Blank "java/lang/String" a D' u ∧ Same D D' [fV.slot, fC.slot] ∧ D'.slots[fV.slot]? = some (.ref s.heap.size) ∧ D'.slots[fC.slot]? = some (.int 0) ∧ Arr .byte s.heap.size V u ∧ V.vm = .none ∧ u.vm.findClass "[B" = some V.cls ∧ V.slots.size = len ∧ (∀ j, j < len → V.slots[j]? = some (.int (lo8 (cv A (o + j))))) ∧ (∀ (y : Addr) (c : Cell), y ≠ a → s.heap[y]? = some c → u.heap[y]? = some c) ∧ u.heap.size = s.heap.size + 1
theorem Got.mv {a : Addr} {D A : Cell} {fV fC : Field} {o len : Nat} : ∀ r (U U' V V' : State), U'.heap = U.heap → V.vm.Alike V'.vm → V'.heap = V.heap → Got a D fV fC A o len r U V → Got a D fV fC A o len r U' V' :=
  fun r U U' V V' h1 hal h2 ⟨e0, D', X, a1, a2, a3, a4, a5, a6, a7, a8, a9, a10, a11⟩ => ⟨e0, D', X, a1.mv hal h2, a2, by rw [h1]; exact a3, a4, by rw [h1]; exact a5.mv hal h2, a6, by rw [hal.findClass]; exact a7, a8, a9, by rw [h1, h2]; exact a10, by rw [h1, h2]; exact a11⟩
namespace New4
def yN : MethodName := ⟨"java/lang/String", "<init>", "([CIILjava/lang/Void;)V"⟩
abbrev yB : ByteArray := jdk_42_method_149_code
theorem d0 : decode yB 0 = .ok (.aload_n 0, 1) := by decide +kernel
theorem d1 : decode yB 1 = .ok (.invokespecial 1, 3) := by decide +kernel
theorem d4 : decode yB 4 = .ok (.iload_n 3, 1) := by decide +kernel
theorem d5 : decode yB 5 = .ok (.ifCond (.ne) 22, 3) := by decide +kernel
theorem d27 : decode yB 27 = .ok (.getstatic 38, 3) := by decide +kernel
theorem d30 : decode yB 30 = .ok (.ifCond (.eq) 28, 3) := by decide +kernel
theorem d33 : decode yB 33 = .ok (.aload_n 1, 1) := by decide +kernel
theorem d34 : decode yB 34 = .ok (.iload_n 2, 1) := by decide +kernel
theorem d35 : decode yB 35 = .ok (.iload_n 3, 1) := by decide +kernel
theorem d36 : decode yB 36 = .ok (.invokestatic 177, 3) := by decide +kernel
theorem d39 : decode yB 39 = .ok (.astore 5, 2) := by decide +kernel
theorem d41 : decode yB 41 = .ok (.aload_n 0, 1) := by decide +kernel
theorem d42 : decode yB 42 = .ok (.aload 5, 2) := by decide +kernel
theorem d44 : decode yB 44 = .ok (.iload_n 3, 1) := by decide +kernel
theorem d45 : decode yB 45 = .ok (.invokestatic 47, 3) := by decide +kernel
theorem d48 : decode yB 48 = .ok (.putfield 15, 3) := by decide +kernel
theorem d51 : decode yB 51 = .ok (.aload_n 0, 1) := by decide +kernel
theorem d52 : decode yB 52 = .ok (.aload 5, 2) := by decide +kernel
theorem d54 : decode yB 54 = .ok (.putfield 9, 3) := by decide +kernel
theorem d57 : decode yB 57 = .ok (.return_, 1) := by decide +kernel
def site : List Cond := [.fieldLink "java/lang/String" 38 "java/lang/String" "COMPACT_STRINGS" "Z", Cmp3.tab, CodL.tab, .laysFinal "java/lang/String" "java/lang/String" "value" "[B", .fieldLink "java/lang/String" 9 "java/lang/String" "value" "[B", .laysFinal "java/lang/String" "java/lang/String" "coder" "B", .fieldLink "java/lang/String" 15 "java/lang/String" "coder" "B"] ++ objW "java/lang/String" 1 ++ staticW "java/lang/String" 177 Cmp3.yN ++ staticW "java/lang/String" 47 CodL.yN
def tab : Cond := tabOf yN yB 6 none site
def P (a : Addr) (D : Cell) (fV fC : Field) (b : Addr) (A : Cell) (z : Int32) (o len : Nat) (args : Array Value) (s : State) : Prop := args = #[.ref a, .ref b, .int (Int32.ofNat o), .int (Int32.ofNat len), .null] ∧ Blank "java/lang/String" a D s ∧ Found "java/lang/String" "value" "[B" fV s ∧ Found "java/lang/String" "coder" "B" fC s ∧ Ch b A s ∧ StaticIs s "java/lang/String" "COMPACT_STRINGS" "Z" (.int z) ∧ ¬ z = 0 ∧ 0 < len ∧ o + len ≤ A.slots.size ∧ len ≤ 536870912 ∧ ∀ i, i < len → ¬ 255 < cv A (o + i)
def E (a : Addr) (D : Cell) (fV fC : Field) (A : Cell) (o len : Nat) (r : Option Value) (s u : State) : Prop := Got a D fV fC A o len r s u
/-- len > 0, no char of the range above 255: a Latin-1 String of their low bytes -/
theorem law (l : Launch) (a : Addr) (D : Cell) (fV fC : Field) (b : Addr) (A : Cell) (z : Int32) (o len : Nat) : Law l yN 5 4 2 35 yB 6 none site (P a D fV fC b A z o len) (E a D fV fC A o len) [⟨a, fC.slot⟩, ⟨a, fV.slot⟩] 1 len := by
  refine Law.of_walk (plainFor_of_name (by decide +kernel)) (by decide +kernel) (by decide +kernel) (by decide) (fun _ _ h => by rw [h.1]; rfl) (fun _ U U' hal hh h => ⟨h.1, h.2.1.mv hal hh, h.2.2.1.al hal, h.2.2.2.1.al hal, h.2.2.2.2.1.mv hal hh, h.2.2.2.2.2.1.there hal hh, h.2.2.2.2.2.2⟩) (fun r U U' V V' h1 hal h2 h => Got.mv r U U' V V' h1 hal h2 h) ?_
  intro p e s m args below meth c s₁ X0 hexec hbytes hml hret hlk hnm hown hh0 W hP
  obtain ⟨rfl, hB, f1, f2, hA, s1, hz, l0, l1, l2, hp⟩ := hP
  have a31 := hA.1.2.2.2
  have c1 : Steps p.tables e below (s₁.setTop (entryFrame m #[.ref a, .ref b, .int (Int32.ofNat o), .int (Int32.ofNat len), .null] 6)) (s₁.setTop (mkF m 0 #[.val (.ref a), .val (.ref b), .val (.int (Int32.ofNat o)), .val (.int (Int32.ofNat len)), .val .null, .unset] [])) := entry rfl
  have c2 : Steps p.tables e below (s₁.setTop (entryFrame m #[.ref a, .ref b, .int (Int32.ofNat o), .int (Int32.ofNat len), .null] 6)) (s₁.setTop (mkF m 1 #[.val (.ref a), .val (.ref b), .val (.int (Int32.ofNat o)), .val (.int (Int32.ofNat len)), .val .null, .unset] [.ref a])) := c1.trans (by
    refine XS.aloadN X0.here hexec rfl (hb hbytes d0) rfl rfl ?_
    exact Steps.refl _)
  obtain ⟨T3, X3, q3, st3⟩ := X0.oinit hexec hown (wks W (objW "java/lang/String" 1)) (g := (mkF m 1 #[.val (.ref a), .val (.ref b), .val (.int (Int32.ofNat o)), .val (.int (Int32.ofNat len)), .val .null, .unset] [.ref a])) rfl (by rw [hml]; rfl) (rest := []) rfl (hb hbytes d1) (W := 0) (by show 2 * 0 + 0 ≤ _; decide) (Nat.le_of_ble_eq_true rfl) (Nat.le_of_ble_eq_true rfl)
  have hh3 := q3.trans hh0
  have c4 : Steps p.tables e below (s₁.setTop (entryFrame m #[.ref a, .ref b, .int (Int32.ofNat o), .int (Int32.ofNat len), .null] 6)) (T3.setTop (mkF m 27 #[.val (.ref a), .val (.ref b), .val (.int (Int32.ofNat o)), .val (.int (Int32.ofNat len)), .val .null, .unset] [])) := (c2.trans (st3 _ (Steps.refl _))).trans (by
    refine XS.iloadN X3.here hexec rfl (hb hbytes d4) rfl ?_
    refine XS.ifYes X3.here hexec rfl (pc0 := 5) rfl (hb hbytes d5) rfl (i0_ne_t (nz32 (by omega) l0)) (by decide) rfl ?_
    exact Steps.refl _)
  obtain ⟨T5, X5, q5, st5⟩ := X3.sget hexec hown (wk W (.fieldLink "java/lang/String" 38 "java/lang/String" "COMPACT_STRINGS" "Z")) s1 (fun _ _ h => by rw [hh3]; exact h) (g := (mkF m 27 #[.val (.ref a), .val (.ref b), .val (.int (Int32.ofNat o)), .val (.int (Int32.ofNat len)), .val .null, .unset] [])) rfl (hb hbytes d27)
  have hh5 := q5.trans hh3
  have c6 : Steps p.tables e below (s₁.setTop (entryFrame m #[.ref a, .ref b, .int (Int32.ofNat o), .int (Int32.ofNat len), .null] 6)) (T5.setTop (mkF m 30 #[.val (.ref a), .val (.ref b), .val (.int (Int32.ofNat o)), .val (.int (Int32.ofNat len)), .val .null, .unset] [.int z])) := c4.trans (st5 _ (Steps.refl _))
  have c7 : Steps p.tables e below (s₁.setTop (entryFrame m #[.ref a, .ref b, .int (Int32.ofNat o), .int (Int32.ofNat len), .null] 6)) (T5.setTop (mkF m 36 #[.val (.ref a), .val (.ref b), .val (.int (Int32.ofNat o)), .val (.int (Int32.ofNat len)), .val .null, .unset] [.int (Int32.ofNat len), .int (Int32.ofNat o), .ref b])) := c6.trans (by
    refine XS.ifNo X5.here hexec rfl (hb hbytes d30) rfl (i0_eq_f hz) ?_
    refine XS.aloadN X5.here hexec rfl (hb hbytes d33) rfl rfl ?_
    refine XS.iloadN X5.here hexec rfl (hb hbytes d34) rfl ?_
    refine XS.iloadN X5.here hexec rfl (hb hbytes d35) rfl ?_
    exact Steps.refl _)
  obtain ⟨v8, T8, X8, E8, g8⟩ := X5.callS hexec (Cmp3.law l b A o len) hown (wks W (staticW "java/lang/String" 177 Cmp3.yN)) (wk W Cmp3.tab) (W := 0) (Nat.le_of_ble_eq_true rfl) (Nat.le_of_ble_eq_true rfl) (Nat.le_refl _) (by show 0 + len ≤ len; omega) (g := (mkF m 36 #[.val (.ref a), .val (.ref b), .val (.int (Int32.ofNat o)), .val (.int (Int32.ofNat len)), .val .null, .unset] [.int (Int32.ofNat len), .int (Int32.ofNat o), .ref b])) rfl (by rw [hml]; rfl) c7 (argsL := [.ref b, .int (Int32.ofNat o), .int (Int32.ofNat len)]) (rest := []) rfl rfl (by show 2 * 0 + 0 ≤ _; decide) (hb hbytes d36) (⟨rfl, hA.mv X5.warmed.alike hh5, l1, l2, hp⟩)
  obtain ⟨e8, z8⟩ := E8
  obtain ⟨rfl, N, n1, n2, n3, n4, n5, n6⟩ := NewArr.mv _ T5 s _ _ hh5.symm (Vm.Alike.refl _) rfl e8
  rw [hh5] at z8
  have hB1 := hB.keep X8.warmed.alike (n6 _ _ hB.1)
  have hne : s.heap.size ≠ a := (Nat.ne_of_lt (Array.getElem?_eq_some_iff.mp hB.1).1).symm
  have c9 : Steps p.tables e below (s₁.setTop (entryFrame m #[.ref a, .ref b, .int (Int32.ofNat o), .int (Int32.ofNat len), .null] 6)) (T8.setTop (mkF m 39 #[.val (.ref a), .val (.ref b), .val (.int (Int32.ofNat o)), .val (.int (Int32.ofNat len)), .val .null, .unset] [.ref s.heap.size])) := g8
  have c10 : Steps p.tables e below (s₁.setTop (entryFrame m #[.ref a, .ref b, .int (Int32.ofNat o), .int (Int32.ofNat len), .null] 6)) (T8.setTop (mkF m 45 #[.val (.ref a), .val (.ref b), .val (.int (Int32.ofNat o)), .val (.int (Int32.ofNat len)), .val .null, .val (.ref s.heap.size)] [.int (Int32.ofNat N.slots.size), .ref s.heap.size, .ref a])) := by
    have hc : Steps p.tables e below (s₁.setTop (entryFrame m #[.ref a, .ref b, .int (Int32.ofNat o), .int (Int32.ofNat len), .null] 6)) (T8.setTop (mkF m 45 #[.val (.ref a), .val (.ref b), .val (.int (Int32.ofNat o)), .val (.int (Int32.ofNat len)), .val .null, .val (.ref s.heap.size)] [.int (Int32.ofNat len), .ref s.heap.size, .ref a])) := c9.trans (by
      refine XS.astore X8.here hexec rfl (hb hbytes d39) rfl rfl rfl ?_
      refine XS.aloadN X8.here hexec rfl (hb hbytes d41) rfl rfl ?_
      refine XS.aload X8.here hexec rfl (hb hbytes d42) rfl rfl ?_
      refine XS.iloadN X8.here hexec rfl (hb hbytes d44) rfl ?_
      exact Steps.refl _)
    rw [n4]; exact hc
  obtain ⟨v11, T11, X11, E11, g11⟩ := X8.callS hexec (CodL.law l s.heap.size N) hown (wks W (staticW "java/lang/String" 47 CodL.yN)) (wk W CodL.tab) (W := 1) (Nat.le_of_ble_eq_true rfl) (Nat.le_of_ble_eq_true rfl) (Nat.le_refl _) (by show 0 + len + 0 ≤ len; omega) (g := (mkF m 45 #[.val (.ref a), .val (.ref b), .val (.int (Int32.ofNat o)), .val (.int (Int32.ofNat len)), .val .null, .val (.ref s.heap.size)] [.int (Int32.ofNat N.slots.size), .ref s.heap.size, .ref a])) rfl (by rw [hml]; rfl) c10 (argsL := [.ref s.heap.size, .int (Int32.ofNat N.slots.size)]) (rest := [.ref a]) rfl rfl (by show 2 * 0 + (1 + 0) ≤ _; decide) (hb hbytes d45) (⟨rfl, n1⟩)
  obtain ⟨rfl, q11⟩ := E11
  have hB11 := hB1.mv (X8.warmed.alike.symm.trans X11.warmed.alike) q11
  have c12 : Steps p.tables e below (s₁.setTop (entryFrame m #[.ref a, .ref b, .int (Int32.ofNat o), .int (Int32.ofNat len), .null] 6)) (T11.setTop (mkF m 48 #[.val (.ref a), .val (.ref b), .val (.int (Int32.ofNat o)), .val (.int (Int32.ofNat len)), .val .null, .val (.ref s.heap.size)] [.int 0, .ref a])) := g11
  obtain ⟨T13, X13, p13, bl13, sl13, st13⟩ := X11.finit hexec hown (wk W (.fieldLink "java/lang/String" 15 "java/lang/String" "coder" "B")) (Or.inr ⟨_, (wk W (.laysFinal "java/lang/String" "java/lang/String" "coder" "B"))⟩) (Or.inl ⟨rfl, hnm⟩) f2 (Or.inl rfl) hB11 (t := .byte) (by decide +kernel) rfl (g := (mkF m 48 #[.val (.ref a), .val (.ref b), .val (.int (Int32.ofNat o)), .val (.int (Int32.ofNat len)), .val .null, .val (.ref s.heap.size)] [.int 0, .ref a])) rfl (rest := []) rfl (hb hbytes d48)
  have c14 : Steps p.tables e below (s₁.setTop (entryFrame m #[.ref a, .ref b, .int (Int32.ofNat o), .int (Int32.ofNat len), .null] 6)) (T13.setTop (mkF m 54 #[.val (.ref a), .val (.ref b), .val (.int (Int32.ofNat o)), .val (.int (Int32.ofNat len)), .val .null, .val (.ref s.heap.size)] [.ref s.heap.size, .ref a])) := (c12.trans (st13 _ (Steps.refl _))).trans (by
    refine XS.aloadN X13.here hexec rfl (hb hbytes d51) rfl rfl ?_
    refine XS.aload X13.here hexec rfl (hb hbytes d52) rfl rfl ?_
    exact Steps.refl _)
  obtain ⟨T15, X15, p15, bl15, sl15, st15⟩ := X13.finit hexec hown (wk W (.fieldLink "java/lang/String" 9 "java/lang/String" "value" "[B")) (Or.inr ⟨_, (wk W (.laysFinal "java/lang/String" "java/lang/String" "value" "[B"))⟩) (Or.inl ⟨rfl, hnm⟩) f1 (Or.inl rfl) bl13 (t := (.array .byte)) (by decide +kernel) rfl (g := (mkF m 54 #[.val (.ref a), .val (.ref b), .val (.int (Int32.ofNat o)), .val (.int (Int32.ofNat len)), .val .null, .val (.ref s.heap.size)] [.ref s.heap.size, .ref a])) rfl (rest := []) rfl (hb hbytes d54)
  have c16 : Steps p.tables e below (s₁.setTop (entryFrame m #[.ref a, .ref b, .int (Int32.ofNat o), .int (Int32.ofNat len), .null] 6)) (T15.setTop (mkF m 57 #[.val (.ref a), .val (.ref b), .val (.int (Int32.ofNat o)), .val (.int (Int32.ofNat len)), .val .null, .val (.ref s.heap.size)] [])) := c14.trans (st15 _ (Steps.refl _))
  have ap := apart (Or.inr ⟨_, (wk W (.laysFinal "java/lang/String" "java/lang/String" "value" "[B"))⟩) (Or.inr ⟨_, (wk W (.laysFinal "java/lang/String" "java/lang/String" "coder" "B"))⟩) f1 f2 (t₁ := .array .byte) (t₂ := .byte) (by decide +kernel) (by decide +kernel) (by decide)
  have al := X8.warmed.alike.symm.trans X15.warmed.alike
  have n7 : T11.heap[s.heap.size]? = some N := by rw [q11]; exact n1.1
  exact ⟨T15, none, _, _, _, X15, by simp, rfl, by omega, (fun _ => rfl), ⟨rfl, _, N, bl15, ((Same.refl D _).set _ (by simp)).set _ (by simp), sl15, (Cell.slots_setSlot_ne _ ap).trans sl13, n1.keep al (p15.other hne (p13.other hne n7)), n2, by rw [al.findClass]; exact n3, n4, n5, fun y c h1 h2 => p15.other h1 (p13.other h1 (by rw [q11]; exact n6 y c h2)), by rw [p15.2.2, p13.2.2, q11]; exact z8⟩, fun fs hl => c16.trans (X15.returnOut hexec hret (hb hbytes d57) hl)⟩
end New4
namespace New1
def yN : MethodName := ⟨"java/lang/String", "<init>", "([C)V"⟩
abbrev yB : ByteArray := jdk_42_method_3_code
theorem d0 : decode yB 0 = .ok (.aload_n 0, 1) := by decide +kernel
theorem d1 : decode yB 1 = .ok (.aload_n 1, 1) := by decide +kernel
theorem d2 : decode yB 2 = .ok (.iconst 0, 1) := by decide +kernel
theorem d3 : decode yB 3 = .ok (.aload_n 1, 1) := by decide +kernel
theorem d4 : decode yB 4 = .ok (.arraylength, 1) := by decide +kernel
theorem d5 : decode yB 5 = .ok (.aconst_null, 1) := by decide +kernel
theorem d6 : decode yB 6 = .ok (.invokespecial 27, 3) := by decide +kernel
theorem d9 : decode yB 9 = .ok (.return_, 1) := by decide +kernel
def site : List Cond := [New4.tab] ++ initW "java/lang/String" 27 New4.yN
def tab : Cond := tabOf yN yB 2 none site
def P (a : Addr) (D : Cell) (fV fC : Field) (b : Addr) (A : Cell) (z : Int32) (args : Array Value) (s : State) : Prop := args = #[.ref a, .ref b] ∧ Blank "java/lang/String" a D s ∧ Found "java/lang/String" "value" "[B" fV s ∧ Found "java/lang/String" "coder" "B" fC s ∧ Ch b A s ∧ StaticIs s "java/lang/String" "COMPACT_STRINGS" "Z" (.int z) ∧ ¬ z = 0 ∧ 0 < A.slots.size ∧ A.slots.size ≤ 536870912 ∧ ∀ i, i < A.slots.size → ¬ 255 < cv A i
def E (a : Addr) (D : Cell) (fV fC : Field) (A : Cell) (r : Option Value) (s u : State) : Prop := Got a D fV fC A 0 A.slots.size r s u
/-- new String(chars), not empty, no char above 255: a Latin-1 String of their low bytes -/
theorem law (l : Launch) (a : Addr) (D : Cell) (fV fC : Field) (b : Addr) (A : Cell) (z : Int32) : Law l yN 2 1 3 52 yB 2 none site (P a D fV fC b A z) (E a D fV fC A) [⟨a, fC.slot⟩, ⟨a, fV.slot⟩] 1 A.slots.size := by
  refine Law.of_walk (plainFor_of_name (by decide +kernel)) (by decide +kernel) (by decide +kernel) (by decide) (fun _ _ h => by rw [h.1]; rfl) (fun _ U U' hal hh h => ⟨h.1, h.2.1.mv hal hh, h.2.2.1.al hal, h.2.2.2.1.al hal, h.2.2.2.2.1.mv hal hh, h.2.2.2.2.2.1.there hal hh, h.2.2.2.2.2.2⟩) (fun r U U' V V' h1 hal h2 h => Got.mv r U U' V V' h1 hal h2 h) ?_
  intro p e s m args below meth c s₁ X0 hexec hbytes hml hret hlk hnm hown hh0 W hP
  obtain ⟨rfl, hB, f1, f2, hA, s1, hz, l0, l2, hp⟩ := hP
  have c1 : Steps p.tables e below (s₁.setTop (entryFrame m #[.ref a, .ref b] 2)) (s₁.setTop (mkF m 0 #[.val (.ref a), .val (.ref b)] [])) := entry rfl
  have c2 : Steps p.tables e below (s₁.setTop (entryFrame m #[.ref a, .ref b] 2)) (s₁.setTop (mkF m 6 #[.val (.ref a), .val (.ref b)] [.null, .int (Int32.ofNat A.slots.size), .int 0, .ref b, .ref a])) := c1.trans (by
    refine XS.aloadN X0.here hexec rfl (hb hbytes d0) rfl rfl ?_
    refine XS.aloadN X0.here hexec rfl (hb hbytes d1) rfl rfl ?_
    refine iconstV X0.here hexec rfl 0 (hb hbytes d2) (by decide) ?_
    refine XS.aloadN X0.here hexec rfl (hb hbytes d3) rfl rfl ?_
    refine X0.alen hexec (hA.1.mv X0.warmed.alike hh0) rfl rfl (hb hbytes d4) ?_
    refine XS.aconstNull X0.here hexec rfl (hb hbytes d5) ?_
    exact Steps.refl _)
  obtain ⟨v3, T3, X3, E3, g3⟩ := X0.callN hexec (New4.law l a D fV fC b A z 0 A.slots.size) rfl hown (wks W (initW "java/lang/String" 27 New4.yN)) (W New4.tab (by simp only [site, List.mem_cons, List.mem_append, true_or, or_true])) (W := 0) (Nat.le_of_ble_eq_true rfl) (Nat.le_of_ble_eq_true rfl) (Nat.le_refl _) (by show 0 + A.slots.size ≤ A.slots.size; omega) (g := (mkF m 6 #[.val (.ref a), .val (.ref b)] [.null, .int (Int32.ofNat A.slots.size), .int (Int32.ofNat 0), .ref b, .ref a])) rfl (by rw [hml]; rfl) c2 (argsL := [.ref b, .int (Int32.ofNat 0), .int (Int32.ofNat A.slots.size), .null]) (rest := []) rfl rfl (by show 2 * 0 + 0 ≤ _; decide) (hb hbytes d6) (⟨rfl, hB.mv X0.warmed.alike hh0, f1.al X0.warmed.alike, f2.al X0.warmed.alike, hA.mv X0.warmed.alike hh0, s1.there X0.warmed.alike hh0, hz, l0, by omega, l2, fun i hi => by rw [Nat.zero_add]; exact hp i hi⟩)
  have e0 := Got.mv _ s₁ s _ _ hh0.symm (Vm.Alike.refl _) rfl E3
  obtain rfl := e0.1
  have c4 : Steps p.tables e below (s₁.setTop (entryFrame m #[.ref a, .ref b] 2)) (T3.setTop (mkF m 9 #[.val (.ref a), .val (.ref b)] [])) := g3
  exact ⟨T3, none, _, _, _, X3, by simp, rfl, by omega, (fun _ => rfl), e0, fun fs hl => c4.trans (X3.returnOut hexec hret (hb hbytes d9) hl)⟩
theorem pays {l : Launch} {R : Room} {p : Program} {e : Env} {below : List Frame} {s : State} {sargs : Array Value} {len W : Nat} (a : Addr) (D : Cell) (fV fC : Field) (b : Addr) (A : Cell) (z : Int32) (htab : tab.before sargs s = true) (hfr : 4 ≤ R.frames) (hlo : W + 65 ≤ R.locals) :
    Back l R p e below s sargs yN len W (fun A₁ a₁ => A₁.cells + 1 ≤ R.cells ∧ A₁.slots + A.slots.size ≤ R.slots ∧ P a D fV fC b A z a₁ A₁.U) (fun A₁ _ v₁ B₁ => E a D fV fC A v₁ A₁.U B₁.U ∧ B₁.locs = A₁.locs ++ [⟨a, fC.slot⟩, ⟨a, fV.slot⟩] ∧ B₁.cells = A₁.cells + 1 ∧ B₁.slots = A₁.slots + A.slots.size) :=
  (law l a D fV fC b A z).pays htab hfr (by omega)
end New1
/-- the byte, read back as charAt reads it, is the char -/
theorem lo8_mask {x : Int32} (h0 : ¬ x < 0) (h1 : ¬ 255 < x) : lo8 x &&& 255 = x := by
  have t : ∀ k : Fin 256, lo8 (Int32.ofNat k.val) &&& 255 = Int32.ofNat k.val := by decide +kernel
  rw [Int32.lt_iff_toInt_lt] at h0 h1
  have e0 : (0 : Int32).toInt = 0 := rfl
  have e1 : (255 : Int32).toInt = 255 := rfl
  obtain ⟨k, hk⟩ : ∃ k : Nat, x.toInt = k := ⟨x.toInt.toNat, by omega⟩
  have hx : x = Int32.ofNat k := Int32.toInt_inj.mp (by rw [hk, Int32.toInt_ofNat_small (by omega)])
  rw [hx]
  exact t ⟨k, by omega⟩
end StrChars
namespace StrChars.Road
open Jvm Sem ClassFile Op Lib Jvm.Stand Jvm.Free Jvm.Free.XT
open Jvm.Lib.Cold (StaticIs)
abbrev ST : String := "java/lang/String"
/-- every table word that New1's law asks, flat -/
abbrev words : List Jvm.Cond := [.code New1.yN New1.yB 2 none, .initialized ST, .methodLink ST 27 New4.yN, .instanceMethod New4.yN,
  .code New4.yN New4.yB 6 none, .fieldLink ST 38 ST "COMPACT_STRINGS" "Z", .laysFinal ST ST "value" "[B", .fieldLink ST 9 ST "value" "[B", .laysFinal ST ST "coder" "B", .fieldLink ST 15 ST "coder" "B",
  .methodLink ST 1 Lib.objectInit, .instanceMethod Lib.objectInit, .code Lib.objectInit ⟨#[0xb1]⟩ 1 none, .methodLink ST 177 Cmp3.yN, .static Cmp3.yN, .methodLink ST 47 CodL.yN, .static CodL.yN,
  .code Cmp3.yN Cmp3.yB 6 (some (.array .byte)), .initialized U16, .arrayClass .byte, .methodLink U16 115 Cmp5.yN, .static Cmp5.yN, .code Cmp5.yN Cmp5.yB 7 (some .int), .code CodL.yN CodL.yB 2 (some .byte)]
theorem tab_of {a : Array Value} {s : State} (h : ∀ w ∈ words, w.before a s = true) : New1.tab.before a s = true := by
  have h5 : Cmp5.tab.before a s = true := unparts (wk h (.code Cmp5.yN Cmp5.yB 7 (some .int))) (wks h (.initialized Cmp5.yN.cls :: Cmp5.site))
  have hc : CodL.tab.before a s = true := unparts (wk h (.code CodL.yN CodL.yB 2 (some .byte))) (wks h (.initialized CodL.yN.cls :: CodL.site))
  have q5 : ∀ w ∈ Cmp5.tab :: words, w.before a s = true := fun w hw => (List.mem_cons.mp hw).elim (fun e => e ▸ h5) (h w)
  have h3 : Cmp3.tab.before a s = true := unparts (wk q5 (.code Cmp3.yN Cmp3.yB 6 (some (.array .byte)))) (wks q5 (.initialized Cmp3.yN.cls :: Cmp3.site))
  have q3 : ∀ w ∈ Cmp3.tab :: CodL.tab :: words, w.before a s = true := fun w hw => (List.mem_cons.mp hw).elim (fun e => e ▸ h3) fun hw => (List.mem_cons.mp hw).elim (fun e => e ▸ hc) (h w)
  have h4 : New4.tab.before a s = true := unparts (wk q3 (.code New4.yN New4.yB 6 none)) (wks q3 (.initialized New4.yN.cls :: New4.site))
  have q4 : ∀ w ∈ New4.tab :: words, w.before a s = true := fun w hw => (List.mem_cons.mp hw).elim (fun e => e ▸ h4) (h w)
  exact unparts (wk q4 (.code New1.yN New1.yB 2 none)) (wks q4 (.initialized New1.yN.cls :: New1.site))
/-- the words ride from the start Z to the walk's own state -/
theorem moved {Z s : State} {a0 args : Array Value} (hZ : Z.Warmed39 s.vm) (hw : ∀ d ∈ words, d.before a0 Z = true) : ∀ d ∈ words, d.before args s = true := fun d hd => by
  have q := hw d hd
  have t : ∀ d ∈ words, d = .arrayClass .byte ∨ (d.onTables && d.keepsFace) = true := by decide +kernel
  rcases t d hd with rfl | t
  · exact RoadKit.mvA hZ q
  · exact RoadKit.mv hZ q t
/-- WHAT COMES BACK, over the tables of the start Z: h the heap at the call, h' behind it -/
def Q (Z : State) (x : Addr) (A : Cell) (h : Heap) (v : Option Value) (h' : Heap) (L : List Loc) : Prop := v = none ∧ (∀ y ∈ L, y.base = x) ∧ RoadKit.Keep h h' [x] ∧ h'.size = h.size + 1 ∧ RoadKit.Exa Z h' x ST ∧ RoadKit.Fld Z h' x ST "value" "[B" (.ref h.size) ∧ RoadKit.Fld Z h' x ST "coder" "B" (.int 0) ∧
  (∃ V : Cell, RoadKit.Arr Z h' h.size V .byte ∧ V.vm = .none ∧ Z.vm.findClass "[B" = some V.cls ∧ V.slots.size = A.slots.size ∧ ∀ j, j < A.slots.size → V.slots[j]? = some (.int (lo8 (cv A j)))) ∧
  ∀ (O n d : String) (w : Value), RoadKit.Fld Z h x O n d w → RoadKit.slotOf Z O n d ≠ RoadKit.slotOf Z ST "value" "[B" → RoadKit.slotOf Z O n d ≠ RoadKit.slotOf Z ST "coder" "B" → RoadKit.Fld Z h' x O n d w
/-- **new String(chars) AT A CALL, IN THE ROAD'S FORM**: for specialBack behind newO: x the fresh String, b the char[] with the cell A -/
theorem back {p : Program} {l : Launch} {e : Env} {R : Room} {s : State} {args : Array Value} {below : List Frame} {len W : Nat} {Z : State} {a0 : Array Value} {h : Heap} (hZ : Z.Warmed39 s.vm) (hw : ∀ d ∈ words, d.before a0 Z = true) {kI : Nat} (wi : (Jvm.Cond.instantiable ST kI).before a0 Z = true)
    {x b : Addr} {A : Cell} {z : Int32} {v0 c0 : Value} (E : RoadKit.Exa Z h x ST) (V : RoadKit.Fld Z h x ST "value" "[B" v0) (C : RoadKit.Fld Z h x ST "coder" "B" c0) (K : RoadKit.Arr Z h b A .char) (hty : Typed .char A) (S : RoadKit.Sta Z h ST "COMPACT_STRINGS" "Z" (.int z)) (hz : ¬ z = 0)
    (l0 : 0 < A.slots.size) (l2 : A.slots.size ≤ 536870912) (hp : ∀ i, i < A.slots.size → ¬ 255 < cv A i) (hfr : 4 ≤ R.frames) (hlo : W + 65 ≤ R.locals) :
    Back l R p e below s args New1.yN len W (fun P a => a = #[.ref x, .ref b] ∧ P.U.heap = h ∧ P.cells + 1 ≤ R.cells ∧ P.slots + A.slots.size ≤ R.slots)
      (fun P _ v B => ∃ L, Q Z x A h v B.U.heap L ∧ B.locs = P.locs ++ L ∧ B.cells = P.cells + 1 ∧ B.slots = P.slots + A.slots.size) := by
  intro m meth c P g ig mk a X hg hsize hdg hW hn hp'
  obtain ⟨rfl, rfl, r1, r2⟩ := hp'
  have al : Z.vm.Alike P.U.vm := hZ.alike.trans X.warmed.alike
  obtain ⟨D, cfV, kV, iV, fV, hD, gV, stV, knV, obV, asV, slV⟩ := id V
  obtain ⟨D', cfC, kC, iC, fC, hD', gC, stC, -, -, asC, slC⟩ := id C
  cases hD.symm.trans hD'
  obtain ⟨D2, kD, e1, e2, e3, e4, e5⟩ := id E
  cases hD.symm.trans e1
  obtain ⟨c2, k2, i1, i2, i3, -⟩ := Cond.instantiable_spec wi
  cases e2.symm.trans i1
  cases e3.symm.trans i2
  obtain ⟨kU, u1, u2⟩ := al.2.2 _ _ e3
  have hB : Blank ST x D P.U := ⟨hD, ⟨knV, fun q hq => by rw [hq] at obV; cases obV⟩, by rw [al.findClass]; exact e2, kU, u1, by rw [u2]; exact i3, by rw [u2]; exact e5 i3⟩
  have F1 : Found ST "value" "[B" fV P.U := ⟨SBG.found_only al ⟨cfV, kV, iV, gV⟩, stV⟩
  have F2 : Found ST "coder" "B" fC P.U := ⟨SBG.found_only al ⟨cfC, kC, iC, gC⟩, stC⟩
  have hA : Ch b A P.U := ⟨⟨K.1, State.isArrayOf_alike al K.2.1, K.2.2, by omega⟩, hty⟩
  have hS : StaticIs P.U ST "COMPACT_STRINGS" "Z" (.int z) := by
    obtain ⟨cfS, iS, kS, fS, st, cS, t1, t2, t3, t4, t5, t6, t7⟩ := S
    exact StaticIs.there (s := { Z with heap := P.U.heap }) ⟨cfS, iS, kS, fS, st, cS, t1, t2, t3, t4, t5, (fun q => by rw [q] at t6; cases t6), t7⟩ al rfl
  obtain ⟨v, B, X', ⟨⟨hv, E', V', q1, q2, q3, q4, q5, q6, q7, q8, q9, q10, q11⟩, hl, hc, hs⟩, st⟩ := New1.pays x D fV fC b A z (tab_of (moved hZ hw)) hfr hlo m meth c P g ig mk _ X hg hsize hdg hW hn ⟨r1, r2, rfl, hB, F1, F2, hA, hS, hz, l0, l2, hp⟩
  have al' : Z.vm.Alike B.U.vm := hZ.alike.trans X'.warmed.alike
  have hsz : E'.slots.size = D.slots.size := by
    obtain ⟨-, -, -, kB, w1, w2, w3⟩ := q1
    obtain ⟨kB', y1, y2⟩ := al'.2.2 _ _ e3
    rw [q2.2.1] at w1
    cases w1.symm.trans y1
    rw [w3, e5 i3, y2]
  refine ⟨v, B, X', ⟨_, ⟨hv, ?_, ⟨by omega, fun y cy hy hn' => q10 y cy (by simpa using hn') hy, fun y cy hy => ?_⟩, q11, ⟨E', _, q1.1, by rw [q2.2.1]; exact e2, by rw [q2.2.1]; exact e3, by rw [q2.1]; exact obV, fun _ => by rw [hsz]; exact e5 i3⟩,
    ⟨E', cfV, kV, iV, fV, q1.1, gV, stV, by rw [q2.1]; exact knV, by rw [q2.1]; exact obV, by rw [q2.2.1]; exact asV, q3⟩, ⟨E', cfC, kC, iC, fC, q1.1, gC, stC, by rw [q2.1]; exact knV, by rw [q2.1]; exact obV, by rw [q2.2.1]; exact asC, q4⟩,
    ⟨V', ⟨q5.1, State.isArrayOf_alike al'.symm q5.2.1, q5.2.2.1⟩, q6, by rw [← al'.findClass]; exact q7, q8, fun j hj => by have := q9 j hj; rwa [Nat.zero_add] at this⟩, fun O n d w F n1 n2 => ?_⟩, hl, hc, hs⟩, st⟩
  · intro y hy
    simp only [List.mem_cons, List.not_mem_nil, or_false] at hy
    rcases hy with rfl | rfl <;> rfl
  · by_cases q : y = x
    · subst q
      cases hD.symm.trans hy
      exact ⟨E', q1.1, q2.2.1, q2.1, hsz⟩
    · exact ⟨cy, q10 y cy q hy, rfl, rfl, rfl⟩
  · obtain ⟨D3, cf, k, i, f, g1, g2, g3, g4, g5, g6, g7⟩ := F
    cases hD.symm.trans g1
    simp only [RoadKit.slotOf, g2, gV, gC, Option.map_some, Option.getD_some] at n1 n2
    exact ⟨E', cf, k, i, f, q1.1, g2, g3, by rw [q2.1]; exact g4, by rw [q2.1]; exact g5, by rw [q2.2.1]; exact g6, by rw [q2.2.2 f.slot (by simp [n1, n2])]; exact g7⟩
end StrChars.Road
namespace StrChars.Road
open Jvm Sem ClassFile Op Lib Jvm.Stand Jvm.Free Jvm.Free.XT
/-- WHAT COMES BACK, the byte[] as a list of values -/
def QA (Z : State) (x : Addr) (zn : Int32) (cs : List Int32) (h : Heap) (v : Option Value) (h' : Heap) (L : List Loc) : Prop := v = none ∧ (∀ y ∈ L, y.base = x) ∧ RoadKit.Keep h h' [x] ∧ h'.size = h.size + 1 ∧ RoadKit.Exa Z h' x ST ∧ RoadKit.Fld Z h' x ST "value" "[B" (.ref h.size) ∧ RoadKit.Fld Z h' x ST "coder" "B" (.int 0) ∧
  (∃ kb, Z.vm.findClass "[B" = some kb ∧ RoadKit.Arv Z h' h.size kb .byte zn (cs.map fun c => .int (lo8 c)) (.int 0)) ∧
  ∀ (O n d : String) (w : Value), RoadKit.Fld Z h x O n d w → RoadKit.slotOf Z O n d ≠ RoadKit.slotOf Z ST "value" "[B" → RoadKit.slotOf Z O n d ≠ RoadKit.slotOf Z ST "coder" "B" → RoadKit.Fld Z h' x O n d w
/-- **new String(chars) AT A CALL, THE ARRAYS AS LISTS**: the char[] at b holds cs, not empty, no char above 255 -/
theorem backArv {p : Program} {l : Launch} {e : Env} {R : Room} {s : State} {args : Array Value} {below : List Frame} {len W : Nat} {Z : State} {a0 : Array Value} {h : Heap} (hZ : Z.Warmed39 s.vm) (hw : ∀ d ∈ words, d.before a0 Z = true) {kI : Nat} (wi : (Jvm.Cond.instantiable ST kI).before a0 Z = true)
    {x b : Addr} {k : ClassId} {zn z : Int32} {cs : List Int32} {dv v0 c0 : Value} (E : RoadKit.Exa Z h x ST) (V : RoadKit.Fld Z h x ST "value" "[B" v0) (C : RoadKit.Fld Z h x ST "coder" "B" c0) (K : RoadKit.Arv Z h b k .char zn (cs.map Value.int) dv) (S : RoadKit.Sta Z h ST "COMPACT_STRINGS" "Z" (.int z)) (hz : ¬ z = 0)
    (hlen : zn.toNatClampNeg = cs.length) (h0 : 0 < cs.length) (hbig : cs.length ≤ 536870912) (hall : ∀ c ∈ cs, ¬ 255 < c) (hfr : 4 ≤ R.frames) (hlo : W + 65 ≤ R.locals) :
    Back l R p e below s args New1.yN len W (fun P a => a = #[.ref x, .ref b] ∧ P.U.heap = h ∧ P.cells + 1 ≤ R.cells ∧ P.slots + cs.length ≤ R.slots)
      (fun P _ v B => ∃ L, QA Z x zn cs h v B.U.heap L ∧ B.locs = P.locs ++ L ∧ B.cells = P.cells + 1 ∧ B.slots = P.slots + cs.length) := by
  obtain ⟨A, K1, K2, K3, K4, K5, K6⟩ := K
  have e : A.slots.size = cs.length := K3.trans hlen
  have hat : ∀ (i : Nat) (hi : i < cs.length), A.slots[i]? = some (.int cs[i]) := fun i hi => by rw [K5 i (by omega)]; simp [List.getD_eq_getElem?_getD, hi]
  have hcv : ∀ (i : Nat) (hi : i < cs.length), cv A i = cs[i] := fun i hi => by unfold cv; rw [hat i hi]
  have hty : Typed .char A := fun i v hv => by
    have hi : i < A.slots.size := (Array.getElem?_eq_some_iff.mp hv).1
    have q := K5 i hi
    rw [hv] at q
    rw [Option.some.inj q]
    exact K6 i hi
  refine Back.mono (back hZ hw wi E V C K1 hty S hz (by omega) (by omega) (fun i hi => by rw [hcv i (by omega)]; exact hall _ (List.getElem_mem _)) hfr hlo) (fun P a hp => ⟨hp.1, hp.2.1, hp.2.2.1, by rw [e]; exact hp.2.2.2⟩) (fun P a v B hp hq => ?_)
  obtain ⟨L, ⟨q1, q2, q3, q4, q5, q6, q7, ⟨V', v1, v2, v3, v4, v5⟩, q9⟩, hl, hc, hs⟩ := hq
  refine ⟨L, ⟨q1, q2, q3, q4, q5, q6, q7, ⟨V'.cls, v3, V', v1, rfl, by rw [v4, e, hlen], K4, fun i hi => ?_, fun i hi => ?_⟩, q9⟩, hl, hc, by rw [hs, e]⟩
  · have hi' : i < cs.length := by omega
    rw [v5 i (by omega), hcv i hi']; simp [List.getD_eq_getElem?_getD, hi']
  · have hi' : i < cs.length := by omega
    simp only [List.getD_eq_getElem?_getD, List.getElem?_map, List.getElem?_eq_getElem hi', Option.map_some, Option.getD_some]
    exact fits_lo8 _
end StrChars.Road
namespace StrChars.Road
open Jvm Sem ClassFile Op Lib Jvm.Stand Jvm.Free Jvm.Free.XT
/-- WHAT COMES BACK, in the writer's own shape -/
def QV (Z : State) (x : Addr) (N : Int32) (bs : List Int32) (h : Heap) (n0 : Nat) (v : Option Value) (h' : Heap) (L : List Loc) : Prop := v = none ∧ RoadKit.Fr n0 L ∧ RoadKit.Keep h h' [x] ∧ RoadKit.Exa Z h' x ST ∧ RoadKit.Fld Z h' x ST "coder" "B" (.int 0) ∧
  ∃ (t : Addr) (kb : ClassId), n0 ≤ t ∧ h.size ≤ t ∧ ¬ t = x ∧ RoadKit.Fld Z h' x ST "value" "[B" (.ref t) ∧ RoadKit.Arv Z h' t kb .byte N (bs.map Value.int) (.int 0)
/-- **new String(chars) AT A CALL, FOR THE WRITER**: a char[] of n known ints, each 0 to 255 -/
theorem backV {p : Program} {l : Launch} {e : Env} {R : Room} {s : State} {args : Array Value} {below : List Frame} {len W : Nat} {Z : State} {a0 : Array Value} {h : Heap} (hZ : Z.Warmed39 s.vm) (hw : ∀ d ∈ words, d.before a0 Z = true) {kI : Nat} (wi : (Jvm.Cond.instantiable ST kI).before a0 Z = true)
    {x b : Addr} {kC : ClassId} {cs bs : List Int32} {d v0 c0 : Value} {z N : Int32} {n n0 : Nat} (hx0 : n0 ≤ x) (hh0 : n0 ≤ h.size) (E : RoadKit.Exa Z h x ST) (V : RoadKit.Fld Z h x ST "value" "[B" v0) (C : RoadKit.Fld Z h x ST "coder" "B" c0) (K : RoadKit.Arv Z h b kC .char N (cs.map Value.int) d) (S : RoadKit.Sta Z h ST "COMPACT_STRINGS" "Z" (.int z)) (hz : ¬ z = 0)
    (hn : cs.length = n) (hN : N = Int32.ofNat n) (l0 : 0 < n) (l2 : n ≤ 4000) (hp : ∀ c ∈ cs, ¬ c < 0 ∧ ¬ (255 : Int32) < c) (hb : bs = cs.map (fun c => c.toInt8.toInt32)) (hfr : 4 ≤ R.frames) (hlo : W + 65 ≤ R.locals) :
    Back l R p e below s args (⟨"java/lang/String", "<init>", "([C)V"⟩ : MethodName) len W (fun P a => a = #[.ref x, .ref b] ∧ P.U.heap = h ∧ P.cells + 1 ≤ R.cells ∧ P.slots + n ≤ R.slots)
      (fun P _ v B => ∃ L, QV Z x N bs h n0 v B.U.heap L ∧ B.locs = P.locs ++ L ∧ B.cells = P.cells + 1 ∧ B.slots = P.slots + n) := by
  subst hn hN hb
  refine Back.mono (backArv hZ hw wi E V C K S hz (n32 (by omega)) l0 (by omega) (fun c hc => (hp c hc).2) hfr hlo) (fun P a hp => hp) (fun P a v B hp hq => ?_)
  obtain ⟨L, ⟨q1, q2, q3, q4, q5, q6, q7, ⟨kb, v1, v2⟩, q9⟩, hl, hc, hs⟩ := hq
  exact ⟨L, ⟨q1, fun y hy => by rw [q2 y hy]; exact hx0, q3, q5, q7, h.size, kb, hh0, Nat.le_refl _, Nat.ne_of_gt E.lt, q6, by rw [List.map_map]; exact v2⟩, hl, hc, hs⟩
end StrChars.Road
namespace StrChars
open Jvm Sem ClassFile Op Lib Jvm.Stand Jvm.Free.XT Jvm.Free.ALB Jvm.Free.JM Jvm.Free
open Jvm.Lib.Cold (StaticIs)
def hi8 (x : Int32) : Int32 := lo8 (x >>> ((8 : Int32) &&& 31))
/-- what StringUTF16.getChar makes of two bytes -/
def pairCh (u v : Int32) : Int32 := (((u &&& 255) <<< ((0 : Int32) &&& 31)) ||| ((v &&& 255) <<< ((8 : Int32) &&& 31))).toUInt32.toUInt16.toUInt32.toInt32
theorem shr0 (c : Int32) : c >>> ((0 : Int32) &&& 31) = c := by
  have e : ((0 : Int32) &&& 31) = 0 := by decide
  rw [e]
  apply Int32.toBitVec_inj.mp
  rw [Int32.toBitVec_shiftRight]
  have e1 : ((0 : Int32).toBitVec.smod 32) = 0#32 := by decide
  rw [e1, BitVec.sshiftRight_eq']
  exact BitVec.sshiftRight_zero
theorem lo8_and (x : Int32) : (lo8 x &&& 255).toBitVec.toNat = x.toBitVec.toNat % 256 := by
  have h : (lo8 x).toBitVec = (x.toBitVec.signExtend 8).signExtend 32 := by rw [lo8, Int8.toBitVec_toInt32, Int32.toBitVec_toInt8]
  rw [Int32.toBitVec_and, BitVec.toNat_and, h]
  have e : ((x.toBitVec.signExtend 8).signExtend 32).toNat % 256 = x.toBitVec.toNat % 256 := by
    rw [BitVec.toNat_signExtend]
    have hlt := x.toBitVec.isLt
    simp only [BitVec.toNat_setWidth, BitVec.toNat_signExtend]
    split <;> split <;> omega
  rw [← e]
  exact Nat.and_two_pow_sub_one_eq_mod _ 8
theorem pair_says {c : Int32} (h0 : ¬ c < 0) (h1 : ¬ 65535 < c) : pairCh (lo8 c) (hi8 c) = c := by
  rw [Int32.lt_iff_toInt_lt] at h0 h1
  have e0 : (0 : Int32).toInt = 0 := rfl
  have e1 : (65535 : Int32).toInt = 65535 := rfl
  have hc : c.toInt = c.toBitVec.toNat := by
    have := c.toBitVec.isLt
    have e : c.toInt = c.toBitVec.toInt := rfl
    rw [e] at h0 h1
    rw [e]
    rw [BitVec.toInt_eq_toNat_cond] at h0 h1 ⊢
    split at h0 <;> split <;> omega
  have hn : c.toBitVec.toNat < 65536 := by omega
  have a1 := lo8_and c
  have a2 : (hi8 c &&& 255).toBitVec.toNat = c.toBitVec.toNat / 256 := by
    rw [hi8, lo8_and]
    have e : ((8 : Int32) &&& 31) = 8 := by decide
    rw [e, Int32.toBitVec_shiftRight]
    have e2 : ((8 : Int32).toBitVec.smod 32) = 8#32 := by decide
    rw [e2, BitVec.sshiftRight_eq', BitVec.toNat_sshiftRight_of_msb_false (by rw [BitVec.msb_eq_false_iff_two_mul_lt]; omega)]
    show c.toBitVec.toNat >>> 8 % 256 = _
    rw [Nat.shiftRight_eq_div_pow]
    omega
  unfold pairCh
  apply Int32.toBitVec_inj.mp
  apply BitVec.eq_of_toNat_eq
  have f0 : ((0 : Int32) &&& 31) = 0 := by decide
  have f8 : ((8 : Int32) &&& 31) = 8 := by decide
  rw [f0, f8]
  have g : (((lo8 c &&& 255) <<< (0 : Int32)) ||| ((hi8 c &&& 255) <<< (8 : Int32))).toBitVec.toNat = c.toBitVec.toNat := by
    rw [Int32.toBitVec_or, Int32.toBitVec_shiftLeft, Int32.toBitVec_shiftLeft]
    have s0 : ((0 : Int32).toBitVec.smod 32) = 0#32 := by decide
    have s8 : ((8 : Int32).toBitVec.smod 32) = 8#32 := by decide
    rw [s0, s8, BitVec.toNat_or]
    simp only [BitVec.shiftLeft_eq', BitVec.toNat_shiftLeft, a1, a2]
    show (c.toBitVec.toNat % 256) <<< 0 % 2 ^ 32 ||| (c.toBitVec.toNat / 256) <<< 8 % 2 ^ 32 = _
    rw [Nat.shiftLeft_zero, Nat.mod_eq_of_lt (show c.toBitVec.toNat % 256 < 2 ^ 32 by omega), Nat.mod_eq_of_lt (show (c.toBitVec.toNat / 256) <<< 8 < 2 ^ 32 by rw [Nat.shiftLeft_eq]; omega), Nat.or_comm, ← Nat.shiftLeft_add_eq_or_of_lt (by omega), Nat.shiftLeft_eq]
    omega
  show BitVec.toNat (((((lo8 c &&& 255) <<< (0 : Int32)) ||| ((hi8 c &&& 255) <<< (8 : Int32))).toBitVec.setWidth 16).setWidth 32) = _
  rw [BitVec.toNat_setWidth, BitVec.toNat_setWidth, g]
  omega
end StrChars
namespace StrChars
open Jvm Sem ClassFile Op Lib Jvm.Stand Jvm.Free.XT Jvm.Free.ALB Jvm.Free.JM Jvm.Free
open Jvm.Lib.Cold (StaticIs)
theorem shr1 {n : Nat} (h : 2 * n < 2 ^ 31) : Int32.ofNat (2 * n) >>> ((1 : Int32) &&& 31) = Int32.ofNat n := by
  have e : ((1 : Int32) &&& 31) = 1 := by decide
  rw [e]
  apply Int32.toBitVec_inj.mp
  rw [Int32.toBitVec_shiftRight]
  have e1 : ((1 : Int32).toBitVec.smod 32) = 1#32 := by decide
  have hm : (BitVec.ofNat 32 (2 * n)).toNat = 2 * n := by rw [BitVec.toNat_ofNat, Nat.mod_eq_of_lt (by omega)]
  rw [e1, BitVec.sshiftRight_eq']
  apply BitVec.eq_of_toNat_eq
  show ((BitVec.ofNat 32 (2 * n)).sshiftRight 1).toNat = (BitVec.ofNat 32 n).toNat
  rw [BitVec.toNat_sshiftRight_of_msb_false (by rw [BitVec.msb_eq_false_iff_two_mul_lt, hm]; omega), hm, BitVec.toNat_ofNat, Nat.shiftRight_eq_div_pow]
  omega
/-- charAt's cast of a byte read back -/
def chr8 (u : Int32) : Int32 := (u &&& 255).toUInt32.toUInt16.toUInt32.toInt32
theorem chr8_lo8 {c : Int32} (h0 : ¬ c < 0) (h1 : ¬ 255 < c) : chr8 (lo8 c) = c := by
  have t : ∀ k : Fin 256, (Int32.ofNat k.val).toUInt32.toUInt16.toUInt32.toInt32 = Int32.ofNat k.val := by decide +kernel
  unfold chr8
  rw [lo8_mask h0 h1]
  rw [Int32.lt_iff_toInt_lt] at h0 h1
  have e0 : (0 : Int32).toInt = 0 := rfl
  have e1 : (255 : Int32).toInt = 255 := rfl
  obtain ⟨k, hk⟩ : ∃ k : Nat, c.toInt = k := ⟨c.toInt.toNat, by omega⟩
  have hx : c = Int32.ofNat k := Int32.toInt_inj.mp (by rw [hk, Int32.toInt_ofNat_small (by omega)])
  rw [hx]
  exact t ⟨k, by omega⟩
theorem narrow_ch {c : Int32} (h0 : ¬ c < 0) (h1 : ¬ 65535 < c) : narrow .char (.int c) = .int c := by
  have q : narrow .char (.int (pairCh (lo8 c) (hi8 c))) = .int (pairCh (lo8 c) (hi8 c)) := narrow_c _
  rwa [pair_says h0 h1] at q
/-- the array's cell V codes the n chars f 0 .. f (n - 1) by the coder cd, as the JDK does: coder 1 just where some char is above 255 -/
def Cod (cd : Int32) (n : Nat) (f : Nat → Int32) (V : Cell) : Prop := (cd = 0 ∧ V.slots.size = n ∧ ∀ j, j < n → V.slots[j]? = some (.int (lo8 (f j))) ∧ ¬ 255 < f j) ∨ (cd = 1 ∧ V.slots.size = 2 * n ∧ (∀ j, j < n → V.slots[2 * j]? = some (.int (lo8 (f j))) ∧ V.slots[2 * j + 1]? = some (.int (hi8 (f j)))) ∧ ∃ j, j < n ∧ 255 < f j)
theorem Cod.cd {cd : Int32} {n : Nat} {f : Nat → Int32} {V : Cell} (h : Cod cd n f V) : cd = 0 ∨ cd = 1 := h.imp (fun q => q.1) fun q => q.1
theorem Cod.len {cd : Int32} {n : Nat} {f : Nat → Int32} {V : Cell} (h : Cod cd n f V) (hs : V.slots.size < 2 ^ 31) : Int32.ofNat V.slots.size >>> (cd &&& 31) = Int32.ofNat n := by
  rcases h with ⟨rfl, h, -⟩ | ⟨rfl, h, -⟩
  · rw [shr0, h]
  · rw [h, shr1 (by omega)]
/-- **x is a String of the n chars f 0 .. f (n - 1)**, Latin-1 or UTF-16; its array at t has the cell V -/
def Txt (x t : Addr) (V : Cell) (cd : Int32) (n : Nat) (f : Nat → Int32) (U : State) : Prop := Exact "java/lang/String" x U ∧ Has x "java/lang/String" "value" "[B" (.ref t) U ∧ Has x "java/lang/String" "coder" "B" (.int cd) U ∧ XT.Arr .byte t V U ∧ Cod cd n f V ∧ ∀ j, j < n → ¬ f j < 0 ∧ ¬ 65535 < f j
theorem Txt.mv {x t : Addr} {V : Cell} {cd : Int32} {n : Nat} {f : Nat → Int32} {U U' : State} (h : Txt x t V cd n f U) (hal : U.vm.Alike U'.vm) (hh : U'.heap = U.heap) : Txt x t V cd n f U' := ⟨h.1.mv hal hh, h.2.1.mv hal hh, h.2.2.1.mv hal hh, h.2.2.2.1.mv hal hh, h.2.2.2.2⟩
namespace Cdr
def yN : MethodName := ⟨"java/lang/String", "coder", "()B"⟩
abbrev yB : ByteArray := jdk_42_method_152_code
theorem d0 : decode yB 0 = .ok (.getstatic 38, 3) := by decide +kernel
theorem d3 : decode yB 3 = .ok (.ifCond (.eq) 10, 3) := by decide +kernel
theorem d6 : decode yB 6 = .ok (.aload_n 0, 1) := by decide +kernel
theorem d7 : decode yB 7 = .ok (.getfield 15, 3) := by decide +kernel
theorem d10 : decode yB 10 = .ok (.goto 4, 3) := by decide +kernel
theorem d14 : decode yB 14 = .ok (.ireturn, 1) := by decide +kernel
def site : List Cond := [.fieldLink "java/lang/String" 38 "java/lang/String" "COMPACT_STRINGS" "Z", .fieldLink "java/lang/String" 15 "java/lang/String" "coder" "B"]
def tab : Cond := tabOf yN yB 1 (some .byte) site
def P (x : Addr) (cd z : Int32) (args : Array Value) (s : State) : Prop := args = #[.ref x] ∧ Has x "java/lang/String" "coder" "B" (.int cd) s ∧ (cd = 0 ∨ cd = 1) ∧ StaticIs s "java/lang/String" "COMPACT_STRINGS" "Z" (.int z) ∧ ¬ z = 0
def E (cd : Int32) (r : Option Value) (s u : State) : Prop := XT.PureE (some (.int cd)) r s u
theorem law (l : Launch) (x : Addr) (cd z : Int32) : Law l yN 1 0 0 0 yB 1 (some .byte) site (P x cd z) (E cd) [] 0 0 := by
  refine Law.of_walk (plainFor_of_name (by decide +kernel)) (by decide +kernel) (by decide +kernel) (by decide) (fun _ _ h => by rw [h.1]; rfl) (fun _ U U' hal hh h => ⟨h.1, h.2.1.mv hal hh, h.2.2.1, h.2.2.2.1.there hal hh, h.2.2.2.2⟩) (fun r U U' V V' h1 hal h2 h => XT.PureE.mv r U U' V V' h1 hal h2 h) ?_
  intro p e s m args below meth c s₁ X0 hexec hbytes hml hret hlk hnm hown hh0 W hP
  obtain ⟨rfl, hx, hc, s1, hz⟩ := hP
  have c1 : Steps p.tables e below (s₁.setTop (entryFrame m #[.ref x] 1)) (s₁.setTop (mkF m 0 #[.val (.ref x)] [])) := entry rfl
  obtain ⟨T2, X2, q2, st2⟩ := X0.sget hexec hown (wk W (.fieldLink "java/lang/String" 38 "java/lang/String" "COMPACT_STRINGS" "Z")) s1 (fun _ _ h => by rw [hh0]; exact h) (g := (mkF m 0 #[.val (.ref x)] [])) rfl (hb hbytes d0)
  have hh2 := q2.trans hh0
  have c3 : Steps p.tables e below (s₁.setTop (entryFrame m #[.ref x] 1)) (T2.setTop (mkF m 7 #[.val (.ref x)] [.ref x])) := (c1.trans (st2 _ (Steps.refl _))).trans (by
    refine XS.ifNo X2.here hexec rfl (hb hbytes d3) rfl (i0_eq_f hz) ?_
    refine XS.aloadN X2.here hexec rfl (hb hbytes d6) rfl rfl ?_
    exact Steps.refl _)
  obtain ⟨T4, X4, q4, st4⟩ := X2.hget hexec hown (wk W (.fieldLink "java/lang/String" 15 "java/lang/String" "coder" "B")) (hx.mv X2.warmed.alike hh2) (g := (mkF m 7 #[.val (.ref x)] [.ref x])) rfl (rest := []) rfl (hb hbytes d7)
  have c5 : Steps p.tables e below (s₁.setTop (entryFrame m #[.ref x] 1)) (T4.setTop (mkF m 14 #[.val (.ref x)] [.int cd])) := (c3.trans (st4 _ (Steps.refl _))).trans (by
    refine XS.goto X4.here hexec rfl (pc0 := 10) rfl (hb hbytes d10) (by decide) rfl ?_
    exact Steps.refl _)
  exact ⟨T4, some (.int cd), _, _, _, X4, rfl, rfl, rfl, (fun h => by cases h), ⟨rfl, q4.trans hh2⟩, fun fs hl => c5.trans (X4.ireturnOut hexec hret (by rcases hc with rfl | rfl <;> rfl) (Or.inr (Or.inr (Or.inl rfl))) (hb hbytes d14) hl)⟩
end Cdr
namespace Len
def yN : MethodName := ⟨"java/lang/String", "length", "()I"⟩
abbrev yB : ByteArray := jdk_42_method_54_code
theorem d0 : decode yB 0 = .ok (.aload_n 0, 1) := by decide +kernel
theorem d1 : decode yB 1 = .ok (.getfield 9, 3) := by decide +kernel
theorem d4 : decode yB 4 = .ok (.arraylength, 1) := by decide +kernel
theorem d5 : decode yB 5 = .ok (.aload_n 0, 1) := by decide +kernel
theorem d6 : decode yB 6 = .ok (.invokevirtual 335, 3) := by decide +kernel
theorem d9 : decode yB 9 = .ok (.ishr, 1) := by decide +kernel
theorem d10 : decode yB 10 = .ok (.ireturn, 1) := by decide +kernel
def site : List Cond := [.fieldLink "java/lang/String" 9 "java/lang/String" "value" "[B", Cdr.tab] ++ virtW "java/lang/String" 335 "java/lang/String" Cdr.yN Cdr.yN
def tab : Cond := tabOf yN yB 1 (some .int) site
def P (x t : Addr) (V : Cell) (cd : Int32) (n : Nat) (f : Nat → Int32) (z : Int32) (args : Array Value) (s : State) : Prop := args = #[.ref x] ∧ Txt x t V cd n f s ∧ StaticIs s "java/lang/String" "COMPACT_STRINGS" "Z" (.int z) ∧ ¬ z = 0
def E (n : Nat) (r : Option Value) (s u : State) : Prop := XT.PureE (some (.int (Int32.ofNat n))) r s u
/-- length() of a String of n chars, in either coding -/
theorem law (l : Launch) (x t : Addr) (V : Cell) (cd : Int32) (n : Nat) (f : Nat → Int32) (z : Int32) : Law l yN 1 0 1 13 yB 1 (some .int) site (P x t V cd n f z) (E n) [] 0 0 := by
  refine Law.of_walk (plainFor_of_name (by decide +kernel)) (by decide +kernel) (by decide +kernel) (by decide) (fun _ _ h => by rw [h.1]; rfl) (fun _ U U' hal hh h => ⟨h.1, h.2.1.mv hal hh, h.2.2.1.there hal hh, h.2.2.2⟩) (fun r U U' V V' h1 hal h2 h => XT.PureE.mv r U U' V V' h1 hal h2 h) ?_
  intro p e s m args below meth c s₁ X0 hexec hbytes hml hret hlk hnm hown hh0 W hP
  obtain ⟨rfl, hx, s1, hz⟩ := hP
  have v31 := hx.2.2.2.1.2.2.2
  have c1 : Steps p.tables e below (s₁.setTop (entryFrame m #[.ref x] 1)) (s₁.setTop (mkF m 1 #[.val (.ref x)] [.ref x])) := Steps.trans (entry rfl) (by
    show Steps p.tables e below (s₁.setTop (mkF m 0 #[.val (.ref x)] [])) _
    refine XS.aloadN X0.here hexec rfl (hb hbytes d0) rfl rfl ?_
    exact Steps.refl _)
  obtain ⟨T2, X2, q2, st2⟩ := X0.hget hexec hown (wk W (.fieldLink "java/lang/String" 9 "java/lang/String" "value" "[B")) (hx.mv X0.warmed.alike hh0).2.1 (g := (mkF m 1 #[.val (.ref x)] [.ref x])) rfl (rest := []) rfl (hb hbytes d1)
  have hh2 := q2.trans hh0
  have hx2 := hx.mv X2.warmed.alike hh2
  have c3 : Steps p.tables e below (s₁.setTop (entryFrame m #[.ref x] 1)) (T2.setTop (mkF m 6 #[.val (.ref x)] [.ref x, .int (Int32.ofNat V.slots.size)])) := (c1.trans (st2 _ (Steps.refl _))).trans (by
    refine X2.alen hexec hx2.2.2.2.1 rfl rfl (hb hbytes d4) ?_
    refine XS.aloadN X2.here hexec rfl (hb hbytes d5) rfl rfl ?_
    exact Steps.refl _)
  obtain ⟨v4, T4, X4, E4, g4⟩ := X2.callV hexec (Cdr.law l x cd z) hown (wks W (virtW "java/lang/String" 335 "java/lang/String" Cdr.yN Cdr.yN)) rfl (by decide) (wk W Cdr.tab) (W := 1) (Nat.le_of_ble_eq_true rfl) (Nat.le_of_ble_eq_true rfl) (Nat.le_refl _) (Nat.le_refl _) (hx2.1.fc X2.warmed.alike) hx2.1.is (g := (mkF m 6 #[.val (.ref x)] [.ref x, .int (Int32.ofNat V.slots.size)])) rfl (by rw [hml]; rfl) c3 (argsL := []) (rest := [.int (Int32.ofNat V.slots.size)]) rfl rfl (by show 2 * 0 + (1 + 0) ≤ _; decide) (hb hbytes d6) (⟨rfl, hx2.2.2.1, hx.2.2.2.2.1.cd, s1.there X2.warmed.alike hh2, hz⟩)
  obtain ⟨rfl, q4⟩ := E4
  have c5 : Steps p.tables e below (s₁.setTop (entryFrame m #[.ref x] 1)) (T4.setTop (mkF m 10 #[.val (.ref x)] [.int (Int32.ofNat V.slots.size >>> (cd &&& 31))])) := Steps.trans g4 (by
    refine ishr X4.here hexec rfl (hb hbytes d9) rfl ?_
    exact Steps.refl _)
  rw [hx.2.2.2.2.1.len v31] at c5
  exact ⟨T4, some (.int (Int32.ofNat n)), _, _, _, X4, rfl, rfl, rfl, (fun h => by cases h), ⟨rfl, q4.trans hh2⟩, fun fs hl => c5.trans (X4.ireturnOut hexec hret rfl (Or.inl rfl) (hb hbytes d10) hl)⟩
theorem pays {l : Launch} {R : Room} {p : Program} {e : Env} {below : List Frame} {s : State} {sargs : Array Value} {len W : Nat} (x t : Addr) (V : Cell) (cd : Int32) (n : Nat) (f : Nat → Int32) (z : Int32) (htab : tab.before sargs s = true) (hfr : 2 ≤ R.frames) (hlo : W + 25 ≤ R.locals) :
    Back l R p e below s sargs yN len W (fun A₁ a₁ => A₁.cells + 0 ≤ R.cells ∧ A₁.slots + 0 ≤ R.slots ∧ P x t V cd n f z a₁ A₁.U) (fun A₁ _ v₁ B₁ => E n v₁ A₁.U B₁.U ∧ B₁.locs = A₁.locs ++ [] ∧ B₁.cells = A₁.cells + 0 ∧ B₁.slots = A₁.slots + 0) :=
  (law l x t V cd n f z).pays htab hfr (by omega)
end Len
namespace IsL
def yN : MethodName := ⟨"java/lang/String", "isLatin1", "()Z"⟩
abbrev yB : ByteArray := jdk_42_method_154_code
theorem d0 : decode yB 0 = .ok (.getstatic 38, 3) := by decide +kernel
theorem d3 : decode yB 3 = .ok (.ifCond (.eq) 14, 3) := by decide +kernel
theorem d6 : decode yB 6 = .ok (.aload_n 0, 1) := by decide +kernel
theorem d7 : decode yB 7 = .ok (.getfield 15, 3) := by decide +kernel
theorem d10 : decode yB 10 = .ok (.ifCond (.ne) 7, 3) := by decide +kernel
theorem d13 : decode yB 13 = .ok (.iconst 1, 1) := by decide +kernel
theorem d14 : decode yB 14 = .ok (.goto 4, 3) := by decide +kernel
theorem d17 : decode yB 17 = .ok (.iconst 0, 1) := by decide +kernel
theorem d18 : decode yB 18 = .ok (.ireturn, 1) := by decide +kernel
def site : List Cond := [.fieldLink "java/lang/String" 38 "java/lang/String" "COMPACT_STRINGS" "Z", .fieldLink "java/lang/String" 15 "java/lang/String" "coder" "B"]
def tab : Cond := tabOf yN yB 1 (some .boolean) site
def P (x : Addr) (cd z : Int32) (args : Array Value) (s : State) : Prop := args = #[.ref x] ∧ Has x "java/lang/String" "coder" "B" (.int cd) s ∧ (cd = 0 ∨ cd = 1) ∧ StaticIs s "java/lang/String" "COMPACT_STRINGS" "Z" (.int z) ∧ ¬ z = 0
def E (cd : Int32) (r : Option Value) (s u : State) : Prop := XT.PureE (some (.int (1 - cd))) r s u
theorem law (l : Launch) (x : Addr) (cd z : Int32) : Law l yN 1 0 0 0 yB 1 (some .boolean) site (P x cd z) (E cd) [] 0 0 := by
  refine Law.of_walk (plainFor_of_name (by decide +kernel)) (by decide +kernel) (by decide +kernel) (by decide) (fun _ _ h => by rw [h.1]; rfl) (fun _ U U' hal hh h => ⟨h.1, h.2.1.mv hal hh, h.2.2.1, h.2.2.2.1.there hal hh, h.2.2.2.2⟩) (fun r U U' V V' h1 hal h2 h => XT.PureE.mv r U U' V V' h1 hal h2 h) ?_
  intro p e s m args below meth c s₁ X0 hexec hbytes hml hret hlk hnm hown hh0 W hP
  obtain ⟨rfl, hx, hc, s1, hz⟩ := hP
  have c1 : Steps p.tables e below (s₁.setTop (entryFrame m #[.ref x] 1)) (s₁.setTop (mkF m 0 #[.val (.ref x)] [])) := entry rfl
  obtain ⟨T2, X2, q2, st2⟩ := X0.sget hexec hown (wk W (.fieldLink "java/lang/String" 38 "java/lang/String" "COMPACT_STRINGS" "Z")) s1 (fun _ _ h => by rw [hh0]; exact h) (g := (mkF m 0 #[.val (.ref x)] [])) rfl (hb hbytes d0)
  have hh2 := q2.trans hh0
  have c3 : Steps p.tables e below (s₁.setTop (entryFrame m #[.ref x] 1)) (T2.setTop (mkF m 7 #[.val (.ref x)] [.ref x])) := (c1.trans (st2 _ (Steps.refl _))).trans (by
    refine XS.ifNo X2.here hexec rfl (hb hbytes d3) rfl (i0_eq_f hz) ?_
    refine XS.aloadN X2.here hexec rfl (hb hbytes d6) rfl rfl ?_
    exact Steps.refl _)
  obtain ⟨T4, X4, q4, st4⟩ := X2.hget hexec hown (wk W (.fieldLink "java/lang/String" 15 "java/lang/String" "coder" "B")) (hx.mv X2.warmed.alike hh2) (g := (mkF m 7 #[.val (.ref x)] [.ref x])) rfl (rest := []) rfl (hb hbytes d7)
  have c5 : Steps p.tables e below (s₁.setTop (entryFrame m #[.ref x] 1)) (T4.setTop (mkF m 10 #[.val (.ref x)] [.int cd])) := c3.trans (st4 _ (Steps.refl _))
  have c6 : Steps p.tables e below (s₁.setTop (entryFrame m #[.ref x] 1)) (T4.setTop (mkF m 18 #[.val (.ref x)] [.int (1 - cd)])) := by
    rcases hc with rfl | rfl
    · exact c5.trans (by
        refine XS.ifNo X4.here hexec rfl (hb hbytes d10) rfl (i0_ne_f rfl) ?_
        refine iconstV X4.here hexec rfl 1 (hb hbytes d13) (by decide) ?_
        refine XS.goto X4.here hexec rfl (pc0 := 14) rfl (hb hbytes d14) (by decide) rfl ?_
        exact Steps.refl _)
    · exact c5.trans (by
        refine XS.ifYes X4.here hexec rfl (pc0 := 10) rfl (hb hbytes d10) rfl (i0_ne_t (by decide)) (by decide) rfl ?_
        refine iconstV X4.here hexec rfl 0 (hb hbytes d17) (by decide) ?_
        exact Steps.refl _)
  exact ⟨T4, some (.int (1 - cd)), _, _, _, X4, rfl, rfl, rfl, (fun h => by cases h), ⟨rfl, q4.trans hh2⟩, fun fs hl => c6.trans (X4.ireturnOut hexec hret (by rcases hc with rfl | rfl <;> rfl) (Or.inr (Or.inl rfl)) (hb hbytes d18) hl)⟩
end IsL
namespace LChA
def yN : MethodName := ⟨"java/lang/StringLatin1", "charAt", "([BI)C"⟩
abbrev yB : ByteArray := jdk_43_method_2_code
theorem d0 : decode yB 0 = .ok (.iload_n 1, 1) := by decide +kernel
theorem d1 : decode yB 1 = .ok (.aload_n 0, 1) := by decide +kernel
theorem d2 : decode yB 2 = .ok (.arraylength, 1) := by decide +kernel
theorem d3 : decode yB 3 = .ok (.invokestatic 9, 3) := by decide +kernel
theorem d6 : decode yB 6 = .ok (.aload_n 0, 1) := by decide +kernel
theorem d7 : decode yB 7 = .ok (.iload_n 1, 1) := by decide +kernel
theorem d8 : decode yB 8 = .ok (.baload, 1) := by decide +kernel
theorem d9 : decode yB 9 = .ok (.sipush 255, 3) := by decide +kernel
theorem d12 : decode yB 12 = .ok (.iand, 1) := by decide +kernel
theorem d13 : decode yB 13 = .ok (.i2c, 1) := by decide +kernel
theorem d14 : decode yB 14 = .ok (.ireturn, 1) := by decide +kernel
def site : List Cond := [JO.Str_checkIndex.tab] ++ staticW "java/lang/StringLatin1" 9 JO.Str_checkIndex.yN
def tab : Cond := tabOf yN yB 2 (some .char) site
def P (t : Addr) (V : Cell) (i : Nat) (u : Int32) (fm : Value) (args : Array Value) (s : State) : Prop := args = #[.ref t, .int (Int32.ofNat i)] ∧ XT.Arr .byte t V s ∧ V.slots[i]? = some (.int u) ∧ (StaticIs s "jdk/internal/util/Preconditions" "SIOOBE_FORMATTER" "Ljava/util/function/BiFunction;" fm ∧ fm.isRef = true)
def E (u : Int32) (r : Option Value) (s w : State) : Prop := XT.PureE (some (.int (chr8 u))) r s w
theorem law (l : Launch) (t : Addr) (V : Cell) (i : Nat) (u : Int32) (fm : Value) : Law l yN 2 2 2 27 yB 2 (some .char) site (P t V i u fm) (E u) [] 0 0 := by
  refine Law.of_walk (plainFor_of_name (by decide +kernel)) (by decide +kernel) (by decide +kernel) (by decide) (fun _ _ h => by rw [h.1]; rfl) (fun _ U U' hal hh h => ⟨h.1, h.2.1.mv hal hh, h.2.2.1, h.2.2.2.1.there hal hh, h.2.2.2.2⟩) (fun r U U' V V' h1 hal h2 h => XT.PureE.mv r U U' V V' h1 hal h2 h) ?_
  intro p e s m args below meth c s₁ X0 hexec hbytes hml hret hlk hnm hown hh0 W hP
  obtain ⟨rfl, hV, hu, s1, rf⟩ := hP
  have v31 := hV.2.2.2
  have hi : i < V.slots.size := (Array.getElem?_eq_some_iff.mp hu).1
  have c1 : Steps p.tables e below (s₁.setTop (entryFrame m #[.ref t, .int (Int32.ofNat i)] 2)) (s₁.setTop (mkF m 0 #[.val (.ref t), .val (.int (Int32.ofNat i))] [])) := entry rfl
  have c2 : Steps p.tables e below (s₁.setTop (entryFrame m #[.ref t, .int (Int32.ofNat i)] 2)) (s₁.setTop (mkF m 3 #[.val (.ref t), .val (.int (Int32.ofNat i))] [.int (Int32.ofNat V.slots.size), .int (Int32.ofNat i)])) := c1.trans (by
    refine XS.iloadN X0.here hexec rfl (hb hbytes d0) rfl ?_
    refine XS.aloadN X0.here hexec rfl (hb hbytes d1) rfl rfl ?_
    refine X0.alen hexec (hV.mv X0.warmed.alike hh0) rfl rfl (hb hbytes d2) ?_
    exact Steps.refl _)
  obtain ⟨v3, T3, X3, E3, g3⟩ := X0.callS hexec (JO.Str_checkIndex.law l (Int32.ofNat i) (Int32.ofNat V.slots.size) fm) hown (wks W (staticW "java/lang/StringLatin1" 9 JO.Str_checkIndex.yN)) (wk W JO.Str_checkIndex.tab) (W := 0) (Nat.le_of_ble_eq_true rfl) (Nat.le_of_ble_eq_true rfl) (Nat.le_refl _) (Nat.le_refl _) (g := (mkF m 3 #[.val (.ref t), .val (.int (Int32.ofNat i))] [.int (Int32.ofNat V.slots.size), .int (Int32.ofNat i)])) rfl (by rw [hml]; rfl) c2 (argsL := [.int (Int32.ofNat i), .int (Int32.ofNat V.slots.size)]) (rest := []) rfl rfl (by show 2 * 0 + 0 ≤ _; decide) (hb hbytes d3) (⟨rfl, rf, s1.there X0.warmed.alike hh0, Int32.ofNat_not_neg (by omega), lt32 v31 hi⟩)
  obtain ⟨rfl, q3⟩ := E3
  have hh3 := q3.trans hh0
  have c4 : Steps p.tables e below (s₁.setTop (entryFrame m #[.ref t, .int (Int32.ofNat i)] 2)) (T3.setTop (mkF m 14 #[.val (.ref t), .val (.int (Int32.ofNat i))] [.int (chr8 u)])) := Steps.trans g3 (by
    refine XS.aloadN X3.here hexec rfl (hb hbytes d6) rfl rfl ?_
    refine XS.iloadN X3.here hexec rfl (hb hbytes d7) rfl ?_
    refine X3.aget hexec (hV.mv X3.warmed.alike hh3) rfl hu rfl rfl (hb hbytes d8) ?_
    refine sipushV X3.here hexec rfl 255 (hb hbytes d9) (by decide) ?_
    refine XS.iand X3.here hexec rfl (hb hbytes d12) rfl ?_
    refine i2c X3.here hexec rfl (hb hbytes d13) rfl ?_
    exact Steps.refl _)
  exact ⟨T3, some (.int (chr8 u)), _, _, _, X3, rfl, rfl, rfl, (fun h => by cases h), ⟨rfl, hh3⟩, fun fs hl => c4.trans (X3.ireturnOut hexec hret (narrow_c _) (Or.inr (Or.inr (Or.inr (Or.inl rfl)))) (hb hbytes d14) hl)⟩
end LChA
end StrChars
namespace StrChars.Road
open Jvm Sem ClassFile Op Lib Jvm.Stand Jvm.Free Jvm.Free.XT
open Jvm.Lib.Cold (StaticIs)
theorem consq {a : Array Value} {s : State} {c : Jvm.Cond} {L : List Jvm.Cond} (h0 : c.before a s = true) (h : ∀ w ∈ L, w.before a s = true) : ∀ w ∈ c :: L, w.before a s = true := fun w hw => (List.mem_cons.mp hw).elim (fun e => e ▸ h0) (h w)
/-- the words of String.length(), either coding -/
abbrev wordsLen : List Jvm.Cond := [.code Len.yN Len.yB 1 (some .int), .initialized ST, .fieldLink ST 9 ST "value" "[B", .fieldLink ST 38 ST "COMPACT_STRINGS" "Z", .fieldLink ST 15 ST "coder" "B", .code Cdr.yN Cdr.yB 1 (some .byte), .methodLink ST 335 Cdr.yN, .declares Cdr.yN, .selects ST Cdr.yN Cdr.yN, .instanceMethod Cdr.yN]
theorem tabLen_of {a : Array Value} {s : State} (h : ∀ w ∈ wordsLen, w.before a s = true) : Len.tab.before a s = true := by
  have hc : Cdr.tab.before a s = true := unparts (wk h (.code Cdr.yN Cdr.yB 1 (some .byte))) (wks h (.initialized Cdr.yN.cls :: Cdr.site))
  have q := consq hc h
  exact unparts (wk q (.code Len.yN Len.yB 1 (some .int))) (wks q (.initialized Len.yN.cls :: Len.site))
theorem movedLen {Z s : State} {a0 args : Array Value} (hZ : Z.Warmed39 s.vm) (hw : ∀ d ∈ wordsLen, d.before a0 Z = true) : ∀ d ∈ wordsLen, d.before args s = true := fun d hd => by
  have q := hw d hd
  have t : ∀ d ∈ wordsLen, d = .arrayClass .byte ∨ (d.onTables && d.keepsFace) = true := by decide +kernel
  rcases t d hd with rfl | t
  · exact RoadKit.mvA hZ q
  · exact RoadKit.mv hZ q t
/-- the bytes of the chars cs, low before high -/
def wideBytes : List Int32 → List Value
  | [] => []
  | c :: cs => .int (lo8 c) :: .int (hi8 c) :: wideBytes cs
theorem wide_lo (d : Value) : ∀ (cs : List Int32) (j : Nat), j < cs.length → (wideBytes cs).getD (2 * j) d = .int (lo8 (cs.getD j 0))
  | [], j, h => absurd h (Nat.not_lt_zero j)
  | c :: cs, 0, _ => rfl
  | c :: cs, j + 1, h => by
    have q := wide_lo d cs j (by simpa using h)
    rw [show 2 * (j + 1) = 2 * j + 1 + 1 from by omega]
    simpa [wideBytes] using q
theorem wide_hi (d : Value) : ∀ (cs : List Int32) (j : Nat), j < cs.length → (wideBytes cs).getD (2 * j + 1) d = .int (hi8 (cs.getD j 0))
  | [], j, h => absurd h (Nat.not_lt_zero j)
  | c :: cs, 0, _ => rfl
  | c :: cs, j + 1, h => by
    have q := wide_hi d cs j (by simpa using h)
    rw [show 2 * (j + 1) + 1 = 2 * j + 1 + 1 + 1 from by omega]
    simpa [wideBytes] using q
theorem low_at (d : Value) (cs : List Int32) (j : Nat) (h : j < cs.length) : (cs.map fun c => Value.int (lo8 c)).getD j d = .int (lo8 (cs.getD j 0)) := by
  simp [List.getD_eq_getElem?_getD, h]
/-- an array of N2 bytes vs codes the chars cs by the coder cd -/
def CodA (cs : List Int32) (cd N2 : Int32) (vs : List Value) : Prop := (cd = 0 ∧ N2 = Int32.ofNat cs.length ∧ vs = (cs.map fun c => Value.int (lo8 c)) ∧ ∀ c ∈ cs, ¬ 255 < c) ∨ (cd = 1 ∧ N2 = Int32.ofNat (2 * cs.length) ∧ vs = wideBytes cs ∧ ∃ c ∈ cs, 255 < c)
theorem CodA.cod {cs : List Int32} {cd N2 : Int32} {vs : List Value} {V : Cell} (h : CodA cs cd N2 vs) (hn : 2 * cs.length < 2 ^ 31) (hs : V.slots.size = N2.toNatClampNeg) (hv : RoadKit.Has V vs (.int 0)) : Cod cd cs.length (fun j => cs.getD j 0) V := by
  rcases h with ⟨rfl, rfl, rfl, h⟩ | ⟨rfl, rfl, rfl, c, hc, hw⟩
  · rw [n32 (by omega)] at hs
    exact Or.inl ⟨rfl, hs, fun j hj => ⟨by rw [hv j (by omega), low_at _ _ _ hj], by
      have e : cs.getD j 0 = cs[j] := by simp [List.getD_eq_getElem?_getD, hj]
      show ¬ 255 < cs.getD j 0
      rw [e]; exact h _ (List.getElem_mem _)⟩⟩
  · rw [n32 (by omega)] at hs
    obtain ⟨j, hj, rfl⟩ := List.getElem_of_mem hc
    exact Or.inr ⟨rfl, hs, fun j hj => ⟨by rw [hv _ (by omega), wide_lo _ _ _ hj], by rw [hv _ (by omega), wide_hi _ _ _ hj]⟩, j, hj, by
      have e : cs.getD j 0 = cs[j] := by simp [List.getD_eq_getElem?_getD, hj]
      show 255 < cs.getD j 0
      rw [e]; exact hw⟩
/-- an object of exactly java/lang/String, its two fields found: as the laws ask it -/
theorem strObj {Z U : State} {a0 : Array Value} {kI : Nat} (wi : (Jvm.Cond.instantiable ST kI).before a0 Z = true) (al : Z.vm.Alike U.vm) {x : Addr} {v0 c0 : Value} (E : RoadKit.Exa Z U.heap x ST) (V : RoadKit.Fld Z U.heap x ST "value" "[B" v0) (C : RoadKit.Fld Z U.heap x ST "coder" "B" c0) :
    ∃ (D : Cell) (fV fC : Field), Blank ST x D U ∧ Found ST "value" "[B" fV U ∧ Found ST "coder" "B" fC U ∧ D.slots[fV.slot]? = some v0 ∧ D.slots[fC.slot]? = some c0 ∧ RoadKit.slotOf Z ST "value" "[B" = fV.slot ∧ RoadKit.slotOf Z ST "coder" "B" = fC.slot := by
  obtain ⟨D, cfV, kV, iV, fV, hD, gV, stV, knV, obV, asV, slV⟩ := V
  obtain ⟨D', cfC, kC, iC, fC, hD', gC, stC, -, -, asC, slC⟩ := C
  cases hD.symm.trans hD'
  obtain ⟨D2, kD, e1, e2, e3, e4, e5⟩ := E
  cases hD.symm.trans e1
  obtain ⟨c2, k2, i1, i2, i3, -⟩ := Cond.instantiable_spec wi
  cases e2.symm.trans i1
  cases e3.symm.trans i2
  obtain ⟨kU, u1, u2⟩ := al.2.2 _ _ e3
  exact ⟨D, fV, fC, ⟨hD, ⟨knV, fun q hq => by rw [hq] at obV; cases obV⟩, by rw [al.findClass]; exact e2, kU, u1, by rw [u2]; exact i3, by rw [u2]; exact e5 i3⟩, ⟨SBG.found_only al ⟨cfV, kV, iV, gV⟩, stV⟩, ⟨SBG.found_only al ⟨cfC, kC, iC, gC⟩, stC⟩, slV, slC, by simp [RoadKit.slotOf, gV], by simp [RoadKit.slotOf, gC]⟩
theorem sta_is {Z U : State} (al : Z.vm.Alike U.vm) {C n d : String} {v : Value} (S : RoadKit.Sta Z U.heap C n d v) : StaticIs U C n d v := by
  obtain ⟨cfS, iS, kS, fS, st, cS, t1, t2, t3, t4, t5, t6, t7⟩ := S
  exact StaticIs.there (s := { Z with heap := U.heap }) ⟨cfS, iS, kS, fS, st, cS, t1, t2, t3, t4, t5, (fun q => by rw [q] at t6; cases t6), t7⟩ al rfl
/-- **length() OF SUCH A STRING** -/
theorem lenW {p : Program} {l : Launch} {e : Env} {R : Room} {s : State} {args : Array Value} {below : List Frame} {len W : Nat} {Z : State} {a0 : Array Value} {h : Heap} (hZ : Z.Warmed39 s.vm) (hw : ∀ d ∈ wordsLen, d.before a0 Z = true) {kI : Nat} (wi : (Jvm.Cond.instantiable ST kI).before a0 Z = true)
    {x t : Addr} {kb : ClassId} {cs : List Int32} {cd N2 z : Int32} {vs : List Value} (E : RoadKit.Exa Z h x ST) (V : RoadKit.Fld Z h x ST "value" "[B" (.ref t)) (C : RoadKit.Fld Z h x ST "coder" "B" (.int cd)) (K : RoadKit.Arv Z h t kb .byte N2 vs (.int 0)) (hc : CodA cs cd N2 vs) (hb : ∀ c ∈ cs, ¬ c < 0 ∧ ¬ (65535 : Int32) < c)
    (S : RoadKit.Sta Z h ST "COMPACT_STRINGS" "Z" (.int z)) (hz : ¬ z = 0) (l2 : cs.length ≤ 4000) (hfr : 2 ≤ R.frames) (hlo : W + 25 ≤ R.locals) :
    Back l R p e below s args (⟨"java/lang/String", "length", "()I"⟩ : MethodName) len W (fun P a => a = #[.ref x] ∧ P.U.heap = h ∧ P.cells + 0 ≤ R.cells ∧ P.slots + 0 ≤ R.slots)
      (fun P _ v B => ∃ L, (v = some (.int (Int32.ofNat cs.length)) ∧ L = [] ∧ B.U.heap = h) ∧ B.locs = P.locs ++ L ∧ B.cells = P.cells + 0 ∧ B.slots = P.slots + 0) := by
  obtain ⟨A, K1, K2, K3, K4, K5, K6⟩ := K
  have hcod := hc.cod (by omega) K3 K5
  intro m meth c P g ig mk a X hg hsize hdg hW hn hp'
  obtain ⟨rfl, rfl, r1, r2⟩ := hp'
  have al : Z.vm.Alike P.U.vm := hZ.alike.trans X.warmed.alike
  obtain ⟨D, fV, fC, hB, F1, F2, g1, g2, -, -⟩ := strObj wi al E V C
  have hx : Txt x t A cd cs.length (fun j => cs.getD j 0) P.U := ⟨⟨_, hB.2.2.1, D, hB.1, rfl, by cases q : D.vm <;> first | rfl | exact absurd q (hB.2.1.2 _)⟩, Has.of hB F1 g1, Has.of hB F2 g2, ⟨K1.1, State.isArrayOf_alike al K1.2.1, K1.2.2, by rcases hcod with ⟨-, q, -⟩ | ⟨-, q, -⟩ <;> omega⟩, hcod, fun j hj => by
    have e : cs.getD j 0 = cs[j] := by simp [List.getD_eq_getElem?_getD, hj]
    show ¬ cs.getD j 0 < 0 ∧ ¬ 65535 < cs.getD j 0
    rw [e]; exact hb _ (List.getElem_mem _)⟩
  obtain ⟨v, B, X', ⟨⟨hv, hh⟩, hl, hk, hs⟩, st⟩ := Len.pays x t A cd cs.length (fun j => cs.getD j 0) z (tabLen_of (movedLen hZ hw)) hfr hlo m meth c P g ig mk _ X hg hsize hdg hW hn ⟨r1, r2, rfl, hx, sta_is al S, hz⟩
  exact ⟨v, B, X', ⟨[], ⟨hv, rfl, hh⟩, hl, hk, hs⟩, st⟩
end StrChars.Road
namespace StrChars.Road
open Jvm Sem ClassFile Op Lib Jvm.Stand Jvm.Free Jvm.Free.XT
open Jvm.Lib.Cold (StaticIs)
/-- the road's facts of a String, as the laws ask it -/
theorem txt_of {Z U : State} {a0 : Array Value} {kI : Nat} (wi : (Jvm.Cond.instantiable ST kI).before a0 Z = true) (al : Z.vm.Alike U.vm) {x t : Addr} {kb : ClassId} {cs : List Int32} {cd N2 : Int32} {vs : List Value} (E : RoadKit.Exa Z U.heap x ST) (V : RoadKit.Fld Z U.heap x ST "value" "[B" (.ref t)) (C : RoadKit.Fld Z U.heap x ST "coder" "B" (.int cd)) (K : RoadKit.Arv Z U.heap t kb .byte N2 vs (.int 0)) (hc : CodA cs cd N2 vs) (hb : ∀ c ∈ cs, ¬ c < 0 ∧ ¬ (65535 : Int32) < c) (l2 : cs.length ≤ 4000) :
    ∃ A, Txt x t A cd cs.length (fun j => cs.getD j 0) U := by
  obtain ⟨A, K1, K2, K3, K4, K5, K6⟩ := K
  have hcod := hc.cod (by omega) K3 K5
  obtain ⟨D, fV, fC, hB, F1, F2, g1, g2, -, -⟩ := strObj wi al E V C
  exact ⟨A, ⟨_, hB.2.2.1, D, hB.1, rfl, by cases q : D.vm <;> first | rfl | exact absurd q (hB.2.1.2 _)⟩, Has.of hB F1 g1, Has.of hB F2 g2, ⟨K1.1, State.isArrayOf_alike al K1.2.1, K1.2.2, by rcases hcod with ⟨-, q, -⟩ | ⟨-, q, -⟩ <;> omega⟩, hcod, fun j hj => by
    have e : cs.getD j 0 = cs[j] := by simp [List.getD_eq_getElem?_getD, hj]
    show ¬ cs.getD j 0 < 0 ∧ ¬ 65535 < cs.getD j 0
    rw [e]; exact hb _ (List.getElem_mem _)⟩
end StrChars.Road
namespace StrChars
open Jvm Sem ClassFile Op Lib Jvm.Stand Jvm.Free.XT Jvm.Free.ALB Jvm.Free.JM Jvm.Free
open Jvm.Lib.Cold (StaticIs)
namespace ChN
def yN : MethodName := ⟨"java/lang/String", "charAt", "(I)C"⟩
abbrev yB : ByteArray := jdk_42_method_56_code
theorem d0 : decode yB 0 = .ok (.aload_n 0, 1) := by decide +kernel
theorem d1 : decode yB 1 = .ok (.invokevirtual 492, 3) := by decide +kernel
theorem d4 : decode yB 4 = .ok (.ifCond (.eq) 12, 3) := by decide +kernel
theorem d7 : decode yB 7 = .ok (.aload_n 0, 1) := by decide +kernel
theorem d8 : decode yB 8 = .ok (.getfield 9, 3) := by decide +kernel
theorem d11 : decode yB 11 = .ok (.iload_n 1, 1) := by decide +kernel
theorem d12 : decode yB 12 = .ok (.invokestatic 495, 3) := by decide +kernel
theorem d15 : decode yB 15 = .ok (.ireturn, 1) := by decide +kernel
def site : List Cond := [.fieldLink "java/lang/String" 9 "java/lang/String" "value" "[B", IsL.tab, LChA.tab] ++ virtW "java/lang/String" 492 "java/lang/String" IsL.yN IsL.yN ++ staticW "java/lang/String" 495 LChA.yN
def tab : Cond := tabOf yN yB 2 (some .char) site
def P (x t : Addr) (V : Cell) (n : Nat) (f : Nat → Int32) (z : Int32) (fm : Value) (i : Nat) (args : Array Value) (s : State) : Prop := args = #[.ref x, .int (Int32.ofNat i)] ∧ Txt x t V 0 n f s ∧ i < n ∧ StaticIs s "java/lang/String" "COMPACT_STRINGS" "Z" (.int z) ∧ ¬ z = 0 ∧ StaticIs s "jdk/internal/util/Preconditions" "SIOOBE_FORMATTER" "Ljava/util/function/BiFunction;" fm ∧ fm.isRef = true
def E (f : Nat → Int32) (i : Nat) (r : Option Value) (s u : State) : Prop := XT.PureE (some (.int (f i))) r s u
/-- charAt(i) of a Latin-1 String of n chars, i < n: f i -/
theorem law (l : Launch) (x t : Addr) (V : Cell) (n : Nat) (f : Nat → Int32) (z : Int32) (fm : Value) (i : Nat) : Law l yN 2 1 3 40 yB 2 (some .char) site (P x t V n f z fm i) (E f i) [] 0 0 := by
  refine Law.of_walk (plainFor_of_name (by decide +kernel)) (by decide +kernel) (by decide +kernel) (by decide) (fun _ _ h => by rw [h.1]; rfl) (fun _ U U' hal hh h => ⟨h.1, h.2.1.mv hal hh, h.2.2.1, h.2.2.2.1.there hal hh, h.2.2.2.2.1, h.2.2.2.2.2.1.there hal hh, h.2.2.2.2.2.2⟩) (fun r U U' V V' h1 hal h2 h => XT.PureE.mv r U U' V V' h1 hal h2 h) ?_
  intro p e s m args below meth c s₁ X0 hexec hbytes hml hret hlk hnm hown hh0 W hP
  obtain ⟨rfl, hx, hi, s1, hz, s3, rf⟩ := hP
  have v31 := hx.2.2.2.1.2.2.2
  have hr := hx.2.2.2.2.2 i hi
  have hx0 := hx.mv X0.warmed.alike hh0
  have c1 : Steps p.tables e below (s₁.setTop (entryFrame m #[.ref x, .int (Int32.ofNat i)] 2)) (s₁.setTop (mkF m 1 #[.val (.ref x), .val (.int (Int32.ofNat i))] [.ref x])) := Steps.trans (entry rfl) (by
    show Steps p.tables e below (s₁.setTop (mkF m 0 #[.val (.ref x), .val (.int (Int32.ofNat i))] [])) _
    refine XS.aloadN X0.here hexec rfl (hb hbytes d0) rfl rfl ?_
    exact Steps.refl _)
  obtain ⟨v2, T2, X2, E2, g2⟩ := X0.callV hexec (IsL.law l x 0 z) hown (wks W (virtW "java/lang/String" 492 "java/lang/String" IsL.yN IsL.yN)) rfl (by decide) (wk W IsL.tab) (W := 0) (Nat.le_of_ble_eq_true rfl) (Nat.le_of_ble_eq_true rfl) (Nat.le_refl _) (Nat.le_refl _) (hx0.1.fc X0.warmed.alike) hx0.1.is (g := (mkF m 1 #[.val (.ref x), .val (.int (Int32.ofNat i))] [.ref x])) rfl (by rw [hml]; rfl) c1 (argsL := []) (rest := []) rfl rfl (by show 2 * 0 + 0 ≤ _; decide) (hb hbytes d1) (⟨rfl, hx0.2.2.1, hx.2.2.2.2.1.cd, s1.there X0.warmed.alike hh0, hz⟩)
  obtain ⟨rfl, q2⟩ := E2
  have hh2 := q2.trans hh0
  have hx2 := hx.mv X2.warmed.alike hh2
  obtain ⟨-, k1, k2⟩ | ⟨k0, -⟩ := hx.2.2.2.2.1
  · have c3 : Steps p.tables e below (s₁.setTop (entryFrame m #[.ref x, .int (Int32.ofNat i)] 2)) (T2.setTop (mkF m 8 #[.val (.ref x), .val (.int (Int32.ofNat i))] [.ref x])) := Steps.trans g2 (by
      refine XS.ifNo X2.here hexec rfl (hb hbytes d4) rfl (i0_eq_f (by decide)) ?_
      refine XS.aloadN X2.here hexec rfl (hb hbytes d7) rfl rfl ?_
      exact Steps.refl _)
    obtain ⟨T4, X4, q4, st4⟩ := X2.hget hexec hown (wk W (.fieldLink "java/lang/String" 9 "java/lang/String" "value" "[B")) hx2.2.1 (g := (mkF m 8 #[.val (.ref x), .val (.int (Int32.ofNat i))] [.ref x])) rfl (rest := []) rfl (hb hbytes d8)
    have hh4 := q4.trans hh2
    have c5 : Steps p.tables e below (s₁.setTop (entryFrame m #[.ref x, .int (Int32.ofNat i)] 2)) (T4.setTop (mkF m 12 #[.val (.ref x), .val (.int (Int32.ofNat i))] [.int (Int32.ofNat i), .ref t])) := (c3.trans (st4 _ (Steps.refl _))).trans (by
      refine XS.iloadN X4.here hexec rfl (hb hbytes d11) rfl ?_
      exact Steps.refl _)
    obtain ⟨v6, T6, X6, E6, g6⟩ := X4.callS hexec (LChA.law l t V i (lo8 (f i)) fm) hown (wks W (staticW "java/lang/String" 495 LChA.yN)) (wk W LChA.tab) (W := 0) (Nat.le_of_ble_eq_true rfl) (Nat.le_of_ble_eq_true rfl) (Nat.le_refl _) (Nat.le_refl _) (g := (mkF m 12 #[.val (.ref x), .val (.int (Int32.ofNat i))] [.int (Int32.ofNat i), .ref t])) rfl (by rw [hml]; rfl) c5 (argsL := [.ref t, .int (Int32.ofNat i)]) (rest := []) rfl rfl (by show 2 * 0 + 0 ≤ _; decide) (hb hbytes d12) (⟨rfl, hx.2.2.2.1.mv X4.warmed.alike hh4, (k2 i hi).1, s3.there X4.warmed.alike hh4, rf⟩)
    obtain ⟨rfl, q6⟩ := E6
    rw [chr8_lo8 hr.1 (k2 i hi).2] at g6
    exact ⟨T6, some (.int (f i)), _, _, _, X6, rfl, rfl, rfl, (fun h => by cases h), ⟨rfl, q6.trans hh4⟩, fun fs hl => Steps.trans g6 (X6.ireturnOut hexec hret (narrow_ch hr.1 hr.2) (Or.inr (Or.inr (Or.inr (Or.inl rfl)))) (hb hbytes d15) hl)⟩
  · exact absurd k0 (by decide)
theorem pays {l : Launch} {R : Room} {p : Program} {e : Env} {below : List Frame} {s : State} {sargs : Array Value} {len W : Nat} (x t : Addr) (V : Cell) (n : Nat) (f : Nat → Int32) (z : Int32) (fm : Value) (i : Nat) (htab : tab.before sargs s = true) (hfr : 4 ≤ R.frames) (hlo : W + 53 ≤ R.locals) :
    Back l R p e below s sargs yN len W (fun A₁ a₁ => A₁.cells + 0 ≤ R.cells ∧ A₁.slots + 0 ≤ R.slots ∧ P x t V n f z fm i a₁ A₁.U) (fun A₁ _ v₁ B₁ => E f i v₁ A₁.U B₁.U ∧ B₁.locs = A₁.locs ++ [] ∧ B₁.cells = A₁.cells + 0 ∧ B₁.slots = A₁.slots + 0) :=
  (law l x t V n f z fm i).pays htab hfr (by omega)
end ChN
end StrChars
namespace StrChars.Road
open Jvm Sem ClassFile Op Lib Jvm.Stand Jvm.Free Jvm.Free.XT
open Jvm.Lib.Cold (StaticIs)
/-- the words of String.charAt(int), the Latin-1 road alone -/
abbrev wordsChN : List Jvm.Cond := [.code ChN.yN ChN.yB 2 (some .char), .initialized ST, .fieldLink ST 9 ST "value" "[B", .fieldLink ST 38 ST "COMPACT_STRINGS" "Z", .fieldLink ST 15 ST "coder" "B", .code IsL.yN IsL.yB 1 (some .boolean), .methodLink ST 492 IsL.yN, .declares IsL.yN, .selects ST IsL.yN IsL.yN, .instanceMethod IsL.yN,
  .methodLink ST 495 LChA.yN, .static LChA.yN, .code LChA.yN LChA.yB 2 (some .char), .initialized "java/lang/StringLatin1", .methodLink "java/lang/StringLatin1" 9 JO.Str_checkIndex.yN, .static JO.Str_checkIndex.yN, .code JO.Str_checkIndex.yN JO.Str_checkIndex.yB 2 none,
  .fieldLink ST 1053 "jdk/internal/util/Preconditions" "SIOOBE_FORMATTER" "Ljava/util/function/BiFunction;", .methodLink ST 1059 JC.PreCheck.yN, .static JC.PreCheck.yN, .code JC.PreCheck.yN JC.PreCheck.yB 3 (some .int), .initialized "jdk/internal/util/Preconditions"]
theorem tabChN_of {a : Array Value} {s : State} (h : ∀ w ∈ wordsChN, w.before a s = true) : ChN.tab.before a s = true := by
  have hp : JC.PreCheck.tab.before a s = true := unparts (wk h (.code JC.PreCheck.yN JC.PreCheck.yB 3 (some .int))) (wks h (.initialized JC.PreCheck.yN.cls :: JC.PreCheck.site))
  have qk := consq hp h
  have hk : JO.Str_checkIndex.tab.before a s = true := unparts (wk qk (.code JO.Str_checkIndex.yN JO.Str_checkIndex.yB 2 none)) (wks qk (.initialized JO.Str_checkIndex.yN.cls :: JO.Str_checkIndex.site))
  have ql := consq hk h
  have hl : LChA.tab.before a s = true := unparts (wk ql (.code LChA.yN LChA.yB 2 (some .char))) (wks ql (.initialized LChA.yN.cls :: LChA.site))
  have hi : IsL.tab.before a s = true := unparts (wk h (.code IsL.yN IsL.yB 1 (some .boolean))) (wks h (.initialized IsL.yN.cls :: IsL.site))
  have q := consq hi (consq hl h)
  exact unparts (wk q (.code ChN.yN ChN.yB 2 (some .char))) (wks q (.initialized ChN.yN.cls :: ChN.site))
theorem movedChN {Z s : State} {a0 args : Array Value} (hZ : Z.Warmed39 s.vm) (hw : ∀ d ∈ wordsChN, d.before a0 Z = true) : ∀ d ∈ wordsChN, d.before args s = true := fun d hd => by
  have t : ∀ d ∈ wordsChN, (d.onTables && d.keepsFace) = true := by decide +kernel
  exact RoadKit.mv hZ (hw d hd) (t d hd)
/-- **charAt(i) OF A LATIN-1 STRING**, i < n: the char -/
theorem chN {p : Program} {l : Launch} {e : Env} {R : Room} {s : State} {args : Array Value} {below : List Frame} {len W : Nat} {Z : State} {a0 : Array Value} {h : Heap} (hZ : Z.Warmed39 s.vm) (hw : ∀ d ∈ wordsChN, d.before a0 Z = true) {kI : Nat} (wi : (Jvm.Cond.instantiable ST kI).before a0 Z = true)
    {x t : Addr} {kb : ClassId} {cs : List Int32} {N2 z : Int32} {vs : List Value} {fm : Value} {i : Nat} {j : Int32} (E : RoadKit.Exa Z h x ST) (V : RoadKit.Fld Z h x ST "value" "[B" (.ref t)) (C : RoadKit.Fld Z h x ST "coder" "B" (.int 0)) (K : RoadKit.Arv Z h t kb .byte N2 vs (.int 0)) (hc : CodA cs 0 N2 vs) (hb : ∀ c ∈ cs, ¬ c < 0 ∧ ¬ (65535 : Int32) < c)
    (S : RoadKit.Sta Z h ST "COMPACT_STRINGS" "Z" (.int z)) (hz : ¬ z = 0) (F : RoadKit.Sta Z h "jdk/internal/util/Preconditions" "SIOOBE_FORMATTER" "Ljava/util/function/BiFunction;" fm) (rf : fm.isRef = true) (l2 : cs.length ≤ 4000) (hi : i < cs.length) (hj : j = Int32.ofNat i) (hfr : 4 ≤ R.frames) (hlo : W + 53 ≤ R.locals) :
    Back l R p e below s args (⟨"java/lang/String", "charAt", "(I)C"⟩ : MethodName) len W (fun P a => a = #[.ref x, .int j] ∧ P.U.heap = h ∧ P.cells + 0 ≤ R.cells ∧ P.slots + 0 ≤ R.slots)
      (fun P _ v B => ∃ L, (v = some (.int (cs.getD i 0)) ∧ L = [] ∧ B.U.heap = h) ∧ B.locs = P.locs ++ L ∧ B.cells = P.cells + 0 ∧ B.slots = P.slots + 0) := by
  subst hj
  intro m meth c P g ig mk a X hg hsize hdg hW hn hp'
  obtain ⟨rfl, rfl, r1, r2⟩ := hp'
  have al : Z.vm.Alike P.U.vm := hZ.alike.trans X.warmed.alike
  obtain ⟨A, hx⟩ := txt_of wi al E V C K hc hb l2
  obtain ⟨v, B, X', ⟨⟨hv, hh⟩, hl, hk, hs⟩, st⟩ := ChN.pays x t A cs.length (fun j => cs.getD j 0) z fm i (tabChN_of (movedChN hZ hw)) hfr hlo m meth c P g ig mk _ X hg hsize hdg hW hn ⟨r1, r2, rfl, hx, hi, sta_is al S, hz, sta_is al F, rf⟩
  exact ⟨v, B, X', ⟨[], ⟨hv, rfl, hh⟩, hl, hk, hs⟩, st⟩
/-- what backV says of its String, as the contracts of this text ask it: cs's low bytes, coder 0 -/
theorem codOf {cs : List Int32} {n : Nat} (hn : cs.length = n) (hb : ∀ c ∈ cs, ¬ 255 < c) : CodA cs 0 (Int32.ofNat n) ((cs.map lo8).map Value.int) := Or.inl ⟨rfl, by rw [hn], by simp [List.map_map, Function.comp_def], hb⟩
end StrChars.Road
end Jvm.Pilot.@@N@@
namespace Jvm.Pilot.@@N@@
open Jvm Jvm.ClassFile Sem Op Lib Jvm.Free Jvm.Stand Jvm.LawKit Jvm.RoadKit Bundle Own
/-- what new String(chars) leaves -/
def StrQ (Z : State) (x : Addr) (N : Int32) (bs : List Int32) (h : Heap) (v : Option Value) (h' : Heap) : Prop := v = none ∧ Exa Z h' x "java/lang/String" ∧ Fld Z h' x "java/lang/String" "coder" "B" (.int 0) ∧
  ∃ (t : Addr) (kb : ClassId), h.size ≤ t ∧ Fld Z h' x "java/lang/String" "value" "[B" (.ref t) ∧ Arv Z h' t kb .byte N (bs.map Value.int) (.int 0)
theorem own_strw {a0 : Array Value} {Z : State} (hw : ∀ d ∈ tables_1, d.before a0 Z = true) : ∀ d ∈ StrChars.Road.words, d.before a0 Z = true := fun d hd => hw d ((by decide +kernel : ∀ d ∈ StrChars.Road.words, d ∈ tables_1) d hd)
theorem own_str {p : Program} {l : Launch} {e : Env} {R : Room} {s : State} {args : Array Value} {below : List Frame} {len W : Nat} {Z : State} {a0 : Array Value} {h : Heap} (hw : ∀ d ∈ tables_1, d.before a0 Z = true) (wi : (Jvm.Cond.instantiable "java/lang/String" 4).before a0 Z = true) (hZ : Z.Warmed39 s.vm)
    {x b : Addr} {kC : ClassId} {cs : List Int32} {d v0 c0 : Value} {z N : Int32} {n n0 : Nat} (hx0 : n0 ≤ x) (O : Old Z n0 h) (E : Exa Z h x "java/lang/String") (V : Fld Z h x "java/lang/String" "value" "[B" v0) (C : Fld Z h x "java/lang/String" "coder" "B" c0) (K : Arv Z h b kC .char N (cs.map Value.int) d) (S : Sta Z Z.heap "java/lang/String" "COMPACT_STRINGS" "Z" (.int z)) (hz : ¬ z = 0)
    (hn : cs.length = n) (hN : N = Int32.ofNat n) (l0 : 0 < n) (l2 : n ≤ 4000) (hp : ∀ c ∈ cs, ¬ c < 0 ∧ ¬ (255 : Int32) < c) (hfr : 4 ≤ R.frames) (hlo : W + 65 ≤ R.locals) :
    Bk l R p e below s args (⟨"java/lang/String", "<init>", "([C)V"⟩ : MethodName) len W #[.ref x, .ref b] h 1 n n0 [x] (StrQ Z x N (cs.map fun c => c.toInt8.toInt32) h) :=
  Back.mono (StrChars.Road.backV (W := W) hZ (own_strw hw) (kI := 4) wi hx0 (Old.le O) E V C K (S.ext O.2) hz hn hN l0 l2 hp rfl hfr hlo) (fun _ _ q => q)
    (fun A a v B _ ⟨L, ⟨q1, q2, q3, q4, q5, t, kb, q6, q7, q8, q9, q10⟩, r⟩ => ⟨L, ⟨q2, q3, q1, q4, q5, t, kb, q7, q9, q10⟩, r⟩)
theorem own_lenw {a0 : Array Value} {Z : State} (hw : ∀ d ∈ tables_1, d.before a0 Z = true) : ∀ d ∈ StrChars.Road.wordsLen, d.before a0 Z = true := fun d hd => hw d ((by decide +kernel : ∀ d ∈ StrChars.Road.wordsLen, d ∈ tables_1) d hd)
theorem own_chwd {a0 : Array Value} {Z : State} (hw : ∀ d ∈ tables_1, d.before a0 Z = true) : ∀ d ∈ StrChars.Road.wordsChN, d.before a0 Z = true := fun d hd => hw d ((by decide +kernel : ∀ d ∈ StrChars.Road.wordsChN, d ∈ tables_1) d hd)
end Jvm.Pilot.@@N@@
namespace Jvm.Pilot.@@N@@
open Jvm Jvm.ClassFile Sem Op Lib Jvm.Free Jvm.Stand Jvm.LawKit Jvm.RoadKit Bundle Jvm.Pilot.@@N@@.Jvm.D Own
theorem own_allc0 {P : Int32 → Prop} : ∀ c ∈ ([] : List Int32), P c := fun _ q => nomatch q
theorem own_allc {P : Int32 → Prop} {y : Int32} {L : List Int32} (q : P y) (r : ∀ c ∈ L, P c) : ∀ c ∈ y :: L, P c := fun x z => (List.mem_cons.mp z).elim (fun u => u ▸ q) (r x)
theorem own_natOf {x : Int32} {m : Nat} (k : Nat) (hm : m + 1 = 2 ^ k) (hk : k < 31) : (x &&& Int32.ofNat m).toBitVec.toNat = x.toBitVec.toNat % (m + 1) := by
  show (x.toBitVec &&& (Int32.ofNat m).toBitVec).toNat = _
  have e : (Int32.ofNat m).toBitVec.toNat = m := by
    show (BitVec.ofNat 32 m).toNat = m
    rw [BitVec.toNat_ofNat]
    have : 2 ^ k < 2 ^ 31 := Nat.pow_lt_pow_right (by decide) hk
    omega
  rw [BitVec.toNat_and, e, show m = 2 ^ k - 1 by omega, Nat.and_two_pow_sub_one_eq_mod]
  congr 1; omega
theorem own_small {y : Int32} {n : Nat} (h : y.toBitVec.toNat = n) (hn : n < 2 ^ 31) : y = Int32.ofNat n := by
  apply Int32.toBitVec_inj.mp
  apply BitVec.eq_of_toNat_eq
  rw [h]
  show n = (BitVec.ofNat 32 n).toNat
  rw [BitVec.toNat_ofNat]; omega
theorem own_toInt {y : Int32} {n : Nat} (h : y.toBitVec.toNat = n) (hn : n < 2 ^ 31) : y.toInt = n := by
  show y.toBitVec.toInt = _
  rw [BitVec.toInt_eq_toNat_cond, h]; split <;> omega
theorem own_and_rng (x : Int32) {m : Nat} (k : Nat) (hm : m + 1 = 2 ^ k) (hk : k < 31) : 0 ≤ (x &&& Int32.ofNat m).toInt ∧ (x &&& Int32.ofNat m).toInt ≤ m := by
  have h := own_natOf (x := x) k hm hk
  have h2 : x.toBitVec.toNat % (m + 1) < m + 1 := Nat.mod_lt _ (by omega)
  have : 2 ^ k < 2 ^ 31 := Nat.pow_lt_pow_right (by decide) hk
  have h3 := own_toInt h (by omega)
  rw [h3]; omega
theorem own_byInt {y : Int32} {n : Int} (h : y.toInt = n) {z : Int32} (hz : z.toInt = n) : y = z := Int32.toInt_inj.mp (h.trans hz.symm)
theorem own_nar {z : Int32} (h : ¬ z < 0 ∧ ¬ (255 : Int32) < z) : nar .char z = z := by
  have e : z &&& 255 = z := by
    have h1 := h.1; have h2 := h.2
    rw [Int32.lt_iff_toInt_lt] at h1 h2
    have e0 : (0 : Int32).toInt = 0 := rfl
    have e255 : (255 : Int32).toInt = 255 := rfl
    have hz : z.toBitVec.toInt = z.toInt := rfl
    rw [BitVec.toInt_eq_toNat_cond] at hz
    have hlt := z.toBitVec.isLt
    apply Int32.toBitVec_inj.mp
    apply BitVec.eq_of_toNat_eq
    have := own_natOf (x := z) (m := 255) 8 rfl (by decide)
    rw [show (z &&& 255).toBitVec.toNat = z.toBitVec.toNat % 256 from this]
    split at hz <;> omega
  have q := i2c_mask z
  rw [e] at q
  exact q
theorem own_and255 (x : Int32) : ¬ (x &&& (255 : Int32)) < 0 ∧ ¬ (255 : Int32) < (x &&& (255 : Int32)) := by
  have h := own_and_rng x (m := 255) 8 rfl (by decide)
  have h1 : 0 ≤ (x &&& (255 : Int32)).toInt := h.1
  have h2 : (x &&& (255 : Int32)).toInt ≤ 255 := h.2
  rw [Int32.lt_iff_toInt_lt, Int32.lt_iff_toInt_lt]
  have e0 : (0 : Int32).toInt = 0 := rfl
  have e2 : (255 : Int32).toInt = 255 := rfl
  omega
theorem own_cod {cs : List Int32} {N : Int32} (hN : N = Int32.ofNat cs.length) (hp : ∀ c ∈ cs, ¬ c < 0 ∧ ¬ (255 : Int32) < c) : StrChars.Road.CodA cs 0 N ((cs.map fun c => c.toInt8.toInt32).map Value.int) := hN ▸ StrChars.Road.codOf rfl fun c hc => (hp c hc).2
theorem own_up {cs : List Int32} (hp : ∀ c ∈ cs, ¬ c < 0 ∧ ¬ (255 : Int32) < c) : ∀ c ∈ cs, ¬ c < 0 ∧ ¬ (65535 : Int32) < c := fun c hc => ⟨(hp c hc).1, fun q => (hp c hc).2 (Int32.lt_trans (by decide) q)⟩
theorem own_oI {k : Nat} (h : k < 2 ^ 31) : (Int32.ofNat k).toInt = k := len_toInt h
theorem own_clamp {k : Nat} (h : k < 2 ^ 31) : (Int32.ofNat k).toNatClampNeg = k := by rw [Int32.toNatClampNeg, own_oI h]; exact Int.toNat_natCast k
theorem own_rng {w : Int32} (h1 : 0 ≤ w.toInt) (h2 : w.toInt ≤ 255) : ¬ w < 0 ∧ ¬ (255 : Int32) < w := by
  rw [Int32.lt_iff_toInt_lt, Int32.lt_iff_toInt_lt]
  have e0 : (0 : Int32).toInt = 0 := rfl
  have e2 : (255 : Int32).toInt = 255 := rfl
  omega
theorem own_chw {p : Int32} (hp : ¬ p < 0) : 33 ≤ ((33 : Int32) + (p % (94 : Int32))).toInt ∧ ((33 : Int32) + (p % (94 : Int32))).toInt ≤ 126 := by
  rw [Int32.lt_iff_toInt_lt] at hp
  have e0 : (0 : Int32).toInt = 0 := rfl
  have q := (c_irem p (94 : Int32) 94 rfl).1 (by omega)
  have r := c_iadd (33 : Int32) (p % (94 : Int32))
  have e33 : (33 : Int32).toInt = 33 := rfl
  have l1 := Int32.toInt_lt ((33 : Int32) + (p % (94 : Int32)))
  have l2 := Int32.le_toInt ((33 : Int32) + (p % (94 : Int32)))
  omega
theorem own_chb {p : Int32} (hp : ¬ p < 0) (h64 : ¬ ((33 : Int32) + (p % (94 : Int32))) = (64 : Int32)) : (¬ nar .char (((33 : Int32) + (p % (94 : Int32))).toUInt32.toUInt16.toUInt32.toInt32) < 0 ∧ ¬ (255 : Int32) < nar .char (((33 : Int32) + (p % (94 : Int32))).toUInt32.toUInt16.toUInt32.toInt32)) ∧ ¬ nar .char (((33 : Int32) + (p % (94 : Int32))).toUInt32.toUInt16.toUInt32.toInt32) = (64 : Int32) := by
  have h := own_chw hp
  have hb := own_rng (w := (33 : Int32) + (p % (94 : Int32))) (by omega) (by omega)
  have e := own_nar hb
  rw [show (((33 : Int32) + (p % (94 : Int32))).toUInt32.toUInt16.toUInt32.toInt32) = (33 : Int32) + (p % (94 : Int32)) from e, e]
  exact ⟨hb, h64⟩
section Ix
variable {j n : Nat} {cs : List Int32}
theorem own_jlt {len : Nat} (h : j < len) (l2 : len ≤ 8) : Int32.ofNat j < Int32.ofNat len := by
  rw [Int32.lt_iff_toInt_lt, own_oI (by omega), own_oI (by omega)]; omega
theorem own_nn (h : j < 2 ^ 31) : ¬ Int32.ofNat j < 0 := by
  rw [Int32.lt_iff_toInt_lt, own_oI h]; show ¬ ((j : Int) < 0); omega
theorem own_jin (h : j < cs.length) (l2 : cs.length ≤ 8) : ¬ Int32.ofNat j < 0 ∧ Int32.ofNat j < Int32.ofNat cs.length := ⟨own_nn (by omega), own_jlt h l2⟩
theorem own_jv (h : j < cs.length) (l2 : cs.length ≤ 8) : ((cs.map fun c => c.toInt8.toInt32).map Value.int).getD (Int32.ofNat j).toNatClampNeg (.int 0) = .int (cs.getD j 0).toInt8.toInt32 := by
  rw [own_clamp (by omega)]
  simp [List.getD, List.getElem?_eq_getElem h]
theorem own_jne (h : j < cs.length) (hp : ∀ c ∈ cs, ¬ c < 0 ∧ ¬ (255 : Int32) < c) (hno : ¬ cs.getD j 0 = (64 : Int32)) : ¬ (cs.getD j 0).toInt8.toInt32 = (64 : Int32) := fun q => hno (by
  have hm : cs.getD j 0 ∈ cs := by simp [List.getD, List.getElem?_eq_getElem h]
  have : (cs.getD j 0).toInt8.toInt32 &&& 255 = cs.getD j 0 := StrChars.lo8_mask (hp _ hm).1 (hp _ hm).2
  rw [q] at this
  exact this.symm)
theorem own_succ : Int32.ofNat j + (1 : Int32) = Int32.ofNat (j + 1) := (Int32.ofNat_add j 1).symm
theorem own_nlt {len : Nat} (h : n < len) (l2 : len ≤ 8) : ¬ Int32.ofNat len < Int32.ofNat n := by
  rw [Int32.lt_iff_toInt_lt, own_oI (by omega), own_oI (by omega)]; omega
theorem own_sub {len : Nat} (h : n < len) (l2 : len ≤ 8) : Int32.ofNat len - Int32.ofNat n = Int32.ofNat (len - n) := by
  have e : Int32.ofNat len = Int32.ofNat (len - n) + Int32.ofNat n := by rw [← Int32.ofNat_add]; congr 1; omega
  rw [e, Int32.add_sub_cancel]
theorem own_add {len : Nat} (h : n < len) (l2 : len ≤ 8) : Int32.ofNat n + Int32.ofNat (len - n) = Int32.ofNat len := by
  rw [← Int32.ofNat_add]; congr 1; omega
theorem own_cap (h : j ≤ 8) : (Int32.ofNat j).toNatClampNeg ≤ 8 := by rw [own_clamp (by omega)]; exact h
theorem own_ne0 (h0 : 0 < j) (h : j < 2 ^ 31) : ¬ Int32.ofNat j = (0 : Int32) := fun q => by
  have := congrArg Int32.toInt q
  rw [own_oI h] at this
  have e0 : (0 : Int32).toInt = 0 := rfl
  omega
theorem own_nz {len : Nat} (h0 : 0 < n) (h : n < len) (l2 : len ≤ 8) : ¬ Int32.ofNat n = (0 : Int32) := own_ne0 h0 (by omega)
theorem own_sz {len : Nat} (h : n < len) (l2 : len ≤ 8) : ¬ Int32.ofNat (len - n) = (0 : Int32) := own_ne0 (by omega) (by omega)
theorem own_us (h : n < cs.length) : ((List.range (cs.length - n)).map fun i => ((cs.map fun c => c.toInt8.toInt32).map Value.int).getD (n + i) (.int 0)) = ((cs.drop n).map fun c => c.toInt8.toInt32).map Value.int := by
  apply List.ext_getElem
  · simp
  · intro i h1 h2
    simp at h1 h2
    simp [List.getD, List.getElem?_eq_getElem (show n + i < cs.length by omega)]
end Ix
theorem own_cp {p : Program} {l : Launch} {e : Env} {R : Room} {s : State} {m : MethodId} {args : Array Value} {below : List Frame} {meth : Method} {c : Code} {T : State} {locs : List Loc} {cells slots : Nat} {Z : State} {a0 : Array Value} {h : Heap} {own : String} {index : Nat} {t b : Addr} {k k' : ClassId} {cs : List Int32} {n n0 : Nat} {g : JFrame} {rest : List Value}
    (X : Stand p l e R s m args below meth c T locs cells slots) (hx : p.tables.exec = Jvm.exec) (hZ : Z.Warmed39 s.vm) (hown : s.vm.findClass own = some m.cls) (w1 : (Cond.methodLink own index Jvm.Stand.acN).before a0 Z = true) (w2 : (Cond.native Jvm.Stand.acN).before a0 Z = true) (w3 : (Cond.static Jvm.Stand.acN).before a0 Z = true) (w4 : (Cond.initialized "java/lang/System").before a0 Z = true) (eT : T.heap = h)
    (A : Arv Z h t k .byte (Int32.ofNat cs.length) ((cs.map fun c => c.toInt8.toInt32).map Value.int) (.int 0)) (B : Arv Z h b k' .byte (Int32.ofNat (cs.length - n)) ([] ++ List.replicate (cs.length - n) (.int (0 : Int32))) (.int 0)) (hn : n < cs.length) (l2 : cs.length ≤ 8) (N : Fr n0 locs) (ge : n0 ≤ b)
    (hg : g.method = m) (hsize : g.locals.size = c.maxLocals) (hs : g.stack = .int (Int32.ofNat (cs.length - n)) :: .int (0 : Int32) :: .ref b :: .int (Int32.ofNat n) :: .ref t :: rest) (hd : decode c.code g.pc = .ok (.invokestatic index, 3)) (hf : 1 ≤ R.frames) {W : Nat} (hW : 2 * g.monitorRoom + (rest.map fun v => v.category).sum ≤ W) (hlo : W + (nativeFrameWords "java/lang/System" "arraycopy" 5 + 11) ≤ R.locals) :
    ∃ (T' : State) (h' : Heap) (L' : List Loc), Stand p l e R s m args below meth c T' L' cells slots ∧ T'.heap = h' ∧ Fr n0 L' ∧ Keep h h' [b] ∧ Arv Z h' b k' .byte (Int32.ofNat (cs.length - n)) (((cs.drop n).map fun c => c.toInt8.toInt32).map Value.int) (.int 0) ∧ ∀ t, Steps p.tables e below (T'.setTop { g with pc := g.pc + 3, stack := rest }) t → Steps p.tables e below (T.setTop g) t := by
  have e1 := own_clamp (k := cs.length - n) (by omega)
  have e2 := own_clamp (k := n) (by omega)
  have e3 := own_clamp (k := cs.length) (by omega)
  have e0 : (0 : Int32).toNatClampNeg = 0 := rfl
  obtain ⟨T', h', L', X', e', N', K', V', st⟩ := cpA X hx hZ hown w1 w2 w3 w4 eT A B (Or.inl ⟨rfl, rfl⟩) (own_nn (by omega)) (by decide) (own_nn (by omega)) (by rw [e1, e2, e3]; omega) (by rw [e0, e1]; omega) rfl (by rw [e0, e1]; simp) N ge hg hsize hs hd hf hW hlo
  refine ⟨T', h', L', X', e', N', K', ?_, st⟩
  rw [e0, e1, e2, own_us hn] at V'
  simpa using V'
theorem own_and_nn (x : Int32) : ¬ (x &&& (65535 : Int32)) < 0 := by
  have h := own_and_rng x (m := 65535) 16 rfl (by decide)
  rw [Int32.lt_iff_toInt_lt]
  have e0 : (0 : Int32).toInt = 0 := rfl
  exact fun q => by rw [e0] at q; exact absurd h.1 (Int.not_le.mpr q)
theorem own_ushr {x : Int32} (k : UInt32) (h0 : 0 < k.toNat) (h : k.toNat < 32) : 0 ≤ ((x.toUInt32 >>> k).toInt32).toInt := by
  have e : ((x.toUInt32 >>> k).toInt32).toBitVec.toNat < 2 ^ 31 := by
    show (x.toUInt32 >>> k).toNat < 2 ^ 31
    rw [UInt32.toNat_shiftRight, Nat.mod_eq_of_lt h, Nat.shiftRight_eq_div_pow]
    have := x.toUInt32.toNat_lt
    have h2 : 2 ^ 1 ≤ 2 ^ k.toNat := Nat.pow_le_pow_right (by decide) h0
    exact Nat.div_lt_of_lt_mul (by omega)
  rw [own_toInt (y := (x.toUInt32 >>> k).toInt32) rfl e]; omega
theorem own_ushr_nn (x : Int32) : ¬ ((x.toUInt32 >>> ((16 : Int32) &&& 31).toUInt32).toInt32) < 0 := by
  have h := own_ushr (x := x) ((16 : Int32) &&& 31).toUInt32 (by decide) (by decide)
  rw [Int32.lt_iff_toInt_lt]
  have e0 : (0 : Int32).toInt = 0 := rfl
  omega
theorem own_and3 (x : Int32) : x &&& (3 : Int32) = (0 : Int32) ∨ x &&& (3 : Int32) = (1 : Int32) ∨ x &&& (3 : Int32) = (2 : Int32) ∨ x &&& (3 : Int32) = (3 : Int32) := by
  have h := own_and_rng x (m := 3) 2 rfl (by decide)
  have b : (x &&& (3 : Int32)).toInt = 0 ∨ (x &&& (3 : Int32)).toInt = 1 ∨ (x &&& (3 : Int32)).toInt = 2 ∨ (x &&& (3 : Int32)).toInt = 3 := by
    have h1 : 0 ≤ (x &&& (3 : Int32)).toInt := h.1
    have h2 : (x &&& (3 : Int32)).toInt ≤ 3 := h.2
    omega
  rcases b with b | b | b | b
  · exact Or.inl (own_byInt b rfl)
  · exact Or.inr (Or.inl (own_byInt b rfl))
  · exact Or.inr (Or.inr (Or.inl (own_byInt b rfl)))
  · exact Or.inr (Or.inr (Or.inr (own_byInt b rfl)))
theorem own_nm2 (x : Int32) : ¬ (((3 : Int32) + (x &&& (3 : Int32))) - (2 : Int32)) = (0 : Int32) := by
  rcases own_and3 x with h | h | h | h <;> rw [h] <;> decide
theorem own_rem {y : Int32} (h : 0 ≤ y.toInt) (K : Int32) (d : Int) (hd : K.toInt = d) (h0 : 0 < d) : ∃ r : Int, 0 ≤ r ∧ r < d ∧ (y % K).toInt = r := by
  have q := (c_irem y K d hd).1 h
  exact ⟨_, Int.emod_nonneg _ (by omega), Int.emod_lt_of_pos _ h0, q⟩
theorem own_cases (x : Int32) : let n := (3 : Int32) + (x &&& (3 : Int32)); let a := (1 : Int32) + (((x.toUInt32 >>> ((2 : Int32) &&& 31).toUInt32).toInt32) % (((3 : Int32) + (x &&& (3 : Int32))) - (2 : Int32)))
    (n = (3 : Int32) ∧ a = (1 : Int32)) ∨ (n = (4 : Int32) ∧ a = (1 : Int32)) ∨ (n = (4 : Int32) ∧ a = (2 : Int32)) ∨ (n = (5 : Int32) ∧ a = (1 : Int32)) ∨ (n = (5 : Int32) ∧ a = (2 : Int32)) ∨ (n = (5 : Int32) ∧ a = (3 : Int32)) ∨ (n = (6 : Int32) ∧ a = (1 : Int32)) ∨ (n = (6 : Int32) ∧ a = (2 : Int32)) ∨ (n = (6 : Int32) ∧ a = (3 : Int32)) ∨ (n = (6 : Int32) ∧ a = (4 : Int32)) := by
  have hu := own_ushr (x := x) ((2 : Int32) &&& 31).toUInt32 (by decide) (by decide)
  generalize ((x.toUInt32 >>> ((2 : Int32) &&& 31).toUInt32).toInt32) = y at hu
  have one : ∀ {z : Int32} {r : Int}, z.toInt = r → ∀ w : Int32, w.toInt = r → (1 : Int32) + z = (1 : Int32) + w := fun h w hw => by rw [own_byInt h hw]
  rcases own_and3 x with h | h | h | h <;> simp only [h]
  · obtain ⟨r, r1, r2, r3⟩ := own_rem hu (1 : Int32) 1 rfl (by decide)
    have : r = 0 := by omega
    subst this
    exact Or.inl ⟨rfl, one r3 (0 : Int32) rfl⟩
  · obtain ⟨r, r1, r2, r3⟩ := own_rem hu (2 : Int32) 2 rfl (by decide)
    have : r = 0 ∨ r = 1 := by omega
    rcases this with rfl | rfl
    · exact Or.inr (Or.inl ⟨rfl, one r3 (0 : Int32) rfl⟩)
    · exact Or.inr (Or.inr (Or.inl ⟨rfl, one r3 (1 : Int32) rfl⟩))
  · obtain ⟨r, r1, r2, r3⟩ := own_rem hu (3 : Int32) 3 rfl (by decide)
    have : r = 0 ∨ r = 1 ∨ r = 2 := by omega
    rcases this with rfl | rfl | rfl
    · exact Or.inr (Or.inr (Or.inr (Or.inl ⟨rfl, one r3 (0 : Int32) rfl⟩)))
    · exact Or.inr (Or.inr (Or.inr (Or.inr (Or.inl ⟨rfl, one r3 (1 : Int32) rfl⟩))))
    · exact Or.inr (Or.inr (Or.inr (Or.inr (Or.inr (Or.inl ⟨rfl, one r3 (2 : Int32) rfl⟩)))))
  · obtain ⟨r, r1, r2, r3⟩ := own_rem hu (4 : Int32) 4 rfl (by decide)
    have : r = 0 ∨ r = 1 ∨ r = 2 ∨ r = 3 := by omega
    rcases this with rfl | rfl | rfl | rfl
    · exact Or.inr (Or.inr (Or.inr (Or.inr (Or.inr (Or.inr (Or.inl ⟨rfl, one r3 (0 : Int32) rfl⟩))))))
    · exact Or.inr (Or.inr (Or.inr (Or.inr (Or.inr (Or.inr (Or.inr (Or.inl ⟨rfl, one r3 (1 : Int32) rfl⟩)))))))
    · exact Or.inr (Or.inr (Or.inr (Or.inr (Or.inr (Or.inr (Or.inr (Or.inr (Or.inl ⟨rfl, one r3 (2 : Int32) rfl⟩))))))))
    · exact Or.inr (Or.inr (Or.inr (Or.inr (Or.inr (Or.inr (Or.inr (Or.inr (Or.inr ⟨rfl, one r3 (3 : Int32) rfl⟩))))))))
theorem own_lt1 {a : Int32} {L : List Int32} (h : ¬ a = (64 : Int32)) : ∀ j, j < 1 → ¬ (a :: L).getD j 0 = (64 : Int32)
  | 0, _ => h
  | j + 1, q => absurd q (by omega)
theorem own_lt2 {a b : Int32} {L : List Int32} (h : ¬ a = (64 : Int32)) (h2 : ¬ b = (64 : Int32)) : ∀ j, j < 2 → ¬ (a :: b :: L).getD j 0 = (64 : Int32)
  | 0, _ => h
  | 1, _ => h2
  | j + 2, q => absurd q (by omega)
theorem own_lt3 {a b c : Int32} {L : List Int32} (h : ¬ a = (64 : Int32)) (h2 : ¬ b = (64 : Int32)) (h3 : ¬ c = (64 : Int32)) : ∀ j, j < 3 → ¬ (a :: b :: c :: L).getD j 0 = (64 : Int32)
  | 0, _ => h
  | 1, _ => h2
  | 2, _ => h3
  | j + 3, q => absurd q (by omega)
theorem own_lt4 {a b c d : Int32} {L : List Int32} (h : ¬ a = (64 : Int32)) (h2 : ¬ b = (64 : Int32)) (h3 : ¬ c = (64 : Int32)) (h4 : ¬ d = (64 : Int32)) : ∀ j, j < 4 → ¬ (a :: b :: c :: d :: L).getD j 0 = (64 : Int32)
  | 0, _ => h
  | 1, _ => h2
  | 2, _ => h3
  | 3, _ => h4
  | j + 4, q => absurd q (by omega)
theorem d_m_2_0 : decode method_2_code 0 = .ok (.bipush 33, 2) := by decide +kernel
theorem d_m_2_2 : decode method_2_code 2 = .ok (.iload_n 0, 1) := by decide +kernel
theorem d_m_2_3 : decode method_2_code 3 = .ok (.bipush 94, 2) := by decide +kernel
theorem d_m_2_5 : decode method_2_code 5 = .ok (.irem, 1) := by decide +kernel
theorem d_m_2_6 : decode method_2_code 6 = .ok (.iadd, 1) := by decide +kernel
theorem d_m_2_7 : decode method_2_code 7 = .ok (.istore_n 1, 1) := by decide +kernel
theorem d_m_2_8 : decode method_2_code 8 = .ok (.iload_n 1, 1) := by decide +kernel
theorem d_m_2_9 : decode method_2_code 9 = .ok (.bipush 64, 2) := by decide +kernel
theorem d_m_2_11 : decode method_2_code 11 = .ok (.if_icmp .eq 69, 3) := by decide +kernel
theorem d_m_2_80 : decode method_2_code 80 = .ok (.bipush 97, 2) := by decide +kernel
theorem d_m_2_82 : decode method_2_code 82 = .ok (.ireturn, 1) := by decide +kernel
theorem d_m_2_14 : decode method_2_code 14 = .ok (.iload_n 1, 1) := by decide +kernel
theorem d_m_2_15 : decode method_2_code 15 = .ok (.bipush 34, 2) := by decide +kernel
theorem d_m_2_17 : decode method_2_code 17 = .ok (.if_icmp .eq 63, 3) := by decide +kernel
theorem d_m_2_20 : decode method_2_code 20 = .ok (.iload_n 1, 1) := by decide +kernel
theorem d_m_2_21 : decode method_2_code 21 = .ok (.bipush 40, 2) := by decide +kernel
theorem d_m_2_23 : decode method_2_code 23 = .ok (.if_icmp .eq 57, 3) := by decide +kernel
theorem d_m_2_26 : decode method_2_code 26 = .ok (.iload_n 1, 1) := by decide +kernel
theorem d_m_2_27 : decode method_2_code 27 = .ok (.bipush 41, 2) := by decide +kernel
theorem d_m_2_29 : decode method_2_code 29 = .ok (.if_icmp .eq 51, 3) := by decide +kernel
theorem d_m_2_32 : decode method_2_code 32 = .ok (.iload_n 1, 1) := by decide +kernel
theorem d_m_2_33 : decode method_2_code 33 = .ok (.bipush 44, 2) := by decide +kernel
theorem d_m_2_35 : decode method_2_code 35 = .ok (.if_icmp .eq 45, 3) := by decide +kernel
theorem d_m_2_38 : decode method_2_code 38 = .ok (.iload_n 1, 1) := by decide +kernel
theorem d_m_2_39 : decode method_2_code 39 = .ok (.bipush 58, 2) := by decide +kernel
theorem d_m_2_41 : decode method_2_code 41 = .ok (.if_icmp .eq 39, 3) := by decide +kernel
theorem d_m_2_44 : decode method_2_code 44 = .ok (.iload_n 1, 1) := by decide +kernel
theorem d_m_2_45 : decode method_2_code 45 = .ok (.bipush 59, 2) := by decide +kernel
theorem d_m_2_47 : decode method_2_code 47 = .ok (.if_icmp .eq 33, 3) := by decide +kernel
theorem d_m_2_50 : decode method_2_code 50 = .ok (.iload_n 1, 1) := by decide +kernel
theorem d_m_2_51 : decode method_2_code 51 = .ok (.bipush 60, 2) := by decide +kernel
theorem d_m_2_53 : decode method_2_code 53 = .ok (.if_icmp .eq 27, 3) := by decide +kernel
theorem d_m_2_56 : decode method_2_code 56 = .ok (.iload_n 1, 1) := by decide +kernel
theorem d_m_2_57 : decode method_2_code 57 = .ok (.bipush 62, 2) := by decide +kernel
theorem d_m_2_59 : decode method_2_code 59 = .ok (.if_icmp .eq 21, 3) := by decide +kernel
theorem d_m_2_62 : decode method_2_code 62 = .ok (.iload_n 1, 1) := by decide +kernel
theorem d_m_2_63 : decode method_2_code 63 = .ok (.bipush 91, 2) := by decide +kernel
theorem d_m_2_65 : decode method_2_code 65 = .ok (.if_icmp .eq 15, 3) := by decide +kernel
theorem d_m_2_68 : decode method_2_code 68 = .ok (.iload_n 1, 1) := by decide +kernel
theorem d_m_2_69 : decode method_2_code 69 = .ok (.bipush 92, 2) := by decide +kernel
theorem d_m_2_71 : decode method_2_code 71 = .ok (.if_icmp .eq 9, 3) := by decide +kernel
theorem d_m_2_74 : decode method_2_code 74 = .ok (.iload_n 1, 1) := by decide +kernel
theorem d_m_2_75 : decode method_2_code 75 = .ok (.bipush 93, 2) := by decide +kernel
theorem d_m_2_77 : decode method_2_code 77 = .ok (.if_icmp .ne 6, 3) := by decide +kernel
theorem d_m_2_83 : decode method_2_code 83 = .ok (.iload_n 1, 1) := by decide +kernel
theorem d_m_2_84 : decode method_2_code 84 = .ok (.i2c, 1) := by decide +kernel
theorem d_m_2_85 : decode method_2_code 85 = .ok (.ireturn, 1) := by decide +kernel
theorem d_jdk_29_m_65_0 : decode jdk_29_method_65_code 0 = .ok (.iload_n 0, 1) := by decide +kernel
theorem d_jdk_29_m_65_1 : decode jdk_29_method_65_code 1 = .ok (.iload_n 1, 1) := by decide +kernel
theorem d_jdk_29_m_65_2 : decode jdk_29_method_65_code 2 = .ok (.if_icmp .lt 7, 3) := by decide +kernel
theorem d_jdk_29_m_65_5 : decode jdk_29_method_65_code 5 = .ok (.iload_n 0, 1) := by decide +kernel
theorem d_jdk_29_m_65_6 : decode jdk_29_method_65_code 6 = .ok (.goto 4, 3) := by decide +kernel
theorem d_jdk_29_m_65_10 : decode jdk_29_method_65_code 10 = .ok (.ireturn, 1) := by decide +kernel
theorem d_jdk_29_m_69_0 : decode jdk_29_method_69_code 0 = .ok (.iload_n 0, 1) := by decide +kernel
theorem d_jdk_29_m_69_1 : decode jdk_29_method_69_code 1 = .ok (.iload_n 1, 1) := by decide +kernel
theorem d_jdk_29_m_69_2 : decode jdk_29_method_69_code 2 = .ok (.if_icmp .gt 7, 3) := by decide +kernel
theorem d_jdk_29_m_69_5 : decode jdk_29_method_69_code 5 = .ok (.iload_n 0, 1) := by decide +kernel
theorem d_jdk_29_m_69_6 : decode jdk_29_method_69_code 6 = .ok (.goto 4, 3) := by decide +kernel
theorem d_jdk_29_m_69_10 : decode jdk_29_method_69_code 10 = .ok (.ireturn, 1) := by decide +kernel
theorem d_jdk_43_m_4_0 : decode jdk_43_method_4_code 0 = .ok (.iload_n 0, 1) := by decide +kernel
theorem d_jdk_43_m_4_1 : decode jdk_43_method_4_code 1 = .ok (.ifCond .lt 14, 3) := by decide +kernel
theorem d_jdk_43_m_4_4 : decode jdk_43_method_4_code 4 = .ok (.iload_n 0, 1) := by decide +kernel
theorem d_jdk_43_m_4_5 : decode jdk_43_method_4_code 5 = .ok (.sipush 255, 3) := by decide +kernel
theorem d_jdk_43_m_4_8 : decode jdk_43_method_4_code 8 = .ok (.if_icmp .gt 7, 3) := by decide +kernel
theorem d_jdk_43_m_4_11 : decode jdk_43_method_4_code 11 = .ok (.iconst 1, 1) := by decide +kernel
theorem d_jdk_43_m_4_12 : decode jdk_43_method_4_code 12 = .ok (.goto 4, 3) := by decide +kernel
theorem d_jdk_43_m_4_16 : decode jdk_43_method_4_code 16 = .ok (.ireturn, 1) := by decide +kernel
theorem d_jdk_42_m_154_0 : decode jdk_42_method_154_code 0 = .ok (.getstatic 38, 3) := by decide +kernel
theorem d_jdk_42_m_154_3 : decode jdk_42_method_154_code 3 = .ok (.ifCond .eq 14, 3) := by decide +kernel
theorem d_jdk_42_m_154_6 : decode jdk_42_method_154_code 6 = .ok (.aload_n 0, 1) := by decide +kernel
theorem d_jdk_42_m_154_7 : decode jdk_42_method_154_code 7 = .ok (.getfield 15, 3) := by decide +kernel
theorem d_jdk_42_m_154_10 : decode jdk_42_method_154_code 10 = .ok (.ifCond .ne 7, 3) := by decide +kernel
theorem d_jdk_42_m_154_13 : decode jdk_42_method_154_code 13 = .ok (.iconst 1, 1) := by decide +kernel
theorem d_jdk_42_m_154_14 : decode jdk_42_method_154_code 14 = .ok (.goto 4, 3) := by decide +kernel
theorem d_jdk_42_m_154_18 : decode jdk_42_method_154_code 18 = .ok (.ireturn, 1) := by decide +kernel
theorem d_jdk_43_m_23_0 : decode jdk_43_method_23_code 0 = .ok (.iload_n 1, 1) := by decide +kernel
theorem d_jdk_43_m_23_1 : decode jdk_43_method_23_code 1 = .ok (.i2b, 1) := by decide +kernel
theorem d_jdk_43_m_23_2 : decode jdk_43_method_23_code 2 = .ok (.istore 4, 2) := by decide +kernel
theorem d_jdk_43_m_23_4 : decode jdk_43_method_23_code 4 = .ok (.iload_n 2, 1) := by decide +kernel
theorem d_jdk_43_m_23_5 : decode jdk_43_method_23_code 5 = .ok (.istore 5, 2) := by decide +kernel
theorem d_jdk_43_m_23_7 : decode jdk_43_method_23_code 7 = .ok (.iload 5, 2) := by decide +kernel
theorem d_jdk_43_m_23_9 : decode jdk_43_method_23_code 9 = .ok (.iload_n 3, 1) := by decide +kernel
theorem d_jdk_43_m_23_10 : decode jdk_43_method_23_code 10 = .ok (.if_icmp .ge 21, 3) := by decide +kernel
theorem d_jdk_43_m_23_13 : decode jdk_43_method_23_code 13 = .ok (.aload_n 0, 1) := by decide +kernel
theorem d_jdk_43_m_23_14 : decode jdk_43_method_23_code 14 = .ok (.iload 5, 2) := by decide +kernel
theorem d_jdk_43_m_23_16 : decode jdk_43_method_23_code 16 = .ok (.baload, 1) := by decide +kernel
theorem d_jdk_43_m_23_17 : decode jdk_43_method_23_code 17 = .ok (.iload 4, 2) := by decide +kernel
theorem d_jdk_43_m_23_19 : decode jdk_43_method_23_code 19 = .ok (.if_icmp .ne 6, 3) := by decide +kernel
theorem d_jdk_43_m_23_22 : decode jdk_43_method_23_code 22 = .ok (.iload 5, 2) := by decide +kernel
theorem d_jdk_43_m_23_24 : decode jdk_43_method_23_code 24 = .ok (.ireturn, 1) := by decide +kernel
theorem d_jdk_43_m_23_25 : decode jdk_43_method_23_code 25 = .ok (.iinc 5 1, 3) := by decide +kernel
theorem d_jdk_43_m_23_28 : decode jdk_43_method_23_code 28 = .ok (.goto (-21), 3) := by decide +kernel
theorem d_jdk_43_m_22_0 : decode jdk_43_method_22_code 0 = .ok (.iload_n 1, 1) := by decide +kernel
theorem d_jdk_43_m_22_1 : decode jdk_43_method_22_code 1 = .ok (.invokestatic 88, 3) := by decide +kernel
theorem pd_0 : parseMethodDescriptor "(I)Z" = some ⟨[.int], some .boolean⟩ := by decide +kernel
theorem d_jdk_43_m_22_4 : decode jdk_43_method_22_code 4 = .ok (.ifCond .ne 5, 3) := by decide +kernel
theorem d_jdk_43_m_22_9 : decode jdk_43_method_22_code 9 = .ok (.iload_n 2, 1) := by decide +kernel
theorem d_jdk_43_m_22_10 : decode jdk_43_method_22_code 10 = .ok (.iconst 0, 1) := by decide +kernel
theorem d_jdk_43_m_22_11 : decode jdk_43_method_22_code 11 = .ok (.invokestatic 92, 3) := by decide +kernel
theorem pd_1 : parseMethodDescriptor "(II)I" = some ⟨[.int, .int], some .int⟩ := by decide +kernel
theorem d_jdk_43_m_22_14 : decode jdk_43_method_22_code 14 = .ok (.istore_n 2, 1) := by decide +kernel
theorem d_jdk_43_m_22_15 : decode jdk_43_method_22_code 15 = .ok (.iload_n 3, 1) := by decide +kernel
theorem d_jdk_43_m_22_16 : decode jdk_43_method_22_code 16 = .ok (.aload_n 0, 1) := by decide +kernel
theorem d_jdk_43_m_22_17 : decode jdk_43_method_22_code 17 = .ok (.arraylength, 1) := by decide +kernel
theorem d_jdk_43_m_22_18 : decode jdk_43_method_22_code 18 = .ok (.invokestatic 38, 3) := by decide +kernel
theorem d_jdk_43_m_22_21 : decode jdk_43_method_22_code 21 = .ok (.istore_n 3, 1) := by decide +kernel
theorem d_jdk_43_m_22_22 : decode jdk_43_method_22_code 22 = .ok (.iload_n 2, 1) := by decide +kernel
theorem d_jdk_43_m_22_23 : decode jdk_43_method_22_code 23 = .ok (.iload_n 3, 1) := by decide +kernel
theorem d_jdk_43_m_22_24 : decode jdk_43_method_22_code 24 = .ok (.if_icmp .lt 5, 3) := by decide +kernel
theorem d_jdk_43_m_22_29 : decode jdk_43_method_22_code 29 = .ok (.aload_n 0, 1) := by decide +kernel
theorem d_jdk_43_m_22_30 : decode jdk_43_method_22_code 30 = .ok (.iload_n 1, 1) := by decide +kernel
theorem d_jdk_43_m_22_31 : decode jdk_43_method_22_code 31 = .ok (.iload_n 2, 1) := by decide +kernel
theorem d_jdk_43_m_22_32 : decode jdk_43_method_22_code 32 = .ok (.iload_n 3, 1) := by decide +kernel
theorem d_jdk_43_m_22_33 : decode jdk_43_method_22_code 33 = .ok (.invokestatic 95, 3) := by decide +kernel
theorem pd_2 : parseMethodDescriptor "([BIII)I" = some ⟨[(.array .byte), .int, .int, .int], some .int⟩ := by decide +kernel
theorem d_jdk_43_m_22_36 : decode jdk_43_method_22_code 36 = .ok (.ireturn, 1) := by decide +kernel
theorem d_jdk_42_m_80_0 : decode jdk_42_method_80_code 0 = .ok (.aload_n 0, 1) := by decide +kernel
theorem d_jdk_42_m_80_1 : decode jdk_42_method_80_code 1 = .ok (.invokevirtual 492, 3) := by decide +kernel
theorem pd_3 : parseMethodDescriptor "()Z" = some ⟨[], some .boolean⟩ := by decide +kernel
theorem d_jdk_42_m_80_4 : decode jdk_42_method_80_code 4 = .ok (.ifCond .eq 19, 3) := by decide +kernel
theorem d_jdk_42_m_80_7 : decode jdk_42_method_80_code 7 = .ok (.aload_n 0, 1) := by decide +kernel
theorem d_jdk_42_m_80_8 : decode jdk_42_method_80_code 8 = .ok (.getfield 9, 3) := by decide +kernel
theorem d_jdk_42_m_80_11 : decode jdk_42_method_80_code 11 = .ok (.iload_n 1, 1) := by decide +kernel
theorem d_jdk_42_m_80_12 : decode jdk_42_method_80_code 12 = .ok (.iload_n 2, 1) := by decide +kernel
theorem d_jdk_42_m_80_13 : decode jdk_42_method_80_code 13 = .ok (.aload_n 0, 1) := by decide +kernel
theorem d_jdk_42_m_80_14 : decode jdk_42_method_80_code 14 = .ok (.invokevirtual 505, 3) := by decide +kernel
theorem pd_4 : parseMethodDescriptor "()I" = some ⟨[], some .int⟩ := by decide +kernel
theorem d_jdk_42_m_80_17 : decode jdk_42_method_80_code 17 = .ok (.invokestatic 637, 3) := by decide +kernel
theorem d_jdk_42_m_80_20 : decode jdk_42_method_80_code 20 = .ok (.goto 16, 3) := by decide +kernel
theorem d_jdk_42_m_80_36 : decode jdk_42_method_80_code 36 = .ok (.ireturn, 1) := by decide +kernel
theorem d_jdk_42_m_79_0 : decode jdk_42_method_79_code 0 = .ok (.aload_n 0, 1) := by decide +kernel
theorem d_jdk_42_m_79_1 : decode jdk_42_method_79_code 1 = .ok (.iload_n 1, 1) := by decide +kernel
theorem d_jdk_42_m_79_2 : decode jdk_42_method_79_code 2 = .ok (.iconst 0, 1) := by decide +kernel
theorem d_jdk_42_m_79_3 : decode jdk_42_method_79_code 3 = .ok (.invokevirtual 633, 3) := by decide +kernel
theorem d_jdk_42_m_79_6 : decode jdk_42_method_79_code 6 = .ok (.ireturn, 1) := by decide +kernel
theorem d_jdk_41_m_12_0 : decode jdk_41_method_12_code 0 = .ok (.iload_n 0, 1) := by decide +kernel
theorem d_jdk_41_m_12_1 : decode jdk_41_method_12_code 1 = .ok (.ifCond .lt 13, 3) := by decide +kernel
theorem d_jdk_41_m_12_4 : decode jdk_41_method_12_code 4 = .ok (.iload_n 0, 1) := by decide +kernel
theorem d_jdk_41_m_12_5 : decode jdk_41_method_12_code 5 = .ok (.iload_n 1, 1) := by decide +kernel
theorem d_jdk_41_m_12_6 : decode jdk_41_method_12_code 6 = .ok (.if_icmp .gt 8, 3) := by decide +kernel
theorem d_jdk_41_m_12_9 : decode jdk_41_method_12_code 9 = .ok (.iload_n 1, 1) := by decide +kernel
theorem d_jdk_41_m_12_10 : decode jdk_41_method_12_code 10 = .ok (.iload_n 2, 1) := by decide +kernel
theorem d_jdk_41_m_12_11 : decode jdk_41_method_12_code 11 = .ok (.if_icmp .le 11, 3) := by decide +kernel
theorem d_jdk_41_m_12_22 : decode jdk_41_method_12_code 22 = .ok (.iload_n 0, 1) := by decide +kernel
theorem d_jdk_41_m_12_23 : decode jdk_41_method_12_code 23 = .ok (.ireturn, 1) := by decide +kernel
theorem d_jdk_42_m_158_0 : decode jdk_42_method_158_code 0 = .ok (.iload_n 0, 1) := by decide +kernel
theorem d_jdk_42_m_158_1 : decode jdk_42_method_158_code 1 = .ok (.iload_n 1, 1) := by decide +kernel
theorem d_jdk_42_m_158_2 : decode jdk_42_method_158_code 2 = .ok (.iload_n 2, 1) := by decide +kernel
theorem d_jdk_42_m_158_3 : decode jdk_42_method_158_code 3 = .ok (.getstatic 1053, 3) := by decide +kernel
theorem d_jdk_42_m_158_6 : decode jdk_42_method_158_code 6 = .ok (.invokestatic 1062, 3) := by decide +kernel
theorem pd_5 : parseMethodDescriptor "(IIILjava/util/function/BiFunction;)I" = some ⟨[.int, .int, .int, (.object "java/util/function/BiFunction")], some .int⟩ := by decide +kernel
theorem d_jdk_42_m_158_9 : decode jdk_42_method_158_code 9 = .ok (.pop, 1) := by decide +kernel
theorem d_jdk_42_m_158_10 : decode jdk_42_method_158_code 10 = .ok (.return_, 1) := by decide +kernel
theorem d_jdk_65_m_131_0 : decode jdk_65_method_131_code 0 = .ok (.iload_n 1, 1) := by decide +kernel
theorem d_jdk_65_m_131_1 : decode jdk_65_method_131_code 1 = .ok (.iload_n 0, 1) := by decide +kernel
theorem d_jdk_65_m_131_2 : decode jdk_65_method_131_code 2 = .ok (.if_icmp .ge 35, 3) := by decide +kernel
theorem d_jdk_65_m_131_37 : decode jdk_65_method_131_code 37 = .ok (.return_, 1) := by decide +kernel
theorem d_jdk_65_m_133_0 : decode jdk_65_method_133_code 0 = .ok (.iload_n 1, 1) := by decide +kernel
theorem d_jdk_65_m_133_1 : decode jdk_65_method_133_code 1 = .ok (.iload_n 2, 1) := by decide +kernel
theorem d_jdk_65_m_133_2 : decode jdk_65_method_133_code 2 = .ok (.invokestatic 343, 3) := by decide +kernel
theorem pd_6 : parseMethodDescriptor "(II)V" = some ⟨[.int, .int], none⟩ := by decide +kernel
theorem d_jdk_65_m_133_5 : decode jdk_65_method_133_code 5 = .ok (.iload_n 2, 1) := by decide +kernel
theorem d_jdk_65_m_133_6 : decode jdk_65_method_133_code 6 = .ok (.iload_n 1, 1) := by decide +kernel
theorem d_jdk_65_m_133_7 : decode jdk_65_method_133_code 7 = .ok (.isub, 1) := by decide +kernel
theorem d_jdk_65_m_133_8 : decode jdk_65_method_133_code 8 = .ok (.istore_n 3, 1) := by decide +kernel
theorem d_jdk_65_m_133_9 : decode jdk_65_method_133_code 9 = .ok (.iload_n 3, 1) := by decide +kernel
theorem d_jdk_65_m_133_10 : decode jdk_65_method_133_code 10 = .ok (.newarray .byte, 2) := by decide +kernel
theorem d_jdk_65_m_133_12 : decode jdk_65_method_133_code 12 = .ok (.astore 4, 2) := by decide +kernel
theorem d_jdk_65_m_133_14 : decode jdk_65_method_133_code 14 = .ok (.aload_n 0, 1) := by decide +kernel
theorem d_jdk_65_m_133_15 : decode jdk_65_method_133_code 15 = .ok (.iload_n 1, 1) := by decide +kernel
theorem d_jdk_65_m_133_16 : decode jdk_65_method_133_code 16 = .ok (.aload 4, 2) := by decide +kernel
theorem d_jdk_65_m_133_18 : decode jdk_65_method_133_code 18 = .ok (.iconst 0, 1) := by decide +kernel
theorem d_jdk_65_m_133_19 : decode jdk_65_method_133_code 19 = .ok (.aload_n 0, 1) := by decide +kernel
theorem d_jdk_65_m_133_20 : decode jdk_65_method_133_code 20 = .ok (.arraylength, 1) := by decide +kernel
theorem d_jdk_65_m_133_21 : decode jdk_65_method_133_code 21 = .ok (.iload_n 1, 1) := by decide +kernel
theorem d_jdk_65_m_133_22 : decode jdk_65_method_133_code 22 = .ok (.isub, 1) := by decide +kernel
theorem d_jdk_65_m_133_23 : decode jdk_65_method_133_code 23 = .ok (.iload_n 3, 1) := by decide +kernel
theorem d_jdk_65_m_133_24 : decode jdk_65_method_133_code 24 = .ok (.invokestatic 304, 3) := by decide +kernel
theorem d_jdk_65_m_133_27 : decode jdk_65_method_133_code 27 = .ok (.invokestatic 150, 3) := by decide +kernel
theorem d_jdk_65_m_133_30 : decode jdk_65_method_133_code 30 = .ok (.aload 4, 2) := by decide +kernel
theorem d_jdk_65_m_133_32 : decode jdk_65_method_133_code 32 = .ok (.areturn, 1) := by decide +kernel
theorem d_jdk_65_m_132_0 : decode jdk_65_method_132_code 0 = .ok (.iload_n 1, 1) := by decide +kernel
theorem d_jdk_65_m_132_1 : decode jdk_65_method_132_code 1 = .ok (.ifCond .ne 9, 3) := by decide +kernel
theorem d_jdk_65_m_132_10 : decode jdk_65_method_132_code 10 = .ok (.aload_n 0, 1) := by decide +kernel
theorem d_jdk_65_m_132_11 : decode jdk_65_method_132_code 11 = .ok (.iload_n 1, 1) := by decide +kernel
theorem d_jdk_65_m_132_12 : decode jdk_65_method_132_code 12 = .ok (.iload_n 2, 1) := by decide +kernel
theorem d_jdk_65_m_132_13 : decode jdk_65_method_132_code 13 = .ok (.invokestatic 339, 3) := by decide +kernel
theorem pd_7 : parseMethodDescriptor "([BII)[B" = some ⟨[(.array .byte), .int, .int], some (.array .byte)⟩ := by decide +kernel
theorem d_jdk_65_m_132_16 : decode jdk_65_method_132_code 16 = .ok (.areturn, 1) := by decide +kernel
theorem d_jdk_42_m_151_0 : decode jdk_42_method_151_code 0 = .ok (.aload_n 0, 1) := by decide +kernel
theorem d_jdk_42_m_151_1 : decode jdk_42_method_151_code 1 = .ok (.invokespecial 1, 3) := by decide +kernel
theorem d_jdk_42_m_151_4 : decode jdk_42_method_151_code 4 = .ok (.aload_n 0, 1) := by decide +kernel
theorem d_jdk_42_m_151_5 : decode jdk_42_method_151_code 5 = .ok (.aload_n 1, 1) := by decide +kernel
theorem d_jdk_42_m_151_6 : decode jdk_42_method_151_code 6 = .ok (.putfield 9, 3) := by decide +kernel
theorem d_jdk_42_m_151_9 : decode jdk_42_method_151_code 9 = .ok (.aload_n 0, 1) := by decide +kernel
theorem d_jdk_42_m_151_10 : decode jdk_42_method_151_code 10 = .ok (.iload_n 2, 1) := by decide +kernel
theorem d_jdk_42_m_151_11 : decode jdk_42_method_151_code 11 = .ok (.putfield 15, 3) := by decide +kernel
theorem d_jdk_42_m_151_14 : decode jdk_42_method_151_code 14 = .ok (.return_, 1) := by decide +kernel
theorem d_jdk_43_m_47_0 : decode jdk_43_method_47_code 0 = .ok (.iload_n 2, 1) := by decide +kernel
theorem d_jdk_43_m_47_1 : decode jdk_43_method_47_code 1 = .ok (.ifCond .ne 6, 3) := by decide +kernel
theorem d_jdk_43_m_47_7 : decode jdk_43_method_47_code 7 = .ok (.new 1, 3) := by decide +kernel
theorem d_jdk_43_m_47_10 : decode jdk_43_method_47_code 10 = .ok (.dup, 1) := by decide +kernel
theorem d_jdk_43_m_47_11 : decode jdk_43_method_47_code 11 = .ok (.aload_n 0, 1) := by decide +kernel
theorem d_jdk_43_m_47_12 : decode jdk_43_method_47_code 12 = .ok (.iload_n 1, 1) := by decide +kernel
theorem d_jdk_43_m_47_13 : decode jdk_43_method_47_code 13 = .ok (.iload_n 1, 1) := by decide +kernel
theorem d_jdk_43_m_47_14 : decode jdk_43_method_47_code 14 = .ok (.iload_n 2, 1) := by decide +kernel
theorem d_jdk_43_m_47_15 : decode jdk_43_method_47_code 15 = .ok (.iadd, 1) := by decide +kernel
theorem d_jdk_43_m_47_16 : decode jdk_43_method_47_code 16 = .ok (.invokestatic 232, 3) := by decide +kernel
theorem d_jdk_43_m_47_19 : decode jdk_43_method_47_code 19 = .ok (.iconst 0, 1) := by decide +kernel
theorem d_jdk_43_m_47_20 : decode jdk_43_method_47_code 20 = .ok (.invokespecial 112, 3) := by decide +kernel
theorem pd_8 : parseMethodDescriptor "([BB)V" = some ⟨[(.array .byte), .byte], none⟩ := by decide +kernel
theorem d_jdk_43_m_47_23 : decode jdk_43_method_47_code 23 = .ok (.areturn, 1) := by decide +kernel
theorem d_jdk_42_m_92_0 : decode jdk_42_method_92_code 0 = .ok (.aload_n 0, 1) := by decide +kernel
theorem d_jdk_42_m_92_1 : decode jdk_42_method_92_code 1 = .ok (.invokevirtual 505, 3) := by decide +kernel
theorem d_jdk_42_m_92_4 : decode jdk_42_method_92_code 4 = .ok (.istore_n 3, 1) := by decide +kernel
theorem d_jdk_42_m_92_5 : decode jdk_42_method_92_code 5 = .ok (.iload_n 1, 1) := by decide +kernel
theorem d_jdk_42_m_92_6 : decode jdk_42_method_92_code 6 = .ok (.iload_n 2, 1) := by decide +kernel
theorem d_jdk_42_m_92_7 : decode jdk_42_method_92_code 7 = .ok (.iload_n 3, 1) := by decide +kernel
theorem d_jdk_42_m_92_8 : decode jdk_42_method_92_code 8 = .ok (.invokestatic 521, 3) := by decide +kernel
theorem pd_9 : parseMethodDescriptor "(III)V" = some ⟨[.int, .int, .int], none⟩ := by decide +kernel
theorem d_jdk_42_m_92_11 : decode jdk_42_method_92_code 11 = .ok (.iload_n 1, 1) := by decide +kernel
theorem d_jdk_42_m_92_12 : decode jdk_42_method_92_code 12 = .ok (.ifCond .ne 10, 3) := by decide +kernel
theorem d_jdk_42_m_92_22 : decode jdk_42_method_92_code 22 = .ok (.iload_n 2, 1) := by decide +kernel
theorem d_jdk_42_m_92_23 : decode jdk_42_method_92_code 23 = .ok (.iload_n 1, 1) := by decide +kernel
theorem d_jdk_42_m_92_24 : decode jdk_42_method_92_code 24 = .ok (.isub, 1) := by decide +kernel
theorem d_jdk_42_m_92_25 : decode jdk_42_method_92_code 25 = .ok (.istore 4, 2) := by decide +kernel
theorem d_jdk_42_m_92_27 : decode jdk_42_method_92_code 27 = .ok (.aload_n 0, 1) := by decide +kernel
theorem d_jdk_42_m_92_28 : decode jdk_42_method_92_code 28 = .ok (.invokevirtual 492, 3) := by decide +kernel
theorem d_jdk_42_m_92_31 : decode jdk_42_method_92_code 31 = .ok (.ifCond .eq 16, 3) := by decide +kernel
theorem d_jdk_42_m_92_34 : decode jdk_42_method_92_code 34 = .ok (.aload_n 0, 1) := by decide +kernel
theorem d_jdk_42_m_92_35 : decode jdk_42_method_92_code 35 = .ok (.getfield 9, 3) := by decide +kernel
theorem d_jdk_42_m_92_38 : decode jdk_42_method_92_code 38 = .ok (.iload_n 1, 1) := by decide +kernel
theorem d_jdk_42_m_92_39 : decode jdk_42_method_92_code 39 = .ok (.iload 4, 2) := by decide +kernel
theorem d_jdk_42_m_92_41 : decode jdk_42_method_92_code 41 = .ok (.invokestatic 685, 3) := by decide +kernel
theorem pd_10 : parseMethodDescriptor "([BII)Ljava/lang/String;" = some ⟨[(.array .byte), .int, .int], some (.object "java/lang/String")⟩ := by decide +kernel
theorem d_jdk_42_m_92_44 : decode jdk_42_method_92_code 44 = .ok (.goto 13, 3) := by decide +kernel
theorem d_jdk_42_m_92_57 : decode jdk_42_method_92_code 57 = .ok (.areturn, 1) := by decide +kernel
theorem d_jdk_42_m_91_0 : decode jdk_42_method_91_code 0 = .ok (.aload_n 0, 1) := by decide +kernel
theorem d_jdk_42_m_91_1 : decode jdk_42_method_91_code 1 = .ok (.iload_n 1, 1) := by decide +kernel
theorem d_jdk_42_m_91_2 : decode jdk_42_method_91_code 2 = .ok (.aload_n 0, 1) := by decide +kernel
theorem d_jdk_42_m_91_3 : decode jdk_42_method_91_code 3 = .ok (.invokevirtual 505, 3) := by decide +kernel
theorem d_jdk_42_m_91_6 : decode jdk_42_method_91_code 6 = .ok (.invokevirtual 681, 3) := by decide +kernel
theorem pd_11 : parseMethodDescriptor "(II)Ljava/lang/String;" = some ⟨[.int, .int], some (.object "java/lang/String")⟩ := by decide +kernel
theorem d_jdk_42_m_91_9 : decode jdk_42_method_91_code 9 = .ok (.areturn, 1) := by decide +kernel
theorem d_prog_21_m_3_0 : decode prog_21_method_3_code 0 = .ok (.aload_n 0, 1) := by decide +kernel
theorem d_prog_21_m_3_1 : decode prog_21_method_3_code 1 = .ok (.aload_n 0, 1) := by decide +kernel
theorem d_prog_21_m_3_2 : decode prog_21_method_3_code 2 = .ok (.bipush 64, 2) := by decide +kernel
theorem d_prog_21_m_3_4 : decode prog_21_method_3_code 4 = .ok (.invokevirtual 15, 3) := by decide +kernel
theorem pd_12 : parseMethodDescriptor "(I)I" = some ⟨[.int], some .int⟩ := by decide +kernel
theorem d_prog_21_m_3_7 : decode prog_21_method_3_code 7 = .ok (.iconst 1, 1) := by decide +kernel
theorem d_prog_21_m_3_8 : decode prog_21_method_3_code 8 = .ok (.iadd, 1) := by decide +kernel
theorem d_prog_21_m_3_9 : decode prog_21_method_3_code 9 = .ok (.invokevirtual 37, 3) := by decide +kernel
theorem pd_13 : parseMethodDescriptor "(I)Ljava/lang/String;" = some ⟨[.int], some (.object "java/lang/String")⟩ := by decide +kernel
theorem d_prog_21_m_3_12 : decode prog_21_method_3_code 12 = .ok (.areturn, 1) := by decide +kernel
theorem pd_14 : parseMethodDescriptor "(I)C" = some ⟨[.int], some .char⟩ := by decide +kernel
theorem pd_15 : parseMethodDescriptor "([C)V" = some ⟨[(.array .char)], none⟩ := by decide +kernel
theorem pd_16 : parseMethodDescriptor "(Ljava/lang/String;)Ljava/lang/String;" = some ⟨[(.object "java/lang/String")], some (.object "java/lang/String")⟩ := by decide +kernel
theorem pn_com_example_slow_digest_slowdigest_rules_MailAddressDomainPinLaw : plainName "com/example/slow_digest/slowdigest/rules/MailAddressDomainPinLaw" = true := by first | (simp [plainName, overriddenIn]; done) | decide +kernel
theorem pf_rmMX : plainFor (⟨"java/lang/Math", "max", "(II)I"⟩ : MethodName) = true := by decide +kernel
theorem pf_rmMN : plainFor (⟨"java/lang/Math", "min", "(II)I"⟩ : MethodName) = true := by decide +kernel
theorem pn_java_lang_StringLatin1 : plainName "java/lang/StringLatin1" = true := by first | (simp [plainName, overriddenIn]; done) | decide +kernel
theorem pn_java_lang_String : plainName "java/lang/String" = true := by first | (simp [plainName, overriddenIn]; done) | decide +kernel
theorem pn_jdk_internal_util_Preconditions : plainName "jdk/internal/util/Preconditions" = true := by first | (simp [plainName, overriddenIn]; done) | decide +kernel
theorem pn_java_util_Arrays : plainName "java/util/Arrays" = true := by first | (simp [plainName, overriddenIn]; done) | decide +kernel
theorem pn_com_example_slow_digest_slowdigest_rules_MailAddress : plainName "com/example/slow_digest/slowdigest/rules/MailAddress" = true := by first | (simp [plainName, overriddenIn]; done) | decide +kernel
theorem ef_rmC (m : MethodId) (x0 : Int32) : entryFrame m #[(.int x0)] 2 = mkF m 0 #[.val (.int x0), .unset] [] := by first | (simp [entryFrame, mkF, argsToLocals, Value.category]; done) | rfl
set_option maxRecDepth 65536 in
set_option maxHeartbeats 40000000 in
theorem rmC (l : Launch) (Z : State) (a0 : Array Value) (hw : ∀ d ∈ tables_1, d.before a0 Z = true) (wds : List Jvm.Cond) (p1 : Int32) (h0 : Heap) (n0 : Nat) (O0 : Old Z n0 h0)  (hp0 : ¬ p1 < 0) :
    Ct l Z (⟨"com/example/slow_digest/slowdigest/rules/MailAddressDomainPinLaw", "ch", "(I)C"⟩ : MethodName) method_2_code 2 (some .char) wds ({ frames := 0, cells := 0, slots := 0, locals := 0 } : Room) #[(.int p1)] n0 h0 [] (fun v h => (∃ z : Int32, v = some (.int z) ∧ (¬ z < 0 ∧ ¬ (255 : Int32) < z) ∧ ¬ z = (64 : Int32)) ∧ h = h0) := by
  refine Ct.of (plainFor_of_name pn_com_example_slow_digest_slowdigest_rules_MailAddressDomainPinLaw) O0 all0 ?_
  intro p e s m below meth c hx hby hml hret hnm
  refine Go.cast (ef_rmC m p1) ?_
  refine Go.sp (g' := (mkF m 2 #[.val (.int p1), .unset] [(.int (33 : Int32))])) (fun T A t r => XS.bipush A hx rfl (hb hby d_m_2_0) r) ?_
  refine Go.sp (g' := (mkF m 3 #[.val (.int p1), .unset] [(.int p1), (.int (33 : Int32))])) (fun T A t r => XS.iloadN A hx rfl (hb hby d_m_2_2) rfl r) ?_
  refine Go.sp (g' := (mkF m 5 #[.val (.int p1), .unset] [(.int (94 : Int32)), (.int p1), (.int (33 : Int32))])) (fun T A t r => XS.bipush A hx rfl (hb hby d_m_2_3) r) ?_
  refine Go.r (g' := (mkF m 6 #[.val (.int p1), .unset] [(.int (p1 % (94 : Int32))), (.int (33 : Int32))])) (fun s' T L X eT hZ t r => iremM (g := (mkF m 5 #[.val (.int p1), .unset] [(.int (94 : Int32)), (.int p1), (.int (33 : Int32))])) X hx rfl (hb hby d_m_2_5) rfl (by decide) r) ?_
  refine Go.sp (g' := (mkF m 7 #[.val (.int p1), .unset] [(.int ((33 : Int32) + (p1 % (94 : Int32))))])) (fun T A t r => XS.iadd A hx rfl (hb hby d_m_2_6) rfl r) ?_
  refine Go.sp (g' := (mkF m 8 #[.val (.int p1), .val (.int ((33 : Int32) + (p1 % (94 : Int32))))] [])) (fun T A t r => XS.istoreN A hx rfl (hb hby d_m_2_7) rfl (l' := #[.val (.int p1), .val (.int ((33 : Int32) + (p1 % (94 : Int32))))]) rfl r) ?_
  refine Go.sp (g' := (mkF m 9 #[.val (.int p1), .val (.int ((33 : Int32) + (p1 % (94 : Int32))))] [(.int ((33 : Int32) + (p1 % (94 : Int32))))])) (fun T A t r => XS.iloadN A hx rfl (hb hby d_m_2_8) rfl r) ?_
  refine Go.sp (g' := (mkF m 11 #[.val (.int p1), .val (.int ((33 : Int32) + (p1 % (94 : Int32))))] [(.int (64 : Int32)), (.int ((33 : Int32) + (p1 % (94 : Int32))))])) (fun T A t r => XS.bipush A hx rfl (hb hby d_m_2_9) r) ?_
  by_cases hc11 : ((33 : Int32) + (p1 % (94 : Int32))) = (64 : Int32)
  · skip
    refine Go.sp (g' := (mkF m 80 #[.val (.int p1), .val (.int ((33 : Int32) + (p1 % (94 : Int32))))] [])) (fun T A t r => XS.icmpYes A hx rfl (pc0 := 11) (pc' := 80) rfl (hb hby d_m_2_11) rfl (teq hc11).1 (by decide) (by decide) r) ?_
    refine Go.sp (g' := (mkF m 82 #[.val (.int p1), .val (.int ((33 : Int32) + (p1 % (94 : Int32))))] [(.int (97 : Int32))])) (fun T A t r => XS.bipush A hx rfl (hb hby d_m_2_80) r) ?_
    exact Go.ret (v := (some (.int (nar .char (97 : Int32))))) (fun s' T L fs X hr => retN X hx (t := .char) hret (by simp) (hb hby d_m_2_82) hr) (fun h => by rw [hret] at h; cases h) (by decide) (by decide) ⟨⟨_, rfl, by decide, by decide⟩, rfl⟩
  · skip
    refine Go.sp (g' := (mkF m 14 #[.val (.int p1), .val (.int ((33 : Int32) + (p1 % (94 : Int32))))] [])) (fun T A t r => XS.icmpNo A hx rfl (hb hby d_m_2_11) rfl (feq hc11).1 r) ?_
    refine Go.sp (g' := (mkF m 15 #[.val (.int p1), .val (.int ((33 : Int32) + (p1 % (94 : Int32))))] [(.int ((33 : Int32) + (p1 % (94 : Int32))))])) (fun T A t r => XS.iloadN A hx rfl (hb hby d_m_2_14) rfl r) ?_
    refine Go.sp (g' := (mkF m 17 #[.val (.int p1), .val (.int ((33 : Int32) + (p1 % (94 : Int32))))] [(.int (34 : Int32)), (.int ((33 : Int32) + (p1 % (94 : Int32))))])) (fun T A t r => XS.bipush A hx rfl (hb hby d_m_2_15) r) ?_
    by_cases hc12 : ((33 : Int32) + (p1 % (94 : Int32))) = (34 : Int32)
    · skip
      refine Go.sp (g' := (mkF m 80 #[.val (.int p1), .val (.int ((33 : Int32) + (p1 % (94 : Int32))))] [])) (fun T A t r => XS.icmpYes A hx rfl (pc0 := 17) (pc' := 80) rfl (hb hby d_m_2_17) rfl (teq hc12).1 (by decide) (by decide) r) ?_
      refine Go.sp (g' := (mkF m 82 #[.val (.int p1), .val (.int ((33 : Int32) + (p1 % (94 : Int32))))] [(.int (97 : Int32))])) (fun T A t r => XS.bipush A hx rfl (hb hby d_m_2_80) r) ?_
      exact Go.ret (v := (some (.int (nar .char (97 : Int32))))) (fun s' T L fs X hr => retN X hx (t := .char) hret (by simp) (hb hby d_m_2_82) hr) (fun h => by rw [hret] at h; cases h) (by decide) (by decide) ⟨⟨_, rfl, by decide, by decide⟩, rfl⟩
    · skip
      refine Go.sp (g' := (mkF m 20 #[.val (.int p1), .val (.int ((33 : Int32) + (p1 % (94 : Int32))))] [])) (fun T A t r => XS.icmpNo A hx rfl (hb hby d_m_2_17) rfl (feq hc12).1 r) ?_
      refine Go.sp (g' := (mkF m 21 #[.val (.int p1), .val (.int ((33 : Int32) + (p1 % (94 : Int32))))] [(.int ((33 : Int32) + (p1 % (94 : Int32))))])) (fun T A t r => XS.iloadN A hx rfl (hb hby d_m_2_20) rfl r) ?_
      refine Go.sp (g' := (mkF m 23 #[.val (.int p1), .val (.int ((33 : Int32) + (p1 % (94 : Int32))))] [(.int (40 : Int32)), (.int ((33 : Int32) + (p1 % (94 : Int32))))])) (fun T A t r => XS.bipush A hx rfl (hb hby d_m_2_21) r) ?_
      by_cases hc13 : ((33 : Int32) + (p1 % (94 : Int32))) = (40 : Int32)
      · skip
        refine Go.sp (g' := (mkF m 80 #[.val (.int p1), .val (.int ((33 : Int32) + (p1 % (94 : Int32))))] [])) (fun T A t r => XS.icmpYes A hx rfl (pc0 := 23) (pc' := 80) rfl (hb hby d_m_2_23) rfl (teq hc13).1 (by decide) (by decide) r) ?_
        refine Go.sp (g' := (mkF m 82 #[.val (.int p1), .val (.int ((33 : Int32) + (p1 % (94 : Int32))))] [(.int (97 : Int32))])) (fun T A t r => XS.bipush A hx rfl (hb hby d_m_2_80) r) ?_
        exact Go.ret (v := (some (.int (nar .char (97 : Int32))))) (fun s' T L fs X hr => retN X hx (t := .char) hret (by simp) (hb hby d_m_2_82) hr) (fun h => by rw [hret] at h; cases h) (by decide) (by decide) ⟨⟨_, rfl, by decide, by decide⟩, rfl⟩
      · skip
        refine Go.sp (g' := (mkF m 26 #[.val (.int p1), .val (.int ((33 : Int32) + (p1 % (94 : Int32))))] [])) (fun T A t r => XS.icmpNo A hx rfl (hb hby d_m_2_23) rfl (feq hc13).1 r) ?_
        refine Go.sp (g' := (mkF m 27 #[.val (.int p1), .val (.int ((33 : Int32) + (p1 % (94 : Int32))))] [(.int ((33 : Int32) + (p1 % (94 : Int32))))])) (fun T A t r => XS.iloadN A hx rfl (hb hby d_m_2_26) rfl r) ?_
        refine Go.sp (g' := (mkF m 29 #[.val (.int p1), .val (.int ((33 : Int32) + (p1 % (94 : Int32))))] [(.int (41 : Int32)), (.int ((33 : Int32) + (p1 % (94 : Int32))))])) (fun T A t r => XS.bipush A hx rfl (hb hby d_m_2_27) r) ?_
        by_cases hc14 : ((33 : Int32) + (p1 % (94 : Int32))) = (41 : Int32)
        · skip
          refine Go.sp (g' := (mkF m 80 #[.val (.int p1), .val (.int ((33 : Int32) + (p1 % (94 : Int32))))] [])) (fun T A t r => XS.icmpYes A hx rfl (pc0 := 29) (pc' := 80) rfl (hb hby d_m_2_29) rfl (teq hc14).1 (by decide) (by decide) r) ?_
          refine Go.sp (g' := (mkF m 82 #[.val (.int p1), .val (.int ((33 : Int32) + (p1 % (94 : Int32))))] [(.int (97 : Int32))])) (fun T A t r => XS.bipush A hx rfl (hb hby d_m_2_80) r) ?_
          exact Go.ret (v := (some (.int (nar .char (97 : Int32))))) (fun s' T L fs X hr => retN X hx (t := .char) hret (by simp) (hb hby d_m_2_82) hr) (fun h => by rw [hret] at h; cases h) (by decide) (by decide) ⟨⟨_, rfl, by decide, by decide⟩, rfl⟩
        · skip
          refine Go.sp (g' := (mkF m 32 #[.val (.int p1), .val (.int ((33 : Int32) + (p1 % (94 : Int32))))] [])) (fun T A t r => XS.icmpNo A hx rfl (hb hby d_m_2_29) rfl (feq hc14).1 r) ?_
          refine Go.sp (g' := (mkF m 33 #[.val (.int p1), .val (.int ((33 : Int32) + (p1 % (94 : Int32))))] [(.int ((33 : Int32) + (p1 % (94 : Int32))))])) (fun T A t r => XS.iloadN A hx rfl (hb hby d_m_2_32) rfl r) ?_
          refine Go.sp (g' := (mkF m 35 #[.val (.int p1), .val (.int ((33 : Int32) + (p1 % (94 : Int32))))] [(.int (44 : Int32)), (.int ((33 : Int32) + (p1 % (94 : Int32))))])) (fun T A t r => XS.bipush A hx rfl (hb hby d_m_2_33) r) ?_
          by_cases hc15 : ((33 : Int32) + (p1 % (94 : Int32))) = (44 : Int32)
          · skip
            refine Go.sp (g' := (mkF m 80 #[.val (.int p1), .val (.int ((33 : Int32) + (p1 % (94 : Int32))))] [])) (fun T A t r => XS.icmpYes A hx rfl (pc0 := 35) (pc' := 80) rfl (hb hby d_m_2_35) rfl (teq hc15).1 (by decide) (by decide) r) ?_
            refine Go.sp (g' := (mkF m 82 #[.val (.int p1), .val (.int ((33 : Int32) + (p1 % (94 : Int32))))] [(.int (97 : Int32))])) (fun T A t r => XS.bipush A hx rfl (hb hby d_m_2_80) r) ?_
            exact Go.ret (v := (some (.int (nar .char (97 : Int32))))) (fun s' T L fs X hr => retN X hx (t := .char) hret (by simp) (hb hby d_m_2_82) hr) (fun h => by rw [hret] at h; cases h) (by decide) (by decide) ⟨⟨_, rfl, by decide, by decide⟩, rfl⟩
          · skip
            refine Go.sp (g' := (mkF m 38 #[.val (.int p1), .val (.int ((33 : Int32) + (p1 % (94 : Int32))))] [])) (fun T A t r => XS.icmpNo A hx rfl (hb hby d_m_2_35) rfl (feq hc15).1 r) ?_
            refine Go.sp (g' := (mkF m 39 #[.val (.int p1), .val (.int ((33 : Int32) + (p1 % (94 : Int32))))] [(.int ((33 : Int32) + (p1 % (94 : Int32))))])) (fun T A t r => XS.iloadN A hx rfl (hb hby d_m_2_38) rfl r) ?_
            refine Go.sp (g' := (mkF m 41 #[.val (.int p1), .val (.int ((33 : Int32) + (p1 % (94 : Int32))))] [(.int (58 : Int32)), (.int ((33 : Int32) + (p1 % (94 : Int32))))])) (fun T A t r => XS.bipush A hx rfl (hb hby d_m_2_39) r) ?_
            by_cases hc16 : ((33 : Int32) + (p1 % (94 : Int32))) = (58 : Int32)
            · skip
              refine Go.sp (g' := (mkF m 80 #[.val (.int p1), .val (.int ((33 : Int32) + (p1 % (94 : Int32))))] [])) (fun T A t r => XS.icmpYes A hx rfl (pc0 := 41) (pc' := 80) rfl (hb hby d_m_2_41) rfl (teq hc16).1 (by decide) (by decide) r) ?_
              refine Go.sp (g' := (mkF m 82 #[.val (.int p1), .val (.int ((33 : Int32) + (p1 % (94 : Int32))))] [(.int (97 : Int32))])) (fun T A t r => XS.bipush A hx rfl (hb hby d_m_2_80) r) ?_
              exact Go.ret (v := (some (.int (nar .char (97 : Int32))))) (fun s' T L fs X hr => retN X hx (t := .char) hret (by simp) (hb hby d_m_2_82) hr) (fun h => by rw [hret] at h; cases h) (by decide) (by decide) ⟨⟨_, rfl, by decide, by decide⟩, rfl⟩
            · skip
              refine Go.sp (g' := (mkF m 44 #[.val (.int p1), .val (.int ((33 : Int32) + (p1 % (94 : Int32))))] [])) (fun T A t r => XS.icmpNo A hx rfl (hb hby d_m_2_41) rfl (feq hc16).1 r) ?_
              refine Go.sp (g' := (mkF m 45 #[.val (.int p1), .val (.int ((33 : Int32) + (p1 % (94 : Int32))))] [(.int ((33 : Int32) + (p1 % (94 : Int32))))])) (fun T A t r => XS.iloadN A hx rfl (hb hby d_m_2_44) rfl r) ?_
              refine Go.sp (g' := (mkF m 47 #[.val (.int p1), .val (.int ((33 : Int32) + (p1 % (94 : Int32))))] [(.int (59 : Int32)), (.int ((33 : Int32) + (p1 % (94 : Int32))))])) (fun T A t r => XS.bipush A hx rfl (hb hby d_m_2_45) r) ?_
              by_cases hc17 : ((33 : Int32) + (p1 % (94 : Int32))) = (59 : Int32)
              · skip
                refine Go.sp (g' := (mkF m 80 #[.val (.int p1), .val (.int ((33 : Int32) + (p1 % (94 : Int32))))] [])) (fun T A t r => XS.icmpYes A hx rfl (pc0 := 47) (pc' := 80) rfl (hb hby d_m_2_47) rfl (teq hc17).1 (by decide) (by decide) r) ?_
                refine Go.sp (g' := (mkF m 82 #[.val (.int p1), .val (.int ((33 : Int32) + (p1 % (94 : Int32))))] [(.int (97 : Int32))])) (fun T A t r => XS.bipush A hx rfl (hb hby d_m_2_80) r) ?_
                exact Go.ret (v := (some (.int (nar .char (97 : Int32))))) (fun s' T L fs X hr => retN X hx (t := .char) hret (by simp) (hb hby d_m_2_82) hr) (fun h => by rw [hret] at h; cases h) (by decide) (by decide) ⟨⟨_, rfl, by decide, by decide⟩, rfl⟩
              · skip
                refine Go.sp (g' := (mkF m 50 #[.val (.int p1), .val (.int ((33 : Int32) + (p1 % (94 : Int32))))] [])) (fun T A t r => XS.icmpNo A hx rfl (hb hby d_m_2_47) rfl (feq hc17).1 r) ?_
                refine Go.sp (g' := (mkF m 51 #[.val (.int p1), .val (.int ((33 : Int32) + (p1 % (94 : Int32))))] [(.int ((33 : Int32) + (p1 % (94 : Int32))))])) (fun T A t r => XS.iloadN A hx rfl (hb hby d_m_2_50) rfl r) ?_
                refine Go.sp (g' := (mkF m 53 #[.val (.int p1), .val (.int ((33 : Int32) + (p1 % (94 : Int32))))] [(.int (60 : Int32)), (.int ((33 : Int32) + (p1 % (94 : Int32))))])) (fun T A t r => XS.bipush A hx rfl (hb hby d_m_2_51) r) ?_
                by_cases hc18 : ((33 : Int32) + (p1 % (94 : Int32))) = (60 : Int32)
                · skip
                  refine Go.sp (g' := (mkF m 80 #[.val (.int p1), .val (.int ((33 : Int32) + (p1 % (94 : Int32))))] [])) (fun T A t r => XS.icmpYes A hx rfl (pc0 := 53) (pc' := 80) rfl (hb hby d_m_2_53) rfl (teq hc18).1 (by decide) (by decide) r) ?_
                  refine Go.sp (g' := (mkF m 82 #[.val (.int p1), .val (.int ((33 : Int32) + (p1 % (94 : Int32))))] [(.int (97 : Int32))])) (fun T A t r => XS.bipush A hx rfl (hb hby d_m_2_80) r) ?_
                  exact Go.ret (v := (some (.int (nar .char (97 : Int32))))) (fun s' T L fs X hr => retN X hx (t := .char) hret (by simp) (hb hby d_m_2_82) hr) (fun h => by rw [hret] at h; cases h) (by decide) (by decide) ⟨⟨_, rfl, by decide, by decide⟩, rfl⟩
                · skip
                  refine Go.sp (g' := (mkF m 56 #[.val (.int p1), .val (.int ((33 : Int32) + (p1 % (94 : Int32))))] [])) (fun T A t r => XS.icmpNo A hx rfl (hb hby d_m_2_53) rfl (feq hc18).1 r) ?_
                  refine Go.sp (g' := (mkF m 57 #[.val (.int p1), .val (.int ((33 : Int32) + (p1 % (94 : Int32))))] [(.int ((33 : Int32) + (p1 % (94 : Int32))))])) (fun T A t r => XS.iloadN A hx rfl (hb hby d_m_2_56) rfl r) ?_
                  refine Go.sp (g' := (mkF m 59 #[.val (.int p1), .val (.int ((33 : Int32) + (p1 % (94 : Int32))))] [(.int (62 : Int32)), (.int ((33 : Int32) + (p1 % (94 : Int32))))])) (fun T A t r => XS.bipush A hx rfl (hb hby d_m_2_57) r) ?_
                  by_cases hc19 : ((33 : Int32) + (p1 % (94 : Int32))) = (62 : Int32)
                  · skip
                    refine Go.sp (g' := (mkF m 80 #[.val (.int p1), .val (.int ((33 : Int32) + (p1 % (94 : Int32))))] [])) (fun T A t r => XS.icmpYes A hx rfl (pc0 := 59) (pc' := 80) rfl (hb hby d_m_2_59) rfl (teq hc19).1 (by decide) (by decide) r) ?_
                    refine Go.sp (g' := (mkF m 82 #[.val (.int p1), .val (.int ((33 : Int32) + (p1 % (94 : Int32))))] [(.int (97 : Int32))])) (fun T A t r => XS.bipush A hx rfl (hb hby d_m_2_80) r) ?_
                    exact Go.ret (v := (some (.int (nar .char (97 : Int32))))) (fun s' T L fs X hr => retN X hx (t := .char) hret (by simp) (hb hby d_m_2_82) hr) (fun h => by rw [hret] at h; cases h) (by decide) (by decide) ⟨⟨_, rfl, by decide, by decide⟩, rfl⟩
                  · skip
                    refine Go.sp (g' := (mkF m 62 #[.val (.int p1), .val (.int ((33 : Int32) + (p1 % (94 : Int32))))] [])) (fun T A t r => XS.icmpNo A hx rfl (hb hby d_m_2_59) rfl (feq hc19).1 r) ?_
                    refine Go.sp (g' := (mkF m 63 #[.val (.int p1), .val (.int ((33 : Int32) + (p1 % (94 : Int32))))] [(.int ((33 : Int32) + (p1 % (94 : Int32))))])) (fun T A t r => XS.iloadN A hx rfl (hb hby d_m_2_62) rfl r) ?_
                    refine Go.sp (g' := (mkF m 65 #[.val (.int p1), .val (.int ((33 : Int32) + (p1 % (94 : Int32))))] [(.int (91 : Int32)), (.int ((33 : Int32) + (p1 % (94 : Int32))))])) (fun T A t r => XS.bipush A hx rfl (hb hby d_m_2_63) r) ?_
                    by_cases hc20 : ((33 : Int32) + (p1 % (94 : Int32))) = (91 : Int32)
                    · skip
                      refine Go.sp (g' := (mkF m 80 #[.val (.int p1), .val (.int ((33 : Int32) + (p1 % (94 : Int32))))] [])) (fun T A t r => XS.icmpYes A hx rfl (pc0 := 65) (pc' := 80) rfl (hb hby d_m_2_65) rfl (teq hc20).1 (by decide) (by decide) r) ?_
                      refine Go.sp (g' := (mkF m 82 #[.val (.int p1), .val (.int ((33 : Int32) + (p1 % (94 : Int32))))] [(.int (97 : Int32))])) (fun T A t r => XS.bipush A hx rfl (hb hby d_m_2_80) r) ?_
                      exact Go.ret (v := (some (.int (nar .char (97 : Int32))))) (fun s' T L fs X hr => retN X hx (t := .char) hret (by simp) (hb hby d_m_2_82) hr) (fun h => by rw [hret] at h; cases h) (by decide) (by decide) ⟨⟨_, rfl, by decide, by decide⟩, rfl⟩
                    · skip
                      refine Go.sp (g' := (mkF m 68 #[.val (.int p1), .val (.int ((33 : Int32) + (p1 % (94 : Int32))))] [])) (fun T A t r => XS.icmpNo A hx rfl (hb hby d_m_2_65) rfl (feq hc20).1 r) ?_
                      refine Go.sp (g' := (mkF m 69 #[.val (.int p1), .val (.int ((33 : Int32) + (p1 % (94 : Int32))))] [(.int ((33 : Int32) + (p1 % (94 : Int32))))])) (fun T A t r => XS.iloadN A hx rfl (hb hby d_m_2_68) rfl r) ?_
                      refine Go.sp (g' := (mkF m 71 #[.val (.int p1), .val (.int ((33 : Int32) + (p1 % (94 : Int32))))] [(.int (92 : Int32)), (.int ((33 : Int32) + (p1 % (94 : Int32))))])) (fun T A t r => XS.bipush A hx rfl (hb hby d_m_2_69) r) ?_
                      by_cases hc21 : ((33 : Int32) + (p1 % (94 : Int32))) = (92 : Int32)
                      · skip
                        refine Go.sp (g' := (mkF m 80 #[.val (.int p1), .val (.int ((33 : Int32) + (p1 % (94 : Int32))))] [])) (fun T A t r => XS.icmpYes A hx rfl (pc0 := 71) (pc' := 80) rfl (hb hby d_m_2_71) rfl (teq hc21).1 (by decide) (by decide) r) ?_
                        refine Go.sp (g' := (mkF m 82 #[.val (.int p1), .val (.int ((33 : Int32) + (p1 % (94 : Int32))))] [(.int (97 : Int32))])) (fun T A t r => XS.bipush A hx rfl (hb hby d_m_2_80) r) ?_
                        exact Go.ret (v := (some (.int (nar .char (97 : Int32))))) (fun s' T L fs X hr => retN X hx (t := .char) hret (by simp) (hb hby d_m_2_82) hr) (fun h => by rw [hret] at h; cases h) (by decide) (by decide) ⟨⟨_, rfl, by decide, by decide⟩, rfl⟩
                      · skip
                        refine Go.sp (g' := (mkF m 74 #[.val (.int p1), .val (.int ((33 : Int32) + (p1 % (94 : Int32))))] [])) (fun T A t r => XS.icmpNo A hx rfl (hb hby d_m_2_71) rfl (feq hc21).1 r) ?_
                        refine Go.sp (g' := (mkF m 75 #[.val (.int p1), .val (.int ((33 : Int32) + (p1 % (94 : Int32))))] [(.int ((33 : Int32) + (p1 % (94 : Int32))))])) (fun T A t r => XS.iloadN A hx rfl (hb hby d_m_2_74) rfl r) ?_
                        refine Go.sp (g' := (mkF m 77 #[.val (.int p1), .val (.int ((33 : Int32) + (p1 % (94 : Int32))))] [(.int (93 : Int32)), (.int ((33 : Int32) + (p1 % (94 : Int32))))])) (fun T A t r => XS.bipush A hx rfl (hb hby d_m_2_75) r) ?_
                        by_cases hc22 : ((33 : Int32) + (p1 % (94 : Int32))) = (93 : Int32)
                        · skip
                          refine Go.sp (g' := (mkF m 80 #[.val (.int p1), .val (.int ((33 : Int32) + (p1 % (94 : Int32))))] [])) (fun T A t r => XS.icmpNo A hx rfl (hb hby d_m_2_77) rfl (teq hc22).2 r) ?_
                          refine Go.sp (g' := (mkF m 82 #[.val (.int p1), .val (.int ((33 : Int32) + (p1 % (94 : Int32))))] [(.int (97 : Int32))])) (fun T A t r => XS.bipush A hx rfl (hb hby d_m_2_80) r) ?_
                          exact Go.ret (v := (some (.int (nar .char (97 : Int32))))) (fun s' T L fs X hr => retN X hx (t := .char) hret (by simp) (hb hby d_m_2_82) hr) (fun h => by rw [hret] at h; cases h) (by decide) (by decide) ⟨⟨_, rfl, by decide, by decide⟩, rfl⟩
                        · skip
                          refine Go.sp (g' := (mkF m 83 #[.val (.int p1), .val (.int ((33 : Int32) + (p1 % (94 : Int32))))] [])) (fun T A t r => XS.icmpYes A hx rfl (pc0 := 77) (pc' := 83) rfl (hb hby d_m_2_77) rfl (feq hc22).2 (by decide) (by decide) r) ?_
                          refine Go.sp (g' := (mkF m 84 #[.val (.int p1), .val (.int ((33 : Int32) + (p1 % (94 : Int32))))] [(.int ((33 : Int32) + (p1 % (94 : Int32))))])) (fun T A t r => XS.iloadN A hx rfl (hb hby d_m_2_83) rfl r) ?_
                          refine Go.sp (g' := (mkF m 85 #[.val (.int p1), .val (.int ((33 : Int32) + (p1 % (94 : Int32))))] [(.int (((33 : Int32) + (p1 % (94 : Int32))).toUInt32.toUInt16.toUInt32.toInt32))])) (fun T A t r => XS.i2c A hx rfl (hb hby d_m_2_84) rfl r) ?_
                          exact Go.ret (v := (some (.int (nar .char (((33 : Int32) + (p1 % (94 : Int32))).toUInt32.toUInt16.toUInt32.toInt32))))) (fun s' T L fs X hr => retN X hx (t := .char) hret (by simp) (hb hby d_m_2_85) hr) (fun h => by rw [hret] at h; cases h) (by decide) (by decide) ⟨⟨_, rfl, own_chb hp0 hc11⟩, rfl⟩
theorem ef_rmMX (m : MethodId) (x0 : Int32) (x1 : Int32) : entryFrame m #[(.int x0), (.int x1)] 2 = mkF m 0 #[.val (.int x0), .val (.int x1)] [] := by first | (simp [entryFrame, mkF, argsToLocals, Value.category]; done) | rfl
set_option maxRecDepth 65536 in
set_option maxHeartbeats 40000000 in
theorem rmMX (l : Launch) (Z : State) (a0 : Array Value) (hw : ∀ d ∈ tables_1, d.before a0 Z = true) (wds : List Jvm.Cond) (p1 : Int32) (p2 : Int32) (h0 : Heap) (n0 : Nat) (O0 : Old Z n0 h0)  (hlt : ¬ p1 < p2) :
    Ct l Z (⟨"java/lang/Math", "max", "(II)I"⟩ : MethodName) jdk_29_method_65_code 2 (some .int) wds ({ frames := 0, cells := 0, slots := 0, locals := 0 } : Room) #[(.int p1), (.int p2)] n0 h0 [] (fun v h => v = some (.int p1) ∧ h = h0) := by
  refine Ct.of pf_rmMX O0 all0 ?_
  intro p e s m below meth c hx hby hml hret hnm
  refine Go.cast (ef_rmMX m p1 p2) ?_
  refine Go.sp (g' := (mkF m 1 #[.val (.int p1), .val (.int p2)] [(.int p1)])) (fun T A t r => XS.iloadN A hx rfl (hb hby d_jdk_29_m_65_0) rfl r) ?_
  refine Go.sp (g' := (mkF m 2 #[.val (.int p1), .val (.int p2)] [(.int p2), (.int p1)])) (fun T A t r => XS.iloadN A hx rfl (hb hby d_jdk_29_m_65_1) rfl r) ?_
  refine Go.sp (g' := (mkF m 5 #[.val (.int p1), .val (.int p2)] [])) (fun T A t r => XS.icmpNo A hx rfl (hb hby d_jdk_29_m_65_2) rfl (flt hlt).1 r) ?_
  refine Go.sp (g' := (mkF m 6 #[.val (.int p1), .val (.int p2)] [(.int p1)])) (fun T A t r => XS.iloadN A hx rfl (hb hby d_jdk_29_m_65_5) rfl r) ?_
  refine Go.sp (g' := (mkF m 10 #[.val (.int p1), .val (.int p2)] [(.int p1)])) (fun T A t r => XS.goto A hx rfl (pc0 := 6) (pc' := 10) rfl (hb hby d_jdk_29_m_65_6) (by decide) (by decide) r) ?_
  exact Go.ret (v := (some (.int p1))) (fun s' T L fs X hr => retI X hx hret (hb hby d_jdk_29_m_65_10) hr) (fun h => by rw [hret] at h; cases h) (by decide) (by decide) ⟨rfl, rfl⟩
theorem ef_rmMN (m : MethodId) (x0 : Int32) (x1 : Int32) : entryFrame m #[(.int x0), (.int x1)] 2 = mkF m 0 #[.val (.int x0), .val (.int x1)] [] := by first | (simp [entryFrame, mkF, argsToLocals, Value.category]; done) | rfl
set_option maxRecDepth 65536 in
set_option maxHeartbeats 40000000 in
theorem rmMN (l : Launch) (Z : State) (a0 : Array Value) (hw : ∀ d ∈ tables_1, d.before a0 Z = true) (wds : List Jvm.Cond) (p1 : Int32) (p2 : Int32) (h0 : Heap) (n0 : Nat) (O0 : Old Z n0 h0)  (hlt : ¬ p2 < p1) :
    Ct l Z (⟨"java/lang/Math", "min", "(II)I"⟩ : MethodName) jdk_29_method_69_code 2 (some .int) wds ({ frames := 0, cells := 0, slots := 0, locals := 0 } : Room) #[(.int p1), (.int p2)] n0 h0 [] (fun v h => v = some (.int p1) ∧ h = h0) := by
  refine Ct.of pf_rmMN O0 all0 ?_
  intro p e s m below meth c hx hby hml hret hnm
  refine Go.cast (ef_rmMN m p1 p2) ?_
  refine Go.sp (g' := (mkF m 1 #[.val (.int p1), .val (.int p2)] [(.int p1)])) (fun T A t r => XS.iloadN A hx rfl (hb hby d_jdk_29_m_69_0) rfl r) ?_
  refine Go.sp (g' := (mkF m 2 #[.val (.int p1), .val (.int p2)] [(.int p2), (.int p1)])) (fun T A t r => XS.iloadN A hx rfl (hb hby d_jdk_29_m_69_1) rfl r) ?_
  refine Go.sp (g' := (mkF m 5 #[.val (.int p1), .val (.int p2)] [])) (fun T A t r => XS.icmpNo A hx rfl (hb hby d_jdk_29_m_69_2) rfl (flt hlt).2.2.1 r) ?_
  refine Go.sp (g' := (mkF m 6 #[.val (.int p1), .val (.int p2)] [(.int p1)])) (fun T A t r => XS.iloadN A hx rfl (hb hby d_jdk_29_m_69_5) rfl r) ?_
  refine Go.sp (g' := (mkF m 10 #[.val (.int p1), .val (.int p2)] [(.int p1)])) (fun T A t r => XS.goto A hx rfl (pc0 := 6) (pc' := 10) rfl (hb hby d_jdk_29_m_69_6) (by decide) (by decide) r) ?_
  exact Go.ret (v := (some (.int p1))) (fun s' T L fs X hr => retI X hx hret (hb hby d_jdk_29_m_69_10) hr) (fun h => by rw [hret] at h; cases h) (by decide) (by decide) ⟨rfl, rfl⟩
theorem ef_rmCE (m : MethodId) (x0 : Int32) : entryFrame m #[(.int x0)] 1 = mkF m 0 #[.val (.int x0)] [] := by first | (simp [entryFrame, mkF, argsToLocals, Value.category]; done) | rfl
set_option maxRecDepth 65536 in
set_option maxHeartbeats 40000000 in
theorem rmCE (l : Launch) (Z : State) (a0 : Array Value) (hw : ∀ d ∈ tables_1, d.before a0 Z = true) (wds : List Jvm.Cond)  (h0 : Heap) (n0 : Nat) (O0 : Old Z n0 h0)   :
    Ct l Z (⟨"java/lang/StringLatin1", "canEncode", "(I)Z"⟩ : MethodName) jdk_43_method_4_code 1 (some .boolean) wds ({ frames := 0, cells := 0, slots := 0, locals := 0 } : Room) #[(.int (64 : Int32))] n0 h0 [] (fun v h => v = some (.int 1) ∧ h = h0) := by
  refine Ct.of (plainFor_of_name pn_java_lang_StringLatin1) O0 all0 ?_
  intro p e s m below meth c hx hby hml hret hnm
  refine Go.cast (ef_rmCE m (64 : Int32)) ?_
  refine Go.sp (g' := (mkF m 1 #[.val (.int (64 : Int32))] [(.int (64 : Int32))])) (fun T A t r => XS.iloadN A hx rfl (hb hby d_jdk_43_m_4_0) rfl r) ?_
  refine Go.sp (g' := (mkF m 4 #[.val (.int (64 : Int32))] [])) (fun T A t r => XS.ifNo A hx rfl (hb hby d_jdk_43_m_4_1) rfl ((if0 _ _).trans (flt (by decide : ¬ ((64 : Int32) < (0 : Int32)))).1) r) ?_
  refine Go.sp (g' := (mkF m 5 #[.val (.int (64 : Int32))] [(.int (64 : Int32))])) (fun T A t r => XS.iloadN A hx rfl (hb hby d_jdk_43_m_4_4) rfl r) ?_
  refine Go.sp (g' := (mkF m 8 #[.val (.int (64 : Int32))] [(.int (255 : Int32)), (.int (64 : Int32))])) (fun T A t r => XS.sipush A hx rfl (hb hby d_jdk_43_m_4_5) r) ?_
  refine Go.sp (g' := (mkF m 11 #[.val (.int (64 : Int32))] [])) (fun T A t r => XS.icmpNo A hx rfl (hb hby d_jdk_43_m_4_8) rfl (flt (by decide : ¬ ((255 : Int32) < (64 : Int32)))).2.2.1 r) ?_
  refine Go.sp (g' := (mkF m 12 #[.val (.int (64 : Int32))] [(.int (1 : Int32))])) (fun T A t r => XS.iconst A hx rfl (hb hby d_jdk_43_m_4_11) r) ?_
  refine Go.sp (g' := (mkF m 16 #[.val (.int (64 : Int32))] [(.int (1 : Int32))])) (fun T A t r => XS.goto A hx rfl (pc0 := 12) (pc' := 16) rfl (hb hby d_jdk_43_m_4_12) (by decide) (by decide) r) ?_
  exact Go.ret (v := (some (.int (nar .boolean (1 : Int32))))) (fun s' T L fs X hr => retN X hx (t := .boolean) hret (by simp) (hb hby d_jdk_43_m_4_16) hr) (fun h => by rw [hret] at h; cases h) (by decide) (by decide) ⟨rfl, rfl⟩
theorem ef_rmIL (m : MethodId) (x0 : Addr) : entryFrame m #[(.ref x0)] 1 = mkF m 0 #[.val (.ref x0)] [] := by first | (simp [entryFrame, mkF, argsToLocals, Value.category]; done) | rfl
set_option maxRecDepth 65536 in
set_option maxHeartbeats 40000000 in
theorem rmIL (l : Launch) (Z : State) (a0 : Array Value) (hw : ∀ d ∈ tables_1, d.before a0 Z = true) (wds : List Jvm.Cond) (a1 : Addr) (zS : Int32) (h0 : Heap) (n0 : Nat) (O0 : Old Z n0 h0)  (C1 : Fld Z h0 a1 "java/lang/String" "coder" "B" (.int 0)) (S0 : Sta Z Z.heap "java/lang/String" "COMPACT_STRINGS" "Z" (.int zS)) (P0 : ¬ zS = (0 : Int32)) :
    Ct l Z (⟨"java/lang/String", "isLatin1", "()Z"⟩ : MethodName) jdk_42_method_154_code 1 (some .boolean) wds ({ frames := 0, cells := 0, slots := 0, locals := 0 } : Room) #[(.ref a1)] n0 h0 [] (fun v h => v = some (.int 1) ∧ h = h0) := by
  refine Ct.of (plainFor_of_name pn_java_lang_String) O0 all0 ?_
  intro p e s m below meth c hx hby hml hret hnm
  refine Go.cast (ef_rmIL m a1) ?_
  refine Go.old fun O11 => ?_
  have St12 := Sta.ext O11.2 S0
  refine Go.v (g' := (mkF m 3 #[.val (.ref a1)] [(.int zS)])) (fun s' T L X eT hZ hown => getS2 X hx hZ hown (host := "") (Or.inl (own_w hw 19 rfl)) Via.refl eT St12 (g := (mkF m 0 #[.val (.ref a1)] [])) rfl (hb hby d_jdk_42_m_154_0)) ?_
  refine Go.sp (g' := (mkF m 6 #[.val (.ref a1)] [])) (fun T A t r => XS.ifNo A hx rfl (hb hby d_jdk_42_m_154_3) rfl ((if0 _ _).trans (feq P0).1) r) ?_
  refine Go.sp (g' := (mkF m 7 #[.val (.ref a1)] [(.ref a1)])) (fun T A t r => XS.aloadN A hx rfl (hb hby d_jdk_42_m_154_6) rfl rfl r) ?_
  refine Go.v (g' := (mkF m 10 #[.val (.ref a1)] [(.int (0 : Int32))])) (fun s' T L X eT hZ hown => getF X hx hZ hown (host := "") (Or.inl (own_w hw 31 rfl)) Via.refl eT C1 (g := (mkF m 7 #[.val (.ref a1)] [(.ref a1)])) rfl rfl (hb hby d_jdk_42_m_154_7)) ?_
  refine Go.sp (g' := (mkF m 13 #[.val (.ref a1)] [])) (fun T A t r => XS.ifNo A hx rfl (hb hby d_jdk_42_m_154_10) rfl ((if0 _ _).trans (teq (by decide : ((0 : Int32) = (0 : Int32)))).2) r) ?_
  refine Go.sp (g' := (mkF m 14 #[.val (.ref a1)] [(.int (1 : Int32))])) (fun T A t r => XS.iconst A hx rfl (hb hby d_jdk_42_m_154_13) r) ?_
  refine Go.sp (g' := (mkF m 18 #[.val (.ref a1)] [(.int (1 : Int32))])) (fun T A t r => XS.goto A hx rfl (pc0 := 14) (pc' := 18) rfl (hb hby d_jdk_42_m_154_14) (by decide) (by decide) r) ?_
  exact Go.ret (v := (some (.int (nar .boolean (1 : Int32))))) (fun s' T L fs X hr => retN X hx (t := .boolean) hret (by simp) (hb hby d_jdk_42_m_154_18) hr) (fun h => by rw [hret] at h; cases h) (by decide) (by decide) ⟨rfl, rfl⟩
theorem ef_rmX4 (m : MethodId) (x0 : Addr) (x1 : Int32) (x2 : Int32) (x3 : Int32) : entryFrame m #[(.ref x0), (.int x1), (.int x2), (.int x3)] 6 = mkF m 0 #[.val (.ref x0), .val (.int x1), .val (.int x2), .val (.int x3), .unset, .unset] [] := by first | (simp [entryFrame, mkF, argsToLocals, Value.category]; done) | rfl
set_option maxRecDepth 65536 in
set_option maxHeartbeats 40000000 in
theorem rmX4 (l : Launch) (Z : State) (a0 : Array Value) (hw : ∀ d ∈ tables_1, d.before a0 Z = true) (wds : List Jvm.Cond) (t1 : Addr) (k1 : ClassId) (cs : List Int32) (i : Nat) (h0 : Heap) (n0 : Nat) (O0 : Old Z n0 h0)  (B1 : Arv Z h0 t1 k1 .byte (Int32.ofNat cs.length) ((cs.map fun c => c.toInt8.toInt32).map Value.int) (.int 0)) (hp : ∀ c ∈ cs, ¬ c < 0 ∧ ¬ (255 : Int32) < c) (l2 : cs.length ≤ 8) (hi : i < cs.length) (hat : cs.getD i 0 = (64 : Int32)) (hno : ∀ j, j < i → ¬ cs.getD j 0 = (64 : Int32)) :
    Ct l Z (⟨"java/lang/StringLatin1", "indexOfChar", "([BIII)I"⟩ : MethodName) jdk_43_method_23_code 6 (some .int) wds ({ frames := 0, cells := 0, slots := 0, locals := 0 } : Room) #[(.ref t1), (.int (64 : Int32)), (.int (0 : Int32)), (.int (Int32.ofNat cs.length))] n0 h0 [] (fun v h => v = some (.int (Int32.ofNat i)) ∧ h = h0) := by
  refine Ct.of (plainFor_of_name pn_java_lang_StringLatin1) O0 all0 ?_
  intro p e s m below meth c hx hby hml hret hnm
  refine Go.cast (ef_rmX4 m t1 (64 : Int32) (0 : Int32) (Int32.ofNat cs.length)) ?_
  refine Go.sp (g' := (mkF m 1 #[.val (.ref t1), .val (.int (64 : Int32)), .val (.int (0 : Int32)), .val (.int (Int32.ofNat cs.length)), .unset, .unset] [(.int (64 : Int32))])) (fun T A t r => XS.iloadN A hx rfl (hb hby d_jdk_43_m_23_0) rfl r) ?_
  refine Go.sp (g' := (mkF m 2 #[.val (.ref t1), .val (.int (64 : Int32)), .val (.int (0 : Int32)), .val (.int (Int32.ofNat cs.length)), .unset, .unset] [(.int ((64 : Int32).toInt8.toInt32))])) (fun T A t r => XS.i2b A hx rfl (hb hby d_jdk_43_m_23_1) rfl r) ?_
  refine Go.cast (g' := (mkF m 2 #[.val (.ref t1), .val (.int (64 : Int32)), .val (.int (0 : Int32)), .val (.int (Int32.ofNat cs.length)), .unset, .unset] [(.int (64 : Int32))])) (by rw [show ((64 : Int32).toInt8.toInt32) = (64 : Int32) from (by decide)]) ?_
  refine Go.sp (g' := (mkF m 4 #[.val (.ref t1), .val (.int (64 : Int32)), .val (.int (0 : Int32)), .val (.int (Int32.ofNat cs.length)), .val (.int (64 : Int32)), .unset] [])) (fun T A t r => XS.istore A hx rfl (hb hby d_jdk_43_m_23_2) rfl (l' := #[.val (.ref t1), .val (.int (64 : Int32)), .val (.int (0 : Int32)), .val (.int (Int32.ofNat cs.length)), .val (.int (64 : Int32)), .unset]) rfl r) ?_
  refine Go.sp (g' := (mkF m 5 #[.val (.ref t1), .val (.int (64 : Int32)), .val (.int (0 : Int32)), .val (.int (Int32.ofNat cs.length)), .val (.int (64 : Int32)), .unset] [(.int (0 : Int32))])) (fun T A t r => XS.iloadN A hx rfl (hb hby d_jdk_43_m_23_4) rfl r) ?_
  refine Go.sp (g' := (mkF m 7 #[.val (.ref t1), .val (.int (64 : Int32)), .val (.int (0 : Int32)), .val (.int (Int32.ofNat cs.length)), .val (.int (64 : Int32)), .val (.int (0 : Int32))] [])) (fun T A t r => XS.istore A hx rfl (hb hby d_jdk_43_m_23_5) rfl (l' := #[.val (.ref t1), .val (.int (64 : Int32)), .val (.int (0 : Int32)), .val (.int (Int32.ofNat cs.length)), .val (.int (64 : Int32)), .val (.int (0 : Int32))]) rfl r) ?_
  have LP : ∀ (d j : Nat), j + d = i → Go "java/lang/StringLatin1" p l e ({ frames := 0, cells := 0, slots := 0, locals := 0 } : Room) s m #[(.ref t1), (.int (64 : Int32)), (.int (0 : Int32)), (.int (Int32.ofNat cs.length))] below meth c Z n0 h0 [] (fun v h => v = some (.int (Int32.ofNat i)) ∧ h = h0) 0 0 h0 (mkF m 7 #[.val (.ref t1), .val (.int (64 : Int32)), .val (.int (0 : Int32)), .val (.int (Int32.ofNat cs.length)), .val (.int (64 : Int32)), .val (.int (Int32.ofNat j))] []) := by
    intro d
    induction d with
    | zero =>
      intro j hj
      obtain rfl : j = i := by omega
      refine Go.sp (g' := (mkF m 9 #[.val (.ref t1), .val (.int (64 : Int32)), .val (.int (0 : Int32)), .val (.int (Int32.ofNat cs.length)), .val (.int (64 : Int32)), .val (.int (Int32.ofNat j))] [(.int (Int32.ofNat j))])) (fun T A t r => XS.iload A hx rfl (hb hby d_jdk_43_m_23_7) rfl r) ?_
      refine Go.sp (g' := (mkF m 10 #[.val (.ref t1), .val (.int (64 : Int32)), .val (.int (0 : Int32)), .val (.int (Int32.ofNat cs.length)), .val (.int (64 : Int32)), .val (.int (Int32.ofNat j))] [(.int (Int32.ofNat cs.length)), (.int (Int32.ofNat j))])) (fun T A t r => XS.iloadN A hx rfl (hb hby d_jdk_43_m_23_9) rfl r) ?_
      refine Go.sp (g' := (mkF m 13 #[.val (.ref t1), .val (.int (64 : Int32)), .val (.int (0 : Int32)), .val (.int (Int32.ofNat cs.length)), .val (.int (64 : Int32)), .val (.int (Int32.ofNat j))] [])) (fun T A t r => XS.icmpNo A hx rfl (hb hby d_jdk_43_m_23_10) rfl (tlt (own_jlt (show j < cs.length by omega) l2)).2.1 r) ?_
      refine Go.sp (g' := (mkF m 14 #[.val (.ref t1), .val (.int (64 : Int32)), .val (.int (0 : Int32)), .val (.int (Int32.ofNat cs.length)), .val (.int (64 : Int32)), .val (.int (Int32.ofNat j))] [(.ref t1)])) (fun T A t r => XS.aloadN A hx rfl (hb hby d_jdk_43_m_23_13) rfl rfl r) ?_
      refine Go.sp (g' := (mkF m 16 #[.val (.ref t1), .val (.int (64 : Int32)), .val (.int (0 : Int32)), .val (.int (Int32.ofNat cs.length)), .val (.int (64 : Int32)), .val (.int (Int32.ofNat j))] [(.int (Int32.ofNat j)), (.ref t1)])) (fun T A t r => XS.iload A hx rfl (hb hby d_jdk_43_m_23_14) rfl r) ?_
      refine Go.r (g' := (mkF m 17 #[.val (.ref t1), .val (.int (64 : Int32)), .val (.int (0 : Int32)), .val (.int (Int32.ofNat cs.length)), .val (.int (64 : Int32)), .val (.int (Int32.ofNat j))] [(.int (cs.getD j 0).toInt8.toInt32)])) (fun s' T L X eT hZ t r => own_ldB X hx hZ eT B1 (j := (Int32.ofNat j)) (own_jin (show j < cs.length by omega) l2) (v := (.int (cs.getD j 0).toInt8.toInt32)) (own_jv (show j < cs.length by omega) l2) (g := (mkF m 16 #[.val (.ref t1), .val (.int (64 : Int32)), .val (.int (0 : Int32)), .val (.int (Int32.ofNat cs.length)), .val (.int (64 : Int32)), .val (.int (Int32.ofNat j))] [(.int (Int32.ofNat j)), (.ref t1)])) rfl rfl (hb hby d_jdk_43_m_23_16) t r) ?_
      refine Go.sp (g' := (mkF m 19 #[.val (.ref t1), .val (.int (64 : Int32)), .val (.int (0 : Int32)), .val (.int (Int32.ofNat cs.length)), .val (.int (64 : Int32)), .val (.int (Int32.ofNat j))] [(.int (64 : Int32)), (.int (cs.getD j 0).toInt8.toInt32)])) (fun T A t r => XS.iload A hx rfl (hb hby d_jdk_43_m_23_17) rfl r) ?_
      refine Go.sp (g' := (mkF m 22 #[.val (.ref t1), .val (.int (64 : Int32)), .val (.int (0 : Int32)), .val (.int (Int32.ofNat cs.length)), .val (.int (64 : Int32)), .val (.int (Int32.ofNat j))] [])) (fun T A t r => XS.icmpNo A hx rfl (hb hby d_jdk_43_m_23_19) rfl (teq (by rw [hat]; rfl)).2 r) ?_
      refine Go.sp (g' := (mkF m 24 #[.val (.ref t1), .val (.int (64 : Int32)), .val (.int (0 : Int32)), .val (.int (Int32.ofNat cs.length)), .val (.int (64 : Int32)), .val (.int (Int32.ofNat j))] [(.int (Int32.ofNat j))])) (fun T A t r => XS.iload A hx rfl (hb hby d_jdk_43_m_23_22) rfl r) ?_
      exact Go.ret (v := (some (.int (Int32.ofNat j)))) (fun s' T L fs X hr => retI X hx hret (hb hby d_jdk_43_m_23_24) hr) (fun h => by rw [hret] at h; cases h) (by decide) (by decide) ⟨rfl, rfl⟩
    | succ d ih =>
      intro j hj
      refine Go.sp (g' := (mkF m 9 #[.val (.ref t1), .val (.int (64 : Int32)), .val (.int (0 : Int32)), .val (.int (Int32.ofNat cs.length)), .val (.int (64 : Int32)), .val (.int (Int32.ofNat j))] [(.int (Int32.ofNat j))])) (fun T A t r => XS.iload A hx rfl (hb hby d_jdk_43_m_23_7) rfl r) ?_
      refine Go.sp (g' := (mkF m 10 #[.val (.ref t1), .val (.int (64 : Int32)), .val (.int (0 : Int32)), .val (.int (Int32.ofNat cs.length)), .val (.int (64 : Int32)), .val (.int (Int32.ofNat j))] [(.int (Int32.ofNat cs.length)), (.int (Int32.ofNat j))])) (fun T A t r => XS.iloadN A hx rfl (hb hby d_jdk_43_m_23_9) rfl r) ?_
      refine Go.sp (g' := (mkF m 13 #[.val (.ref t1), .val (.int (64 : Int32)), .val (.int (0 : Int32)), .val (.int (Int32.ofNat cs.length)), .val (.int (64 : Int32)), .val (.int (Int32.ofNat j))] [])) (fun T A t r => XS.icmpNo A hx rfl (hb hby d_jdk_43_m_23_10) rfl (tlt (own_jlt (show j < cs.length by omega) l2)).2.1 r) ?_
      refine Go.sp (g' := (mkF m 14 #[.val (.ref t1), .val (.int (64 : Int32)), .val (.int (0 : Int32)), .val (.int (Int32.ofNat cs.length)), .val (.int (64 : Int32)), .val (.int (Int32.ofNat j))] [(.ref t1)])) (fun T A t r => XS.aloadN A hx rfl (hb hby d_jdk_43_m_23_13) rfl rfl r) ?_
      refine Go.sp (g' := (mkF m 16 #[.val (.ref t1), .val (.int (64 : Int32)), .val (.int (0 : Int32)), .val (.int (Int32.ofNat cs.length)), .val (.int (64 : Int32)), .val (.int (Int32.ofNat j))] [(.int (Int32.ofNat j)), (.ref t1)])) (fun T A t r => XS.iload A hx rfl (hb hby d_jdk_43_m_23_14) rfl r) ?_
      refine Go.r (g' := (mkF m 17 #[.val (.ref t1), .val (.int (64 : Int32)), .val (.int (0 : Int32)), .val (.int (Int32.ofNat cs.length)), .val (.int (64 : Int32)), .val (.int (Int32.ofNat j))] [(.int (cs.getD j 0).toInt8.toInt32)])) (fun s' T L X eT hZ t r => own_ldB X hx hZ eT B1 (j := (Int32.ofNat j)) (own_jin (show j < cs.length by omega) l2) (v := (.int (cs.getD j 0).toInt8.toInt32)) (own_jv (show j < cs.length by omega) l2) (g := (mkF m 16 #[.val (.ref t1), .val (.int (64 : Int32)), .val (.int (0 : Int32)), .val (.int (Int32.ofNat cs.length)), .val (.int (64 : Int32)), .val (.int (Int32.ofNat j))] [(.int (Int32.ofNat j)), (.ref t1)])) rfl rfl (hb hby d_jdk_43_m_23_16) t r) ?_
      refine Go.sp (g' := (mkF m 19 #[.val (.ref t1), .val (.int (64 : Int32)), .val (.int (0 : Int32)), .val (.int (Int32.ofNat cs.length)), .val (.int (64 : Int32)), .val (.int (Int32.ofNat j))] [(.int (64 : Int32)), (.int (cs.getD j 0).toInt8.toInt32)])) (fun T A t r => XS.iload A hx rfl (hb hby d_jdk_43_m_23_17) rfl r) ?_
      refine Go.sp (g' := (mkF m 25 #[.val (.ref t1), .val (.int (64 : Int32)), .val (.int (0 : Int32)), .val (.int (Int32.ofNat cs.length)), .val (.int (64 : Int32)), .val (.int (Int32.ofNat j))] [])) (fun T A t r => XS.icmpYes A hx rfl (pc0 := 19) (pc' := 25) rfl (hb hby d_jdk_43_m_23_19) rfl (feq (own_jne (show j < cs.length by omega) hp (hno j (by omega)))).2 (by decide) (by decide) r) ?_
      refine Go.sp (g' := (mkF m 28 #[.val (.ref t1), .val (.int (64 : Int32)), .val (.int (0 : Int32)), .val (.int (Int32.ofNat cs.length)), .val (.int (64 : Int32)), .val (.int ((Int32.ofNat j) + (1 : Int32)))] [])) (fun T A t r => XS.iinc A hx rfl (hb hby d_jdk_43_m_23_25) rfl (l' := #[.val (.ref t1), .val (.int (64 : Int32)), .val (.int (0 : Int32)), .val (.int (Int32.ofNat cs.length)), .val (.int (64 : Int32)), .val (.int ((Int32.ofNat j) + (1 : Int32)))]) rfl r) ?_
      refine Go.sp (g' := (mkF m 7 #[.val (.ref t1), .val (.int (64 : Int32)), .val (.int (0 : Int32)), .val (.int (Int32.ofNat cs.length)), .val (.int (64 : Int32)), .val (.int ((Int32.ofNat j) + (1 : Int32)))] [])) (fun T A t r => XS.goto A hx rfl (pc0 := 28) (pc' := 7) rfl (hb hby d_jdk_43_m_23_28) (by decide) (by decide) r) ?_
      refine Go.cast (g' := (mkF m 7 #[.val (.ref t1), .val (.int (64 : Int32)), .val (.int (0 : Int32)), .val (.int (Int32.ofNat cs.length)), .val (.int (64 : Int32)), .val (.int (Int32.ofNat (j + 1)))] [])) (by rw [own_succ]) ?_
      exact ih (j + 1) (by omega)
  exact LP i 0 (by omega)
theorem ef_rmX3 (m : MethodId) (x0 : Addr) (x1 : Int32) (x2 : Int32) (x3 : Int32) : entryFrame m #[(.ref x0), (.int x1), (.int x2), (.int x3)] 4 = mkF m 0 #[.val (.ref x0), .val (.int x1), .val (.int x2), .val (.int x3)] [] := by first | (simp [entryFrame, mkF, argsToLocals, Value.category]; done) | rfl
set_option maxRecDepth 65536 in
set_option maxHeartbeats 40000000 in
theorem rmX3 (l : Launch) (Z : State) (a0 : Array Value) (hw : ∀ d ∈ tables_1, d.before a0 Z = true) (wds : List Jvm.Cond) (t1 : Addr) (k1 : ClassId) (cs : List Int32) (i : Nat) (h0 : Heap) (n0 : Nat) (O0 : Old Z n0 h0)  (B1 : Arv Z h0 t1 k1 .byte (Int32.ofNat cs.length) ((cs.map fun c => c.toInt8.toInt32).map Value.int) (.int 0)) (hp : ∀ c ∈ cs, ¬ c < 0 ∧ ¬ (255 : Int32) < c) (l2 : cs.length ≤ 8) (hi : i < cs.length) (hat : cs.getD i 0 = (64 : Int32)) (hno : ∀ j, j < i → ¬ cs.getD j 0 = (64 : Int32)) :
    Ct l Z (⟨"java/lang/StringLatin1", "indexOf", "([BIII)I"⟩ : MethodName) jdk_43_method_22_code 4 (some .int) wds ({ frames := 1, cells := 0, slots := 0, locals := 17 } : Room) #[(.ref t1), (.int (64 : Int32)), (.int (0 : Int32)), (.int (Int32.ofNat cs.length))] n0 h0 [] (fun v h => v = some (.int (Int32.ofNat i)) ∧ h = h0) := by
  refine Ct.of (plainFor_of_name pn_java_lang_StringLatin1) O0 all0 ?_
  intro p e s m below meth c hx hby hml hret hnm
  refine Go.cast (ef_rmX3 m t1 (64 : Int32) (0 : Int32) (Int32.ofNat cs.length)) ?_
  refine Go.sp (g' := (mkF m 1 #[.val (.ref t1), .val (.int (64 : Int32)), .val (.int (0 : Int32)), .val (.int (Int32.ofNat cs.length))] [(.int (64 : Int32))])) (fun T A t r => XS.iloadN A hx rfl (hb hby d_jdk_43_m_22_0) rfl r) ?_
  refine Go.callSP (W := 0) (y := (⟨"java/lang/StringLatin1", "canEncode", "(I)Z"⟩ : MethodName)) (argsL := [(.int (64 : Int32))]) (rest := []) (pc' := 4) (hb hby d_jdk_43_m_22_1) (own_w hw 68 rfl) (own_w hw 69 rfl) (own_w hw 66 rfl) (own_w hw 70 rfl) (by decide) (fun s' hZ => Ct.bk (rmCE l Z a0 hw [] h0 n0 O0) hZ (own_w hw 70 rfl) (own_w hw 66 rfl) (by decide) (by decide)) (by rw [hml]; rfl) (lenOf pd_0 rfl) rfl (Nat.le_of_ble_eq_true rfl) rfl (by decide) (by decide) ?_
  rintro v11 rfl
  refine Go.cast (g' := (mkF m 4 #[.val (.ref t1), .val (.int (64 : Int32)), .val (.int (0 : Int32)), .val (.int (Int32.ofNat cs.length))] [(.int (1 : Int32))])) rfl ?_
  refine Go.sp (g' := (mkF m 9 #[.val (.ref t1), .val (.int (64 : Int32)), .val (.int (0 : Int32)), .val (.int (Int32.ofNat cs.length))] [])) (fun T A t r => XS.ifYes A hx rfl (pc0 := 4) (pc' := 9) rfl (hb hby d_jdk_43_m_22_4) rfl ((if0 _ _).trans (feq (by decide : ¬ ((1 : Int32) = (0 : Int32)))).2) (by decide) (by decide) r) ?_
  refine Go.sp (g' := (mkF m 10 #[.val (.ref t1), .val (.int (64 : Int32)), .val (.int (0 : Int32)), .val (.int (Int32.ofNat cs.length))] [(.int (0 : Int32))])) (fun T A t r => XS.iloadN A hx rfl (hb hby d_jdk_43_m_22_9) rfl r) ?_
  refine Go.sp (g' := (mkF m 11 #[.val (.ref t1), .val (.int (64 : Int32)), .val (.int (0 : Int32)), .val (.int (Int32.ofNat cs.length))] [(.int (0 : Int32)), (.int (0 : Int32))])) (fun T A t r => XS.iconst A hx rfl (hb hby d_jdk_43_m_22_10) r) ?_
  refine Go.callSP (W := 0) (y := (⟨"java/lang/Math", "max", "(II)I"⟩ : MethodName)) (argsL := [(.int (0 : Int32)), (.int (0 : Int32))]) (rest := []) (pc' := 14) (hb hby d_jdk_43_m_22_11) (own_w hw 71 rfl) (own_w hw 72 rfl) (own_w hw 73 rfl) (own_w hw 74 rfl) (by decide) (fun s' hZ => Ct.bk (rmMX l Z a0 hw [] (0 : Int32) (0 : Int32) h0 n0 O0 (by decide)) hZ (own_w hw 74 rfl) (own_w hw 73 rfl) (by decide) (by decide)) (by rw [hml]; rfl) (lenOf pd_1 rfl) rfl (Nat.le_of_ble_eq_true rfl) rfl (by decide) (by decide) ?_
  rintro v12 rfl
  refine Go.cast (g' := (mkF m 14 #[.val (.ref t1), .val (.int (64 : Int32)), .val (.int (0 : Int32)), .val (.int (Int32.ofNat cs.length))] [(.int (0 : Int32))])) rfl ?_
  refine Go.sp (g' := (mkF m 15 #[.val (.ref t1), .val (.int (64 : Int32)), .val (.int (0 : Int32)), .val (.int (Int32.ofNat cs.length))] [])) (fun T A t r => XS.istoreN A hx rfl (hb hby d_jdk_43_m_22_14) rfl (l' := #[.val (.ref t1), .val (.int (64 : Int32)), .val (.int (0 : Int32)), .val (.int (Int32.ofNat cs.length))]) rfl r) ?_
  refine Go.sp (g' := (mkF m 16 #[.val (.ref t1), .val (.int (64 : Int32)), .val (.int (0 : Int32)), .val (.int (Int32.ofNat cs.length))] [(.int (Int32.ofNat cs.length))])) (fun T A t r => XS.iloadN A hx rfl (hb hby d_jdk_43_m_22_15) rfl r) ?_
  refine Go.sp (g' := (mkF m 17 #[.val (.ref t1), .val (.int (64 : Int32)), .val (.int (0 : Int32)), .val (.int (Int32.ofNat cs.length))] [(.ref t1), (.int (Int32.ofNat cs.length))])) (fun T A t r => XS.aloadN A hx rfl (hb hby d_jdk_43_m_22_16) rfl rfl r) ?_
  refine Go.r (g' := (mkF m 18 #[.val (.ref t1), .val (.int (64 : Int32)), .val (.int (0 : Int32)), .val (.int (Int32.ofNat cs.length))] [(.int (Int32.ofNat cs.length)), (.int (Int32.ofNat cs.length))])) (fun s' T L X eT hZ t r => own_len X hx hZ eT B1 (g := (mkF m 17 #[.val (.ref t1), .val (.int (64 : Int32)), .val (.int (0 : Int32)), .val (.int (Int32.ofNat cs.length))] [(.ref t1), (.int (Int32.ofNat cs.length))])) rfl rfl (hb hby d_jdk_43_m_22_17) t r) ?_
  refine Go.callSP (W := 0) (y := (⟨"java/lang/Math", "min", "(II)I"⟩ : MethodName)) (argsL := [(.int (Int32.ofNat cs.length)), (.int (Int32.ofNat cs.length))]) (rest := []) (pc' := 21) (hb hby d_jdk_43_m_22_18) (own_w hw 75 rfl) (own_w hw 76 rfl) (own_w hw 73 rfl) (own_w hw 77 rfl) (by decide) (fun s' hZ => Ct.bk (rmMN l Z a0 hw [] (Int32.ofNat cs.length) (Int32.ofNat cs.length) h0 n0 O0 Int32.lt_irrefl) hZ (own_w hw 77 rfl) (own_w hw 73 rfl) (by decide) (by decide)) (by rw [hml]; rfl) (lenOf pd_1 rfl) rfl (Nat.le_of_ble_eq_true rfl) rfl (by decide) (by decide) ?_
  rintro v13 rfl
  refine Go.cast (g' := (mkF m 21 #[.val (.ref t1), .val (.int (64 : Int32)), .val (.int (0 : Int32)), .val (.int (Int32.ofNat cs.length))] [(.int (Int32.ofNat cs.length))])) rfl ?_
  refine Go.sp (g' := (mkF m 22 #[.val (.ref t1), .val (.int (64 : Int32)), .val (.int (0 : Int32)), .val (.int (Int32.ofNat cs.length))] [])) (fun T A t r => XS.istoreN A hx rfl (hb hby d_jdk_43_m_22_21) rfl (l' := #[.val (.ref t1), .val (.int (64 : Int32)), .val (.int (0 : Int32)), .val (.int (Int32.ofNat cs.length))]) rfl r) ?_
  refine Go.sp (g' := (mkF m 23 #[.val (.ref t1), .val (.int (64 : Int32)), .val (.int (0 : Int32)), .val (.int (Int32.ofNat cs.length))] [(.int (0 : Int32))])) (fun T A t r => XS.iloadN A hx rfl (hb hby d_jdk_43_m_22_22) rfl r) ?_
  refine Go.sp (g' := (mkF m 24 #[.val (.ref t1), .val (.int (64 : Int32)), .val (.int (0 : Int32)), .val (.int (Int32.ofNat cs.length))] [(.int (Int32.ofNat cs.length)), (.int (0 : Int32))])) (fun T A t r => XS.iloadN A hx rfl (hb hby d_jdk_43_m_22_23) rfl r) ?_
  refine Go.sp (g' := (mkF m 29 #[.val (.ref t1), .val (.int (64 : Int32)), .val (.int (0 : Int32)), .val (.int (Int32.ofNat cs.length))] [])) (fun T A t r => XS.icmpYes A hx rfl (pc0 := 24) (pc' := 29) rfl (hb hby d_jdk_43_m_22_24) rfl (tlt (own_jlt (j := 0) (show 0 < cs.length by omega) l2)).1 (by decide) (by decide) r) ?_
  refine Go.sp (g' := (mkF m 30 #[.val (.ref t1), .val (.int (64 : Int32)), .val (.int (0 : Int32)), .val (.int (Int32.ofNat cs.length))] [(.ref t1)])) (fun T A t r => XS.aloadN A hx rfl (hb hby d_jdk_43_m_22_29) rfl rfl r) ?_
  refine Go.sp (g' := (mkF m 31 #[.val (.ref t1), .val (.int (64 : Int32)), .val (.int (0 : Int32)), .val (.int (Int32.ofNat cs.length))] [(.int (64 : Int32)), (.ref t1)])) (fun T A t r => XS.iloadN A hx rfl (hb hby d_jdk_43_m_22_30) rfl r) ?_
  refine Go.sp (g' := (mkF m 32 #[.val (.ref t1), .val (.int (64 : Int32)), .val (.int (0 : Int32)), .val (.int (Int32.ofNat cs.length))] [(.int (0 : Int32)), (.int (64 : Int32)), (.ref t1)])) (fun T A t r => XS.iloadN A hx rfl (hb hby d_jdk_43_m_22_31) rfl r) ?_
  refine Go.sp (g' := (mkF m 33 #[.val (.ref t1), .val (.int (64 : Int32)), .val (.int (0 : Int32)), .val (.int (Int32.ofNat cs.length))] [(.int (Int32.ofNat cs.length)), (.int (0 : Int32)), (.int (64 : Int32)), (.ref t1)])) (fun T A t r => XS.iloadN A hx rfl (hb hby d_jdk_43_m_22_32) rfl r) ?_
  refine Go.callSP (W := 0) (y := (⟨"java/lang/StringLatin1", "indexOfChar", "([BIII)I"⟩ : MethodName)) (argsL := [(.ref t1), (.int (64 : Int32)), (.int (0 : Int32)), (.int (Int32.ofNat cs.length))]) (rest := []) (pc' := 36) (hb hby d_jdk_43_m_22_33) (own_w hw 78 rfl) (own_w hw 79 rfl) (own_w hw 66 rfl) (own_w hw 80 rfl) (by decide) (fun s' hZ => Ct.bk (rmX4 l Z a0 hw [] t1 k1 cs i h0 n0 O0 B1 hp l2 hi hat hno) hZ (own_w hw 80 rfl) (own_w hw 66 rfl) (by decide) (by decide)) (by rw [hml]; rfl) (lenOf pd_2 rfl) rfl (Nat.le_of_ble_eq_true rfl) rfl (by decide) (by decide) ?_
  rintro v14 rfl
  refine Go.cast (g' := (mkF m 36 #[.val (.ref t1), .val (.int (64 : Int32)), .val (.int (0 : Int32)), .val (.int (Int32.ofNat cs.length))] [(.int (Int32.ofNat i))])) rfl ?_
  exact Go.ret (v := (some (.int (Int32.ofNat i)))) (fun s' T L fs X hr => retI X hx hret (hb hby d_jdk_43_m_22_36) hr) (fun h => by rw [hret] at h; cases h) (by decide) (by decide) ⟨rfl, rfl⟩
theorem ef_rmX2 (m : MethodId) (x0 : Addr) (x1 : Int32) (x2 : Int32) : entryFrame m #[(.ref x0), (.int x1), (.int x2)] 3 = mkF m 0 #[.val (.ref x0), .val (.int x1), .val (.int x2)] [] := by first | (simp [entryFrame, mkF, argsToLocals, Value.category]; done) | rfl
set_option maxRecDepth 65536 in
set_option maxHeartbeats 40000000 in
theorem rmX2 (l : Launch) (Z : State) (a0 : Array Value) (hw : ∀ d ∈ tables_1, d.before a0 Z = true) (wds : List Jvm.Cond) (a1 : Addr) (t1 : Addr) (k1 : ClassId) (cs : List Int32) (i : Nat) (zS : Int32) (h0 : Heap) (n0 : Nat) (O0 : Old Z n0 h0)  (E1 : Exa Z h0 a1 "java/lang/String") (C1 : Fld Z h0 a1 "java/lang/String" "coder" "B" (.int 0)) (V1 : Fld Z h0 a1 "java/lang/String" "value" "[B" (.ref t1)) (B1 : Arv Z h0 t1 k1 .byte (Int32.ofNat cs.length) ((cs.map fun c => c.toInt8.toInt32).map Value.int) (.int 0)) (hp : ∀ c ∈ cs, ¬ c < 0 ∧ ¬ (255 : Int32) < c) (l2 : cs.length ≤ 8) (hi : i < cs.length) (hat : cs.getD i 0 = (64 : Int32)) (hno : ∀ j, j < i → ¬ cs.getD j 0 = (64 : Int32)) (S0 : Sta Z Z.heap "java/lang/String" "COMPACT_STRINGS" "Z" (.int zS)) (P0 : ¬ zS = (0 : Int32)) :
    Ct l Z (⟨"java/lang/String", "indexOf", "(II)I"⟩ : MethodName) jdk_42_method_80_code 3 (some .int) wds ({ frames := 2, cells := 0, slots := 0, locals := 32 } : Room) #[(.ref a1), (.int (64 : Int32)), (.int (0 : Int32))] n0 h0 [] (fun v h => v = some (.int (Int32.ofNat i)) ∧ h = h0) := by
  refine Ct.of (plainFor_of_name pn_java_lang_String) O0 all0 ?_
  intro p e s m below meth c hx hby hml hret hnm
  refine Go.cast (ef_rmX2 m a1 (64 : Int32) (0 : Int32)) ?_
  refine Go.sp (g' := (mkF m 1 #[.val (.ref a1), .val (.int (64 : Int32)), .val (.int (0 : Int32))] [(.ref a1)])) (fun T A t r => XS.aloadN A hx rfl (hb hby d_jdk_42_m_80_0) rfl rfl r) ?_
  refine Go.callVP (a := a1) (z := (⟨"java/lang/String", "isLatin1", "()Z"⟩ : MethodName)) (W := 0) (y := (⟨"java/lang/String", "isLatin1", "()Z"⟩ : MethodName)) (argsL := []) (rest := []) (pc' := 4) (hb hby d_jdk_42_m_80_1) (own_w hw 49 rfl) (own_w hw 50 rfl) (fun s' hZ => notFace_of_selects (args := #[]) (mvT hZ (own_w hw 52 rfl))) (own_w hw 52 rfl) (own_w hw 51 rfl) (by decide) (fun s' hZ => Ct.bk (rmIL l Z a0 hw [] a1 zS h0 n0 O0 C1 S0 P0) hZ (own_w hw 53 rfl) (own_w hw 8 rfl) (by decide) (by decide)) E1 (by rw [hml]; rfl) (lenOf pd_3 rfl) rfl (Nat.le_of_ble_eq_true rfl) rfl (by decide) (by decide) ?_
  rintro v11 rfl
  refine Go.cast (g' := (mkF m 4 #[.val (.ref a1), .val (.int (64 : Int32)), .val (.int (0 : Int32))] [(.int (1 : Int32))])) rfl ?_
  refine Go.sp (g' := (mkF m 7 #[.val (.ref a1), .val (.int (64 : Int32)), .val (.int (0 : Int32))] [])) (fun T A t r => XS.ifNo A hx rfl (hb hby d_jdk_42_m_80_4) rfl ((if0 _ _).trans (feq (by decide : ¬ ((1 : Int32) = (0 : Int32)))).1) r) ?_
  refine Go.sp (g' := (mkF m 8 #[.val (.ref a1), .val (.int (64 : Int32)), .val (.int (0 : Int32))] [(.ref a1)])) (fun T A t r => XS.aloadN A hx rfl (hb hby d_jdk_42_m_80_7) rfl rfl r) ?_
  refine Go.v (g' := (mkF m 11 #[.val (.ref a1), .val (.int (64 : Int32)), .val (.int (0 : Int32))] [(.ref t1)])) (fun s' T L X eT hZ hown => getF X hx hZ hown (host := "") (Or.inl (own_w hw 33 rfl)) Via.refl eT V1 (g := (mkF m 8 #[.val (.ref a1), .val (.int (64 : Int32)), .val (.int (0 : Int32))] [(.ref a1)])) rfl rfl (hb hby d_jdk_42_m_80_8)) ?_
  refine Go.sp (g' := (mkF m 12 #[.val (.ref a1), .val (.int (64 : Int32)), .val (.int (0 : Int32))] [(.int (64 : Int32)), (.ref t1)])) (fun T A t r => XS.iloadN A hx rfl (hb hby d_jdk_42_m_80_11) rfl r) ?_
  refine Go.sp (g' := (mkF m 13 #[.val (.ref a1), .val (.int (64 : Int32)), .val (.int (0 : Int32))] [(.int (0 : Int32)), (.int (64 : Int32)), (.ref t1)])) (fun T A t r => XS.iloadN A hx rfl (hb hby d_jdk_42_m_80_12) rfl r) ?_
  refine Go.sp (g' := (mkF m 14 #[.val (.ref a1), .val (.int (64 : Int32)), .val (.int (0 : Int32))] [(.ref a1), (.int (0 : Int32)), (.int (64 : Int32)), (.ref t1)])) (fun T A t r => XS.aloadN A hx rfl (hb hby d_jdk_42_m_80_13) rfl rfl r) ?_
  refine Go.old fun O12 => ?_
  refine Go.callVP (a := a1) (z := (⟨"java/lang/String", "length", "()I"⟩ : MethodName)) (W := 3) (y := (⟨"java/lang/String", "length", "()I"⟩ : MethodName)) (argsL := []) (rest := [(.int (0 : Int32)), (.int (64 : Int32)), (.ref t1)]) (pc' := 17) (hb hby d_jdk_42_m_80_14) (own_w hw 54 rfl) (own_w hw 55 rfl) (fun s' hZ => notFace_of_selects (args := #[]) (mvT hZ (own_w hw 57 rfl))) (own_w hw 57 rfl) (own_w hw 56 rfl) (by decide) (fun s' hZ => Bk.pure (StrChars.Road.lenW (kI := 4) (cs := cs) hZ (own_lenw hw) (own_w hw 7 rfl) E1 V1 C1 B1 (own_cod rfl hp) (own_up hp) (S0.ext O12.2) P0 (Nat.le_trans l2 (by decide)) (by decide) (by decide))) E1 (by rw [hml]; rfl) (lenOf pd_4 rfl) rfl (Nat.le_of_ble_eq_true rfl) rfl (by decide) (by decide) ?_
  rintro v13 rfl
  refine Go.cast (g' := (mkF m 17 #[.val (.ref a1), .val (.int (64 : Int32)), .val (.int (0 : Int32))] [(.int (Int32.ofNat cs.length)), (.int (0 : Int32)), (.int (64 : Int32)), (.ref t1)])) rfl ?_
  refine Go.callSP (W := 0) (y := (⟨"java/lang/StringLatin1", "indexOf", "([BIII)I"⟩ : MethodName)) (argsL := [(.ref t1), (.int (64 : Int32)), (.int (0 : Int32)), (.int (Int32.ofNat cs.length))]) (rest := []) (pc' := 20) (hb hby d_jdk_42_m_80_17) (own_w hw 64 rfl) (own_w hw 65 rfl) (own_w hw 66 rfl) (own_w hw 67 rfl) (by decide) (fun s' hZ => Ct.bk (rmX3 l Z a0 hw [] t1 k1 cs i h0 n0 O0 B1 hp l2 hi hat hno) hZ (own_w hw 67 rfl) (own_w hw 66 rfl) (by decide) (by decide)) (by rw [hml]; rfl) (lenOf pd_2 rfl) rfl (Nat.le_of_ble_eq_true rfl) rfl (by decide) (by decide) ?_
  rintro v14 rfl
  refine Go.cast (g' := (mkF m 20 #[.val (.ref a1), .val (.int (64 : Int32)), .val (.int (0 : Int32))] [(.int (Int32.ofNat i))])) rfl ?_
  refine Go.sp (g' := (mkF m 36 #[.val (.ref a1), .val (.int (64 : Int32)), .val (.int (0 : Int32))] [(.int (Int32.ofNat i))])) (fun T A t r => XS.goto A hx rfl (pc0 := 20) (pc' := 36) rfl (hb hby d_jdk_42_m_80_20) (by decide) (by decide) r) ?_
  exact Go.ret (v := (some (.int (Int32.ofNat i)))) (fun s' T L fs X hr => retI X hx hret (hb hby d_jdk_42_m_80_36) hr) (fun h => by rw [hret] at h; cases h) (by decide) (by decide) ⟨rfl, rfl⟩
theorem ef_rmX1 (m : MethodId) (x0 : Addr) (x1 : Int32) : entryFrame m #[(.ref x0), (.int x1)] 2 = mkF m 0 #[.val (.ref x0), .val (.int x1)] [] := by first | (simp [entryFrame, mkF, argsToLocals, Value.category]; done) | rfl
set_option maxRecDepth 65536 in
set_option maxHeartbeats 40000000 in
theorem rmX1 (l : Launch) (Z : State) (a0 : Array Value) (hw : ∀ d ∈ tables_1, d.before a0 Z = true) (wds : List Jvm.Cond) (a1 : Addr) (t1 : Addr) (k1 : ClassId) (cs : List Int32) (i : Nat) (zS : Int32) (h0 : Heap) (n0 : Nat) (O0 : Old Z n0 h0)  (E1 : Exa Z h0 a1 "java/lang/String") (C1 : Fld Z h0 a1 "java/lang/String" "coder" "B" (.int 0)) (V1 : Fld Z h0 a1 "java/lang/String" "value" "[B" (.ref t1)) (B1 : Arv Z h0 t1 k1 .byte (Int32.ofNat cs.length) ((cs.map fun c => c.toInt8.toInt32).map Value.int) (.int 0)) (hp : ∀ c ∈ cs, ¬ c < 0 ∧ ¬ (255 : Int32) < c) (l2 : cs.length ≤ 8) (hi : i < cs.length) (hat : cs.getD i 0 = (64 : Int32)) (hno : ∀ j, j < i → ¬ cs.getD j 0 = (64 : Int32)) (S0 : Sta Z Z.heap "java/lang/String" "COMPACT_STRINGS" "Z" (.int zS)) (P0 : ¬ zS = (0 : Int32)) :
    Ct l Z (⟨"java/lang/String", "indexOf", "(I)I"⟩ : MethodName) jdk_42_method_79_code 2 (some .int) wds ({ frames := 3, cells := 0, slots := 0, locals := 46 } : Room) #[(.ref a1), (.int (64 : Int32))] n0 h0 [] (fun v h => v = some (.int (Int32.ofNat i)) ∧ h = h0) := by
  refine Ct.of (plainFor_of_name pn_java_lang_String) O0 all0 ?_
  intro p e s m below meth c hx hby hml hret hnm
  refine Go.cast (ef_rmX1 m a1 (64 : Int32)) ?_
  refine Go.sp (g' := (mkF m 1 #[.val (.ref a1), .val (.int (64 : Int32))] [(.ref a1)])) (fun T A t r => XS.aloadN A hx rfl (hb hby d_jdk_42_m_79_0) rfl rfl r) ?_
  refine Go.sp (g' := (mkF m 2 #[.val (.ref a1), .val (.int (64 : Int32))] [(.int (64 : Int32)), (.ref a1)])) (fun T A t r => XS.iloadN A hx rfl (hb hby d_jdk_42_m_79_1) rfl r) ?_
  refine Go.sp (g' := (mkF m 3 #[.val (.ref a1), .val (.int (64 : Int32))] [(.int (0 : Int32)), (.int (64 : Int32)), (.ref a1)])) (fun T A t r => XS.iconst A hx rfl (hb hby d_jdk_42_m_79_2) r) ?_
  refine Go.callVP (a := a1) (z := (⟨"java/lang/String", "indexOf", "(II)I"⟩ : MethodName)) (W := 0) (y := (⟨"java/lang/String", "indexOf", "(II)I"⟩ : MethodName)) (argsL := [(.int (64 : Int32)), (.int (0 : Int32))]) (rest := []) (pc' := 6) (hb hby d_jdk_42_m_79_3) (own_w hw 44 rfl) (own_w hw 45 rfl) (fun s' hZ => notFace_of_selects (args := #[]) (mvT hZ (own_w hw 47 rfl))) (own_w hw 47 rfl) (own_w hw 46 rfl) (by decide) (fun s' hZ => Ct.bk (rmX2 l Z a0 hw [] a1 t1 k1 cs i zS h0 n0 O0 E1 C1 V1 B1 hp l2 hi hat hno S0 P0) hZ (own_w hw 48 rfl) (own_w hw 8 rfl) (by decide) (by decide)) E1 (by rw [hml]; rfl) (lenOf pd_1 rfl) rfl (Nat.le_of_ble_eq_true rfl) rfl (by decide) (by decide) ?_
  rintro v11 rfl
  refine Go.cast (g' := (mkF m 6 #[.val (.ref a1), .val (.int (64 : Int32))] [(.int (Int32.ofNat i))])) rfl ?_
  exact Go.ret (v := (some (.int (Int32.ofNat i)))) (fun s' T L fs X hr => retI X hx hret (hb hby d_jdk_42_m_79_6) hr) (fun h => by rw [hret] at h; cases h) (by decide) (by decide) ⟨rfl, rfl⟩
theorem ef_rmCF (m : MethodId) (x0 : Int32) (x1 : Int32) (x2 : Int32) (x3 : Value) (h3 : x3.isRef = true) : entryFrame m #[(.int x0), (.int x1), (.int x2), x3] 4 = mkF m 0 #[.val (.int x0), .val (.int x1), .val (.int x2), .val x3] [] := by rcases ref_cases h3 with rfl | ⟨_, rfl⟩ <;> rfl
set_option maxRecDepth 65536 in
set_option maxHeartbeats 40000000 in
theorem rmCF (l : Launch) (Z : State) (a0 : Array Value) (hw : ∀ d ∈ tables_1, d.before a0 Z = true) (wds : List Jvm.Cond) (p1 : Int32) (p2 : Int32) (fm : Value) (h0 : Heap) (n0 : Nat) (O0 : Old Z n0 h0)  (RF : fm.isRef = true) (hc1 : ¬ p1 < 0) (hc2 : ¬ p2 < p1) :
    Ct l Z (⟨"jdk/internal/util/Preconditions", "checkFromToIndex", "(IIILjava/util/function/BiFunction;)I"⟩ : MethodName) jdk_41_method_12_code 4 (some .int) wds ({ frames := 0, cells := 0, slots := 0, locals := 0 } : Room) #[(.int p1), (.int p2), (.int p2), fm] n0 h0 [] (fun v h => v = some (.int p1) ∧ h = h0) := by
  refine Ct.of (plainFor_of_name pn_jdk_internal_util_Preconditions) O0 all0 ?_
  intro p e s m below meth c hx hby hml hret hnm
  refine Go.cast (ef_rmCF m p1 p2 p2 fm RF) ?_
  refine Go.sp (g' := (mkF m 1 #[.val (.int p1), .val (.int p2), .val (.int p2), .val fm] [(.int p1)])) (fun T A t r => XS.iloadN A hx rfl (hb hby d_jdk_41_m_12_0) rfl r) ?_
  refine Go.sp (g' := (mkF m 4 #[.val (.int p1), .val (.int p2), .val (.int p2), .val fm] [])) (fun T A t r => XS.ifNo A hx rfl (hb hby d_jdk_41_m_12_1) rfl ((if0 _ _).trans (flt hc1).1) r) ?_
  refine Go.sp (g' := (mkF m 5 #[.val (.int p1), .val (.int p2), .val (.int p2), .val fm] [(.int p1)])) (fun T A t r => XS.iloadN A hx rfl (hb hby d_jdk_41_m_12_4) rfl r) ?_
  refine Go.sp (g' := (mkF m 6 #[.val (.int p1), .val (.int p2), .val (.int p2), .val fm] [(.int p2), (.int p1)])) (fun T A t r => XS.iloadN A hx rfl (hb hby d_jdk_41_m_12_5) rfl r) ?_
  refine Go.sp (g' := (mkF m 9 #[.val (.int p1), .val (.int p2), .val (.int p2), .val fm] [])) (fun T A t r => XS.icmpNo A hx rfl (hb hby d_jdk_41_m_12_6) rfl (flt hc2).2.2.1 r) ?_
  refine Go.sp (g' := (mkF m 10 #[.val (.int p1), .val (.int p2), .val (.int p2), .val fm] [(.int p2)])) (fun T A t r => XS.iloadN A hx rfl (hb hby d_jdk_41_m_12_9) rfl r) ?_
  refine Go.sp (g' := (mkF m 11 #[.val (.int p1), .val (.int p2), .val (.int p2), .val fm] [(.int p2), (.int p2)])) (fun T A t r => XS.iloadN A hx rfl (hb hby d_jdk_41_m_12_10) rfl r) ?_
  refine Go.sp (g' := (mkF m 22 #[.val (.int p1), .val (.int p2), .val (.int p2), .val fm] [])) (fun T A t r => XS.icmpYes A hx rfl (pc0 := 11) (pc' := 22) rfl (hb hby d_jdk_41_m_12_11) rfl (flt Int32.lt_irrefl).2.2.2 (by decide) (by decide) r) ?_
  refine Go.sp (g' := (mkF m 23 #[.val (.int p1), .val (.int p2), .val (.int p2), .val fm] [(.int p1)])) (fun T A t r => XS.iloadN A hx rfl (hb hby d_jdk_41_m_12_22) rfl r) ?_
  exact Go.ret (v := (some (.int p1))) (fun s' T L fs X hr => retI X hx hret (hb hby d_jdk_41_m_12_23) hr) (fun h => by rw [hret] at h; cases h) (by decide) (by decide) ⟨rfl, rfl⟩
theorem ef_rmCB (m : MethodId) (x0 : Int32) (x1 : Int32) (x2 : Int32) : entryFrame m #[(.int x0), (.int x1), (.int x2)] 3 = mkF m 0 #[.val (.int x0), .val (.int x1), .val (.int x2)] [] := by first | (simp [entryFrame, mkF, argsToLocals, Value.category]; done) | rfl
set_option maxRecDepth 65536 in
set_option maxHeartbeats 40000000 in
theorem rmCB (l : Launch) (Z : State) (a0 : Array Value) (hw : ∀ d ∈ tables_1, d.before a0 Z = true) (wds : List Jvm.Cond) (p1 : Int32) (p2 : Int32) (fm : Value) (h0 : Heap) (n0 : Nat) (O0 : Old Z n0 h0)  (hc1 : ¬ p1 < 0) (hc2 : ¬ p2 < p1) (SF : Sta Z Z.heap "jdk/internal/util/Preconditions" "SIOOBE_FORMATTER" "Ljava/util/function/BiFunction;" fm) (RF : fm.isRef = true) :
    Ct l Z (⟨"java/lang/String", "checkBoundsBeginEnd", "(III)V"⟩ : MethodName) jdk_42_method_158_code 3 none wds ({ frames := 1, cells := 0, slots := 0, locals := 15 } : Room) #[(.int p1), (.int p2), (.int p2)] n0 h0 [] (fun v h => v = none ∧ h = h0) := by
  refine Ct.of (plainFor_of_name pn_java_lang_String) O0 all0 ?_
  intro p e s m below meth c hx hby hml hret hnm
  refine Go.cast (ef_rmCB m p1 p2 p2) ?_
  refine Go.sp (g' := (mkF m 1 #[.val (.int p1), .val (.int p2), .val (.int p2)] [(.int p1)])) (fun T A t r => XS.iloadN A hx rfl (hb hby d_jdk_42_m_158_0) rfl r) ?_
  refine Go.sp (g' := (mkF m 2 #[.val (.int p1), .val (.int p2), .val (.int p2)] [(.int p2), (.int p1)])) (fun T A t r => XS.iloadN A hx rfl (hb hby d_jdk_42_m_158_1) rfl r) ?_
  refine Go.sp (g' := (mkF m 3 #[.val (.int p1), .val (.int p2), .val (.int p2)] [(.int p2), (.int p2), (.int p1)])) (fun T A t r => XS.iloadN A hx rfl (hb hby d_jdk_42_m_158_2) rfl r) ?_
  refine Go.old fun O11 => ?_
  have St12 := Sta.ext O11.2 SF
  refine Go.v (g' := (mkF m 6 #[.val (.int p1), .val (.int p2), .val (.int p2)] [fm, (.int p2), (.int p2), (.int p1)])) (fun s' T L X eT hZ hown => getS2 X hx hZ hown (host := "") (Or.inl (own_w hw 94 rfl)) Via.refl eT St12 (g := (mkF m 3 #[.val (.int p1), .val (.int p2), .val (.int p2)] [(.int p2), (.int p2), (.int p1)])) rfl (hb hby d_jdk_42_m_158_3)) ?_
  refine Go.callSP (W := 0) (y := (⟨"jdk/internal/util/Preconditions", "checkFromToIndex", "(IIILjava/util/function/BiFunction;)I"⟩ : MethodName)) (argsL := [(.int p1), (.int p2), (.int p2), fm]) (rest := []) (pc' := 9) (hb hby d_jdk_42_m_158_6) (own_w hw 96 rfl) (own_w hw 97 rfl) (own_w hw 95 rfl) (own_w hw 98 rfl) (by decide) (fun s' hZ => Ct.bk (rmCF l Z a0 hw [] p1 p2 fm h0 n0 O0 RF hc1 hc2) hZ (own_w hw 98 rfl) (own_w hw 95 rfl) (by decide) (by decide)) (by rw [hml]; rfl) (lenOf pd_5 rfl) rfl (Nat.le_of_ble_eq_true rfl) rfl (by decide) (by decide) ?_
  rintro v13 rfl
  refine Go.cast (g' := (mkF m 9 #[.val (.int p1), .val (.int p2), .val (.int p2)] [(.int p1)])) rfl ?_
  refine Go.sp (g' := (mkF m 10 #[.val (.int p1), .val (.int p2), .val (.int p2)] [])) (fun T A t r => XS.pop A hx rfl (hb hby d_jdk_42_m_158_9) rfl rfl r) ?_
  exact Go.ret (v := none) (fun s' T L fs X hr => X.returnOut hx hret (hb hby d_jdk_42_m_158_10) hr) (fun _ => rfl) (by decide) (by decide) ⟨rfl, rfl⟩
theorem ef_rmCL (m : MethodId) (x0 : Int32) (x1 : Int32) : entryFrame m #[(.int x0), (.int x1)] 2 = mkF m 0 #[.val (.int x0), .val (.int x1)] [] := by first | (simp [entryFrame, mkF, argsToLocals, Value.category]; done) | rfl
set_option maxRecDepth 65536 in
set_option maxHeartbeats 40000000 in
theorem rmCL (l : Launch) (Z : State) (a0 : Array Value) (hw : ∀ d ∈ tables_1, d.before a0 Z = true) (wds : List Jvm.Cond) (p1 : Int32) (p2 : Int32) (h0 : Heap) (n0 : Nat) (O0 : Old Z n0 h0)  (hc2 : ¬ p2 < p1) :
    Ct l Z (⟨"java/util/Arrays", "checkLength", "(II)V"⟩ : MethodName) jdk_65_method_131_code 2 none wds ({ frames := 0, cells := 0, slots := 0, locals := 0 } : Room) #[(.int p1), (.int p2)] n0 h0 [] (fun v h => v = none ∧ h = h0) := by
  refine Ct.of (plainFor_of_name pn_java_util_Arrays) O0 all0 ?_
  intro p e s m below meth c hx hby hml hret hnm
  refine Go.cast (ef_rmCL m p1 p2) ?_
  refine Go.sp (g' := (mkF m 1 #[.val (.int p1), .val (.int p2)] [(.int p2)])) (fun T A t r => XS.iloadN A hx rfl (hb hby d_jdk_65_m_131_0) rfl r) ?_
  refine Go.sp (g' := (mkF m 2 #[.val (.int p1), .val (.int p2)] [(.int p1), (.int p2)])) (fun T A t r => XS.iloadN A hx rfl (hb hby d_jdk_65_m_131_1) rfl r) ?_
  refine Go.sp (g' := (mkF m 37 #[.val (.int p1), .val (.int p2)] [])) (fun T A t r => XS.icmpYes A hx rfl (pc0 := 2) (pc' := 37) rfl (hb hby d_jdk_65_m_131_2) rfl (flt hc2).2.1 (by decide) (by decide) r) ?_
  exact Go.ret (v := none) (fun s' T L fs X hr => X.returnOut hx hret (hb hby d_jdk_65_m_131_37) hr) (fun _ => rfl) (by decide) (by decide) ⟨rfl, rfl⟩
theorem ef_rmRB (m : MethodId) (x0 : Addr) (x1 : Int32) (x2 : Int32) : entryFrame m #[(.ref x0), (.int x1), (.int x2)] 5 = mkF m 0 #[.val (.ref x0), .val (.int x1), .val (.int x2), .unset, .unset] [] := by first | (simp [entryFrame, mkF, argsToLocals, Value.category]; done) | rfl
set_option maxRecDepth 65536 in
set_option maxHeartbeats 40000000 in
theorem rmRB (l : Launch) (Z : State) (a0 : Array Value) (hw : ∀ d ∈ tables_1, d.before a0 Z = true) (wds : List Jvm.Cond) (t1 : Addr) (k1 : ClassId) (cs : List Int32) (n : Nat) (h0 : Heap) (n0 : Nat) (O0 : Old Z n0 h0)  (B1 : Arv Z h0 t1 k1 .byte (Int32.ofNat cs.length) ((cs.map fun c => c.toInt8.toInt32).map Value.int) (.int 0)) (l2 : cs.length ≤ 8) (hn0 : 0 < n) (hn1 : n < cs.length) :
    Ct l Z (⟨"java/util/Arrays", "copyOfRangeByte", "([BII)[B"⟩ : MethodName) jdk_65_method_133_code 5 (some (.array .byte)) wds ({ frames := 1, cells := 1, slots := 8, locals := 40 } : Room) #[(.ref t1), (.int (Int32.ofNat n)), (.int (Int32.ofNat cs.length))] n0 h0 [] (fun v h => ∃ (a : Addr) (kb : ClassId), v = some (.ref a) ∧ h0.size ≤ a ∧ Arv Z h a kb .byte (Int32.ofNat (cs.length - n)) (((cs.drop n).map fun c => c.toInt8.toInt32).map Value.int) (.int 0)) := by
  refine Ct.of (plainFor_of_name pn_java_util_Arrays) O0 all0 ?_
  intro p e s m below meth c hx hby hml hret hnm
  refine Go.cast (ef_rmRB m t1 (Int32.ofNat n) (Int32.ofNat cs.length)) ?_
  refine Go.sp (g' := (mkF m 1 #[.val (.ref t1), .val (.int (Int32.ofNat n)), .val (.int (Int32.ofNat cs.length)), .unset, .unset] [(.int (Int32.ofNat n))])) (fun T A t r => XS.iloadN A hx rfl (hb hby d_jdk_65_m_133_0) rfl r) ?_
  refine Go.sp (g' := (mkF m 2 #[.val (.ref t1), .val (.int (Int32.ofNat n)), .val (.int (Int32.ofNat cs.length)), .unset, .unset] [(.int (Int32.ofNat cs.length)), (.int (Int32.ofNat n))])) (fun T A t r => XS.iloadN A hx rfl (hb hby d_jdk_65_m_133_1) rfl r) ?_
  refine Go.callSP (W := 0) (y := (⟨"java/util/Arrays", "checkLength", "(II)V"⟩ : MethodName)) (argsL := [(.int (Int32.ofNat n)), (.int (Int32.ofNat cs.length))]) (rest := []) (pc' := 5) (hb hby d_jdk_65_m_133_2) (own_w hw 110 rfl) (own_w hw 111 rfl) (own_w hw 105 rfl) (own_w hw 112 rfl) (by decide) (fun s' hZ => Ct.bk (rmCL l Z a0 hw [] (Int32.ofNat n) (Int32.ofNat cs.length) h0 n0 O0 (own_nlt hn1 l2)) hZ (own_w hw 112 rfl) (own_w hw 105 rfl) (by decide) (by decide)) (by rw [hml]; rfl) (lenOf pd_6 rfl) rfl (Nat.le_of_ble_eq_true rfl) rfl (by decide) (by decide) ?_
  rintro v11 rfl
  refine Go.cast (g' := (mkF m 5 #[.val (.ref t1), .val (.int (Int32.ofNat n)), .val (.int (Int32.ofNat cs.length)), .unset, .unset] [])) rfl ?_
  refine Go.sp (g' := (mkF m 6 #[.val (.ref t1), .val (.int (Int32.ofNat n)), .val (.int (Int32.ofNat cs.length)), .unset, .unset] [(.int (Int32.ofNat cs.length))])) (fun T A t r => XS.iloadN A hx rfl (hb hby d_jdk_65_m_133_5) rfl r) ?_
  refine Go.sp (g' := (mkF m 7 #[.val (.ref t1), .val (.int (Int32.ofNat n)), .val (.int (Int32.ofNat cs.length)), .unset, .unset] [(.int (Int32.ofNat n)), (.int (Int32.ofNat cs.length))])) (fun T A t r => XS.iloadN A hx rfl (hb hby d_jdk_65_m_133_6) rfl r) ?_
  refine Go.sp (g' := (mkF m 8 #[.val (.ref t1), .val (.int (Int32.ofNat n)), .val (.int (Int32.ofNat cs.length)), .unset, .unset] [(.int ((Int32.ofNat cs.length) - (Int32.ofNat n)))])) (fun T A t r => XS.isub A hx rfl (hb hby d_jdk_65_m_133_7) rfl r) ?_
  refine Go.cast (g' := (mkF m 8 #[.val (.ref t1), .val (.int (Int32.ofNat n)), .val (.int (Int32.ofNat cs.length)), .unset, .unset] [(.int (Int32.ofNat (cs.length - n)))])) (by rw [show ((Int32.ofNat cs.length) - (Int32.ofNat n)) = (Int32.ofNat (cs.length - n)) from own_sub hn1 l2]) ?_
  refine Go.sp (g' := (mkF m 9 #[.val (.ref t1), .val (.int (Int32.ofNat n)), .val (.int (Int32.ofNat cs.length)), .val (.int (Int32.ofNat (cs.length - n))), .unset] [])) (fun T A t r => XS.istoreN A hx rfl (hb hby d_jdk_65_m_133_8) rfl (l' := #[.val (.ref t1), .val (.int (Int32.ofNat n)), .val (.int (Int32.ofNat cs.length)), .val (.int (Int32.ofNat (cs.length - n))), .unset]) rfl r) ?_
  refine Go.sp (g' := (mkF m 10 #[.val (.ref t1), .val (.int (Int32.ofNat n)), .val (.int (Int32.ofNat cs.length)), .val (.int (Int32.ofNat (cs.length - n))), .unset] [(.int (Int32.ofNat (cs.length - n)))])) (fun T A t r => XS.iloadN A hx rfl (hb hby d_jdk_65_m_133_9) rfl r) ?_
  refine Go.newP (ty := .byte) (dv := (.int (0 : Int32))) (cap := 8) (k' := 1) (n' := 8) (pc' := 12) (hb hby d_jdk_65_m_133_10) rfl rfl (own_w hw 24 rfl) (own_nn (by omega)) (own_cap (by omega)) (by decide) rfl rfl rfl (by decide) (by decide) ?_
  intro b13 h13 k13 g13 sz13 E13 A13
  refine Go.sp (g' := (mkF m 14 #[.val (.ref t1), .val (.int (Int32.ofNat n)), .val (.int (Int32.ofNat cs.length)), .val (.int (Int32.ofNat (cs.length - n))), .val (.ref b13)] [])) (fun T A t r => XS.astore A hx rfl (hb hby d_jdk_65_m_133_12) rfl rfl (l' := #[.val (.ref t1), .val (.int (Int32.ofNat n)), .val (.int (Int32.ofNat cs.length)), .val (.int (Int32.ofNat (cs.length - n))), .val (.ref b13)]) rfl r) ?_
  refine Go.sp (g' := (mkF m 15 #[.val (.ref t1), .val (.int (Int32.ofNat n)), .val (.int (Int32.ofNat cs.length)), .val (.int (Int32.ofNat (cs.length - n))), .val (.ref b13)] [(.ref t1)])) (fun T A t r => XS.aloadN A hx rfl (hb hby d_jdk_65_m_133_14) rfl rfl r) ?_
  refine Go.sp (g' := (mkF m 16 #[.val (.ref t1), .val (.int (Int32.ofNat n)), .val (.int (Int32.ofNat cs.length)), .val (.int (Int32.ofNat (cs.length - n))), .val (.ref b13)] [(.int (Int32.ofNat n)), (.ref t1)])) (fun T A t r => XS.iloadN A hx rfl (hb hby d_jdk_65_m_133_15) rfl r) ?_
  refine Go.sp (g' := (mkF m 18 #[.val (.ref t1), .val (.int (Int32.ofNat n)), .val (.int (Int32.ofNat cs.length)), .val (.int (Int32.ofNat (cs.length - n))), .val (.ref b13)] [(.ref b13), (.int (Int32.ofNat n)), (.ref t1)])) (fun T A t r => XS.aload A hx rfl (hb hby d_jdk_65_m_133_16) rfl rfl r) ?_
  refine Go.sp (g' := (mkF m 19 #[.val (.ref t1), .val (.int (Int32.ofNat n)), .val (.int (Int32.ofNat cs.length)), .val (.int (Int32.ofNat (cs.length - n))), .val (.ref b13)] [(.int (0 : Int32)), (.ref b13), (.int (Int32.ofNat n)), (.ref t1)])) (fun T A t r => XS.iconst A hx rfl (hb hby d_jdk_65_m_133_18) r) ?_
  refine Go.sp (g' := (mkF m 20 #[.val (.ref t1), .val (.int (Int32.ofNat n)), .val (.int (Int32.ofNat cs.length)), .val (.int (Int32.ofNat (cs.length - n))), .val (.ref b13)] [(.ref t1), (.int (0 : Int32)), (.ref b13), (.int (Int32.ofNat n)), (.ref t1)])) (fun T A t r => XS.aloadN A hx rfl (hb hby d_jdk_65_m_133_19) rfl rfl r) ?_
  have f14 := (B1.ext E13)
  refine Go.r (g' := (mkF m 21 #[.val (.ref t1), .val (.int (Int32.ofNat n)), .val (.int (Int32.ofNat cs.length)), .val (.int (Int32.ofNat (cs.length - n))), .val (.ref b13)] [(.int (Int32.ofNat cs.length)), (.int (0 : Int32)), (.ref b13), (.int (Int32.ofNat n)), (.ref t1)])) (fun s' T L X eT hZ t r => own_len X hx hZ eT f14 (g := (mkF m 20 #[.val (.ref t1), .val (.int (Int32.ofNat n)), .val (.int (Int32.ofNat cs.length)), .val (.int (Int32.ofNat (cs.length - n))), .val (.ref b13)] [(.ref t1), (.int (0 : Int32)), (.ref b13), (.int (Int32.ofNat n)), (.ref t1)])) rfl rfl (hb hby d_jdk_65_m_133_20) t r) ?_
  refine Go.sp (g' := (mkF m 22 #[.val (.ref t1), .val (.int (Int32.ofNat n)), .val (.int (Int32.ofNat cs.length)), .val (.int (Int32.ofNat (cs.length - n))), .val (.ref b13)] [(.int (Int32.ofNat n)), (.int (Int32.ofNat cs.length)), (.int (0 : Int32)), (.ref b13), (.int (Int32.ofNat n)), (.ref t1)])) (fun T A t r => XS.iloadN A hx rfl (hb hby d_jdk_65_m_133_21) rfl r) ?_
  refine Go.sp (g' := (mkF m 23 #[.val (.ref t1), .val (.int (Int32.ofNat n)), .val (.int (Int32.ofNat cs.length)), .val (.int (Int32.ofNat (cs.length - n))), .val (.ref b13)] [(.int ((Int32.ofNat cs.length) - (Int32.ofNat n))), (.int (0 : Int32)), (.ref b13), (.int (Int32.ofNat n)), (.ref t1)])) (fun T A t r => XS.isub A hx rfl (hb hby d_jdk_65_m_133_22) rfl r) ?_
  refine Go.cast (g' := (mkF m 23 #[.val (.ref t1), .val (.int (Int32.ofNat n)), .val (.int (Int32.ofNat cs.length)), .val (.int (Int32.ofNat (cs.length - n))), .val (.ref b13)] [(.int (Int32.ofNat (cs.length - n))), (.int (0 : Int32)), (.ref b13), (.int (Int32.ofNat n)), (.ref t1)])) (by rw [show ((Int32.ofNat cs.length) - (Int32.ofNat n)) = (Int32.ofNat (cs.length - n)) from own_sub hn1 l2]) ?_
  refine Go.sp (g' := (mkF m 24 #[.val (.ref t1), .val (.int (Int32.ofNat n)), .val (.int (Int32.ofNat cs.length)), .val (.int (Int32.ofNat (cs.length - n))), .val (.ref b13)] [(.int (Int32.ofNat (cs.length - n))), (.int (Int32.ofNat (cs.length - n))), (.int (0 : Int32)), (.ref b13), (.int (Int32.ofNat n)), (.ref t1)])) (fun T A t r => XS.iloadN A hx rfl (hb hby d_jdk_65_m_133_23) rfl r) ?_
  refine Go.old fun O15 => ?_
  refine Go.callSP (W := 4) (y := (⟨"java/lang/Math", "min", "(II)I"⟩ : MethodName)) (argsL := [(.int (Int32.ofNat (cs.length - n))), (.int (Int32.ofNat (cs.length - n)))]) (rest := [(.int (0 : Int32)), (.ref b13), (.int (Int32.ofNat n)), (.ref t1)]) (pc' := 27) (hb hby d_jdk_65_m_133_24) (own_w hw 113 rfl) (own_w hw 76 rfl) (own_w hw 73 rfl) (own_w hw 77 rfl) (by decide) (fun s' hZ => Ct.bk (rmMN l Z a0 hw [] (Int32.ofNat (cs.length - n)) (Int32.ofNat (cs.length - n)) h13 n0 O15 Int32.lt_irrefl) hZ (own_w hw 77 rfl) (own_w hw 73 rfl) (by decide) (by decide)) (by rw [hml]; rfl) (lenOf pd_1 rfl) rfl (Nat.le_of_ble_eq_true rfl) rfl (by decide) (by decide) ?_
  rintro v16 rfl
  refine Go.cast (g' := (mkF m 27 #[.val (.ref t1), .val (.int (Int32.ofNat n)), .val (.int (Int32.ofNat cs.length)), .val (.int (Int32.ofNat (cs.length - n))), .val (.ref b13)] [(.int (Int32.ofNat (cs.length - n))), (.int (0 : Int32)), (.ref b13), (.int (Int32.ofNat n)), (.ref t1)])) rfl ?_
  have Vp17 := A13.pad (pad_rep [] (.int (0 : Int32)) (cs.length - n))
  refine Go.kp (ws' := [b13]) (P := fun h' => Arv Z h' b13 k13 .byte (Int32.ofNat (cs.length - n)) (((cs.drop n).map fun c => c.toInt8.toInt32).map Value.int) (.int 0)) (g' := (mkF m 30 #[.val (.ref t1), .val (.int (Int32.ofNat n)), .val (.int (Int32.ofNat cs.length)), .val (.int (Int32.ofNat (cs.length - n))), .val (.ref b13)] [])) (fun s' T L X eT N hZ hown => own_cp X hx hZ hown (own_w hw 114 rfl) (own_w hw 117 rfl) (own_w hw 115 rfl) (own_w hw 116 rfl) eT f14 Vp17 hn1 l2 N (Nat.le_trans (Old.le O0) sz13) (g := (mkF m 27 #[.val (.ref t1), .val (.int (Int32.ofNat n)), .val (.int (Int32.ofNat cs.length)), .val (.int (Int32.ofNat (cs.length - n))), .val (.ref b13)] [(.int (Int32.ofNat (cs.length - n))), (.int (0 : Int32)), (.ref b13), (.int (Int32.ofNat n)), (.ref t1)])) rfl (by rw [hml]; rfl) rfl (hb hby d_jdk_65_m_133_27) (by decide) (W := 0) (catOf (Nat.le_refl _)) (by decide)) (allS (Or.inr sz13) all0) ?_
  intro h17 K17 V17
  refine Go.sp (g' := (mkF m 32 #[.val (.ref t1), .val (.int (Int32.ofNat n)), .val (.int (Int32.ofNat cs.length)), .val (.int (Int32.ofNat (cs.length - n))), .val (.ref b13)] [(.ref b13)])) (fun T A t r => XS.aload A hx rfl (hb hby d_jdk_65_m_133_30) rfl rfl r) ?_
  exact Go.ret (v := (some (.ref b13))) (fun s' T L fs X hr => own_retR X hx hret rfl rfl (hb hby d_jdk_65_m_133_32) hr) (fun h => by rw [hret] at h; cases h) (by decide) (by decide) ⟨_, _, rfl, sz13, V17⟩
theorem ef_rmCR (m : MethodId) (x0 : Addr) (x1 : Int32) (x2 : Int32) : entryFrame m #[(.ref x0), (.int x1), (.int x2)] 3 = mkF m 0 #[.val (.ref x0), .val (.int x1), .val (.int x2)] [] := by first | (simp [entryFrame, mkF, argsToLocals, Value.category]; done) | rfl
set_option maxRecDepth 65536 in
set_option maxHeartbeats 40000000 in
theorem rmCR (l : Launch) (Z : State) (a0 : Array Value) (hw : ∀ d ∈ tables_1, d.before a0 Z = true) (wds : List Jvm.Cond) (t1 : Addr) (k1 : ClassId) (cs : List Int32) (n : Nat) (h0 : Heap) (n0 : Nat) (O0 : Old Z n0 h0)  (B1 : Arv Z h0 t1 k1 .byte (Int32.ofNat cs.length) ((cs.map fun c => c.toInt8.toInt32).map Value.int) (.int 0)) (l2 : cs.length ≤ 8) (hn0 : 0 < n) (hn1 : n < cs.length) :
    Ct l Z (⟨"java/util/Arrays", "copyOfRange", "([BII)[B"⟩ : MethodName) jdk_65_method_132_code 3 (some (.array .byte)) wds ({ frames := 2, cells := 1, slots := 8, locals := 56 } : Room) #[(.ref t1), (.int (Int32.ofNat n)), (.int (Int32.ofNat cs.length))] n0 h0 [] (fun v h => ∃ (a : Addr) (kb : ClassId), v = some (.ref a) ∧ h0.size ≤ a ∧ Arv Z h a kb .byte (Int32.ofNat (cs.length - n)) (((cs.drop n).map fun c => c.toInt8.toInt32).map Value.int) (.int 0)) := by
  refine Ct.of (plainFor_of_name pn_java_util_Arrays) O0 all0 ?_
  intro p e s m below meth c hx hby hml hret hnm
  refine Go.cast (ef_rmCR m t1 (Int32.ofNat n) (Int32.ofNat cs.length)) ?_
  refine Go.sp (g' := (mkF m 1 #[.val (.ref t1), .val (.int (Int32.ofNat n)), .val (.int (Int32.ofNat cs.length))] [(.int (Int32.ofNat n))])) (fun T A t r => XS.iloadN A hx rfl (hb hby d_jdk_65_m_132_0) rfl r) ?_
  refine Go.sp (g' := (mkF m 10 #[.val (.ref t1), .val (.int (Int32.ofNat n)), .val (.int (Int32.ofNat cs.length))] [])) (fun T A t r => XS.ifYes A hx rfl (pc0 := 1) (pc' := 10) rfl (hb hby d_jdk_65_m_132_1) rfl ((if0 _ _).trans (feq (own_nz hn0 hn1 l2)).2) (by decide) (by decide) r) ?_
  refine Go.sp (g' := (mkF m 11 #[.val (.ref t1), .val (.int (Int32.ofNat n)), .val (.int (Int32.ofNat cs.length))] [(.ref t1)])) (fun T A t r => XS.aloadN A hx rfl (hb hby d_jdk_65_m_132_10) rfl rfl r) ?_
  refine Go.sp (g' := (mkF m 12 #[.val (.ref t1), .val (.int (Int32.ofNat n)), .val (.int (Int32.ofNat cs.length))] [(.int (Int32.ofNat n)), (.ref t1)])) (fun T A t r => XS.iloadN A hx rfl (hb hby d_jdk_65_m_132_11) rfl r) ?_
  refine Go.sp (g' := (mkF m 13 #[.val (.ref t1), .val (.int (Int32.ofNat n)), .val (.int (Int32.ofNat cs.length))] [(.int (Int32.ofNat cs.length)), (.int (Int32.ofNat n)), (.ref t1)])) (fun T A t r => XS.iloadN A hx rfl (hb hby d_jdk_65_m_132_12) rfl r) ?_
  refine Go.callS (ws' := []) (W := 0) (y := (⟨"java/util/Arrays", "copyOfRangeByte", "([BII)[B"⟩ : MethodName)) (argsL := [(.ref t1), (.int (Int32.ofNat n)), (.int (Int32.ofNat cs.length))]) (rest := []) (pc' := 16) (k' := 1) (n' := 8) (hb hby d_jdk_65_m_132_13) (own_w hw 107 rfl) (own_w hw 108 rfl) (own_w hw 105 rfl) (own_w hw 109 rfl) (by decide) (fun s' hZ => Ct.bk (rmRB l Z a0 hw [] t1 k1 cs n h0 n0 O0 B1 l2 hn0 hn1) hZ (own_w hw 109 rfl) (own_w hw 105 rfl) (by decide) (by decide)) (by rw [hml]; rfl) (lenOf pd_7 rfl) rfl (Nat.le_of_ble_eq_true rfl) rfl rfl rfl (by decide) (by decide) all0 ?_
  rintro v11 h11 K11 ⟨a11, kb11, rfl, ge11, V11⟩
  refine Go.cast (g' := (mkF m 16 #[.val (.ref t1), .val (.int (Int32.ofNat n)), .val (.int (Int32.ofNat cs.length))] [(.ref a11)])) rfl ?_
  exact Go.ret (v := (some (.ref a11))) (fun s' T L fs X hr => own_retR X hx hret rfl rfl (hb hby d_jdk_65_m_132_16) hr) (fun h => by rw [hret] at h; cases h) (by decide) (by decide) ⟨_, _, rfl, ge11, V11⟩
theorem ef_rmSI (m : MethodId) (x0 : Addr) (x1 : Addr) (x2 : Int32) : entryFrame m #[(.ref x0), (.ref x1), (.int x2)] 3 = mkF m 0 #[.val (.ref x0), .val (.ref x1), .val (.int x2)] [] := by first | (simp [entryFrame, mkF, argsToLocals, Value.category]; done) | rfl
set_option maxRecDepth 65536 in
set_option maxHeartbeats 40000000 in
theorem rmSI (l : Launch) (Z : State) (a0 : Array Value) (hw : ∀ d ∈ tables_1, d.before a0 Z = true) (wds : List Jvm.Cond) (a1 : Addr) (a2 : Addr) (u1 : Value) (u2 : Value) (h0 : Heap) (n0 : Nat) (O0 : Old Z n0 h0) (g_a1 : n0 ≤ a1) (E1 : Exa Z h0 a1 "java/lang/String") (F1 : Fld Z h0 a1 "java/lang/String" "value" "[B" u1) (F2 : Fld Z h0 a1 "java/lang/String" "coder" "B" u2) :
    Ct l Z (⟨"java/lang/String", "<init>", "([BB)V"⟩ : MethodName) jdk_42_method_151_code 3 none wds ({ frames := 1, cells := 0, slots := 0, locals := 12 } : Room) #[(.ref a1), (.ref a2), (.int (0 : Int32))] n0 h0 [a1] (fun v h => v = none ∧ Exa Z h a1 "java/lang/String" ∧ Fld Z h a1 "java/lang/String" "coder" "B" (.int 0) ∧ Fld Z h a1 "java/lang/String" "value" "[B" (.ref a2)) := by
  refine Ct.of (plainFor_of_name pn_java_lang_String) O0 (allS g_a1 all0) ?_
  intro p e s m below meth c hx hby hml hret hnm
  refine Go.cast (ef_rmSI m a1 a2 (0 : Int32)) ?_
  refine Go.sp (g' := (mkF m 1 #[.val (.ref a1), .val (.ref a2), .val (.int (0 : Int32))] [(.ref a1)])) (fun T A t r => XS.aloadN A hx rfl (hb hby d_jdk_42_m_151_0) rfl rfl r) ?_
  refine Go.v (g' := (mkF m 4 #[.val (.ref a1), .val (.ref a2), .val (.int (0 : Int32))] [])) (fun s' T L X eT hZ hown => initO X hx hZ hown (own_w hw 16 rfl) (own_w hw 17 rfl) (own_w hw 18 rfl) eT (g := (mkF m 1 #[.val (.ref a1), .val (.ref a2), .val (.int (0 : Int32))] [(.ref a1)])) rfl (by rw [hml]; rfl) rfl (hb hby d_jdk_42_m_151_1) (by decide) (W := 0) (catOf (Nat.le_of_ble_eq_true rfl)) (by decide)) ?_
  refine Go.sp (g' := (mkF m 5 #[.val (.ref a1), .val (.ref a2), .val (.int (0 : Int32))] [(.ref a1)])) (fun T A t r => XS.aloadN A hx rfl (hb hby d_jdk_42_m_151_4) rfl rfl r) ?_
  refine Go.sp (g' := (mkF m 6 #[.val (.ref a1), .val (.ref a2), .val (.int (0 : Int32))] [(.ref a2), (.ref a1)])) (fun T A t r => XS.aloadN A hx rfl (hb hby d_jdk_42_m_151_5) rfl rfl r) ?_
  refine Go.w (g' := (mkF m 9 #[.val (.ref a1), .val (.ref a2), .val (.int (0 : Int32))] [])) (fun s' T L X eT hZ hown => putF X hx hZ hown (host := "") (Or.inl (own_w hw 33 rfl)) Via.refl eT F1 E1 (Or.inr ⟨(own_w hw 34 rfl), rfl, hnm⟩) (own_w hw 7 rfl) (ty := (.array .byte)) (by decide) rfl rfl (g := (mkF m 6 #[.val (.ref a1), .val (.ref a2), .val (.int (0 : Int32))] [(.ref a2), (.ref a1)])) rfl rfl (hb hby d_jdk_42_m_151_6)) (Or.inl (List.mem_of_getElem? (i := 0) rfl)) ?_
  intro h12 W12
  have F12 := F1.same W12
  refine Go.sp (g' := (mkF m 10 #[.val (.ref a1), .val (.ref a2), .val (.int (0 : Int32))] [(.ref a1)])) (fun T A t r => XS.aloadN A hx rfl (hb hby d_jdk_42_m_151_9) rfl rfl r) ?_
  refine Go.sp (g' := (mkF m 11 #[.val (.ref a1), .val (.ref a2), .val (.int (0 : Int32))] [(.int (0 : Int32)), (.ref a1)])) (fun T A t r => XS.iloadN A hx rfl (hb hby d_jdk_42_m_151_10) rfl r) ?_
  have f13 := (E1.wr W12)
  have f14 := (F2.other W12 (Or.inr (slot_ne (Or.inr (own_w hw 32 rfl)) (Or.inr (own_w hw 34 rfl)) (by decide) (t := .byte) (t' := (.array .byte)) (by decide) (by decide))))
  refine Go.w (g' := (mkF m 14 #[.val (.ref a1), .val (.ref a2), .val (.int (0 : Int32))] [])) (fun s' T L X eT hZ hown => putF X hx hZ hown (host := "") (Or.inl (own_w hw 31 rfl)) Via.refl eT f14 f13 (Or.inr ⟨(own_w hw 32 rfl), rfl, hnm⟩) (own_w hw 7 rfl) (ty := .byte) (by decide) (by decide) (by decide) (g := (mkF m 11 #[.val (.ref a1), .val (.ref a2), .val (.int (0 : Int32))] [(.int (0 : Int32)), (.ref a1)])) rfl rfl (hb hby d_jdk_42_m_151_11)) (Or.inl (List.mem_of_getElem? (i := 0) rfl)) ?_
  intro h16 W16
  have F16 := f14.same W16
  have f17 := (f13.wr W16)
  have f18 := (F12.other W16 (Or.inr (slot_ne (Or.inr (own_w hw 34 rfl)) (Or.inr (own_w hw 32 rfl)) (by decide) (t := (.array .byte)) (t' := .byte) (by decide) (by decide))))
  exact Go.ret (v := none) (fun s' T L fs X hr => X.returnOut hx hret (hb hby d_jdk_42_m_151_14) hr) (fun _ => rfl) (by decide) (by decide) ⟨rfl, f17, F16, f18⟩
theorem ef_rmNW (m : MethodId) (x0 : Addr) (x1 : Int32) (x2 : Int32) : entryFrame m #[(.ref x0), (.int x1), (.int x2)] 3 = mkF m 0 #[.val (.ref x0), .val (.int x1), .val (.int x2)] [] := by first | (simp [entryFrame, mkF, argsToLocals, Value.category]; done) | rfl
set_option maxRecDepth 65536 in
set_option maxHeartbeats 40000000 in
theorem rmNW (l : Launch) (Z : State) (a0 : Array Value) (hw : ∀ d ∈ tables_1, d.before a0 Z = true) (wds : List Jvm.Cond) (t1 : Addr) (k1 : ClassId) (cs : List Int32) (n : Nat) (h0 : Heap) (n0 : Nat) (O0 : Old Z n0 h0)  (B1 : Arv Z h0 t1 k1 .byte (Int32.ofNat cs.length) ((cs.map fun c => c.toInt8.toInt32).map Value.int) (.int 0)) (l2 : cs.length ≤ 8) (hn0 : 0 < n) (hn1 : n < cs.length) :
    Ct l Z (⟨"java/lang/StringLatin1", "newString", "([BII)Ljava/lang/String;"⟩ : MethodName) jdk_43_method_47_code 3 (some (.object "java/lang/String")) wds ({ frames := 3, cells := 2, slots := 12, locals := 72 } : Room) #[(.ref t1), (.int (Int32.ofNat n)), (.int (Int32.ofNat (cs.length - n)))] n0 h0 [] (fun v h => ∃ (a t : Addr) (kb : ClassId), v = some (.ref a) ∧ Exa Z h a "java/lang/String" ∧ Fld Z h a "java/lang/String" "coder" "B" (.int 0) ∧ Fld Z h a "java/lang/String" "value" "[B" (.ref t) ∧ Arv Z h t kb .byte (Int32.ofNat (cs.length - n)) (((cs.drop n).map fun c => c.toInt8.toInt32).map Value.int) (.int 0)) := by
  refine Ct.of (plainFor_of_name pn_java_lang_StringLatin1) O0 all0 ?_
  intro p e s m below meth c hx hby hml hret hnm
  refine Go.cast (ef_rmNW m t1 (Int32.ofNat n) (Int32.ofNat (cs.length - n))) ?_
  refine Go.sp (g' := (mkF m 1 #[.val (.ref t1), .val (.int (Int32.ofNat n)), .val (.int (Int32.ofNat (cs.length - n)))] [(.int (Int32.ofNat (cs.length - n)))])) (fun T A t r => XS.iloadN A hx rfl (hb hby d_jdk_43_m_47_0) rfl r) ?_
  refine Go.sp (g' := (mkF m 7 #[.val (.ref t1), .val (.int (Int32.ofNat n)), .val (.int (Int32.ofNat (cs.length - n)))] [])) (fun T A t r => XS.ifYes A hx rfl (pc0 := 1) (pc' := 7) rfl (hb hby d_jdk_43_m_47_1) rfl ((if0 _ _).trans (feq (own_sz hn1 l2)).2) (by decide) (by decide) r) ?_
  refine Go.newO (k' := 1) (n' := 4) (pc' := 10) (hb hby d_jdk_43_m_47_7) (own_w hw 102 rfl) (own_w hw 7 rfl) (own_w hw 8 rfl) rfl rfl rfl (by decide) (by decide) ?_
  intro b11 h11 g11 sz11 E11 A11 D11
  have F11_coder : Fld Z h11 b11 "java/lang/String" "coder" "B" (.int (0 : Int32)) := D11 (Or.inr (own_w hw 32 rfl)) (ty := .byte) (by decide)
  have F11_value : Fld Z h11 b11 "java/lang/String" "value" "[B" .null := D11 (Or.inr (own_w hw 34 rfl)) (ty := (.array .byte)) (by decide)
  refine Go.sp (g' := (mkF m 11 #[.val (.ref t1), .val (.int (Int32.ofNat n)), .val (.int (Int32.ofNat (cs.length - n)))] [(.ref b11), (.ref b11)])) (fun T A t r => XS.dup A hx rfl (hb hby d_jdk_43_m_47_10) rfl rfl r) ?_
  refine Go.sp (g' := (mkF m 12 #[.val (.ref t1), .val (.int (Int32.ofNat n)), .val (.int (Int32.ofNat (cs.length - n)))] [(.ref t1), (.ref b11), (.ref b11)])) (fun T A t r => XS.aloadN A hx rfl (hb hby d_jdk_43_m_47_11) rfl rfl r) ?_
  refine Go.sp (g' := (mkF m 13 #[.val (.ref t1), .val (.int (Int32.ofNat n)), .val (.int (Int32.ofNat (cs.length - n)))] [(.int (Int32.ofNat n)), (.ref t1), (.ref b11), (.ref b11)])) (fun T A t r => XS.iloadN A hx rfl (hb hby d_jdk_43_m_47_12) rfl r) ?_
  refine Go.sp (g' := (mkF m 14 #[.val (.ref t1), .val (.int (Int32.ofNat n)), .val (.int (Int32.ofNat (cs.length - n)))] [(.int (Int32.ofNat n)), (.int (Int32.ofNat n)), (.ref t1), (.ref b11), (.ref b11)])) (fun T A t r => XS.iloadN A hx rfl (hb hby d_jdk_43_m_47_13) rfl r) ?_
  refine Go.sp (g' := (mkF m 15 #[.val (.ref t1), .val (.int (Int32.ofNat n)), .val (.int (Int32.ofNat (cs.length - n)))] [(.int (Int32.ofNat (cs.length - n))), (.int (Int32.ofNat n)), (.int (Int32.ofNat n)), (.ref t1), (.ref b11), (.ref b11)])) (fun T A t r => XS.iloadN A hx rfl (hb hby d_jdk_43_m_47_14) rfl r) ?_
  refine Go.sp (g' := (mkF m 16 #[.val (.ref t1), .val (.int (Int32.ofNat n)), .val (.int (Int32.ofNat (cs.length - n)))] [(.int ((Int32.ofNat n) + (Int32.ofNat (cs.length - n)))), (.int (Int32.ofNat n)), (.ref t1), (.ref b11), (.ref b11)])) (fun T A t r => XS.iadd A hx rfl (hb hby d_jdk_43_m_47_15) rfl r) ?_
  refine Go.cast (g' := (mkF m 16 #[.val (.ref t1), .val (.int (Int32.ofNat n)), .val (.int (Int32.ofNat (cs.length - n)))] [(.int (Int32.ofNat cs.length)), (.int (Int32.ofNat n)), (.ref t1), (.ref b11), (.ref b11)])) (by rw [show ((Int32.ofNat n) + (Int32.ofNat (cs.length - n))) = (Int32.ofNat cs.length) from own_add hn1 l2]) ?_
  refine Go.old fun O12 => ?_
  have f13 := (B1.ext E11)
  refine Go.callS (ws' := []) (W := 2) (y := (⟨"java/util/Arrays", "copyOfRange", "([BII)[B"⟩ : MethodName)) (argsL := [(.ref t1), (.int (Int32.ofNat n)), (.int (Int32.ofNat cs.length))]) (rest := [(.ref b11), (.ref b11)]) (pc' := 19) (k' := 2) (n' := 12) (hb hby d_jdk_43_m_47_16) (own_w hw 103 rfl) (own_w hw 104 rfl) (own_w hw 105 rfl) (own_w hw 106 rfl) (by decide) (fun s' hZ => Ct.bk (rmCR l Z a0 hw [] t1 k1 cs n h11 n0 O12 f13 l2 hn0 hn1) hZ (own_w hw 106 rfl) (own_w hw 105 rfl) (by decide) (by decide)) (by rw [hml]; rfl) (lenOf pd_7 rfl) rfl (Nat.le_of_ble_eq_true rfl) rfl rfl rfl (by decide) (by decide) all0 ?_
  rintro v14 h14 K14 ⟨a14, kb14, rfl, ge14, V14⟩
  refine Go.cast (g' := (mkF m 19 #[.val (.ref t1), .val (.int (Int32.ofNat n)), .val (.int (Int32.ofNat (cs.length - n)))] [(.ref a14), (.ref b11), (.ref b11)])) rfl ?_
  refine Go.sp (g' := (mkF m 20 #[.val (.ref t1), .val (.int (Int32.ofNat n)), .val (.int (Int32.ofNat (cs.length - n)))] [(.int (0 : Int32)), (.ref a14), (.ref b11), (.ref b11)])) (fun T A t r => XS.iconst A hx rfl (hb hby d_jdk_43_m_47_19) r) ?_
  refine Go.old fun O15 => ?_
  have f16 := (A11.keep K14)
  have f17 := (F11_value.keep K14 nin0)
  have f18 := (F11_coder.keep K14 nin0)
  refine Go.callC (a := b11) (ws' := [b11]) (W := 1) (y := (⟨"java/lang/String", "<init>", "([BB)V"⟩ : MethodName)) (argsL := [(.ref a14), (.int (0 : Int32))]) (rest := [(.ref b11)]) (pc' := 23) (k' := 2) (n' := 12) (hb hby d_jdk_43_m_47_20) rfl (own_w hw 118 rfl) (own_w hw 119 rfl) (own_w hw 120 rfl) (by decide) (fun s' hZ => Ct.bk (rmSI l Z a0 hw [] b11 a14 _ _ h14 n0 O15 (Nat.le_trans (Old.le O0) sz11) f16 f17 f18) hZ (own_w hw 120 rfl) (own_w hw 8 rfl) (by decide) (by decide)) (by rw [hml]; rfl) (lenOf pd_8 rfl) rfl (Nat.le_of_ble_eq_true rfl) rfl rfl rfl (by decide) (by decide) (allS (Or.inr sz11) all0) ?_
  rintro v19 h19 K19 ⟨rfl, E19, C19, F19⟩
  refine Go.cast (g' := (mkF m 23 #[.val (.ref t1), .val (.int (Int32.ofNat n)), .val (.int (Int32.ofNat (cs.length - n)))] [(.ref b11)])) rfl ?_
  have ne20 : b11 ≠ a14 := Nat.ne_of_lt (Nat.lt_of_lt_of_le A11.lt ge14)
  have f21 := (V14.keep K19 (ninS (Ne.symm ne20) nin0))
  exact Go.ret (v := (some (.ref b11))) (fun s' T L fs X hr => own_retR X hx hret rfl rfl (hb hby d_jdk_43_m_47_23) hr) (fun h => by rw [hret] at h; cases h) (by decide) (by decide) ⟨_, _, _, rfl, E19, C19, F19, f21⟩
theorem ef_rmS2 (m : MethodId) (x0 : Addr) (x1 : Int32) (x2 : Int32) : entryFrame m #[(.ref x0), (.int x1), (.int x2)] 5 = mkF m 0 #[.val (.ref x0), .val (.int x1), .val (.int x2), .unset, .unset] [] := by first | (simp [entryFrame, mkF, argsToLocals, Value.category]; done) | rfl
set_option maxRecDepth 65536 in
set_option maxHeartbeats 40000000 in
theorem rmS2 (l : Launch) (Z : State) (a0 : Array Value) (hw : ∀ d ∈ tables_1, d.before a0 Z = true) (wds : List Jvm.Cond) (a1 : Addr) (t1 : Addr) (k1 : ClassId) (cs : List Int32) (n : Nat) (zS : Int32) (fm : Value) (h0 : Heap) (n0 : Nat) (O0 : Old Z n0 h0)  (E1 : Exa Z h0 a1 "java/lang/String") (C1 : Fld Z h0 a1 "java/lang/String" "coder" "B" (.int 0)) (V1 : Fld Z h0 a1 "java/lang/String" "value" "[B" (.ref t1)) (B1 : Arv Z h0 t1 k1 .byte (Int32.ofNat cs.length) ((cs.map fun c => c.toInt8.toInt32).map Value.int) (.int 0)) (hp : ∀ c ∈ cs, ¬ c < 0 ∧ ¬ (255 : Int32) < c) (l2 : cs.length ≤ 8) (hn0 : 0 < n) (hn1 : n < cs.length) (S0 : Sta Z Z.heap "java/lang/String" "COMPACT_STRINGS" "Z" (.int zS)) (P0 : ¬ zS = (0 : Int32)) (SF : Sta Z Z.heap "jdk/internal/util/Preconditions" "SIOOBE_FORMATTER" "Ljava/util/function/BiFunction;" fm) (RF : fm.isRef = true) :
    Ct l Z (⟨"java/lang/String", "substring", "(II)Ljava/lang/String;"⟩ : MethodName) jdk_42_method_92_code 5 (some (.object "java/lang/String")) wds ({ frames := 4, cells := 2, slots := 12, locals := 86 } : Room) #[(.ref a1), (.int (Int32.ofNat n)), (.int (Int32.ofNat cs.length))] n0 h0 [] (fun v h => ∃ (a t : Addr) (kb : ClassId), v = some (.ref a) ∧ Exa Z h a "java/lang/String" ∧ Fld Z h a "java/lang/String" "coder" "B" (.int 0) ∧ Fld Z h a "java/lang/String" "value" "[B" (.ref t) ∧ Arv Z h t kb .byte (Int32.ofNat (cs.length - n)) (((cs.drop n).map fun c => c.toInt8.toInt32).map Value.int) (.int 0)) := by
  refine Ct.of (plainFor_of_name pn_java_lang_String) O0 all0 ?_
  intro p e s m below meth c hx hby hml hret hnm
  refine Go.cast (ef_rmS2 m a1 (Int32.ofNat n) (Int32.ofNat cs.length)) ?_
  refine Go.sp (g' := (mkF m 1 #[.val (.ref a1), .val (.int (Int32.ofNat n)), .val (.int (Int32.ofNat cs.length)), .unset, .unset] [(.ref a1)])) (fun T A t r => XS.aloadN A hx rfl (hb hby d_jdk_42_m_92_0) rfl rfl r) ?_
  refine Go.old fun O11 => ?_
  refine Go.callVP (a := a1) (z := (⟨"java/lang/String", "length", "()I"⟩ : MethodName)) (W := 0) (y := (⟨"java/lang/String", "length", "()I"⟩ : MethodName)) (argsL := []) (rest := []) (pc' := 4) (hb hby d_jdk_42_m_92_1) (own_w hw 54 rfl) (own_w hw 55 rfl) (fun s' hZ => notFace_of_selects (args := #[]) (mvT hZ (own_w hw 57 rfl))) (own_w hw 57 rfl) (own_w hw 56 rfl) (by decide) (fun s' hZ => Bk.pure (StrChars.Road.lenW (kI := 4) (cs := cs) hZ (own_lenw hw) (own_w hw 7 rfl) E1 V1 C1 B1 (own_cod rfl hp) (own_up hp) (S0.ext O11.2) P0 (Nat.le_trans l2 (by decide)) (by decide) (by decide))) E1 (by rw [hml]; rfl) (lenOf pd_4 rfl) rfl (Nat.le_of_ble_eq_true rfl) rfl (by decide) (by decide) ?_
  rintro v12 rfl
  refine Go.cast (g' := (mkF m 4 #[.val (.ref a1), .val (.int (Int32.ofNat n)), .val (.int (Int32.ofNat cs.length)), .unset, .unset] [(.int (Int32.ofNat cs.length))])) rfl ?_
  refine Go.sp (g' := (mkF m 5 #[.val (.ref a1), .val (.int (Int32.ofNat n)), .val (.int (Int32.ofNat cs.length)), .val (.int (Int32.ofNat cs.length)), .unset] [])) (fun T A t r => XS.istoreN A hx rfl (hb hby d_jdk_42_m_92_4) rfl (l' := #[.val (.ref a1), .val (.int (Int32.ofNat n)), .val (.int (Int32.ofNat cs.length)), .val (.int (Int32.ofNat cs.length)), .unset]) rfl r) ?_
  refine Go.sp (g' := (mkF m 6 #[.val (.ref a1), .val (.int (Int32.ofNat n)), .val (.int (Int32.ofNat cs.length)), .val (.int (Int32.ofNat cs.length)), .unset] [(.int (Int32.ofNat n))])) (fun T A t r => XS.iloadN A hx rfl (hb hby d_jdk_42_m_92_5) rfl r) ?_
  refine Go.sp (g' := (mkF m 7 #[.val (.ref a1), .val (.int (Int32.ofNat n)), .val (.int (Int32.ofNat cs.length)), .val (.int (Int32.ofNat cs.length)), .unset] [(.int (Int32.ofNat cs.length)), (.int (Int32.ofNat n))])) (fun T A t r => XS.iloadN A hx rfl (hb hby d_jdk_42_m_92_6) rfl r) ?_
  refine Go.sp (g' := (mkF m 8 #[.val (.ref a1), .val (.int (Int32.ofNat n)), .val (.int (Int32.ofNat cs.length)), .val (.int (Int32.ofNat cs.length)), .unset] [(.int (Int32.ofNat cs.length)), (.int (Int32.ofNat cs.length)), (.int (Int32.ofNat n))])) (fun T A t r => XS.iloadN A hx rfl (hb hby d_jdk_42_m_92_7) rfl r) ?_
  refine Go.callSP (W := 0) (y := (⟨"java/lang/String", "checkBoundsBeginEnd", "(III)V"⟩ : MethodName)) (argsL := [(.int (Int32.ofNat n)), (.int (Int32.ofNat cs.length)), (.int (Int32.ofNat cs.length))]) (rest := []) (pc' := 11) (hb hby d_jdk_42_m_92_8) (own_w hw 91 rfl) (own_w hw 92 rfl) (own_w hw 8 rfl) (own_w hw 93 rfl) (by decide) (fun s' hZ => Ct.bk (rmCB l Z a0 hw [] (Int32.ofNat n) (Int32.ofNat cs.length) fm h0 n0 O0 (own_nn (by omega)) (own_nlt hn1 l2) SF RF) hZ (own_w hw 93 rfl) (own_w hw 8 rfl) (by decide) (by decide)) (by rw [hml]; rfl) (lenOf pd_9 rfl) rfl (Nat.le_of_ble_eq_true rfl) rfl (by decide) (by decide) ?_
  rintro v13 rfl
  refine Go.cast (g' := (mkF m 11 #[.val (.ref a1), .val (.int (Int32.ofNat n)), .val (.int (Int32.ofNat cs.length)), .val (.int (Int32.ofNat cs.length)), .unset] [])) rfl ?_
  refine Go.sp (g' := (mkF m 12 #[.val (.ref a1), .val (.int (Int32.ofNat n)), .val (.int (Int32.ofNat cs.length)), .val (.int (Int32.ofNat cs.length)), .unset] [(.int (Int32.ofNat n))])) (fun T A t r => XS.iloadN A hx rfl (hb hby d_jdk_42_m_92_11) rfl r) ?_
  refine Go.sp (g' := (mkF m 22 #[.val (.ref a1), .val (.int (Int32.ofNat n)), .val (.int (Int32.ofNat cs.length)), .val (.int (Int32.ofNat cs.length)), .unset] [])) (fun T A t r => XS.ifYes A hx rfl (pc0 := 12) (pc' := 22) rfl (hb hby d_jdk_42_m_92_12) rfl ((if0 _ _).trans (feq (own_nz hn0 hn1 l2)).2) (by decide) (by decide) r) ?_
  refine Go.sp (g' := (mkF m 23 #[.val (.ref a1), .val (.int (Int32.ofNat n)), .val (.int (Int32.ofNat cs.length)), .val (.int (Int32.ofNat cs.length)), .unset] [(.int (Int32.ofNat cs.length))])) (fun T A t r => XS.iloadN A hx rfl (hb hby d_jdk_42_m_92_22) rfl r) ?_
  refine Go.sp (g' := (mkF m 24 #[.val (.ref a1), .val (.int (Int32.ofNat n)), .val (.int (Int32.ofNat cs.length)), .val (.int (Int32.ofNat cs.length)), .unset] [(.int (Int32.ofNat n)), (.int (Int32.ofNat cs.length))])) (fun T A t r => XS.iloadN A hx rfl (hb hby d_jdk_42_m_92_23) rfl r) ?_
  refine Go.sp (g' := (mkF m 25 #[.val (.ref a1), .val (.int (Int32.ofNat n)), .val (.int (Int32.ofNat cs.length)), .val (.int (Int32.ofNat cs.length)), .unset] [(.int ((Int32.ofNat cs.length) - (Int32.ofNat n)))])) (fun T A t r => XS.isub A hx rfl (hb hby d_jdk_42_m_92_24) rfl r) ?_
  refine Go.cast (g' := (mkF m 25 #[.val (.ref a1), .val (.int (Int32.ofNat n)), .val (.int (Int32.ofNat cs.length)), .val (.int (Int32.ofNat cs.length)), .unset] [(.int (Int32.ofNat (cs.length - n)))])) (by rw [show ((Int32.ofNat cs.length) - (Int32.ofNat n)) = (Int32.ofNat (cs.length - n)) from own_sub hn1 l2]) ?_
  refine Go.sp (g' := (mkF m 27 #[.val (.ref a1), .val (.int (Int32.ofNat n)), .val (.int (Int32.ofNat cs.length)), .val (.int (Int32.ofNat cs.length)), .val (.int (Int32.ofNat (cs.length - n)))] [])) (fun T A t r => XS.istore A hx rfl (hb hby d_jdk_42_m_92_25) rfl (l' := #[.val (.ref a1), .val (.int (Int32.ofNat n)), .val (.int (Int32.ofNat cs.length)), .val (.int (Int32.ofNat cs.length)), .val (.int (Int32.ofNat (cs.length - n)))]) rfl r) ?_
  refine Go.sp (g' := (mkF m 28 #[.val (.ref a1), .val (.int (Int32.ofNat n)), .val (.int (Int32.ofNat cs.length)), .val (.int (Int32.ofNat cs.length)), .val (.int (Int32.ofNat (cs.length - n)))] [(.ref a1)])) (fun T A t r => XS.aloadN A hx rfl (hb hby d_jdk_42_m_92_27) rfl rfl r) ?_
  refine Go.callVP (a := a1) (z := (⟨"java/lang/String", "isLatin1", "()Z"⟩ : MethodName)) (W := 0) (y := (⟨"java/lang/String", "isLatin1", "()Z"⟩ : MethodName)) (argsL := []) (rest := []) (pc' := 31) (hb hby d_jdk_42_m_92_28) (own_w hw 49 rfl) (own_w hw 50 rfl) (fun s' hZ => notFace_of_selects (args := #[]) (mvT hZ (own_w hw 52 rfl))) (own_w hw 52 rfl) (own_w hw 51 rfl) (by decide) (fun s' hZ => Ct.bk (rmIL l Z a0 hw [] a1 zS h0 n0 O0 C1 S0 P0) hZ (own_w hw 53 rfl) (own_w hw 8 rfl) (by decide) (by decide)) E1 (by rw [hml]; rfl) (lenOf pd_3 rfl) rfl (Nat.le_of_ble_eq_true rfl) rfl (by decide) (by decide) ?_
  rintro v14 rfl
  refine Go.cast (g' := (mkF m 31 #[.val (.ref a1), .val (.int (Int32.ofNat n)), .val (.int (Int32.ofNat cs.length)), .val (.int (Int32.ofNat cs.length)), .val (.int (Int32.ofNat (cs.length - n)))] [(.int (1 : Int32))])) rfl ?_
  refine Go.sp (g' := (mkF m 34 #[.val (.ref a1), .val (.int (Int32.ofNat n)), .val (.int (Int32.ofNat cs.length)), .val (.int (Int32.ofNat cs.length)), .val (.int (Int32.ofNat (cs.length - n)))] [])) (fun T A t r => XS.ifNo A hx rfl (hb hby d_jdk_42_m_92_31) rfl ((if0 _ _).trans (feq (by decide : ¬ ((1 : Int32) = (0 : Int32)))).1) r) ?_
  refine Go.sp (g' := (mkF m 35 #[.val (.ref a1), .val (.int (Int32.ofNat n)), .val (.int (Int32.ofNat cs.length)), .val (.int (Int32.ofNat cs.length)), .val (.int (Int32.ofNat (cs.length - n)))] [(.ref a1)])) (fun T A t r => XS.aloadN A hx rfl (hb hby d_jdk_42_m_92_34) rfl rfl r) ?_
  refine Go.v (g' := (mkF m 38 #[.val (.ref a1), .val (.int (Int32.ofNat n)), .val (.int (Int32.ofNat cs.length)), .val (.int (Int32.ofNat cs.length)), .val (.int (Int32.ofNat (cs.length - n)))] [(.ref t1)])) (fun s' T L X eT hZ hown => getF X hx hZ hown (host := "") (Or.inl (own_w hw 33 rfl)) Via.refl eT V1 (g := (mkF m 35 #[.val (.ref a1), .val (.int (Int32.ofNat n)), .val (.int (Int32.ofNat cs.length)), .val (.int (Int32.ofNat cs.length)), .val (.int (Int32.ofNat (cs.length - n)))] [(.ref a1)])) rfl rfl (hb hby d_jdk_42_m_92_35)) ?_
  refine Go.sp (g' := (mkF m 39 #[.val (.ref a1), .val (.int (Int32.ofNat n)), .val (.int (Int32.ofNat cs.length)), .val (.int (Int32.ofNat cs.length)), .val (.int (Int32.ofNat (cs.length - n)))] [(.int (Int32.ofNat n)), (.ref t1)])) (fun T A t r => XS.iloadN A hx rfl (hb hby d_jdk_42_m_92_38) rfl r) ?_
  refine Go.sp (g' := (mkF m 41 #[.val (.ref a1), .val (.int (Int32.ofNat n)), .val (.int (Int32.ofNat cs.length)), .val (.int (Int32.ofNat cs.length)), .val (.int (Int32.ofNat (cs.length - n)))] [(.int (Int32.ofNat (cs.length - n))), (.int (Int32.ofNat n)), (.ref t1)])) (fun T A t r => XS.iload A hx rfl (hb hby d_jdk_42_m_92_39) rfl r) ?_
  refine Go.callS (ws' := []) (W := 0) (y := (⟨"java/lang/StringLatin1", "newString", "([BII)Ljava/lang/String;"⟩ : MethodName)) (argsL := [(.ref t1), (.int (Int32.ofNat n)), (.int (Int32.ofNat (cs.length - n)))]) (rest := []) (pc' := 44) (k' := 2) (n' := 12) (hb hby d_jdk_42_m_92_41) (own_w hw 99 rfl) (own_w hw 100 rfl) (own_w hw 66 rfl) (own_w hw 101 rfl) (by decide) (fun s' hZ => Ct.bk (rmNW l Z a0 hw [] t1 k1 cs n h0 n0 O0 B1 l2 hn0 hn1) hZ (own_w hw 101 rfl) (own_w hw 66 rfl) (by decide) (by decide)) (by rw [hml]; rfl) (lenOf pd_10 rfl) rfl (Nat.le_of_ble_eq_true rfl) rfl rfl rfl (by decide) (by decide) all0 ?_
  rintro v15 h15 K15 ⟨a15, t15, kb15, rfl, E15, C15, F15, V15⟩
  refine Go.cast (g' := (mkF m 44 #[.val (.ref a1), .val (.int (Int32.ofNat n)), .val (.int (Int32.ofNat cs.length)), .val (.int (Int32.ofNat cs.length)), .val (.int (Int32.ofNat (cs.length - n)))] [(.ref a15)])) rfl ?_
  refine Go.sp (g' := (mkF m 57 #[.val (.ref a1), .val (.int (Int32.ofNat n)), .val (.int (Int32.ofNat cs.length)), .val (.int (Int32.ofNat cs.length)), .val (.int (Int32.ofNat (cs.length - n)))] [(.ref a15)])) (fun T A t r => XS.goto A hx rfl (pc0 := 44) (pc' := 57) rfl (hb hby d_jdk_42_m_92_44) (by decide) (by decide) r) ?_
  exact Go.ret (v := (some (.ref a15))) (fun s' T L fs X hr => own_retR X hx hret rfl rfl (hb hby d_jdk_42_m_92_57) hr) (fun h => by rw [hret] at h; cases h) (by decide) (by decide) ⟨_, _, _, rfl, E15, C15, F15, V15⟩
theorem ef_rmS1 (m : MethodId) (x0 : Addr) (x1 : Int32) : entryFrame m #[(.ref x0), (.int x1)] 2 = mkF m 0 #[.val (.ref x0), .val (.int x1)] [] := by first | (simp [entryFrame, mkF, argsToLocals, Value.category]; done) | rfl
set_option maxRecDepth 65536 in
set_option maxHeartbeats 40000000 in
theorem rmS1 (l : Launch) (Z : State) (a0 : Array Value) (hw : ∀ d ∈ tables_1, d.before a0 Z = true) (wds : List Jvm.Cond) (a1 : Addr) (t1 : Addr) (k1 : ClassId) (cs : List Int32) (n : Nat) (zS : Int32) (fm : Value) (h0 : Heap) (n0 : Nat) (O0 : Old Z n0 h0)  (E1 : Exa Z h0 a1 "java/lang/String") (C1 : Fld Z h0 a1 "java/lang/String" "coder" "B" (.int 0)) (V1 : Fld Z h0 a1 "java/lang/String" "value" "[B" (.ref t1)) (B1 : Arv Z h0 t1 k1 .byte (Int32.ofNat cs.length) ((cs.map fun c => c.toInt8.toInt32).map Value.int) (.int 0)) (hp : ∀ c ∈ cs, ¬ c < 0 ∧ ¬ (255 : Int32) < c) (l2 : cs.length ≤ 8) (hn0 : 0 < n) (hn1 : n < cs.length) (S0 : Sta Z Z.heap "java/lang/String" "COMPACT_STRINGS" "Z" (.int zS)) (P0 : ¬ zS = (0 : Int32)) (SF : Sta Z Z.heap "jdk/internal/util/Preconditions" "SIOOBE_FORMATTER" "Ljava/util/function/BiFunction;" fm) (RF : fm.isRef = true) :
    Ct l Z (⟨"java/lang/String", "substring", "(I)Ljava/lang/String;"⟩ : MethodName) jdk_42_method_91_code 2 (some (.object "java/lang/String")) wds ({ frames := 5, cells := 2, slots := 12, locals := 102 } : Room) #[(.ref a1), (.int (Int32.ofNat n))] n0 h0 [] (fun v h => ∃ (a t : Addr) (kb : ClassId), v = some (.ref a) ∧ Exa Z h a "java/lang/String" ∧ Fld Z h a "java/lang/String" "coder" "B" (.int 0) ∧ Fld Z h a "java/lang/String" "value" "[B" (.ref t) ∧ Arv Z h t kb .byte (Int32.ofNat (cs.length - n)) (((cs.drop n).map fun c => c.toInt8.toInt32).map Value.int) (.int 0)) := by
  refine Ct.of (plainFor_of_name pn_java_lang_String) O0 all0 ?_
  intro p e s m below meth c hx hby hml hret hnm
  refine Go.cast (ef_rmS1 m a1 (Int32.ofNat n)) ?_
  refine Go.sp (g' := (mkF m 1 #[.val (.ref a1), .val (.int (Int32.ofNat n))] [(.ref a1)])) (fun T A t r => XS.aloadN A hx rfl (hb hby d_jdk_42_m_91_0) rfl rfl r) ?_
  refine Go.sp (g' := (mkF m 2 #[.val (.ref a1), .val (.int (Int32.ofNat n))] [(.int (Int32.ofNat n)), (.ref a1)])) (fun T A t r => XS.iloadN A hx rfl (hb hby d_jdk_42_m_91_1) rfl r) ?_
  refine Go.sp (g' := (mkF m 3 #[.val (.ref a1), .val (.int (Int32.ofNat n))] [(.ref a1), (.int (Int32.ofNat n)), (.ref a1)])) (fun T A t r => XS.aloadN A hx rfl (hb hby d_jdk_42_m_91_2) rfl rfl r) ?_
  refine Go.old fun O11 => ?_
  refine Go.callVP (a := a1) (z := (⟨"java/lang/String", "length", "()I"⟩ : MethodName)) (W := 2) (y := (⟨"java/lang/String", "length", "()I"⟩ : MethodName)) (argsL := []) (rest := [(.int (Int32.ofNat n)), (.ref a1)]) (pc' := 6) (hb hby d_jdk_42_m_91_3) (own_w hw 54 rfl) (own_w hw 55 rfl) (fun s' hZ => notFace_of_selects (args := #[]) (mvT hZ (own_w hw 57 rfl))) (own_w hw 57 rfl) (own_w hw 56 rfl) (by decide) (fun s' hZ => Bk.pure (StrChars.Road.lenW (kI := 4) (cs := cs) hZ (own_lenw hw) (own_w hw 7 rfl) E1 V1 C1 B1 (own_cod rfl hp) (own_up hp) (S0.ext O11.2) P0 (Nat.le_trans l2 (by decide)) (by decide) (by decide))) E1 (by rw [hml]; rfl) (lenOf pd_4 rfl) rfl (Nat.le_of_ble_eq_true rfl) rfl (by decide) (by decide) ?_
  rintro v12 rfl
  refine Go.cast (g' := (mkF m 6 #[.val (.ref a1), .val (.int (Int32.ofNat n))] [(.int (Int32.ofNat cs.length)), (.int (Int32.ofNat n)), (.ref a1)])) rfl ?_
  refine Go.callV (a := a1) (z := (⟨"java/lang/String", "substring", "(II)Ljava/lang/String;"⟩ : MethodName)) (ws' := []) (W := 0) (y := (⟨"java/lang/String", "substring", "(II)Ljava/lang/String;"⟩ : MethodName)) (argsL := [(.int (Int32.ofNat n)), (.int (Int32.ofNat cs.length))]) (rest := []) (pc' := 9) (k' := 2) (n' := 12) (hb hby d_jdk_42_m_91_6) (own_w hw 86 rfl) (own_w hw 87 rfl) (fun s' hZ => notFace_of_selects (args := #[]) (mvT hZ (own_w hw 89 rfl))) (own_w hw 89 rfl) (own_w hw 88 rfl) (by decide) (fun s' hZ => Ct.bk (rmS2 l Z a0 hw [] a1 t1 k1 cs n zS fm h0 n0 O0 E1 C1 V1 B1 hp l2 hn0 hn1 S0 P0 SF RF) hZ (own_w hw 90 rfl) (own_w hw 8 rfl) (by decide) (by decide)) E1 (by rw [hml]; rfl) (lenOf pd_11 rfl) rfl (Nat.le_of_ble_eq_true rfl) rfl rfl rfl (by decide) (by decide) all0 ?_
  rintro v13 h13 K13 ⟨a13, t13, kb13, rfl, E13, C13, F13, V13⟩
  refine Go.cast (g' := (mkF m 9 #[.val (.ref a1), .val (.int (Int32.ofNat n))] [(.ref a13)])) rfl ?_
  exact Go.ret (v := (some (.ref a13))) (fun s' T L fs X hr => own_retR X hx hret rfl rfl (hb hby d_jdk_42_m_91_9) hr) (fun h => by rw [hret] at h; cases h) (by decide) (by decide) ⟨_, _, _, rfl, E13, C13, F13, V13⟩
theorem ef_rmD (m : MethodId) (x0 : Addr) : entryFrame m #[(.ref x0)] 1 = mkF m 0 #[.val (.ref x0)] [] := by first | (simp [entryFrame, mkF, argsToLocals, Value.category]; done) | rfl
set_option maxRecDepth 65536 in
set_option maxHeartbeats 40000000 in
theorem rmD (l : Launch) (Z : State) (a0 : Array Value) (hw : ∀ d ∈ tables_1, d.before a0 Z = true) (wds : List Jvm.Cond) (a1 : Addr) (t1 : Addr) (k1 : ClassId) (cs : List Int32) (i : Nat) (zS : Int32) (fm : Value) (h0 : Heap) (n0 : Nat) (O0 : Old Z n0 h0)  (E1 : Exa Z h0 a1 "java/lang/String") (C1 : Fld Z h0 a1 "java/lang/String" "coder" "B" (.int 0)) (V1 : Fld Z h0 a1 "java/lang/String" "value" "[B" (.ref t1)) (B1 : Arv Z h0 t1 k1 .byte (Int32.ofNat cs.length) ((cs.map fun c => c.toInt8.toInt32).map Value.int) (.int 0)) (hp : ∀ c ∈ cs, ¬ c < 0 ∧ ¬ (255 : Int32) < c) (l2 : cs.length ≤ 8) (hi : i < cs.length) (hat : cs.getD i 0 = (64 : Int32)) (hno : ∀ j, j < i → ¬ cs.getD j 0 = (64 : Int32)) (hi2 : i + 1 < cs.length) (S0 : Sta Z Z.heap "java/lang/String" "COMPACT_STRINGS" "Z" (.int zS)) (P0 : ¬ zS = (0 : Int32)) (SF : Sta Z Z.heap "jdk/internal/util/Preconditions" "SIOOBE_FORMATTER" "Ljava/util/function/BiFunction;" fm) (RF : fm.isRef = true) :
    Ct l Z (⟨"com/example/slow_digest/slowdigest/rules/MailAddress", "domain", "(Ljava/lang/String;)Ljava/lang/String;"⟩ : MethodName) prog_21_method_3_code 1 (some (.object "java/lang/String")) wds ({ frames := 6, cells := 2, slots := 12, locals := 115 } : Room) #[(.ref a1)] n0 h0 [] (fun v h => ∃ (a t : Addr) (kb : ClassId), v = some (.ref a) ∧ Exa Z h a "java/lang/String" ∧ Fld Z h a "java/lang/String" "coder" "B" (.int 0) ∧ Fld Z h a "java/lang/String" "value" "[B" (.ref t) ∧ Arv Z h t kb .byte (Int32.ofNat (cs.length - (i + 1))) (((cs.drop (i + 1)).map fun c => c.toInt8.toInt32).map Value.int) (.int 0)) := by
  refine Ct.of (plainFor_of_name pn_com_example_slow_digest_slowdigest_rules_MailAddress) O0 all0 ?_
  intro p e s m below meth c hx hby hml hret hnm
  refine Go.cast (ef_rmD m a1) ?_
  refine Go.sp (g' := (mkF m 1 #[.val (.ref a1)] [(.ref a1)])) (fun T A t r => XS.aloadN A hx rfl (hb hby d_prog_21_m_3_0) rfl rfl r) ?_
  refine Go.sp (g' := (mkF m 2 #[.val (.ref a1)] [(.ref a1), (.ref a1)])) (fun T A t r => XS.aloadN A hx rfl (hb hby d_prog_21_m_3_1) rfl rfl r) ?_
  refine Go.sp (g' := (mkF m 4 #[.val (.ref a1)] [(.int (64 : Int32)), (.ref a1), (.ref a1)])) (fun T A t r => XS.bipush A hx rfl (hb hby d_prog_21_m_3_2) r) ?_
  refine Go.callVP (a := a1) (z := (⟨"java/lang/String", "indexOf", "(I)I"⟩ : MethodName)) (W := 1) (y := (⟨"java/lang/String", "indexOf", "(I)I"⟩ : MethodName)) (argsL := [(.int (64 : Int32))]) (rest := [(.ref a1)]) (pc' := 7) (hb hby d_prog_21_m_3_4) (own_w hw 39 rfl) (own_w hw 40 rfl) (fun s' hZ => notFace_of_selects (args := #[]) (mvT hZ (own_w hw 42 rfl))) (own_w hw 42 rfl) (own_w hw 41 rfl) (by decide) (fun s' hZ => Ct.bk (rmX1 l Z a0 hw [] a1 t1 k1 cs i zS h0 n0 O0 E1 C1 V1 B1 hp l2 hi hat hno S0 P0) hZ (own_w hw 43 rfl) (own_w hw 8 rfl) (by decide) (by decide)) E1 (by rw [hml]; rfl) (lenOf pd_12 rfl) rfl (Nat.le_of_ble_eq_true rfl) rfl (by decide) (by decide) ?_
  rintro v11 rfl
  refine Go.cast (g' := (mkF m 7 #[.val (.ref a1)] [(.int (Int32.ofNat i)), (.ref a1)])) rfl ?_
  refine Go.sp (g' := (mkF m 8 #[.val (.ref a1)] [(.int (1 : Int32)), (.int (Int32.ofNat i)), (.ref a1)])) (fun T A t r => XS.iconst A hx rfl (hb hby d_prog_21_m_3_7) r) ?_
  refine Go.sp (g' := (mkF m 9 #[.val (.ref a1)] [(.int ((Int32.ofNat i) + (1 : Int32))), (.ref a1)])) (fun T A t r => XS.iadd A hx rfl (hb hby d_prog_21_m_3_8) rfl r) ?_
  refine Go.cast (g' := (mkF m 9 #[.val (.ref a1)] [(.int (Int32.ofNat (i + 1))), (.ref a1)])) (by rw [own_succ]) ?_
  refine Go.callV (a := a1) (z := (⟨"java/lang/String", "substring", "(I)Ljava/lang/String;"⟩ : MethodName)) (ws' := []) (W := 0) (y := (⟨"java/lang/String", "substring", "(I)Ljava/lang/String;"⟩ : MethodName)) (argsL := [(.int (Int32.ofNat (i + 1)))]) (rest := []) (pc' := 12) (k' := 2) (n' := 12) (hb hby d_prog_21_m_3_9) (own_w hw 81 rfl) (own_w hw 82 rfl) (fun s' hZ => notFace_of_selects (args := #[]) (mvT hZ (own_w hw 84 rfl))) (own_w hw 84 rfl) (own_w hw 83 rfl) (by decide) (fun s' hZ => Ct.bk (rmS1 l Z a0 hw [] a1 t1 k1 cs (i + 1) zS fm h0 n0 O0 E1 C1 V1 B1 hp l2 (by omega) hi2 S0 P0 SF RF) hZ (own_w hw 85 rfl) (own_w hw 8 rfl) (by decide) (by decide)) E1 (by rw [hml]; rfl) (lenOf pd_13 rfl) rfl (Nat.le_of_ble_eq_true rfl) rfl rfl rfl (by decide) (by decide) all0 ?_
  rintro v12 h12 K12 ⟨a12, t12, kb12, rfl, E12, C12, F12, V12⟩
  refine Go.cast (g' := (mkF m 12 #[.val (.ref a1)] [(.ref a12)])) rfl ?_
  exact Go.ret (v := (some (.ref a12))) (fun s' T L fs X hr => own_retR X hx hret rfl rfl (hb hby d_prog_21_m_3_12) hr) (fun h => by rw [hret] at h; cases h) (by decide) (by decide) ⟨_, _, _, rfl, E12, C12, F12, V12⟩
theorem ef_rm0 (m : MethodId) (x0 : Int32) (x1 : Int32) (x2 : Int32) (x3 : Int32) : entryFrame m #[(.int x0), (.int x1), (.int x2), (.int x3)] maxLocals = mkF m 0 #[.val (.int x0), .val (.int x1), .val (.int x2), .val (.int x3), .unset, .unset, .unset, .unset, .unset, .unset, .unset] [] := by first | (simp [entryFrame, mkF, argsToLocals, Value.category, maxLocals]; done) | rfl
set_option maxRecDepth 65536 in
set_option maxHeartbeats 40000000 in
theorem rm0 (l : Launch) (Z : State) (a0 : Array Value) (hw : ∀ d ∈ tables_1, d.before a0 Z = true) (wds : List Jvm.Cond) (p1 : Int32) (p2 : Int32) (p3 : Int32) (p4 : Int32) (zS : Int32) (fm : Value) (h0 : Heap) (n0 : Nat) (O0 : Old Z n0 h0)  (S0 : Sta Z Z.heap "java/lang/String" "COMPACT_STRINGS" "Z" (.int zS)) (P0 : ¬ zS = (0 : Int32)) (SF : Sta Z Z.heap "jdk/internal/util/Preconditions" "SIOOBE_FORMATTER" "Ljava/util/function/BiFunction;" fm) (RF : fm.isRef = true) :
    Ct l Z x code maxLocals ret wds room_1 #[(.int p1), (.int p2), (.int p3), (.int p4)] n0 h0 [] (fun v h => v = some (.int 1)) := by
  refine Ct.of (plainFor_of_name pn_com_example_slow_digest_slowdigest_rules_MailAddressDomainPinLaw) O0 all0 ?_
  intro p e s m below meth c hx hby hml hret hnm
  refine Go.cast (ef_rm0 m p1 p2 p3 p4) ?_
  refine Go.sp (g' := (mkF m 1 #[.val (.int p1), .val (.int p2), .val (.int p3), .val (.int p4), .unset, .unset, .unset, .unset, .unset, .unset, .unset] [(.int (3 : Int32))])) (fun T A t r => XS.iconst A hx rfl (hb hby at_0) r) ?_
  refine Go.sp (g' := (mkF m 2 #[.val (.int p1), .val (.int p2), .val (.int p3), .val (.int p4), .unset, .unset, .unset, .unset, .unset, .unset, .unset] [(.int p1), (.int (3 : Int32))])) (fun T A t r => XS.iloadN A hx rfl (hb hby at_1) rfl r) ?_
  refine Go.sp (g' := (mkF m 3 #[.val (.int p1), .val (.int p2), .val (.int p3), .val (.int p4), .unset, .unset, .unset, .unset, .unset, .unset, .unset] [(.int (3 : Int32)), (.int p1), (.int (3 : Int32))])) (fun T A t r => XS.iconst A hx rfl (hb hby at_2) r) ?_
  refine Go.sp (g' := (mkF m 4 #[.val (.int p1), .val (.int p2), .val (.int p3), .val (.int p4), .unset, .unset, .unset, .unset, .unset, .unset, .unset] [(.int (p1 &&& (3 : Int32))), (.int (3 : Int32))])) (fun T A t r => XS.iand A hx rfl (hb hby at_3) rfl r) ?_
  refine Go.sp (g' := (mkF m 5 #[.val (.int p1), .val (.int p2), .val (.int p3), .val (.int p4), .unset, .unset, .unset, .unset, .unset, .unset, .unset] [(.int ((3 : Int32) + (p1 &&& (3 : Int32))))])) (fun T A t r => XS.iadd A hx rfl (hb hby at_4) rfl r) ?_
  refine Go.sp (g' := (mkF m 7 #[.val (.int p1), .val (.int p2), .val (.int p3), .val (.int p4), .val (.int ((3 : Int32) + (p1 &&& (3 : Int32)))), .unset, .unset, .unset, .unset, .unset, .unset] [])) (fun T A t r => XS.istore A hx rfl (hb hby at_5) rfl (l' := #[.val (.int p1), .val (.int p2), .val (.int p3), .val (.int p4), .val (.int ((3 : Int32) + (p1 &&& (3 : Int32)))), .unset, .unset, .unset, .unset, .unset, .unset]) rfl r) ?_
  refine Go.sp (g' := (mkF m 8 #[.val (.int p1), .val (.int p2), .val (.int p3), .val (.int p4), .val (.int ((3 : Int32) + (p1 &&& (3 : Int32)))), .unset, .unset, .unset, .unset, .unset, .unset] [(.int (1 : Int32))])) (fun T A t r => XS.iconst A hx rfl (hb hby at_7) r) ?_
  refine Go.sp (g' := (mkF m 9 #[.val (.int p1), .val (.int p2), .val (.int p3), .val (.int p4), .val (.int ((3 : Int32) + (p1 &&& (3 : Int32)))), .unset, .unset, .unset, .unset, .unset, .unset] [(.int p1), (.int (1 : Int32))])) (fun T A t r => XS.iloadN A hx rfl (hb hby at_8) rfl r) ?_
  refine Go.sp (g' := (mkF m 10 #[.val (.int p1), .val (.int p2), .val (.int p3), .val (.int p4), .val (.int ((3 : Int32) + (p1 &&& (3 : Int32)))), .unset, .unset, .unset, .unset, .unset, .unset] [(.int (2 : Int32)), (.int p1), (.int (1 : Int32))])) (fun T A t r => XS.iconst A hx rfl (hb hby at_9) r) ?_
  refine Go.sp (g' := (mkF m 11 #[.val (.int p1), .val (.int p2), .val (.int p3), .val (.int p4), .val (.int ((3 : Int32) + (p1 &&& (3 : Int32)))), .unset, .unset, .unset, .unset, .unset, .unset] [(.int ((p1.toUInt32 >>> ((2 : Int32) &&& 31).toUInt32).toInt32)), (.int (1 : Int32))])) (fun T A t r => XS.iushr A hx rfl (hb hby at_10) rfl r) ?_
  refine Go.sp (g' := (mkF m 13 #[.val (.int p1), .val (.int p2), .val (.int p3), .val (.int p4), .val (.int ((3 : Int32) + (p1 &&& (3 : Int32)))), .unset, .unset, .unset, .unset, .unset, .unset] [(.int ((3 : Int32) + (p1 &&& (3 : Int32)))), (.int ((p1.toUInt32 >>> ((2 : Int32) &&& 31).toUInt32).toInt32)), (.int (1 : Int32))])) (fun T A t r => XS.iload A hx rfl (hb hby at_11) rfl r) ?_
  refine Go.sp (g' := (mkF m 14 #[.val (.int p1), .val (.int p2), .val (.int p3), .val (.int p4), .val (.int ((3 : Int32) + (p1 &&& (3 : Int32)))), .unset, .unset, .unset, .unset, .unset, .unset] [(.int (2 : Int32)), (.int ((3 : Int32) + (p1 &&& (3 : Int32)))), (.int ((p1.toUInt32 >>> ((2 : Int32) &&& 31).toUInt32).toInt32)), (.int (1 : Int32))])) (fun T A t r => XS.iconst A hx rfl (hb hby at_13) r) ?_
  refine Go.sp (g' := (mkF m 15 #[.val (.int p1), .val (.int p2), .val (.int p3), .val (.int p4), .val (.int ((3 : Int32) + (p1 &&& (3 : Int32)))), .unset, .unset, .unset, .unset, .unset, .unset] [(.int (((3 : Int32) + (p1 &&& (3 : Int32))) - (2 : Int32))), (.int ((p1.toUInt32 >>> ((2 : Int32) &&& 31).toUInt32).toInt32)), (.int (1 : Int32))])) (fun T A t r => XS.isub A hx rfl (hb hby at_14) rfl r) ?_
  refine Go.r (g' := (mkF m 16 #[.val (.int p1), .val (.int p2), .val (.int p3), .val (.int p4), .val (.int ((3 : Int32) + (p1 &&& (3 : Int32)))), .unset, .unset, .unset, .unset, .unset, .unset] [(.int (((p1.toUInt32 >>> ((2 : Int32) &&& 31).toUInt32).toInt32) % (((3 : Int32) + (p1 &&& (3 : Int32))) - (2 : Int32)))), (.int (1 : Int32))])) (fun s' T L X eT hZ t r => iremM (g := (mkF m 15 #[.val (.int p1), .val (.int p2), .val (.int p3), .val (.int p4), .val (.int ((3 : Int32) + (p1 &&& (3 : Int32)))), .unset, .unset, .unset, .unset, .unset, .unset] [(.int (((3 : Int32) + (p1 &&& (3 : Int32))) - (2 : Int32))), (.int ((p1.toUInt32 >>> ((2 : Int32) &&& 31).toUInt32).toInt32)), (.int (1 : Int32))])) X hx rfl (hb hby at_15) rfl (own_nm2 p1) r) ?_
  refine Go.sp (g' := (mkF m 17 #[.val (.int p1), .val (.int p2), .val (.int p3), .val (.int p4), .val (.int ((3 : Int32) + (p1 &&& (3 : Int32)))), .unset, .unset, .unset, .unset, .unset, .unset] [(.int ((1 : Int32) + (((p1.toUInt32 >>> ((2 : Int32) &&& 31).toUInt32).toInt32) % (((3 : Int32) + (p1 &&& (3 : Int32))) - (2 : Int32)))))])) (fun T A t r => XS.iadd A hx rfl (hb hby at_16) rfl r) ?_
  refine Go.sp (g' := (mkF m 19 #[.val (.int p1), .val (.int p2), .val (.int p3), .val (.int p4), .val (.int ((3 : Int32) + (p1 &&& (3 : Int32)))), .val (.int ((1 : Int32) + (((p1.toUInt32 >>> ((2 : Int32) &&& 31).toUInt32).toInt32) % (((3 : Int32) + (p1 &&& (3 : Int32))) - (2 : Int32))))), .unset, .unset, .unset, .unset, .unset] [])) (fun T A t r => XS.istore A hx rfl (hb hby at_17) rfl (l' := #[.val (.int p1), .val (.int p2), .val (.int p3), .val (.int p4), .val (.int ((3 : Int32) + (p1 &&& (3 : Int32)))), .val (.int ((1 : Int32) + (((p1.toUInt32 >>> ((2 : Int32) &&& 31).toUInt32).toInt32) % (((3 : Int32) + (p1 &&& (3 : Int32))) - (2 : Int32))))), .unset, .unset, .unset, .unset, .unset]) rfl r) ?_
  refine Go.sp (g' := (mkF m 21 #[.val (.int p1), .val (.int p2), .val (.int p3), .val (.int p4), .val (.int ((3 : Int32) + (p1 &&& (3 : Int32)))), .val (.int ((1 : Int32) + (((p1.toUInt32 >>> ((2 : Int32) &&& 31).toUInt32).toInt32) % (((3 : Int32) + (p1 &&& (3 : Int32))) - (2 : Int32))))), .unset, .unset, .unset, .unset, .unset] [(.int (6 : Int32))])) (fun T A t r => XS.bipush A hx rfl (hb hby at_19) r) ?_
  refine Go.newP (ty := .char) (dv := (.int (0 : Int32))) (cap := 6) (k' := 1) (n' := 6) (pc' := 23) (hb hby at_21) rfl rfl (own_w hw 0 rfl) (by decide) (by decide) (by decide) rfl rfl rfl (by decide) (by decide) ?_
  intro b11 h11 k11 g11 sz11 E11 A11
  have V11 : Arv Z h11 b11 k11 .char (6 : Int32) [(.int (0 : Int32)), (.int (0 : Int32)), (.int (0 : Int32)), (.int (0 : Int32)), (.int (0 : Int32)), (.int (0 : Int32))] (.int (0 : Int32)) := A11.pad (pad_rep [] (.int (0 : Int32)) 6)
  refine Go.sp (g' := (mkF m 25 #[.val (.int p1), .val (.int p2), .val (.int p3), .val (.int p4), .val (.int ((3 : Int32) + (p1 &&& (3 : Int32)))), .val (.int ((1 : Int32) + (((p1.toUInt32 >>> ((2 : Int32) &&& 31).toUInt32).toInt32) % (((3 : Int32) + (p1 &&& (3 : Int32))) - (2 : Int32))))), .val (.ref b11), .unset, .unset, .unset, .unset] [])) (fun T A t r => XS.astore A hx rfl (hb hby at_23) rfl rfl (l' := #[.val (.int p1), .val (.int p2), .val (.int p3), .val (.int p4), .val (.int ((3 : Int32) + (p1 &&& (3 : Int32)))), .val (.int ((1 : Int32) + (((p1.toUInt32 >>> ((2 : Int32) &&& 31).toUInt32).toInt32) % (((3 : Int32) + (p1 &&& (3 : Int32))) - (2 : Int32))))), .val (.ref b11), .unset, .unset, .unset, .unset]) rfl r) ?_
  refine Go.sp (g' := (mkF m 27 #[.val (.int p1), .val (.int p2), .val (.int p3), .val (.int p4), .val (.int ((3 : Int32) + (p1 &&& (3 : Int32)))), .val (.int ((1 : Int32) + (((p1.toUInt32 >>> ((2 : Int32) &&& 31).toUInt32).toInt32) % (((3 : Int32) + (p1 &&& (3 : Int32))) - (2 : Int32))))), .val (.ref b11), .unset, .unset, .unset, .unset] [(.ref b11)])) (fun T A t r => XS.aload A hx rfl (hb hby at_25) rfl rfl r) ?_
  refine Go.sp (g' := (mkF m 28 #[.val (.int p1), .val (.int p2), .val (.int p3), .val (.int p4), .val (.int ((3 : Int32) + (p1 &&& (3 : Int32)))), .val (.int ((1 : Int32) + (((p1.toUInt32 >>> ((2 : Int32) &&& 31).toUInt32).toInt32) % (((3 : Int32) + (p1 &&& (3 : Int32))) - (2 : Int32))))), .val (.ref b11), .unset, .unset, .unset, .unset] [(.int (0 : Int32)), (.ref b11)])) (fun T A t r => XS.iconst A hx rfl (hb hby at_27) r) ?_
  refine Go.sp (g' := (mkF m 29 #[.val (.int p1), .val (.int p2), .val (.int p3), .val (.int p4), .val (.int ((3 : Int32) + (p1 &&& (3 : Int32)))), .val (.int ((1 : Int32) + (((p1.toUInt32 >>> ((2 : Int32) &&& 31).toUInt32).toInt32) % (((3 : Int32) + (p1 &&& (3 : Int32))) - (2 : Int32))))), .val (.ref b11), .unset, .unset, .unset, .unset] [(.int p2), (.int (0 : Int32)), (.ref b11)])) (fun T A t r => XS.iloadN A hx rfl (hb hby at_28) rfl r) ?_
  refine Go.v (g' := (mkF m 31 #[.val (.int p1), .val (.int p2), .val (.int p3), .val (.int p4), .val (.int ((3 : Int32) + (p1 &&& (3 : Int32)))), .val (.int ((1 : Int32) + (((p1.toUInt32 >>> ((2 : Int32) &&& 31).toUInt32).toInt32) % (((3 : Int32) + (p1 &&& (3 : Int32))) - (2 : Int32))))), .val (.ref b11), .unset, .unset, .unset, .unset] [(.int (65535 : Int32)), (.int p2), (.int (0 : Int32)), (.ref b11)])) (fun s' T L X eT hZ hown => own_ldcI X hx hZ hown (own_w hw 1 rfl) eT (g := (mkF m 29 #[.val (.int p1), .val (.int p2), .val (.int p3), .val (.int p4), .val (.int ((3 : Int32) + (p1 &&& (3 : Int32)))), .val (.int ((1 : Int32) + (((p1.toUInt32 >>> ((2 : Int32) &&& 31).toUInt32).toInt32) % (((3 : Int32) + (p1 &&& (3 : Int32))) - (2 : Int32))))), .val (.ref b11), .unset, .unset, .unset, .unset] [(.int p2), (.int (0 : Int32)), (.ref b11)])) rfl (hb hby at_29)) ?_
  refine Go.sp (g' := (mkF m 32 #[.val (.int p1), .val (.int p2), .val (.int p3), .val (.int p4), .val (.int ((3 : Int32) + (p1 &&& (3 : Int32)))), .val (.int ((1 : Int32) + (((p1.toUInt32 >>> ((2 : Int32) &&& 31).toUInt32).toInt32) % (((3 : Int32) + (p1 &&& (3 : Int32))) - (2 : Int32))))), .val (.ref b11), .unset, .unset, .unset, .unset] [(.int (p2 &&& (65535 : Int32))), (.int (0 : Int32)), (.ref b11)])) (fun T A t r => XS.iand A hx rfl (hb hby at_31) rfl r) ?_
  refine Go.old fun O12 => ?_
  refine Go.callSP (W := 2) (y := (⟨"com/example/slow_digest/slowdigest/rules/MailAddressDomainPinLaw", "ch", "(I)C"⟩ : MethodName)) (argsL := [(.int (p2 &&& (65535 : Int32)))]) (rest := [(.int (0 : Int32)), (.ref b11)]) (pc' := 35) (hb hby at_32) (own_w hw 2 rfl) (own_w hw 3 rfl) (own_w hw 4 rfl) (own_w hw 5 rfl) (by decide) (fun s' hZ => Ct.bk (rmC l Z a0 hw [] (p2 &&& (65535 : Int32)) h11 n0 O12 (own_and_nn _)) hZ (own_w hw 5 rfl) (own_w hw 4 rfl) (by decide) (by decide)) (by rw [hml]; rfl) (lenOf pd_14 rfl) rfl (Nat.le_of_ble_eq_true rfl) rfl (by decide) (by decide) ?_
  rintro v13 ⟨z13, rfl, zb13, zn13⟩
  refine Go.cast (g' := (mkF m 35 #[.val (.int p1), .val (.int p2), .val (.int p3), .val (.int p4), .val (.int ((3 : Int32) + (p1 &&& (3 : Int32)))), .val (.int ((1 : Int32) + (((p1.toUInt32 >>> ((2 : Int32) &&& 31).toUInt32).toInt32) % (((3 : Int32) + (p1 &&& (3 : Int32))) - (2 : Int32))))), .val (.ref b11), .unset, .unset, .unset, .unset] [(.int z13), (.int (0 : Int32)), (.ref b11)])) rfl ?_
  refine Go.w (g' := (mkF m 36 #[.val (.int p1), .val (.int p2), .val (.int p3), .val (.int p4), .val (.int ((3 : Int32) + (p1 &&& (3 : Int32)))), .val (.int ((1 : Int32) + (((p1.toUInt32 >>> ((2 : Int32) &&& 31).toUInt32).toInt32) % (((3 : Int32) + (p1 &&& (3 : Int32))) - (2 : Int32))))), .val (.ref b11), .unset, .unset, .unset, .unset] [])) (fun s' T L X eT hZ hown => own_stC X hx hZ eT V11 (j := (0 : Int32)) ⟨by decide, by decide⟩ (g := (mkF m 35 #[.val (.int p1), .val (.int p2), .val (.int p3), .val (.int p4), .val (.int ((3 : Int32) + (p1 &&& (3 : Int32)))), .val (.int ((1 : Int32) + (((p1.toUInt32 >>> ((2 : Int32) &&& 31).toUInt32).toInt32) % (((3 : Int32) + (p1 &&& (3 : Int32))) - (2 : Int32))))), .val (.ref b11), .unset, .unset, .unset, .unset] [(.int z13), (.int (0 : Int32)), (.ref b11)])) rfl rfl (hb hby at_35)) (Or.inr sz11) ?_
  intro h14 W14
  have V14 : Arv Z h14 b11 k11 .char (6 : Int32) [(.int z13), (.int (0 : Int32)), (.int (0 : Int32)), (.int (0 : Int32)), (.int (0 : Int32)), (.int (0 : Int32))] (.int (0 : Int32)) := own_set V11 (fits_nar_char _) W14 (congrArg Value.int (own_nar zb13)) 0 rfl (Nat.le_of_ble_eq_true rfl)
  refine Go.sp (g' := (mkF m 38 #[.val (.int p1), .val (.int p2), .val (.int p3), .val (.int p4), .val (.int ((3 : Int32) + (p1 &&& (3 : Int32)))), .val (.int ((1 : Int32) + (((p1.toUInt32 >>> ((2 : Int32) &&& 31).toUInt32).toInt32) % (((3 : Int32) + (p1 &&& (3 : Int32))) - (2 : Int32))))), .val (.ref b11), .unset, .unset, .unset, .unset] [(.ref b11)])) (fun T A t r => XS.aload A hx rfl (hb hby at_36) rfl rfl r) ?_
  refine Go.sp (g' := (mkF m 39 #[.val (.int p1), .val (.int p2), .val (.int p3), .val (.int p4), .val (.int ((3 : Int32) + (p1 &&& (3 : Int32)))), .val (.int ((1 : Int32) + (((p1.toUInt32 >>> ((2 : Int32) &&& 31).toUInt32).toInt32) % (((3 : Int32) + (p1 &&& (3 : Int32))) - (2 : Int32))))), .val (.ref b11), .unset, .unset, .unset, .unset] [(.int (1 : Int32)), (.ref b11)])) (fun T A t r => XS.iconst A hx rfl (hb hby at_38) r) ?_
  refine Go.sp (g' := (mkF m 40 #[.val (.int p1), .val (.int p2), .val (.int p3), .val (.int p4), .val (.int ((3 : Int32) + (p1 &&& (3 : Int32)))), .val (.int ((1 : Int32) + (((p1.toUInt32 >>> ((2 : Int32) &&& 31).toUInt32).toInt32) % (((3 : Int32) + (p1 &&& (3 : Int32))) - (2 : Int32))))), .val (.ref b11), .unset, .unset, .unset, .unset] [(.int p2), (.int (1 : Int32)), (.ref b11)])) (fun T A t r => XS.iloadN A hx rfl (hb hby at_39) rfl r) ?_
  refine Go.sp (g' := (mkF m 42 #[.val (.int p1), .val (.int p2), .val (.int p3), .val (.int p4), .val (.int ((3 : Int32) + (p1 &&& (3 : Int32)))), .val (.int ((1 : Int32) + (((p1.toUInt32 >>> ((2 : Int32) &&& 31).toUInt32).toInt32) % (((3 : Int32) + (p1 &&& (3 : Int32))) - (2 : Int32))))), .val (.ref b11), .unset, .unset, .unset, .unset] [(.int (16 : Int32)), (.int p2), (.int (1 : Int32)), (.ref b11)])) (fun T A t r => XS.bipush A hx rfl (hb hby at_40) r) ?_
  refine Go.sp (g' := (mkF m 43 #[.val (.int p1), .val (.int p2), .val (.int p3), .val (.int p4), .val (.int ((3 : Int32) + (p1 &&& (3 : Int32)))), .val (.int ((1 : Int32) + (((p1.toUInt32 >>> ((2 : Int32) &&& 31).toUInt32).toInt32) % (((3 : Int32) + (p1 &&& (3 : Int32))) - (2 : Int32))))), .val (.ref b11), .unset, .unset, .unset, .unset] [(.int ((p2.toUInt32 >>> ((16 : Int32) &&& 31).toUInt32).toInt32)), (.int (1 : Int32)), (.ref b11)])) (fun T A t r => XS.iushr A hx rfl (hb hby at_42) rfl r) ?_
  refine Go.old fun O15 => ?_
  refine Go.callSP (W := 2) (y := (⟨"com/example/slow_digest/slowdigest/rules/MailAddressDomainPinLaw", "ch", "(I)C"⟩ : MethodName)) (argsL := [(.int ((p2.toUInt32 >>> ((16 : Int32) &&& 31).toUInt32).toInt32))]) (rest := [(.int (1 : Int32)), (.ref b11)]) (pc' := 46) (hb hby at_43) (own_w hw 2 rfl) (own_w hw 3 rfl) (own_w hw 4 rfl) (own_w hw 5 rfl) (by decide) (fun s' hZ => Ct.bk (rmC l Z a0 hw [] ((p2.toUInt32 >>> ((16 : Int32) &&& 31).toUInt32).toInt32) h14 n0 O15 (own_ushr_nn _)) hZ (own_w hw 5 rfl) (own_w hw 4 rfl) (by decide) (by decide)) (by rw [hml]; rfl) (lenOf pd_14 rfl) rfl (Nat.le_of_ble_eq_true rfl) rfl (by decide) (by decide) ?_
  rintro v16 ⟨z16, rfl, zb16, zn16⟩
  refine Go.cast (g' := (mkF m 46 #[.val (.int p1), .val (.int p2), .val (.int p3), .val (.int p4), .val (.int ((3 : Int32) + (p1 &&& (3 : Int32)))), .val (.int ((1 : Int32) + (((p1.toUInt32 >>> ((2 : Int32) &&& 31).toUInt32).toInt32) % (((3 : Int32) + (p1 &&& (3 : Int32))) - (2 : Int32))))), .val (.ref b11), .unset, .unset, .unset, .unset] [(.int z16), (.int (1 : Int32)), (.ref b11)])) rfl ?_
  refine Go.w (g' := (mkF m 47 #[.val (.int p1), .val (.int p2), .val (.int p3), .val (.int p4), .val (.int ((3 : Int32) + (p1 &&& (3 : Int32)))), .val (.int ((1 : Int32) + (((p1.toUInt32 >>> ((2 : Int32) &&& 31).toUInt32).toInt32) % (((3 : Int32) + (p1 &&& (3 : Int32))) - (2 : Int32))))), .val (.ref b11), .unset, .unset, .unset, .unset] [])) (fun s' T L X eT hZ hown => own_stC X hx hZ eT V14 (j := (1 : Int32)) ⟨by decide, by decide⟩ (g := (mkF m 46 #[.val (.int p1), .val (.int p2), .val (.int p3), .val (.int p4), .val (.int ((3 : Int32) + (p1 &&& (3 : Int32)))), .val (.int ((1 : Int32) + (((p1.toUInt32 >>> ((2 : Int32) &&& 31).toUInt32).toInt32) % (((3 : Int32) + (p1 &&& (3 : Int32))) - (2 : Int32))))), .val (.ref b11), .unset, .unset, .unset, .unset] [(.int z16), (.int (1 : Int32)), (.ref b11)])) rfl rfl (hb hby at_46)) (Or.inr sz11) ?_
  intro h17 W17
  have V17 : Arv Z h17 b11 k11 .char (6 : Int32) [(.int z13), (.int z16), (.int (0 : Int32)), (.int (0 : Int32)), (.int (0 : Int32)), (.int (0 : Int32))] (.int (0 : Int32)) := own_set V14 (fits_nar_char _) W17 (congrArg Value.int (own_nar zb16)) 1 rfl (Nat.le_of_ble_eq_true rfl)
  refine Go.sp (g' := (mkF m 49 #[.val (.int p1), .val (.int p2), .val (.int p3), .val (.int p4), .val (.int ((3 : Int32) + (p1 &&& (3 : Int32)))), .val (.int ((1 : Int32) + (((p1.toUInt32 >>> ((2 : Int32) &&& 31).toUInt32).toInt32) % (((3 : Int32) + (p1 &&& (3 : Int32))) - (2 : Int32))))), .val (.ref b11), .unset, .unset, .unset, .unset] [(.ref b11)])) (fun T A t r => XS.aload A hx rfl (hb hby at_47) rfl rfl r) ?_
  refine Go.sp (g' := (mkF m 50 #[.val (.int p1), .val (.int p2), .val (.int p3), .val (.int p4), .val (.int ((3 : Int32) + (p1 &&& (3 : Int32)))), .val (.int ((1 : Int32) + (((p1.toUInt32 >>> ((2 : Int32) &&& 31).toUInt32).toInt32) % (((3 : Int32) + (p1 &&& (3 : Int32))) - (2 : Int32))))), .val (.ref b11), .unset, .unset, .unset, .unset] [(.int (2 : Int32)), (.ref b11)])) (fun T A t r => XS.iconst A hx rfl (hb hby at_49) r) ?_
  refine Go.sp (g' := (mkF m 51 #[.val (.int p1), .val (.int p2), .val (.int p3), .val (.int p4), .val (.int ((3 : Int32) + (p1 &&& (3 : Int32)))), .val (.int ((1 : Int32) + (((p1.toUInt32 >>> ((2 : Int32) &&& 31).toUInt32).toInt32) % (((3 : Int32) + (p1 &&& (3 : Int32))) - (2 : Int32))))), .val (.ref b11), .unset, .unset, .unset, .unset] [(.int p3), (.int (2 : Int32)), (.ref b11)])) (fun T A t r => XS.iloadN A hx rfl (hb hby at_50) rfl r) ?_
  refine Go.v (g' := (mkF m 53 #[.val (.int p1), .val (.int p2), .val (.int p3), .val (.int p4), .val (.int ((3 : Int32) + (p1 &&& (3 : Int32)))), .val (.int ((1 : Int32) + (((p1.toUInt32 >>> ((2 : Int32) &&& 31).toUInt32).toInt32) % (((3 : Int32) + (p1 &&& (3 : Int32))) - (2 : Int32))))), .val (.ref b11), .unset, .unset, .unset, .unset] [(.int (65535 : Int32)), (.int p3), (.int (2 : Int32)), (.ref b11)])) (fun s' T L X eT hZ hown => own_ldcI X hx hZ hown (own_w hw 1 rfl) eT (g := (mkF m 51 #[.val (.int p1), .val (.int p2), .val (.int p3), .val (.int p4), .val (.int ((3 : Int32) + (p1 &&& (3 : Int32)))), .val (.int ((1 : Int32) + (((p1.toUInt32 >>> ((2 : Int32) &&& 31).toUInt32).toInt32) % (((3 : Int32) + (p1 &&& (3 : Int32))) - (2 : Int32))))), .val (.ref b11), .unset, .unset, .unset, .unset] [(.int p3), (.int (2 : Int32)), (.ref b11)])) rfl (hb hby at_51)) ?_
  refine Go.sp (g' := (mkF m 54 #[.val (.int p1), .val (.int p2), .val (.int p3), .val (.int p4), .val (.int ((3 : Int32) + (p1 &&& (3 : Int32)))), .val (.int ((1 : Int32) + (((p1.toUInt32 >>> ((2 : Int32) &&& 31).toUInt32).toInt32) % (((3 : Int32) + (p1 &&& (3 : Int32))) - (2 : Int32))))), .val (.ref b11), .unset, .unset, .unset, .unset] [(.int (p3 &&& (65535 : Int32))), (.int (2 : Int32)), (.ref b11)])) (fun T A t r => XS.iand A hx rfl (hb hby at_53) rfl r) ?_
  refine Go.old fun O18 => ?_
  refine Go.callSP (W := 2) (y := (⟨"com/example/slow_digest/slowdigest/rules/MailAddressDomainPinLaw", "ch", "(I)C"⟩ : MethodName)) (argsL := [(.int (p3 &&& (65535 : Int32)))]) (rest := [(.int (2 : Int32)), (.ref b11)]) (pc' := 57) (hb hby at_54) (own_w hw 2 rfl) (own_w hw 3 rfl) (own_w hw 4 rfl) (own_w hw 5 rfl) (by decide) (fun s' hZ => Ct.bk (rmC l Z a0 hw [] (p3 &&& (65535 : Int32)) h17 n0 O18 (own_and_nn _)) hZ (own_w hw 5 rfl) (own_w hw 4 rfl) (by decide) (by decide)) (by rw [hml]; rfl) (lenOf pd_14 rfl) rfl (Nat.le_of_ble_eq_true rfl) rfl (by decide) (by decide) ?_
  rintro v19 ⟨z19, rfl, zb19, zn19⟩
  refine Go.cast (g' := (mkF m 57 #[.val (.int p1), .val (.int p2), .val (.int p3), .val (.int p4), .val (.int ((3 : Int32) + (p1 &&& (3 : Int32)))), .val (.int ((1 : Int32) + (((p1.toUInt32 >>> ((2 : Int32) &&& 31).toUInt32).toInt32) % (((3 : Int32) + (p1 &&& (3 : Int32))) - (2 : Int32))))), .val (.ref b11), .unset, .unset, .unset, .unset] [(.int z19), (.int (2 : Int32)), (.ref b11)])) rfl ?_
  refine Go.w (g' := (mkF m 58 #[.val (.int p1), .val (.int p2), .val (.int p3), .val (.int p4), .val (.int ((3 : Int32) + (p1 &&& (3 : Int32)))), .val (.int ((1 : Int32) + (((p1.toUInt32 >>> ((2 : Int32) &&& 31).toUInt32).toInt32) % (((3 : Int32) + (p1 &&& (3 : Int32))) - (2 : Int32))))), .val (.ref b11), .unset, .unset, .unset, .unset] [])) (fun s' T L X eT hZ hown => own_stC X hx hZ eT V17 (j := (2 : Int32)) ⟨by decide, by decide⟩ (g := (mkF m 57 #[.val (.int p1), .val (.int p2), .val (.int p3), .val (.int p4), .val (.int ((3 : Int32) + (p1 &&& (3 : Int32)))), .val (.int ((1 : Int32) + (((p1.toUInt32 >>> ((2 : Int32) &&& 31).toUInt32).toInt32) % (((3 : Int32) + (p1 &&& (3 : Int32))) - (2 : Int32))))), .val (.ref b11), .unset, .unset, .unset, .unset] [(.int z19), (.int (2 : Int32)), (.ref b11)])) rfl rfl (hb hby at_57)) (Or.inr sz11) ?_
  intro h20 W20
  have V20 : Arv Z h20 b11 k11 .char (6 : Int32) [(.int z13), (.int z16), (.int z19), (.int (0 : Int32)), (.int (0 : Int32)), (.int (0 : Int32))] (.int (0 : Int32)) := own_set V17 (fits_nar_char _) W20 (congrArg Value.int (own_nar zb19)) 2 rfl (Nat.le_of_ble_eq_true rfl)
  refine Go.sp (g' := (mkF m 60 #[.val (.int p1), .val (.int p2), .val (.int p3), .val (.int p4), .val (.int ((3 : Int32) + (p1 &&& (3 : Int32)))), .val (.int ((1 : Int32) + (((p1.toUInt32 >>> ((2 : Int32) &&& 31).toUInt32).toInt32) % (((3 : Int32) + (p1 &&& (3 : Int32))) - (2 : Int32))))), .val (.ref b11), .unset, .unset, .unset, .unset] [(.ref b11)])) (fun T A t r => XS.aload A hx rfl (hb hby at_58) rfl rfl r) ?_
  refine Go.sp (g' := (mkF m 61 #[.val (.int p1), .val (.int p2), .val (.int p3), .val (.int p4), .val (.int ((3 : Int32) + (p1 &&& (3 : Int32)))), .val (.int ((1 : Int32) + (((p1.toUInt32 >>> ((2 : Int32) &&& 31).toUInt32).toInt32) % (((3 : Int32) + (p1 &&& (3 : Int32))) - (2 : Int32))))), .val (.ref b11), .unset, .unset, .unset, .unset] [(.int (3 : Int32)), (.ref b11)])) (fun T A t r => XS.iconst A hx rfl (hb hby at_60) r) ?_
  refine Go.sp (g' := (mkF m 62 #[.val (.int p1), .val (.int p2), .val (.int p3), .val (.int p4), .val (.int ((3 : Int32) + (p1 &&& (3 : Int32)))), .val (.int ((1 : Int32) + (((p1.toUInt32 >>> ((2 : Int32) &&& 31).toUInt32).toInt32) % (((3 : Int32) + (p1 &&& (3 : Int32))) - (2 : Int32))))), .val (.ref b11), .unset, .unset, .unset, .unset] [(.int p3), (.int (3 : Int32)), (.ref b11)])) (fun T A t r => XS.iloadN A hx rfl (hb hby at_61) rfl r) ?_
  refine Go.sp (g' := (mkF m 64 #[.val (.int p1), .val (.int p2), .val (.int p3), .val (.int p4), .val (.int ((3 : Int32) + (p1 &&& (3 : Int32)))), .val (.int ((1 : Int32) + (((p1.toUInt32 >>> ((2 : Int32) &&& 31).toUInt32).toInt32) % (((3 : Int32) + (p1 &&& (3 : Int32))) - (2 : Int32))))), .val (.ref b11), .unset, .unset, .unset, .unset] [(.int (16 : Int32)), (.int p3), (.int (3 : Int32)), (.ref b11)])) (fun T A t r => XS.bipush A hx rfl (hb hby at_62) r) ?_
  refine Go.sp (g' := (mkF m 65 #[.val (.int p1), .val (.int p2), .val (.int p3), .val (.int p4), .val (.int ((3 : Int32) + (p1 &&& (3 : Int32)))), .val (.int ((1 : Int32) + (((p1.toUInt32 >>> ((2 : Int32) &&& 31).toUInt32).toInt32) % (((3 : Int32) + (p1 &&& (3 : Int32))) - (2 : Int32))))), .val (.ref b11), .unset, .unset, .unset, .unset] [(.int ((p3.toUInt32 >>> ((16 : Int32) &&& 31).toUInt32).toInt32)), (.int (3 : Int32)), (.ref b11)])) (fun T A t r => XS.iushr A hx rfl (hb hby at_64) rfl r) ?_
  refine Go.old fun O21 => ?_
  refine Go.callSP (W := 2) (y := (⟨"com/example/slow_digest/slowdigest/rules/MailAddressDomainPinLaw", "ch", "(I)C"⟩ : MethodName)) (argsL := [(.int ((p3.toUInt32 >>> ((16 : Int32) &&& 31).toUInt32).toInt32))]) (rest := [(.int (3 : Int32)), (.ref b11)]) (pc' := 68) (hb hby at_65) (own_w hw 2 rfl) (own_w hw 3 rfl) (own_w hw 4 rfl) (own_w hw 5 rfl) (by decide) (fun s' hZ => Ct.bk (rmC l Z a0 hw [] ((p3.toUInt32 >>> ((16 : Int32) &&& 31).toUInt32).toInt32) h20 n0 O21 (own_ushr_nn _)) hZ (own_w hw 5 rfl) (own_w hw 4 rfl) (by decide) (by decide)) (by rw [hml]; rfl) (lenOf pd_14 rfl) rfl (Nat.le_of_ble_eq_true rfl) rfl (by decide) (by decide) ?_
  rintro v22 ⟨z22, rfl, zb22, zn22⟩
  refine Go.cast (g' := (mkF m 68 #[.val (.int p1), .val (.int p2), .val (.int p3), .val (.int p4), .val (.int ((3 : Int32) + (p1 &&& (3 : Int32)))), .val (.int ((1 : Int32) + (((p1.toUInt32 >>> ((2 : Int32) &&& 31).toUInt32).toInt32) % (((3 : Int32) + (p1 &&& (3 : Int32))) - (2 : Int32))))), .val (.ref b11), .unset, .unset, .unset, .unset] [(.int z22), (.int (3 : Int32)), (.ref b11)])) rfl ?_
  refine Go.w (g' := (mkF m 69 #[.val (.int p1), .val (.int p2), .val (.int p3), .val (.int p4), .val (.int ((3 : Int32) + (p1 &&& (3 : Int32)))), .val (.int ((1 : Int32) + (((p1.toUInt32 >>> ((2 : Int32) &&& 31).toUInt32).toInt32) % (((3 : Int32) + (p1 &&& (3 : Int32))) - (2 : Int32))))), .val (.ref b11), .unset, .unset, .unset, .unset] [])) (fun s' T L X eT hZ hown => own_stC X hx hZ eT V20 (j := (3 : Int32)) ⟨by decide, by decide⟩ (g := (mkF m 68 #[.val (.int p1), .val (.int p2), .val (.int p3), .val (.int p4), .val (.int ((3 : Int32) + (p1 &&& (3 : Int32)))), .val (.int ((1 : Int32) + (((p1.toUInt32 >>> ((2 : Int32) &&& 31).toUInt32).toInt32) % (((3 : Int32) + (p1 &&& (3 : Int32))) - (2 : Int32))))), .val (.ref b11), .unset, .unset, .unset, .unset] [(.int z22), (.int (3 : Int32)), (.ref b11)])) rfl rfl (hb hby at_68)) (Or.inr sz11) ?_
  intro h23 W23
  have V23 : Arv Z h23 b11 k11 .char (6 : Int32) [(.int z13), (.int z16), (.int z19), (.int z22), (.int (0 : Int32)), (.int (0 : Int32))] (.int (0 : Int32)) := own_set V20 (fits_nar_char _) W23 (congrArg Value.int (own_nar zb22)) 3 rfl (Nat.le_of_ble_eq_true rfl)
  refine Go.sp (g' := (mkF m 71 #[.val (.int p1), .val (.int p2), .val (.int p3), .val (.int p4), .val (.int ((3 : Int32) + (p1 &&& (3 : Int32)))), .val (.int ((1 : Int32) + (((p1.toUInt32 >>> ((2 : Int32) &&& 31).toUInt32).toInt32) % (((3 : Int32) + (p1 &&& (3 : Int32))) - (2 : Int32))))), .val (.ref b11), .unset, .unset, .unset, .unset] [(.ref b11)])) (fun T A t r => XS.aload A hx rfl (hb hby at_69) rfl rfl r) ?_
  refine Go.sp (g' := (mkF m 72 #[.val (.int p1), .val (.int p2), .val (.int p3), .val (.int p4), .val (.int ((3 : Int32) + (p1 &&& (3 : Int32)))), .val (.int ((1 : Int32) + (((p1.toUInt32 >>> ((2 : Int32) &&& 31).toUInt32).toInt32) % (((3 : Int32) + (p1 &&& (3 : Int32))) - (2 : Int32))))), .val (.ref b11), .unset, .unset, .unset, .unset] [(.int (4 : Int32)), (.ref b11)])) (fun T A t r => XS.iconst A hx rfl (hb hby at_71) r) ?_
  refine Go.sp (g' := (mkF m 73 #[.val (.int p1), .val (.int p2), .val (.int p3), .val (.int p4), .val (.int ((3 : Int32) + (p1 &&& (3 : Int32)))), .val (.int ((1 : Int32) + (((p1.toUInt32 >>> ((2 : Int32) &&& 31).toUInt32).toInt32) % (((3 : Int32) + (p1 &&& (3 : Int32))) - (2 : Int32))))), .val (.ref b11), .unset, .unset, .unset, .unset] [(.int p4), (.int (4 : Int32)), (.ref b11)])) (fun T A t r => XS.iloadN A hx rfl (hb hby at_72) rfl r) ?_
  refine Go.v (g' := (mkF m 75 #[.val (.int p1), .val (.int p2), .val (.int p3), .val (.int p4), .val (.int ((3 : Int32) + (p1 &&& (3 : Int32)))), .val (.int ((1 : Int32) + (((p1.toUInt32 >>> ((2 : Int32) &&& 31).toUInt32).toInt32) % (((3 : Int32) + (p1 &&& (3 : Int32))) - (2 : Int32))))), .val (.ref b11), .unset, .unset, .unset, .unset] [(.int (65535 : Int32)), (.int p4), (.int (4 : Int32)), (.ref b11)])) (fun s' T L X eT hZ hown => own_ldcI X hx hZ hown (own_w hw 1 rfl) eT (g := (mkF m 73 #[.val (.int p1), .val (.int p2), .val (.int p3), .val (.int p4), .val (.int ((3 : Int32) + (p1 &&& (3 : Int32)))), .val (.int ((1 : Int32) + (((p1.toUInt32 >>> ((2 : Int32) &&& 31).toUInt32).toInt32) % (((3 : Int32) + (p1 &&& (3 : Int32))) - (2 : Int32))))), .val (.ref b11), .unset, .unset, .unset, .unset] [(.int p4), (.int (4 : Int32)), (.ref b11)])) rfl (hb hby at_73)) ?_
  refine Go.sp (g' := (mkF m 76 #[.val (.int p1), .val (.int p2), .val (.int p3), .val (.int p4), .val (.int ((3 : Int32) + (p1 &&& (3 : Int32)))), .val (.int ((1 : Int32) + (((p1.toUInt32 >>> ((2 : Int32) &&& 31).toUInt32).toInt32) % (((3 : Int32) + (p1 &&& (3 : Int32))) - (2 : Int32))))), .val (.ref b11), .unset, .unset, .unset, .unset] [(.int (p4 &&& (65535 : Int32))), (.int (4 : Int32)), (.ref b11)])) (fun T A t r => XS.iand A hx rfl (hb hby at_75) rfl r) ?_
  refine Go.old fun O24 => ?_
  refine Go.callSP (W := 2) (y := (⟨"com/example/slow_digest/slowdigest/rules/MailAddressDomainPinLaw", "ch", "(I)C"⟩ : MethodName)) (argsL := [(.int (p4 &&& (65535 : Int32)))]) (rest := [(.int (4 : Int32)), (.ref b11)]) (pc' := 79) (hb hby at_76) (own_w hw 2 rfl) (own_w hw 3 rfl) (own_w hw 4 rfl) (own_w hw 5 rfl) (by decide) (fun s' hZ => Ct.bk (rmC l Z a0 hw [] (p4 &&& (65535 : Int32)) h23 n0 O24 (own_and_nn _)) hZ (own_w hw 5 rfl) (own_w hw 4 rfl) (by decide) (by decide)) (by rw [hml]; rfl) (lenOf pd_14 rfl) rfl (Nat.le_of_ble_eq_true rfl) rfl (by decide) (by decide) ?_
  rintro v25 ⟨z25, rfl, zb25, zn25⟩
  refine Go.cast (g' := (mkF m 79 #[.val (.int p1), .val (.int p2), .val (.int p3), .val (.int p4), .val (.int ((3 : Int32) + (p1 &&& (3 : Int32)))), .val (.int ((1 : Int32) + (((p1.toUInt32 >>> ((2 : Int32) &&& 31).toUInt32).toInt32) % (((3 : Int32) + (p1 &&& (3 : Int32))) - (2 : Int32))))), .val (.ref b11), .unset, .unset, .unset, .unset] [(.int z25), (.int (4 : Int32)), (.ref b11)])) rfl ?_
  refine Go.w (g' := (mkF m 80 #[.val (.int p1), .val (.int p2), .val (.int p3), .val (.int p4), .val (.int ((3 : Int32) + (p1 &&& (3 : Int32)))), .val (.int ((1 : Int32) + (((p1.toUInt32 >>> ((2 : Int32) &&& 31).toUInt32).toInt32) % (((3 : Int32) + (p1 &&& (3 : Int32))) - (2 : Int32))))), .val (.ref b11), .unset, .unset, .unset, .unset] [])) (fun s' T L X eT hZ hown => own_stC X hx hZ eT V23 (j := (4 : Int32)) ⟨by decide, by decide⟩ (g := (mkF m 79 #[.val (.int p1), .val (.int p2), .val (.int p3), .val (.int p4), .val (.int ((3 : Int32) + (p1 &&& (3 : Int32)))), .val (.int ((1 : Int32) + (((p1.toUInt32 >>> ((2 : Int32) &&& 31).toUInt32).toInt32) % (((3 : Int32) + (p1 &&& (3 : Int32))) - (2 : Int32))))), .val (.ref b11), .unset, .unset, .unset, .unset] [(.int z25), (.int (4 : Int32)), (.ref b11)])) rfl rfl (hb hby at_79)) (Or.inr sz11) ?_
  intro h26 W26
  have V26 : Arv Z h26 b11 k11 .char (6 : Int32) [(.int z13), (.int z16), (.int z19), (.int z22), (.int z25), (.int (0 : Int32))] (.int (0 : Int32)) := own_set V23 (fits_nar_char _) W26 (congrArg Value.int (own_nar zb25)) 4 rfl (Nat.le_of_ble_eq_true rfl)
  refine Go.sp (g' := (mkF m 82 #[.val (.int p1), .val (.int p2), .val (.int p3), .val (.int p4), .val (.int ((3 : Int32) + (p1 &&& (3 : Int32)))), .val (.int ((1 : Int32) + (((p1.toUInt32 >>> ((2 : Int32) &&& 31).toUInt32).toInt32) % (((3 : Int32) + (p1 &&& (3 : Int32))) - (2 : Int32))))), .val (.ref b11), .unset, .unset, .unset, .unset] [(.ref b11)])) (fun T A t r => XS.aload A hx rfl (hb hby at_80) rfl rfl r) ?_
  refine Go.sp (g' := (mkF m 83 #[.val (.int p1), .val (.int p2), .val (.int p3), .val (.int p4), .val (.int ((3 : Int32) + (p1 &&& (3 : Int32)))), .val (.int ((1 : Int32) + (((p1.toUInt32 >>> ((2 : Int32) &&& 31).toUInt32).toInt32) % (((3 : Int32) + (p1 &&& (3 : Int32))) - (2 : Int32))))), .val (.ref b11), .unset, .unset, .unset, .unset] [(.int (5 : Int32)), (.ref b11)])) (fun T A t r => XS.iconst A hx rfl (hb hby at_82) r) ?_
  refine Go.sp (g' := (mkF m 84 #[.val (.int p1), .val (.int p2), .val (.int p3), .val (.int p4), .val (.int ((3 : Int32) + (p1 &&& (3 : Int32)))), .val (.int ((1 : Int32) + (((p1.toUInt32 >>> ((2 : Int32) &&& 31).toUInt32).toInt32) % (((3 : Int32) + (p1 &&& (3 : Int32))) - (2 : Int32))))), .val (.ref b11), .unset, .unset, .unset, .unset] [(.int p4), (.int (5 : Int32)), (.ref b11)])) (fun T A t r => XS.iloadN A hx rfl (hb hby at_83) rfl r) ?_
  refine Go.sp (g' := (mkF m 86 #[.val (.int p1), .val (.int p2), .val (.int p3), .val (.int p4), .val (.int ((3 : Int32) + (p1 &&& (3 : Int32)))), .val (.int ((1 : Int32) + (((p1.toUInt32 >>> ((2 : Int32) &&& 31).toUInt32).toInt32) % (((3 : Int32) + (p1 &&& (3 : Int32))) - (2 : Int32))))), .val (.ref b11), .unset, .unset, .unset, .unset] [(.int (16 : Int32)), (.int p4), (.int (5 : Int32)), (.ref b11)])) (fun T A t r => XS.bipush A hx rfl (hb hby at_84) r) ?_
  refine Go.sp (g' := (mkF m 87 #[.val (.int p1), .val (.int p2), .val (.int p3), .val (.int p4), .val (.int ((3 : Int32) + (p1 &&& (3 : Int32)))), .val (.int ((1 : Int32) + (((p1.toUInt32 >>> ((2 : Int32) &&& 31).toUInt32).toInt32) % (((3 : Int32) + (p1 &&& (3 : Int32))) - (2 : Int32))))), .val (.ref b11), .unset, .unset, .unset, .unset] [(.int ((p4.toUInt32 >>> ((16 : Int32) &&& 31).toUInt32).toInt32)), (.int (5 : Int32)), (.ref b11)])) (fun T A t r => XS.iushr A hx rfl (hb hby at_86) rfl r) ?_
  refine Go.old fun O27 => ?_
  refine Go.callSP (W := 2) (y := (⟨"com/example/slow_digest/slowdigest/rules/MailAddressDomainPinLaw", "ch", "(I)C"⟩ : MethodName)) (argsL := [(.int ((p4.toUInt32 >>> ((16 : Int32) &&& 31).toUInt32).toInt32))]) (rest := [(.int (5 : Int32)), (.ref b11)]) (pc' := 90) (hb hby at_87) (own_w hw 2 rfl) (own_w hw 3 rfl) (own_w hw 4 rfl) (own_w hw 5 rfl) (by decide) (fun s' hZ => Ct.bk (rmC l Z a0 hw [] ((p4.toUInt32 >>> ((16 : Int32) &&& 31).toUInt32).toInt32) h26 n0 O27 (own_ushr_nn _)) hZ (own_w hw 5 rfl) (own_w hw 4 rfl) (by decide) (by decide)) (by rw [hml]; rfl) (lenOf pd_14 rfl) rfl (Nat.le_of_ble_eq_true rfl) rfl (by decide) (by decide) ?_
  rintro v28 ⟨z28, rfl, zb28, zn28⟩
  refine Go.cast (g' := (mkF m 90 #[.val (.int p1), .val (.int p2), .val (.int p3), .val (.int p4), .val (.int ((3 : Int32) + (p1 &&& (3 : Int32)))), .val (.int ((1 : Int32) + (((p1.toUInt32 >>> ((2 : Int32) &&& 31).toUInt32).toInt32) % (((3 : Int32) + (p1 &&& (3 : Int32))) - (2 : Int32))))), .val (.ref b11), .unset, .unset, .unset, .unset] [(.int z28), (.int (5 : Int32)), (.ref b11)])) rfl ?_
  refine Go.w (g' := (mkF m 91 #[.val (.int p1), .val (.int p2), .val (.int p3), .val (.int p4), .val (.int ((3 : Int32) + (p1 &&& (3 : Int32)))), .val (.int ((1 : Int32) + (((p1.toUInt32 >>> ((2 : Int32) &&& 31).toUInt32).toInt32) % (((3 : Int32) + (p1 &&& (3 : Int32))) - (2 : Int32))))), .val (.ref b11), .unset, .unset, .unset, .unset] [])) (fun s' T L X eT hZ hown => own_stC X hx hZ eT V26 (j := (5 : Int32)) ⟨by decide, by decide⟩ (g := (mkF m 90 #[.val (.int p1), .val (.int p2), .val (.int p3), .val (.int p4), .val (.int ((3 : Int32) + (p1 &&& (3 : Int32)))), .val (.int ((1 : Int32) + (((p1.toUInt32 >>> ((2 : Int32) &&& 31).toUInt32).toInt32) % (((3 : Int32) + (p1 &&& (3 : Int32))) - (2 : Int32))))), .val (.ref b11), .unset, .unset, .unset, .unset] [(.int z28), (.int (5 : Int32)), (.ref b11)])) rfl rfl (hb hby at_90)) (Or.inr sz11) ?_
  intro h29 W29
  have V29 : Arv Z h29 b11 k11 .char (6 : Int32) [(.int z13), (.int z16), (.int z19), (.int z22), (.int z25), (.int z28)] (.int (0 : Int32)) := own_set V26 (fits_nar_char _) W29 (congrArg Value.int (own_nar zb28)) 5 rfl (Nat.le_of_ble_eq_true rfl)
  rcases own_cases p1 with ⟨hn, ha⟩ | ⟨hn, ha⟩ | ⟨hn, ha⟩ | ⟨hn, ha⟩ | ⟨hn, ha⟩ | ⟨hn, ha⟩ | ⟨hn, ha⟩ | ⟨hn, ha⟩ | ⟨hn, ha⟩ | ⟨hn, ha⟩
  · skip
    refine Go.cast (g' := (mkF m 91 #[.val (.int p1), .val (.int p2), .val (.int p3), .val (.int p4), .val (.int (3 : Int32)), .val (.int (1 : Int32)), .val (.ref b11), .unset, .unset, .unset, .unset] [])) (by rw [ha, hn]) ?_
    refine Go.sp (g' := (mkF m 93 #[.val (.int p1), .val (.int p2), .val (.int p3), .val (.int p4), .val (.int (3 : Int32)), .val (.int (1 : Int32)), .val (.ref b11), .unset, .unset, .unset, .unset] [(.ref b11)])) (fun T A t r => XS.aload A hx rfl (hb hby at_91) rfl rfl r) ?_
    refine Go.sp (g' := (mkF m 95 #[.val (.int p1), .val (.int p2), .val (.int p3), .val (.int p4), .val (.int (3 : Int32)), .val (.int (1 : Int32)), .val (.ref b11), .unset, .unset, .unset, .unset] [(.int (1 : Int32)), (.ref b11)])) (fun T A t r => XS.iload A hx rfl (hb hby at_93) rfl r) ?_
    refine Go.sp (g' := (mkF m 97 #[.val (.int p1), .val (.int p2), .val (.int p3), .val (.int p4), .val (.int (3 : Int32)), .val (.int (1 : Int32)), .val (.ref b11), .unset, .unset, .unset, .unset] [(.int (64 : Int32)), (.int (1 : Int32)), (.ref b11)])) (fun T A t r => XS.bipush A hx rfl (hb hby at_95) r) ?_
    refine Go.w (g' := (mkF m 98 #[.val (.int p1), .val (.int p2), .val (.int p3), .val (.int p4), .val (.int (3 : Int32)), .val (.int (1 : Int32)), .val (.ref b11), .unset, .unset, .unset, .unset] [])) (fun s' T L X eT hZ hown => own_stC X hx hZ eT V29 (j := (1 : Int32)) ⟨by decide, by decide⟩ (g := (mkF m 97 #[.val (.int p1), .val (.int p2), .val (.int p3), .val (.int p4), .val (.int (3 : Int32)), .val (.int (1 : Int32)), .val (.ref b11), .unset, .unset, .unset, .unset] [(.int (64 : Int32)), (.int (1 : Int32)), (.ref b11)])) rfl rfl (hb hby at_97)) (Or.inr sz11) ?_
    intro h30 W30
    have V30 : Arv Z h30 b11 k11 .char (6 : Int32) [(.int z13), (.int (64 : Int32)), (.int z19), (.int z22), (.int z25), (.int z28)] (.int (0 : Int32)) := own_set V29 (fits_nar_char _) W30 rfl 1 rfl (Nat.le_of_ble_eq_true rfl)
    refine Go.sp (g' := (mkF m 100 #[.val (.int p1), .val (.int p2), .val (.int p3), .val (.int p4), .val (.int (3 : Int32)), .val (.int (1 : Int32)), .val (.ref b11), .unset, .unset, .unset, .unset] [(.int (3 : Int32))])) (fun T A t r => XS.iload A hx rfl (hb hby at_98) rfl r) ?_
    refine Go.sp (g' := (mkF m 101 #[.val (.int p1), .val (.int p2), .val (.int p3), .val (.int p4), .val (.int (3 : Int32)), .val (.int (1 : Int32)), .val (.ref b11), .unset, .unset, .unset, .unset] [(.int (3 : Int32)), (.int (3 : Int32))])) (fun T A t r => XS.iconst A hx rfl (hb hby at_100) r) ?_
    refine Go.sp (g' := (mkF m 104 #[.val (.int p1), .val (.int p2), .val (.int p3), .val (.int p4), .val (.int (3 : Int32)), .val (.int (1 : Int32)), .val (.ref b11), .unset, .unset, .unset, .unset] [])) (fun T A t r => XS.icmpNo A hx rfl (hb hby at_101) rfl (teq (by decide : ((3 : Int32) = (3 : Int32)))).2 r) ?_
    refine Go.newO (k' := 2) (n' := 10) (pc' := 107) (hb hby at_104) (own_w hw 6 rfl) (own_w hw 7 rfl) (own_w hw 8 rfl) rfl rfl rfl (by decide) (by decide) ?_
    intro b31 h31 g31 sz31 E31 A31 D31
    have F31_coder : Fld Z h31 b31 "java/lang/String" "coder" "B" (.int (0 : Int32)) := D31 (Or.inr (own_w hw 32 rfl)) (ty := .byte) (by decide)
    have F31_value : Fld Z h31 b31 "java/lang/String" "value" "[B" .null := D31 (Or.inr (own_w hw 34 rfl)) (ty := (.array .byte)) (by decide)
    refine Go.sp (g' := (mkF m 108 #[.val (.int p1), .val (.int p2), .val (.int p3), .val (.int p4), .val (.int (3 : Int32)), .val (.int (1 : Int32)), .val (.ref b11), .unset, .unset, .unset, .unset] [(.ref b31), (.ref b31)])) (fun T A t r => XS.dup A hx rfl (hb hby at_107) rfl rfl r) ?_
    refine Go.sp (g' := (mkF m 109 #[.val (.int p1), .val (.int p2), .val (.int p3), .val (.int p4), .val (.int (3 : Int32)), .val (.int (1 : Int32)), .val (.ref b11), .unset, .unset, .unset, .unset] [(.int (3 : Int32)), (.ref b31), (.ref b31)])) (fun T A t r => XS.iconst A hx rfl (hb hby at_108) r) ?_
    refine Go.newP (ty := .char) (dv := (.int (0 : Int32))) (cap := 3) (k' := 3) (n' := 13) (pc' := 111) (hb hby at_109) rfl rfl (own_w hw 0 rfl) (by decide) (by decide) (by decide) rfl rfl rfl (by decide) (by decide) ?_
    intro b32 h32 k32 g32 sz32 E32 A32
    have V32 : Arv Z h32 b32 k32 .char (3 : Int32) [(.int (0 : Int32)), (.int (0 : Int32)), (.int (0 : Int32))] (.int (0 : Int32)) := A32.pad (pad_rep [] (.int (0 : Int32)) 3)
    refine Go.sp (g' := (mkF m 112 #[.val (.int p1), .val (.int p2), .val (.int p3), .val (.int p4), .val (.int (3 : Int32)), .val (.int (1 : Int32)), .val (.ref b11), .unset, .unset, .unset, .unset] [(.ref b32), (.ref b32), (.ref b31), (.ref b31)])) (fun T A t r => XS.dup A hx rfl (hb hby at_111) rfl rfl r) ?_
    refine Go.sp (g' := (mkF m 113 #[.val (.int p1), .val (.int p2), .val (.int p3), .val (.int p4), .val (.int (3 : Int32)), .val (.int (1 : Int32)), .val (.ref b11), .unset, .unset, .unset, .unset] [(.int (0 : Int32)), (.ref b32), (.ref b32), (.ref b31), (.ref b31)])) (fun T A t r => XS.iconst A hx rfl (hb hby at_112) r) ?_
    refine Go.sp (g' := (mkF m 115 #[.val (.int p1), .val (.int p2), .val (.int p3), .val (.int p4), .val (.int (3 : Int32)), .val (.int (1 : Int32)), .val (.ref b11), .unset, .unset, .unset, .unset] [(.ref b11), (.int (0 : Int32)), (.ref b32), (.ref b32), (.ref b31), (.ref b31)])) (fun T A t r => XS.aload A hx rfl (hb hby at_113) rfl rfl r) ?_
    refine Go.sp (g' := (mkF m 116 #[.val (.int p1), .val (.int p2), .val (.int p3), .val (.int p4), .val (.int (3 : Int32)), .val (.int (1 : Int32)), .val (.ref b11), .unset, .unset, .unset, .unset] [(.int (0 : Int32)), (.ref b11), (.int (0 : Int32)), (.ref b32), (.ref b32), (.ref b31), (.ref b31)])) (fun T A t r => XS.iconst A hx rfl (hb hby at_115) r) ?_
    have f33 := ((V30.ext E31).ext E32)
    refine Go.r (g' := (mkF m 117 #[.val (.int p1), .val (.int p2), .val (.int p3), .val (.int p4), .val (.int (3 : Int32)), .val (.int (1 : Int32)), .val (.ref b11), .unset, .unset, .unset, .unset] [(.int z13), (.int (0 : Int32)), (.ref b32), (.ref b32), (.ref b31), (.ref b31)])) (fun s' T L X eT hZ t r => own_ldC X hx hZ eT f33 (j := (0 : Int32)) ⟨by decide, by decide⟩ (v := (.int z13)) rfl (g := (mkF m 116 #[.val (.int p1), .val (.int p2), .val (.int p3), .val (.int p4), .val (.int (3 : Int32)), .val (.int (1 : Int32)), .val (.ref b11), .unset, .unset, .unset, .unset] [(.int (0 : Int32)), (.ref b11), (.int (0 : Int32)), (.ref b32), (.ref b32), (.ref b31), (.ref b31)])) rfl rfl (hb hby at_116) t r) ?_
    refine Go.w (g' := (mkF m 118 #[.val (.int p1), .val (.int p2), .val (.int p3), .val (.int p4), .val (.int (3 : Int32)), .val (.int (1 : Int32)), .val (.ref b11), .unset, .unset, .unset, .unset] [(.ref b32), (.ref b31), (.ref b31)])) (fun s' T L X eT hZ hown => own_stC X hx hZ eT V32 (j := (0 : Int32)) ⟨by decide, by decide⟩ (g := (mkF m 117 #[.val (.int p1), .val (.int p2), .val (.int p3), .val (.int p4), .val (.int (3 : Int32)), .val (.int (1 : Int32)), .val (.ref b11), .unset, .unset, .unset, .unset] [(.int z13), (.int (0 : Int32)), (.ref b32), (.ref b32), (.ref b31), (.ref b31)])) rfl rfl (hb hby at_117)) (Or.inr sz32) ?_
    intro h34 W34
    have V34 : Arv Z h34 b32 k32 .char (3 : Int32) [(.int z13), (.int (0 : Int32)), (.int (0 : Int32))] (.int (0 : Int32)) := own_set V32 (fits_nar_char _) W34 (congrArg Value.int (own_nar zb13)) 0 rfl (Nat.le_of_ble_eq_true rfl)
    refine Go.sp (g' := (mkF m 119 #[.val (.int p1), .val (.int p2), .val (.int p3), .val (.int p4), .val (.int (3 : Int32)), .val (.int (1 : Int32)), .val (.ref b11), .unset, .unset, .unset, .unset] [(.ref b32), (.ref b32), (.ref b31), (.ref b31)])) (fun T A t r => XS.dup A hx rfl (hb hby at_118) rfl rfl r) ?_
    refine Go.sp (g' := (mkF m 120 #[.val (.int p1), .val (.int p2), .val (.int p3), .val (.int p4), .val (.int (3 : Int32)), .val (.int (1 : Int32)), .val (.ref b11), .unset, .unset, .unset, .unset] [(.int (1 : Int32)), (.ref b32), (.ref b32), (.ref b31), (.ref b31)])) (fun T A t r => XS.iconst A hx rfl (hb hby at_119) r) ?_
    refine Go.sp (g' := (mkF m 122 #[.val (.int p1), .val (.int p2), .val (.int p3), .val (.int p4), .val (.int (3 : Int32)), .val (.int (1 : Int32)), .val (.ref b11), .unset, .unset, .unset, .unset] [(.ref b11), (.int (1 : Int32)), (.ref b32), (.ref b32), (.ref b31), (.ref b31)])) (fun T A t r => XS.aload A hx rfl (hb hby at_120) rfl rfl r) ?_
    refine Go.sp (g' := (mkF m 123 #[.val (.int p1), .val (.int p2), .val (.int p3), .val (.int p4), .val (.int (3 : Int32)), .val (.int (1 : Int32)), .val (.ref b11), .unset, .unset, .unset, .unset] [(.int (1 : Int32)), (.ref b11), (.int (1 : Int32)), (.ref b32), (.ref b32), (.ref b31), (.ref b31)])) (fun T A t r => XS.iconst A hx rfl (hb hby at_122) r) ?_
    have f35 := (V30.ext E31)
    have ne36 : b11 ≠ b32 := Nat.ne_of_lt (Nat.lt_of_lt_of_le f35.lt (Nat.le_of_eq g32.symm))
    have f37 := (f33.other W34 ne36)
    refine Go.r (g' := (mkF m 124 #[.val (.int p1), .val (.int p2), .val (.int p3), .val (.int p4), .val (.int (3 : Int32)), .val (.int (1 : Int32)), .val (.ref b11), .unset, .unset, .unset, .unset] [(.int (64 : Int32)), (.int (1 : Int32)), (.ref b32), (.ref b32), (.ref b31), (.ref b31)])) (fun s' T L X eT hZ t r => own_ldC X hx hZ eT f37 (j := (1 : Int32)) ⟨by decide, by decide⟩ (v := (.int (64 : Int32))) rfl (g := (mkF m 123 #[.val (.int p1), .val (.int p2), .val (.int p3), .val (.int p4), .val (.int (3 : Int32)), .val (.int (1 : Int32)), .val (.ref b11), .unset, .unset, .unset, .unset] [(.int (1 : Int32)), (.ref b11), (.int (1 : Int32)), (.ref b32), (.ref b32), (.ref b31), (.ref b31)])) rfl rfl (hb hby at_123) t r) ?_
    refine Go.w (g' := (mkF m 125 #[.val (.int p1), .val (.int p2), .val (.int p3), .val (.int p4), .val (.int (3 : Int32)), .val (.int (1 : Int32)), .val (.ref b11), .unset, .unset, .unset, .unset] [(.ref b32), (.ref b31), (.ref b31)])) (fun s' T L X eT hZ hown => own_stC X hx hZ eT V34 (j := (1 : Int32)) ⟨by decide, by decide⟩ (g := (mkF m 124 #[.val (.int p1), .val (.int p2), .val (.int p3), .val (.int p4), .val (.int (3 : Int32)), .val (.int (1 : Int32)), .val (.ref b11), .unset, .unset, .unset, .unset] [(.int (64 : Int32)), (.int (1 : Int32)), (.ref b32), (.ref b32), (.ref b31), (.ref b31)])) rfl rfl (hb hby at_124)) (Or.inr sz32) ?_
    intro h38 W38
    have V38 : Arv Z h38 b32 k32 .char (3 : Int32) [(.int z13), (.int (64 : Int32)), (.int (0 : Int32))] (.int (0 : Int32)) := own_set V34 (fits_nar_char _) W38 rfl 1 rfl (Nat.le_of_ble_eq_true rfl)
    refine Go.sp (g' := (mkF m 126 #[.val (.int p1), .val (.int p2), .val (.int p3), .val (.int p4), .val (.int (3 : Int32)), .val (.int (1 : Int32)), .val (.ref b11), .unset, .unset, .unset, .unset] [(.ref b32), (.ref b32), (.ref b31), (.ref b31)])) (fun T A t r => XS.dup A hx rfl (hb hby at_125) rfl rfl r) ?_
    refine Go.sp (g' := (mkF m 127 #[.val (.int p1), .val (.int p2), .val (.int p3), .val (.int p4), .val (.int (3 : Int32)), .val (.int (1 : Int32)), .val (.ref b11), .unset, .unset, .unset, .unset] [(.int (2 : Int32)), (.ref b32), (.ref b32), (.ref b31), (.ref b31)])) (fun T A t r => XS.iconst A hx rfl (hb hby at_126) r) ?_
    refine Go.sp (g' := (mkF m 129 #[.val (.int p1), .val (.int p2), .val (.int p3), .val (.int p4), .val (.int (3 : Int32)), .val (.int (1 : Int32)), .val (.ref b11), .unset, .unset, .unset, .unset] [(.ref b11), (.int (2 : Int32)), (.ref b32), (.ref b32), (.ref b31), (.ref b31)])) (fun T A t r => XS.aload A hx rfl (hb hby at_127) rfl rfl r) ?_
    refine Go.sp (g' := (mkF m 130 #[.val (.int p1), .val (.int p2), .val (.int p3), .val (.int p4), .val (.int (3 : Int32)), .val (.int (1 : Int32)), .val (.ref b11), .unset, .unset, .unset, .unset] [(.int (2 : Int32)), (.ref b11), (.int (2 : Int32)), (.ref b32), (.ref b32), (.ref b31), (.ref b31)])) (fun T A t r => XS.iconst A hx rfl (hb hby at_129) r) ?_
    have f39 := (f37.other W38 ne36)
    refine Go.r (g' := (mkF m 131 #[.val (.int p1), .val (.int p2), .val (.int p3), .val (.int p4), .val (.int (3 : Int32)), .val (.int (1 : Int32)), .val (.ref b11), .unset, .unset, .unset, .unset] [(.int z19), (.int (2 : Int32)), (.ref b32), (.ref b32), (.ref b31), (.ref b31)])) (fun s' T L X eT hZ t r => own_ldC X hx hZ eT f39 (j := (2 : Int32)) ⟨by decide, by decide⟩ (v := (.int z19)) rfl (g := (mkF m 130 #[.val (.int p1), .val (.int p2), .val (.int p3), .val (.int p4), .val (.int (3 : Int32)), .val (.int (1 : Int32)), .val (.ref b11), .unset, .unset, .unset, .unset] [(.int (2 : Int32)), (.ref b11), (.int (2 : Int32)), (.ref b32), (.ref b32), (.ref b31), (.ref b31)])) rfl rfl (hb hby at_130) t r) ?_
    refine Go.w (g' := (mkF m 132 #[.val (.int p1), .val (.int p2), .val (.int p3), .val (.int p4), .val (.int (3 : Int32)), .val (.int (1 : Int32)), .val (.ref b11), .unset, .unset, .unset, .unset] [(.ref b32), (.ref b31), (.ref b31)])) (fun s' T L X eT hZ hown => own_stC X hx hZ eT V38 (j := (2 : Int32)) ⟨by decide, by decide⟩ (g := (mkF m 131 #[.val (.int p1), .val (.int p2), .val (.int p3), .val (.int p4), .val (.int (3 : Int32)), .val (.int (1 : Int32)), .val (.ref b11), .unset, .unset, .unset, .unset] [(.int z19), (.int (2 : Int32)), (.ref b32), (.ref b32), (.ref b31), (.ref b31)])) rfl rfl (hb hby at_131)) (Or.inr sz32) ?_
    intro h40 W40
    have V40 : Arv Z h40 b32 k32 .char (3 : Int32) [(.int z13), (.int (64 : Int32)), (.int z19)] (.int (0 : Int32)) := own_set V38 (fits_nar_char _) W40 (congrArg Value.int (own_nar zb19)) 2 rfl (Nat.le_of_ble_eq_true rfl)
    have f41 := ((((A31.ext E32).wr W34).wr W38).wr W40)
    have ne42 : b31 ≠ b32 := Nat.ne_of_lt (Nat.lt_of_lt_of_le A31.lt (Nat.le_of_eq g32.symm))
    have f43 := ((((F31_value.ext E32).other W34 (Or.inl ne42)).other W38 (Or.inl ne42)).other W40 (Or.inl ne42))
    have f44 := ((((F31_coder.ext E32).other W34 (Or.inl ne42)).other W38 (Or.inl ne42)).other W40 (Or.inl ne42))
    refine Go.old fun O45 => ?_
    have lat46 : ∀ c ∈ [z13, (64 : Int32), z19], ¬ c < 0 ∧ ¬ (255 : Int32) < c := own_allc zb13 (own_allc (by decide) (own_allc zb19 (own_allc0)))
    refine Go.callC (a := b31) (ws' := [b31]) (W := 1) (y := (⟨"java/lang/String", "<init>", "([C)V"⟩ : MethodName)) (argsL := [(.ref b32)]) (rest := [(.ref b31)]) (pc' := 135) (k' := 4) (n' := 16) (hb hby at_132) rfl (own_w hw 9 rfl) (own_w hw 10 rfl) (own_w hw 11 rfl) (by decide) (fun s' hZ => own_str hw (own_w hw 7 rfl) hZ (cs := [z13, (64 : Int32), z19]) (n := 3) (Nat.le_trans (Old.le O0) sz31) O45 f41 f43 f44 V40 S0 P0 rfl rfl (by decide) (by decide) lat46 (by decide) (by decide)) (by rw [hml]; rfl) (lenOf pd_15 rfl) rfl (Nat.le_of_ble_eq_true rfl) rfl rfl rfl (by decide) (by decide) (allS (Or.inr sz31) all0) ?_
    rintro v47 h47 K47 ⟨rfl, E47, C47, t47, kb47, ge47, V47, B47⟩
    refine Go.cast (g' := (mkF m 135 #[.val (.int p1), .val (.int p2), .val (.int p3), .val (.int p4), .val (.int (3 : Int32)), .val (.int (1 : Int32)), .val (.ref b11), .unset, .unset, .unset, .unset] [(.ref b31)])) rfl ?_
    refine Go.sp (g' := (mkF m 137 #[.val (.int p1), .val (.int p2), .val (.int p3), .val (.int p4), .val (.int (3 : Int32)), .val (.int (1 : Int32)), .val (.ref b11), .val (.ref b31), .unset, .unset, .unset] [])) (fun T A t r => XS.astore A hx rfl (hb hby at_135) rfl rfl (l' := #[.val (.int p1), .val (.int p2), .val (.int p3), .val (.int p4), .val (.int (3 : Int32)), .val (.int (1 : Int32)), .val (.ref b11), .val (.ref b31), .unset, .unset, .unset]) rfl r) ?_
    refine Go.sp (g' := (mkF m 300 #[.val (.int p1), .val (.int p2), .val (.int p3), .val (.int p4), .val (.int (3 : Int32)), .val (.int (1 : Int32)), .val (.ref b11), .val (.ref b31), .unset, .unset, .unset] [])) (fun T A t r => XS.goto A hx rfl (pc0 := 137) (pc' := 300) rfl (hb hby at_137) (by decide) (by decide) r) ?_
    refine Go.sp (g' := (mkF m 302 #[.val (.int p1), .val (.int p2), .val (.int p3), .val (.int p4), .val (.int (3 : Int32)), .val (.int (1 : Int32)), .val (.ref b11), .val (.ref b31), .unset, .unset, .unset] [(.ref b31)])) (fun T A t r => XS.aload A hx rfl (hb hby at_300) rfl rfl r) ?_
    refine Go.old fun O48 => ?_
    refine Go.callS (ws' := []) (W := 0) (y := (⟨"com/example/slow_digest/slowdigest/rules/MailAddress", "domain", "(Ljava/lang/String;)Ljava/lang/String;"⟩ : MethodName)) (argsL := [(.ref b31)]) (rest := []) (pc' := 305) (k' := 6) (n' := 28) (hb hby at_302) (own_w hw 35 rfl) (own_w hw 36 rfl) (own_w hw 37 rfl) (own_w hw 38 rfl) (by decide) (fun s' hZ => Ct.bk (rmD l Z a0 hw [] b31 t47 kb47 [z13, (64 : Int32), z19] 1 zS fm h47 n0 O48 E47 C47 V47 B47 lat46 (Nat.le_of_ble_eq_true rfl) (Nat.le_of_ble_eq_true rfl) rfl (own_lt1 zn13) (Nat.le_of_ble_eq_true rfl) S0 P0 SF RF) hZ (own_w hw 38 rfl) (own_w hw 37 rfl) (by decide) (by decide)) (by rw [hml]; rfl) (lenOf pd_16 rfl) rfl (Nat.le_of_ble_eq_true rfl) rfl rfl rfl (by decide) (by decide) all0 ?_
    rintro v49 h49 K49 ⟨a49, t49, kb49, rfl, E49, C49, V49, B49⟩
    refine Go.cast (g' := (mkF m 305 #[.val (.int p1), .val (.int p2), .val (.int p3), .val (.int p4), .val (.int (3 : Int32)), .val (.int (1 : Int32)), .val (.ref b11), .val (.ref b31), .unset, .unset, .unset] [(.ref a49)])) rfl ?_
    have D49 : Arv Z h49 t49 kb49 .byte (1 : Int32) (([z19].map fun c => c.toInt8.toInt32).map Value.int) (.int 0) := B49
    have lat50 : ∀ c ∈ [z19], ¬ c < 0 ∧ ¬ (255 : Int32) < c := own_allc zb19 (own_allc0)
    refine Go.sp (g' := (mkF m 307 #[.val (.int p1), .val (.int p2), .val (.int p3), .val (.int p4), .val (.int (3 : Int32)), .val (.int (1 : Int32)), .val (.ref b11), .val (.ref b31), .val (.ref a49), .unset, .unset] [])) (fun T A t r => XS.astore A hx rfl (hb hby at_305) rfl rfl (l' := #[.val (.int p1), .val (.int p2), .val (.int p3), .val (.int p4), .val (.int (3 : Int32)), .val (.int (1 : Int32)), .val (.ref b11), .val (.ref b31), .val (.ref a49), .unset, .unset]) rfl r) ?_
    refine Go.sp (g' := (mkF m 309 #[.val (.int p1), .val (.int p2), .val (.int p3), .val (.int p4), .val (.int (3 : Int32)), .val (.int (1 : Int32)), .val (.ref b11), .val (.ref b31), .val (.ref a49), .unset, .unset] [(.int (3 : Int32))])) (fun T A t r => XS.iload A hx rfl (hb hby at_307) rfl r) ?_
    refine Go.sp (g' := (mkF m 311 #[.val (.int p1), .val (.int p2), .val (.int p3), .val (.int p4), .val (.int (3 : Int32)), .val (.int (1 : Int32)), .val (.ref b11), .val (.ref b31), .val (.ref a49), .unset, .unset] [(.int (1 : Int32)), (.int (3 : Int32))])) (fun T A t r => XS.iload A hx rfl (hb hby at_309) rfl r) ?_
    refine Go.sp (g' := (mkF m 312 #[.val (.int p1), .val (.int p2), .val (.int p3), .val (.int p4), .val (.int (3 : Int32)), .val (.int (1 : Int32)), .val (.ref b11), .val (.ref b31), .val (.ref a49), .unset, .unset] [(.int (2 : Int32))])) (fun T A t r => XS.isub A hx rfl (hb hby at_311) rfl r) ?_
    refine Go.sp (g' := (mkF m 313 #[.val (.int p1), .val (.int p2), .val (.int p3), .val (.int p4), .val (.int (3 : Int32)), .val (.int (1 : Int32)), .val (.ref b11), .val (.ref b31), .val (.ref a49), .unset, .unset] [(.int (1 : Int32)), (.int (2 : Int32))])) (fun T A t r => XS.iconst A hx rfl (hb hby at_312) r) ?_
    refine Go.sp (g' := (mkF m 314 #[.val (.int p1), .val (.int p2), .val (.int p3), .val (.int p4), .val (.int (3 : Int32)), .val (.int (1 : Int32)), .val (.ref b11), .val (.ref b31), .val (.ref a49), .unset, .unset] [(.int (1 : Int32))])) (fun T A t r => XS.isub A hx rfl (hb hby at_313) rfl r) ?_
    refine Go.sp (g' := (mkF m 316 #[.val (.int p1), .val (.int p2), .val (.int p3), .val (.int p4), .val (.int (3 : Int32)), .val (.int (1 : Int32)), .val (.ref b11), .val (.ref b31), .val (.ref a49), .val (.int (1 : Int32)), .unset] [])) (fun T A t r => XS.istore A hx rfl (hb hby at_314) rfl (l' := #[.val (.int p1), .val (.int p2), .val (.int p3), .val (.int p4), .val (.int (3 : Int32)), .val (.int (1 : Int32)), .val (.ref b11), .val (.ref b31), .val (.ref a49), .val (.int (1 : Int32)), .unset]) rfl r) ?_
    refine Go.sp (g' := (mkF m 318 #[.val (.int p1), .val (.int p2), .val (.int p3), .val (.int p4), .val (.int (3 : Int32)), .val (.int (1 : Int32)), .val (.ref b11), .val (.ref b31), .val (.ref a49), .val (.int (1 : Int32)), .unset] [(.ref a49)])) (fun T A t r => XS.aload A hx rfl (hb hby at_316) rfl rfl r) ?_
    refine Go.old fun O51 => ?_
    refine Go.callVP (a := a49) (z := (⟨"java/lang/String", "length", "()I"⟩ : MethodName)) (W := 0) (y := (⟨"java/lang/String", "length", "()I"⟩ : MethodName)) (argsL := []) (rest := []) (pc' := 321) (hb hby at_318) (own_w hw 121 rfl) (own_w hw 55 rfl) (fun s' hZ => notFace_of_selects (args := #[]) (mvT hZ (own_w hw 57 rfl))) (own_w hw 57 rfl) (own_w hw 56 rfl) (by decide) (fun s' hZ => Bk.pure (StrChars.Road.lenW (kI := 4) (cs := [z19]) hZ (own_lenw hw) (own_w hw 7 rfl) E49 V49 C49 D49 (own_cod rfl lat50) (own_up lat50) (S0.ext O51.2) P0 (by show 1 ≤ 4000; decide) (by decide) (by decide))) E49 (by rw [hml]; rfl) (lenOf pd_4 rfl) rfl (Nat.le_of_ble_eq_true rfl) rfl (by decide) (by decide) ?_
    rintro v52 rfl
    refine Go.cast (g' := (mkF m 321 #[.val (.int p1), .val (.int p2), .val (.int p3), .val (.int p4), .val (.int (3 : Int32)), .val (.int (1 : Int32)), .val (.ref b11), .val (.ref b31), .val (.ref a49), .val (.int (1 : Int32)), .unset] [(.int (1 : Int32))])) rfl ?_
    refine Go.sp (g' := (mkF m 323 #[.val (.int p1), .val (.int p2), .val (.int p3), .val (.int p4), .val (.int (3 : Int32)), .val (.int (1 : Int32)), .val (.ref b11), .val (.ref b31), .val (.ref a49), .val (.int (1 : Int32)), .unset] [(.int (1 : Int32)), (.int (1 : Int32))])) (fun T A t r => XS.iload A hx rfl (hb hby at_321) rfl r) ?_
    refine Go.sp (g' := (mkF m 328 #[.val (.int p1), .val (.int p2), .val (.int p3), .val (.int p4), .val (.int (3 : Int32)), .val (.int (1 : Int32)), .val (.ref b11), .val (.ref b31), .val (.ref a49), .val (.int (1 : Int32)), .unset] [])) (fun T A t r => XS.icmpYes A hx rfl (pc0 := 323) (pc' := 328) rfl (hb hby at_323) rfl (teq (by decide : ((1 : Int32) = (1 : Int32)))).1 (by decide) (by decide) r) ?_
    refine Go.sp (g' := (mkF m 329 #[.val (.int p1), .val (.int p2), .val (.int p3), .val (.int p4), .val (.int (3 : Int32)), .val (.int (1 : Int32)), .val (.ref b11), .val (.ref b31), .val (.ref a49), .val (.int (1 : Int32)), .unset] [(.int (1 : Int32))])) (fun T A t r => XS.iconst A hx rfl (hb hby at_328) r) ?_
    refine Go.sp (g' := (mkF m 331 #[.val (.int p1), .val (.int p2), .val (.int p3), .val (.int p4), .val (.int (3 : Int32)), .val (.int (1 : Int32)), .val (.ref b11), .val (.ref b31), .val (.ref a49), .val (.int (1 : Int32)), .val (.int (1 : Int32))] [])) (fun T A t r => XS.istore A hx rfl (hb hby at_329) rfl (l' := #[.val (.int p1), .val (.int p2), .val (.int p3), .val (.int p4), .val (.int (3 : Int32)), .val (.int (1 : Int32)), .val (.ref b11), .val (.ref b31), .val (.ref a49), .val (.int (1 : Int32)), .val (.int (1 : Int32))]) rfl r) ?_
    refine Go.sp (g' := (mkF m 332 #[.val (.int p1), .val (.int p2), .val (.int p3), .val (.int p4), .val (.int (3 : Int32)), .val (.int (1 : Int32)), .val (.ref b11), .val (.ref b31), .val (.ref a49), .val (.int (1 : Int32)), .val (.int (1 : Int32))] [(.int (0 : Int32))])) (fun T A t r => XS.iconst A hx rfl (hb hby at_331) r) ?_
    refine Go.sp (g' := (mkF m 334 #[.val (.int p1), .val (.int p2), .val (.int p3), .val (.int p4), .val (.int (3 : Int32)), .val (.int (1 : Int32)), .val (.ref b11), .val (.ref b31), .val (.ref a49), .val (.int (1 : Int32)), .val (.int (1 : Int32))] [(.int (1 : Int32)), (.int (0 : Int32))])) (fun T A t r => XS.iload A hx rfl (hb hby at_332) rfl r) ?_
    refine Go.sp (g' := (mkF m 337 #[.val (.int p1), .val (.int p2), .val (.int p3), .val (.int p4), .val (.int (3 : Int32)), .val (.int (1 : Int32)), .val (.ref b11), .val (.ref b31), .val (.ref a49), .val (.int (1 : Int32)), .val (.int (1 : Int32))] [])) (fun T A t r => XS.icmpNo A hx rfl (hb hby at_334) rfl (tlt (by decide : ((0 : Int32) < (1 : Int32)))).2.1 r) ?_
    refine Go.sp (g' := (mkF m 339 #[.val (.int p1), .val (.int p2), .val (.int p3), .val (.int p4), .val (.int (3 : Int32)), .val (.int (1 : Int32)), .val (.ref b11), .val (.ref b31), .val (.ref a49), .val (.int (1 : Int32)), .val (.int (1 : Int32))] [(.int (1 : Int32))])) (fun T A t r => XS.iload A hx rfl (hb hby at_337) rfl r) ?_
    refine Go.sp (g' := (mkF m 342 #[.val (.int p1), .val (.int p2), .val (.int p3), .val (.int p4), .val (.int (3 : Int32)), .val (.int (1 : Int32)), .val (.ref b11), .val (.ref b31), .val (.ref a49), .val (.int (1 : Int32)), .val (.int (1 : Int32))] [])) (fun T A t r => XS.ifNo A hx rfl (hb hby at_339) rfl ((if0 _ _).trans (feq (by decide : ¬ ((1 : Int32) = (0 : Int32)))).1) r) ?_
    refine Go.sp (g' := (mkF m 344 #[.val (.int p1), .val (.int p2), .val (.int p3), .val (.int p4), .val (.int (3 : Int32)), .val (.int (1 : Int32)), .val (.ref b11), .val (.ref b31), .val (.ref a49), .val (.int (1 : Int32)), .val (.int (1 : Int32))] [(.ref a49)])) (fun T A t r => XS.aload A hx rfl (hb hby at_342) rfl rfl r) ?_
    refine Go.sp (g' := (mkF m 345 #[.val (.int p1), .val (.int p2), .val (.int p3), .val (.int p4), .val (.int (3 : Int32)), .val (.int (1 : Int32)), .val (.ref b11), .val (.ref b31), .val (.ref a49), .val (.int (1 : Int32)), .val (.int (1 : Int32))] [(.int (0 : Int32)), (.ref a49)])) (fun T A t r => XS.iconst A hx rfl (hb hby at_344) r) ?_
    refine Go.callVP (a := a49) (z := (⟨"java/lang/String", "charAt", "(I)C"⟩ : MethodName)) (W := 0) (y := (⟨"java/lang/String", "charAt", "(I)C"⟩ : MethodName)) (argsL := [(.int (0 : Int32))]) (rest := []) (pc' := 348) (hb hby at_345) (own_w hw 122 rfl) (own_w hw 123 rfl) (fun s' hZ => notFace_of_selects (args := #[]) (mvT hZ (own_w hw 125 rfl))) (own_w hw 125 rfl) (own_w hw 124 rfl) (by decide) (fun s' hZ => Bk.pure (StrChars.Road.chN (kI := 4) (cs := [z19]) (i := 0) hZ (own_chwd hw) (own_w hw 7 rfl) E49 V49 C49 D49 (own_cod rfl lat50) (own_up lat50) (S0.ext O51.2) P0 (SF.ext O51.2) RF (by show 1 ≤ 4000; decide) (by show 0 < 1; decide) rfl (by decide) (by decide))) E49 (by rw [hml]; rfl) (lenOf pd_14 rfl) rfl (Nat.le_of_ble_eq_true rfl) rfl (by decide) (by decide) ?_
    rintro v53 rfl
    refine Go.cast (g' := (mkF m 348 #[.val (.int p1), .val (.int p2), .val (.int p3), .val (.int p4), .val (.int (3 : Int32)), .val (.int (1 : Int32)), .val (.ref b11), .val (.ref b31), .val (.ref a49), .val (.int (1 : Int32)), .val (.int (1 : Int32))] [(.int z19)])) rfl ?_
    refine Go.sp (g' := (mkF m 350 #[.val (.int p1), .val (.int p2), .val (.int p3), .val (.int p4), .val (.int (3 : Int32)), .val (.int (1 : Int32)), .val (.ref b11), .val (.ref b31), .val (.ref a49), .val (.int (1 : Int32)), .val (.int (1 : Int32))] [(.ref b11), (.int z19)])) (fun T A t r => XS.aload A hx rfl (hb hby at_348) rfl rfl r) ?_
    refine Go.sp (g' := (mkF m 352 #[.val (.int p1), .val (.int p2), .val (.int p3), .val (.int p4), .val (.int (3 : Int32)), .val (.int (1 : Int32)), .val (.ref b11), .val (.ref b31), .val (.ref a49), .val (.int (1 : Int32)), .val (.int (1 : Int32))] [(.int (1 : Int32)), (.ref b11), (.int z19)])) (fun T A t r => XS.iload A hx rfl (hb hby at_350) rfl r) ?_
    refine Go.sp (g' := (mkF m 353 #[.val (.int p1), .val (.int p2), .val (.int p3), .val (.int p4), .val (.int (3 : Int32)), .val (.int (1 : Int32)), .val (.ref b11), .val (.ref b31), .val (.ref a49), .val (.int (1 : Int32)), .val (.int (1 : Int32))] [(.int (1 : Int32)), (.int (1 : Int32)), (.ref b11), (.int z19)])) (fun T A t r => XS.iconst A hx rfl (hb hby at_352) r) ?_
    refine Go.sp (g' := (mkF m 354 #[.val (.int p1), .val (.int p2), .val (.int p3), .val (.int p4), .val (.int (3 : Int32)), .val (.int (1 : Int32)), .val (.ref b11), .val (.ref b31), .val (.ref a49), .val (.int (1 : Int32)), .val (.int (1 : Int32))] [(.int (2 : Int32)), (.ref b11), (.int z19)])) (fun T A t r => XS.iadd A hx rfl (hb hby at_353) rfl r) ?_
    have ne54 : b11 ≠ b31 := Nat.ne_of_lt (Nat.lt_of_lt_of_le V30.lt (Nat.le_of_eq g31.symm))
    have f55 := (((f39.other W40 ne36).keep K47 (ninS ne54 nin0)).keep K49 nin0)
    refine Go.r (g' := (mkF m 355 #[.val (.int p1), .val (.int p2), .val (.int p3), .val (.int p4), .val (.int (3 : Int32)), .val (.int (1 : Int32)), .val (.ref b11), .val (.ref b31), .val (.ref a49), .val (.int (1 : Int32)), .val (.int (1 : Int32))] [(.int z19), (.int z19)])) (fun s' T L X eT hZ t r => own_ldC X hx hZ eT f55 (j := (2 : Int32)) ⟨by decide, by decide⟩ (v := (.int z19)) rfl (g := (mkF m 354 #[.val (.int p1), .val (.int p2), .val (.int p3), .val (.int p4), .val (.int (3 : Int32)), .val (.int (1 : Int32)), .val (.ref b11), .val (.ref b31), .val (.ref a49), .val (.int (1 : Int32)), .val (.int (1 : Int32))] [(.int (2 : Int32)), (.ref b11), (.int z19)])) rfl rfl (hb hby at_354) t r) ?_
    refine Go.sp (g' := (mkF m 358 #[.val (.int p1), .val (.int p2), .val (.int p3), .val (.int p4), .val (.int (3 : Int32)), .val (.int (1 : Int32)), .val (.ref b11), .val (.ref b31), .val (.ref a49), .val (.int (1 : Int32)), .val (.int (1 : Int32))] [])) (fun T A t r => XS.icmpNo A hx rfl (hb hby at_355) rfl (teq (rfl : z19 = z19)).2 r) ?_
    refine Go.sp (g' := (mkF m 359 #[.val (.int p1), .val (.int p2), .val (.int p3), .val (.int p4), .val (.int (3 : Int32)), .val (.int (1 : Int32)), .val (.ref b11), .val (.ref b31), .val (.ref a49), .val (.int (1 : Int32)), .val (.int (1 : Int32))] [(.int (1 : Int32))])) (fun T A t r => XS.iconst A hx rfl (hb hby at_358) r) ?_
    refine Go.sp (g' := (mkF m 363 #[.val (.int p1), .val (.int p2), .val (.int p3), .val (.int p4), .val (.int (3 : Int32)), .val (.int (1 : Int32)), .val (.ref b11), .val (.ref b31), .val (.ref a49), .val (.int (1 : Int32)), .val (.int (1 : Int32))] [(.int (1 : Int32))])) (fun T A t r => XS.goto A hx rfl (pc0 := 359) (pc' := 363) rfl (hb hby at_359) (by decide) (by decide) r) ?_
    refine Go.sp (g' := (mkF m 365 #[.val (.int p1), .val (.int p2), .val (.int p3), .val (.int p4), .val (.int (3 : Int32)), .val (.int (1 : Int32)), .val (.ref b11), .val (.ref b31), .val (.ref a49), .val (.int (1 : Int32)), .val (.int (1 : Int32))] [])) (fun T A t r => XS.istore A hx rfl (hb hby at_363) rfl (l' := #[.val (.int p1), .val (.int p2), .val (.int p3), .val (.int p4), .val (.int (3 : Int32)), .val (.int (1 : Int32)), .val (.ref b11), .val (.ref b31), .val (.ref a49), .val (.int (1 : Int32)), .val (.int (1 : Int32))]) rfl r) ?_
    refine Go.sp (g' := (mkF m 366 #[.val (.int p1), .val (.int p2), .val (.int p3), .val (.int p4), .val (.int (3 : Int32)), .val (.int (1 : Int32)), .val (.ref b11), .val (.ref b31), .val (.ref a49), .val (.int (1 : Int32)), .val (.int (1 : Int32))] [(.int (1 : Int32))])) (fun T A t r => XS.iconst A hx rfl (hb hby at_365) r) ?_
    refine Go.sp (g' := (mkF m 368 #[.val (.int p1), .val (.int p2), .val (.int p3), .val (.int p4), .val (.int (3 : Int32)), .val (.int (1 : Int32)), .val (.ref b11), .val (.ref b31), .val (.ref a49), .val (.int (1 : Int32)), .val (.int (1 : Int32))] [(.int (1 : Int32)), (.int (1 : Int32))])) (fun T A t r => XS.iload A hx rfl (hb hby at_366) rfl r) ?_
    refine Go.sp (g' := (mkF m 399 #[.val (.int p1), .val (.int p2), .val (.int p3), .val (.int p4), .val (.int (3 : Int32)), .val (.int (1 : Int32)), .val (.ref b11), .val (.ref b31), .val (.ref a49), .val (.int (1 : Int32)), .val (.int (1 : Int32))] [])) (fun T A t r => XS.icmpYes A hx rfl (pc0 := 368) (pc' := 399) rfl (hb hby at_368) rfl (flt (by decide : ¬ ((1 : Int32) < (1 : Int32)))).2.1 (by decide) (by decide) r) ?_
    refine Go.sp (g' := (mkF m 400 #[.val (.int p1), .val (.int p2), .val (.int p3), .val (.int p4), .val (.int (3 : Int32)), .val (.int (1 : Int32)), .val (.ref b11), .val (.ref b31), .val (.ref a49), .val (.int (1 : Int32)), .val (.int (1 : Int32))] [(.int (2 : Int32))])) (fun T A t r => XS.iconst A hx rfl (hb hby at_399) r) ?_
    refine Go.sp (g' := (mkF m 402 #[.val (.int p1), .val (.int p2), .val (.int p3), .val (.int p4), .val (.int (3 : Int32)), .val (.int (1 : Int32)), .val (.ref b11), .val (.ref b31), .val (.ref a49), .val (.int (1 : Int32)), .val (.int (1 : Int32))] [(.int (1 : Int32)), (.int (2 : Int32))])) (fun T A t r => XS.iload A hx rfl (hb hby at_400) rfl r) ?_
    refine Go.sp (g' := (mkF m 433 #[.val (.int p1), .val (.int p2), .val (.int p3), .val (.int p4), .val (.int (3 : Int32)), .val (.int (1 : Int32)), .val (.ref b11), .val (.ref b31), .val (.ref a49), .val (.int (1 : Int32)), .val (.int (1 : Int32))] [])) (fun T A t r => XS.icmpYes A hx rfl (pc0 := 402) (pc' := 433) rfl (hb hby at_402) rfl (flt (by decide : ¬ ((2 : Int32) < (1 : Int32)))).2.1 (by decide) (by decide) r) ?_
    refine Go.sp (g' := (mkF m 434 #[.val (.int p1), .val (.int p2), .val (.int p3), .val (.int p4), .val (.int (3 : Int32)), .val (.int (1 : Int32)), .val (.ref b11), .val (.ref b31), .val (.ref a49), .val (.int (1 : Int32)), .val (.int (1 : Int32))] [(.int (3 : Int32))])) (fun T A t r => XS.iconst A hx rfl (hb hby at_433) r) ?_
    refine Go.sp (g' := (mkF m 436 #[.val (.int p1), .val (.int p2), .val (.int p3), .val (.int p4), .val (.int (3 : Int32)), .val (.int (1 : Int32)), .val (.ref b11), .val (.ref b31), .val (.ref a49), .val (.int (1 : Int32)), .val (.int (1 : Int32))] [(.int (1 : Int32)), (.int (3 : Int32))])) (fun T A t r => XS.iload A hx rfl (hb hby at_434) rfl r) ?_
    refine Go.sp (g' := (mkF m 467 #[.val (.int p1), .val (.int p2), .val (.int p3), .val (.int p4), .val (.int (3 : Int32)), .val (.int (1 : Int32)), .val (.ref b11), .val (.ref b31), .val (.ref a49), .val (.int (1 : Int32)), .val (.int (1 : Int32))] [])) (fun T A t r => XS.icmpYes A hx rfl (pc0 := 436) (pc' := 467) rfl (hb hby at_436) rfl (flt (by decide : ¬ ((3 : Int32) < (1 : Int32)))).2.1 (by decide) (by decide) r) ?_
    refine Go.sp (g' := (mkF m 469 #[.val (.int p1), .val (.int p2), .val (.int p3), .val (.int p4), .val (.int (3 : Int32)), .val (.int (1 : Int32)), .val (.ref b11), .val (.ref b31), .val (.ref a49), .val (.int (1 : Int32)), .val (.int (1 : Int32))] [(.int (1 : Int32))])) (fun T A t r => XS.iload A hx rfl (hb hby at_467) rfl r) ?_
    exact Go.ret (v := (some (.int (nar .boolean (1 : Int32))))) (fun s' T L fs X hr => retN X hx (t := .boolean) hret (by simp) (hb hby at_469) hr) (fun h => by rw [hret] at h; cases h) (by decide) (by decide) rfl
  · skip
    refine Go.cast (g' := (mkF m 91 #[.val (.int p1), .val (.int p2), .val (.int p3), .val (.int p4), .val (.int (4 : Int32)), .val (.int (1 : Int32)), .val (.ref b11), .unset, .unset, .unset, .unset] [])) (by rw [ha, hn]) ?_
    refine Go.sp (g' := (mkF m 93 #[.val (.int p1), .val (.int p2), .val (.int p3), .val (.int p4), .val (.int (4 : Int32)), .val (.int (1 : Int32)), .val (.ref b11), .unset, .unset, .unset, .unset] [(.ref b11)])) (fun T A t r => XS.aload A hx rfl (hb hby at_91) rfl rfl r) ?_
    refine Go.sp (g' := (mkF m 95 #[.val (.int p1), .val (.int p2), .val (.int p3), .val (.int p4), .val (.int (4 : Int32)), .val (.int (1 : Int32)), .val (.ref b11), .unset, .unset, .unset, .unset] [(.int (1 : Int32)), (.ref b11)])) (fun T A t r => XS.iload A hx rfl (hb hby at_93) rfl r) ?_
    refine Go.sp (g' := (mkF m 97 #[.val (.int p1), .val (.int p2), .val (.int p3), .val (.int p4), .val (.int (4 : Int32)), .val (.int (1 : Int32)), .val (.ref b11), .unset, .unset, .unset, .unset] [(.int (64 : Int32)), (.int (1 : Int32)), (.ref b11)])) (fun T A t r => XS.bipush A hx rfl (hb hby at_95) r) ?_
    refine Go.w (g' := (mkF m 98 #[.val (.int p1), .val (.int p2), .val (.int p3), .val (.int p4), .val (.int (4 : Int32)), .val (.int (1 : Int32)), .val (.ref b11), .unset, .unset, .unset, .unset] [])) (fun s' T L X eT hZ hown => own_stC X hx hZ eT V29 (j := (1 : Int32)) ⟨by decide, by decide⟩ (g := (mkF m 97 #[.val (.int p1), .val (.int p2), .val (.int p3), .val (.int p4), .val (.int (4 : Int32)), .val (.int (1 : Int32)), .val (.ref b11), .unset, .unset, .unset, .unset] [(.int (64 : Int32)), (.int (1 : Int32)), (.ref b11)])) rfl rfl (hb hby at_97)) (Or.inr sz11) ?_
    intro h56 W56
    have V56 : Arv Z h56 b11 k11 .char (6 : Int32) [(.int z13), (.int (64 : Int32)), (.int z19), (.int z22), (.int z25), (.int z28)] (.int (0 : Int32)) := own_set V29 (fits_nar_char _) W56 rfl 1 rfl (Nat.le_of_ble_eq_true rfl)
    refine Go.sp (g' := (mkF m 100 #[.val (.int p1), .val (.int p2), .val (.int p3), .val (.int p4), .val (.int (4 : Int32)), .val (.int (1 : Int32)), .val (.ref b11), .unset, .unset, .unset, .unset] [(.int (4 : Int32))])) (fun T A t r => XS.iload A hx rfl (hb hby at_98) rfl r) ?_
    refine Go.sp (g' := (mkF m 101 #[.val (.int p1), .val (.int p2), .val (.int p3), .val (.int p4), .val (.int (4 : Int32)), .val (.int (1 : Int32)), .val (.ref b11), .unset, .unset, .unset, .unset] [(.int (3 : Int32)), (.int (4 : Int32))])) (fun T A t r => XS.iconst A hx rfl (hb hby at_100) r) ?_
    refine Go.sp (g' := (mkF m 140 #[.val (.int p1), .val (.int p2), .val (.int p3), .val (.int p4), .val (.int (4 : Int32)), .val (.int (1 : Int32)), .val (.ref b11), .unset, .unset, .unset, .unset] [])) (fun T A t r => XS.icmpYes A hx rfl (pc0 := 101) (pc' := 140) rfl (hb hby at_101) rfl (feq (by decide : ¬ ((4 : Int32) = (3 : Int32)))).2 (by decide) (by decide) r) ?_
    refine Go.sp (g' := (mkF m 142 #[.val (.int p1), .val (.int p2), .val (.int p3), .val (.int p4), .val (.int (4 : Int32)), .val (.int (1 : Int32)), .val (.ref b11), .unset, .unset, .unset, .unset] [(.int (4 : Int32))])) (fun T A t r => XS.iload A hx rfl (hb hby at_140) rfl r) ?_
    refine Go.sp (g' := (mkF m 143 #[.val (.int p1), .val (.int p2), .val (.int p3), .val (.int p4), .val (.int (4 : Int32)), .val (.int (1 : Int32)), .val (.ref b11), .unset, .unset, .unset, .unset] [(.int (4 : Int32)), (.int (4 : Int32))])) (fun T A t r => XS.iconst A hx rfl (hb hby at_142) r) ?_
    refine Go.sp (g' := (mkF m 146 #[.val (.int p1), .val (.int p2), .val (.int p3), .val (.int p4), .val (.int (4 : Int32)), .val (.int (1 : Int32)), .val (.ref b11), .unset, .unset, .unset, .unset] [])) (fun T A t r => XS.icmpNo A hx rfl (hb hby at_143) rfl (teq (by decide : ((4 : Int32) = (4 : Int32)))).2 r) ?_
    refine Go.newO (k' := 2) (n' := 10) (pc' := 149) (hb hby at_146) (own_w hw 6 rfl) (own_w hw 7 rfl) (own_w hw 8 rfl) rfl rfl rfl (by decide) (by decide) ?_
    intro b57 h57 g57 sz57 E57 A57 D57
    have F57_coder : Fld Z h57 b57 "java/lang/String" "coder" "B" (.int (0 : Int32)) := D57 (Or.inr (own_w hw 32 rfl)) (ty := .byte) (by decide)
    have F57_value : Fld Z h57 b57 "java/lang/String" "value" "[B" .null := D57 (Or.inr (own_w hw 34 rfl)) (ty := (.array .byte)) (by decide)
    refine Go.sp (g' := (mkF m 150 #[.val (.int p1), .val (.int p2), .val (.int p3), .val (.int p4), .val (.int (4 : Int32)), .val (.int (1 : Int32)), .val (.ref b11), .unset, .unset, .unset, .unset] [(.ref b57), (.ref b57)])) (fun T A t r => XS.dup A hx rfl (hb hby at_149) rfl rfl r) ?_
    refine Go.sp (g' := (mkF m 151 #[.val (.int p1), .val (.int p2), .val (.int p3), .val (.int p4), .val (.int (4 : Int32)), .val (.int (1 : Int32)), .val (.ref b11), .unset, .unset, .unset, .unset] [(.int (4 : Int32)), (.ref b57), (.ref b57)])) (fun T A t r => XS.iconst A hx rfl (hb hby at_150) r) ?_
    refine Go.newP (ty := .char) (dv := (.int (0 : Int32))) (cap := 4) (k' := 3) (n' := 14) (pc' := 153) (hb hby at_151) rfl rfl (own_w hw 0 rfl) (by decide) (by decide) (by decide) rfl rfl rfl (by decide) (by decide) ?_
    intro b58 h58 k58 g58 sz58 E58 A58
    have V58 : Arv Z h58 b58 k58 .char (4 : Int32) [(.int (0 : Int32)), (.int (0 : Int32)), (.int (0 : Int32)), (.int (0 : Int32))] (.int (0 : Int32)) := A58.pad (pad_rep [] (.int (0 : Int32)) 4)
    refine Go.sp (g' := (mkF m 154 #[.val (.int p1), .val (.int p2), .val (.int p3), .val (.int p4), .val (.int (4 : Int32)), .val (.int (1 : Int32)), .val (.ref b11), .unset, .unset, .unset, .unset] [(.ref b58), (.ref b58), (.ref b57), (.ref b57)])) (fun T A t r => XS.dup A hx rfl (hb hby at_153) rfl rfl r) ?_
    refine Go.sp (g' := (mkF m 155 #[.val (.int p1), .val (.int p2), .val (.int p3), .val (.int p4), .val (.int (4 : Int32)), .val (.int (1 : Int32)), .val (.ref b11), .unset, .unset, .unset, .unset] [(.int (0 : Int32)), (.ref b58), (.ref b58), (.ref b57), (.ref b57)])) (fun T A t r => XS.iconst A hx rfl (hb hby at_154) r) ?_
    refine Go.sp (g' := (mkF m 157 #[.val (.int p1), .val (.int p2), .val (.int p3), .val (.int p4), .val (.int (4 : Int32)), .val (.int (1 : Int32)), .val (.ref b11), .unset, .unset, .unset, .unset] [(.ref b11), (.int (0 : Int32)), (.ref b58), (.ref b58), (.ref b57), (.ref b57)])) (fun T A t r => XS.aload A hx rfl (hb hby at_155) rfl rfl r) ?_
    refine Go.sp (g' := (mkF m 158 #[.val (.int p1), .val (.int p2), .val (.int p3), .val (.int p4), .val (.int (4 : Int32)), .val (.int (1 : Int32)), .val (.ref b11), .unset, .unset, .unset, .unset] [(.int (0 : Int32)), (.ref b11), (.int (0 : Int32)), (.ref b58), (.ref b58), (.ref b57), (.ref b57)])) (fun T A t r => XS.iconst A hx rfl (hb hby at_157) r) ?_
    have f59 := ((V56.ext E57).ext E58)
    refine Go.r (g' := (mkF m 159 #[.val (.int p1), .val (.int p2), .val (.int p3), .val (.int p4), .val (.int (4 : Int32)), .val (.int (1 : Int32)), .val (.ref b11), .unset, .unset, .unset, .unset] [(.int z13), (.int (0 : Int32)), (.ref b58), (.ref b58), (.ref b57), (.ref b57)])) (fun s' T L X eT hZ t r => own_ldC X hx hZ eT f59 (j := (0 : Int32)) ⟨by decide, by decide⟩ (v := (.int z13)) rfl (g := (mkF m 158 #[.val (.int p1), .val (.int p2), .val (.int p3), .val (.int p4), .val (.int (4 : Int32)), .val (.int (1 : Int32)), .val (.ref b11), .unset, .unset, .unset, .unset] [(.int (0 : Int32)), (.ref b11), (.int (0 : Int32)), (.ref b58), (.ref b58), (.ref b57), (.ref b57)])) rfl rfl (hb hby at_158) t r) ?_
    refine Go.w (g' := (mkF m 160 #[.val (.int p1), .val (.int p2), .val (.int p3), .val (.int p4), .val (.int (4 : Int32)), .val (.int (1 : Int32)), .val (.ref b11), .unset, .unset, .unset, .unset] [(.ref b58), (.ref b57), (.ref b57)])) (fun s' T L X eT hZ hown => own_stC X hx hZ eT V58 (j := (0 : Int32)) ⟨by decide, by decide⟩ (g := (mkF m 159 #[.val (.int p1), .val (.int p2), .val (.int p3), .val (.int p4), .val (.int (4 : Int32)), .val (.int (1 : Int32)), .val (.ref b11), .unset, .unset, .unset, .unset] [(.int z13), (.int (0 : Int32)), (.ref b58), (.ref b58), (.ref b57), (.ref b57)])) rfl rfl (hb hby at_159)) (Or.inr sz58) ?_
    intro h60 W60
    have V60 : Arv Z h60 b58 k58 .char (4 : Int32) [(.int z13), (.int (0 : Int32)), (.int (0 : Int32)), (.int (0 : Int32))] (.int (0 : Int32)) := own_set V58 (fits_nar_char _) W60 (congrArg Value.int (own_nar zb13)) 0 rfl (Nat.le_of_ble_eq_true rfl)
    refine Go.sp (g' := (mkF m 161 #[.val (.int p1), .val (.int p2), .val (.int p3), .val (.int p4), .val (.int (4 : Int32)), .val (.int (1 : Int32)), .val (.ref b11), .unset, .unset, .unset, .unset] [(.ref b58), (.ref b58), (.ref b57), (.ref b57)])) (fun T A t r => XS.dup A hx rfl (hb hby at_160) rfl rfl r) ?_
    refine Go.sp (g' := (mkF m 162 #[.val (.int p1), .val (.int p2), .val (.int p3), .val (.int p4), .val (.int (4 : Int32)), .val (.int (1 : Int32)), .val (.ref b11), .unset, .unset, .unset, .unset] [(.int (1 : Int32)), (.ref b58), (.ref b58), (.ref b57), (.ref b57)])) (fun T A t r => XS.iconst A hx rfl (hb hby at_161) r) ?_
    refine Go.sp (g' := (mkF m 164 #[.val (.int p1), .val (.int p2), .val (.int p3), .val (.int p4), .val (.int (4 : Int32)), .val (.int (1 : Int32)), .val (.ref b11), .unset, .unset, .unset, .unset] [(.ref b11), (.int (1 : Int32)), (.ref b58), (.ref b58), (.ref b57), (.ref b57)])) (fun T A t r => XS.aload A hx rfl (hb hby at_162) rfl rfl r) ?_
    refine Go.sp (g' := (mkF m 165 #[.val (.int p1), .val (.int p2), .val (.int p3), .val (.int p4), .val (.int (4 : Int32)), .val (.int (1 : Int32)), .val (.ref b11), .unset, .unset, .unset, .unset] [(.int (1 : Int32)), (.ref b11), (.int (1 : Int32)), (.ref b58), (.ref b58), (.ref b57), (.ref b57)])) (fun T A t r => XS.iconst A hx rfl (hb hby at_164) r) ?_
    have f61 := (V56.ext E57)
    have ne62 : b11 ≠ b58 := Nat.ne_of_lt (Nat.lt_of_lt_of_le f61.lt (Nat.le_of_eq g58.symm))
    have f63 := (f59.other W60 ne62)
    refine Go.r (g' := (mkF m 166 #[.val (.int p1), .val (.int p2), .val (.int p3), .val (.int p4), .val (.int (4 : Int32)), .val (.int (1 : Int32)), .val (.ref b11), .unset, .unset, .unset, .unset] [(.int (64 : Int32)), (.int (1 : Int32)), (.ref b58), (.ref b58), (.ref b57), (.ref b57)])) (fun s' T L X eT hZ t r => own_ldC X hx hZ eT f63 (j := (1 : Int32)) ⟨by decide, by decide⟩ (v := (.int (64 : Int32))) rfl (g := (mkF m 165 #[.val (.int p1), .val (.int p2), .val (.int p3), .val (.int p4), .val (.int (4 : Int32)), .val (.int (1 : Int32)), .val (.ref b11), .unset, .unset, .unset, .unset] [(.int (1 : Int32)), (.ref b11), (.int (1 : Int32)), (.ref b58), (.ref b58), (.ref b57), (.ref b57)])) rfl rfl (hb hby at_165) t r) ?_
    refine Go.w (g' := (mkF m 167 #[.val (.int p1), .val (.int p2), .val (.int p3), .val (.int p4), .val (.int (4 : Int32)), .val (.int (1 : Int32)), .val (.ref b11), .unset, .unset, .unset, .unset] [(.ref b58), (.ref b57), (.ref b57)])) (fun s' T L X eT hZ hown => own_stC X hx hZ eT V60 (j := (1 : Int32)) ⟨by decide, by decide⟩ (g := (mkF m 166 #[.val (.int p1), .val (.int p2), .val (.int p3), .val (.int p4), .val (.int (4 : Int32)), .val (.int (1 : Int32)), .val (.ref b11), .unset, .unset, .unset, .unset] [(.int (64 : Int32)), (.int (1 : Int32)), (.ref b58), (.ref b58), (.ref b57), (.ref b57)])) rfl rfl (hb hby at_166)) (Or.inr sz58) ?_
    intro h64 W64
    have V64 : Arv Z h64 b58 k58 .char (4 : Int32) [(.int z13), (.int (64 : Int32)), (.int (0 : Int32)), (.int (0 : Int32))] (.int (0 : Int32)) := own_set V60 (fits_nar_char _) W64 rfl 1 rfl (Nat.le_of_ble_eq_true rfl)
    refine Go.sp (g' := (mkF m 168 #[.val (.int p1), .val (.int p2), .val (.int p3), .val (.int p4), .val (.int (4 : Int32)), .val (.int (1 : Int32)), .val (.ref b11), .unset, .unset, .unset, .unset] [(.ref b58), (.ref b58), (.ref b57), (.ref b57)])) (fun T A t r => XS.dup A hx rfl (hb hby at_167) rfl rfl r) ?_
    refine Go.sp (g' := (mkF m 169 #[.val (.int p1), .val (.int p2), .val (.int p3), .val (.int p4), .val (.int (4 : Int32)), .val (.int (1 : Int32)), .val (.ref b11), .unset, .unset, .unset, .unset] [(.int (2 : Int32)), (.ref b58), (.ref b58), (.ref b57), (.ref b57)])) (fun T A t r => XS.iconst A hx rfl (hb hby at_168) r) ?_
    refine Go.sp (g' := (mkF m 171 #[.val (.int p1), .val (.int p2), .val (.int p3), .val (.int p4), .val (.int (4 : Int32)), .val (.int (1 : Int32)), .val (.ref b11), .unset, .unset, .unset, .unset] [(.ref b11), (.int (2 : Int32)), (.ref b58), (.ref b58), (.ref b57), (.ref b57)])) (fun T A t r => XS.aload A hx rfl (hb hby at_169) rfl rfl r) ?_
    refine Go.sp (g' := (mkF m 172 #[.val (.int p1), .val (.int p2), .val (.int p3), .val (.int p4), .val (.int (4 : Int32)), .val (.int (1 : Int32)), .val (.ref b11), .unset, .unset, .unset, .unset] [(.int (2 : Int32)), (.ref b11), (.int (2 : Int32)), (.ref b58), (.ref b58), (.ref b57), (.ref b57)])) (fun T A t r => XS.iconst A hx rfl (hb hby at_171) r) ?_
    have f65 := (f63.other W64 ne62)
    refine Go.r (g' := (mkF m 173 #[.val (.int p1), .val (.int p2), .val (.int p3), .val (.int p4), .val (.int (4 : Int32)), .val (.int (1 : Int32)), .val (.ref b11), .unset, .unset, .unset, .unset] [(.int z19), (.int (2 : Int32)), (.ref b58), (.ref b58), (.ref b57), (.ref b57)])) (fun s' T L X eT hZ t r => own_ldC X hx hZ eT f65 (j := (2 : Int32)) ⟨by decide, by decide⟩ (v := (.int z19)) rfl (g := (mkF m 172 #[.val (.int p1), .val (.int p2), .val (.int p3), .val (.int p4), .val (.int (4 : Int32)), .val (.int (1 : Int32)), .val (.ref b11), .unset, .unset, .unset, .unset] [(.int (2 : Int32)), (.ref b11), (.int (2 : Int32)), (.ref b58), (.ref b58), (.ref b57), (.ref b57)])) rfl rfl (hb hby at_172) t r) ?_
    refine Go.w (g' := (mkF m 174 #[.val (.int p1), .val (.int p2), .val (.int p3), .val (.int p4), .val (.int (4 : Int32)), .val (.int (1 : Int32)), .val (.ref b11), .unset, .unset, .unset, .unset] [(.ref b58), (.ref b57), (.ref b57)])) (fun s' T L X eT hZ hown => own_stC X hx hZ eT V64 (j := (2 : Int32)) ⟨by decide, by decide⟩ (g := (mkF m 173 #[.val (.int p1), .val (.int p2), .val (.int p3), .val (.int p4), .val (.int (4 : Int32)), .val (.int (1 : Int32)), .val (.ref b11), .unset, .unset, .unset, .unset] [(.int z19), (.int (2 : Int32)), (.ref b58), (.ref b58), (.ref b57), (.ref b57)])) rfl rfl (hb hby at_173)) (Or.inr sz58) ?_
    intro h66 W66
    have V66 : Arv Z h66 b58 k58 .char (4 : Int32) [(.int z13), (.int (64 : Int32)), (.int z19), (.int (0 : Int32))] (.int (0 : Int32)) := own_set V64 (fits_nar_char _) W66 (congrArg Value.int (own_nar zb19)) 2 rfl (Nat.le_of_ble_eq_true rfl)
    refine Go.sp (g' := (mkF m 175 #[.val (.int p1), .val (.int p2), .val (.int p3), .val (.int p4), .val (.int (4 : Int32)), .val (.int (1 : Int32)), .val (.ref b11), .unset, .unset, .unset, .unset] [(.ref b58), (.ref b58), (.ref b57), (.ref b57)])) (fun T A t r => XS.dup A hx rfl (hb hby at_174) rfl rfl r) ?_
    refine Go.sp (g' := (mkF m 176 #[.val (.int p1), .val (.int p2), .val (.int p3), .val (.int p4), .val (.int (4 : Int32)), .val (.int (1 : Int32)), .val (.ref b11), .unset, .unset, .unset, .unset] [(.int (3 : Int32)), (.ref b58), (.ref b58), (.ref b57), (.ref b57)])) (fun T A t r => XS.iconst A hx rfl (hb hby at_175) r) ?_
    refine Go.sp (g' := (mkF m 178 #[.val (.int p1), .val (.int p2), .val (.int p3), .val (.int p4), .val (.int (4 : Int32)), .val (.int (1 : Int32)), .val (.ref b11), .unset, .unset, .unset, .unset] [(.ref b11), (.int (3 : Int32)), (.ref b58), (.ref b58), (.ref b57), (.ref b57)])) (fun T A t r => XS.aload A hx rfl (hb hby at_176) rfl rfl r) ?_
    refine Go.sp (g' := (mkF m 179 #[.val (.int p1), .val (.int p2), .val (.int p3), .val (.int p4), .val (.int (4 : Int32)), .val (.int (1 : Int32)), .val (.ref b11), .unset, .unset, .unset, .unset] [(.int (3 : Int32)), (.ref b11), (.int (3 : Int32)), (.ref b58), (.ref b58), (.ref b57), (.ref b57)])) (fun T A t r => XS.iconst A hx rfl (hb hby at_178) r) ?_
    have f67 := (f65.other W66 ne62)
    refine Go.r (g' := (mkF m 180 #[.val (.int p1), .val (.int p2), .val (.int p3), .val (.int p4), .val (.int (4 : Int32)), .val (.int (1 : Int32)), .val (.ref b11), .unset, .unset, .unset, .unset] [(.int z22), (.int (3 : Int32)), (.ref b58), (.ref b58), (.ref b57), (.ref b57)])) (fun s' T L X eT hZ t r => own_ldC X hx hZ eT f67 (j := (3 : Int32)) ⟨by decide, by decide⟩ (v := (.int z22)) rfl (g := (mkF m 179 #[.val (.int p1), .val (.int p2), .val (.int p3), .val (.int p4), .val (.int (4 : Int32)), .val (.int (1 : Int32)), .val (.ref b11), .unset, .unset, .unset, .unset] [(.int (3 : Int32)), (.ref b11), (.int (3 : Int32)), (.ref b58), (.ref b58), (.ref b57), (.ref b57)])) rfl rfl (hb hby at_179) t r) ?_
    refine Go.w (g' := (mkF m 181 #[.val (.int p1), .val (.int p2), .val (.int p3), .val (.int p4), .val (.int (4 : Int32)), .val (.int (1 : Int32)), .val (.ref b11), .unset, .unset, .unset, .unset] [(.ref b58), (.ref b57), (.ref b57)])) (fun s' T L X eT hZ hown => own_stC X hx hZ eT V66 (j := (3 : Int32)) ⟨by decide, by decide⟩ (g := (mkF m 180 #[.val (.int p1), .val (.int p2), .val (.int p3), .val (.int p4), .val (.int (4 : Int32)), .val (.int (1 : Int32)), .val (.ref b11), .unset, .unset, .unset, .unset] [(.int z22), (.int (3 : Int32)), (.ref b58), (.ref b58), (.ref b57), (.ref b57)])) rfl rfl (hb hby at_180)) (Or.inr sz58) ?_
    intro h68 W68
    have V68 : Arv Z h68 b58 k58 .char (4 : Int32) [(.int z13), (.int (64 : Int32)), (.int z19), (.int z22)] (.int (0 : Int32)) := own_set V66 (fits_nar_char _) W68 (congrArg Value.int (own_nar zb22)) 3 rfl (Nat.le_of_ble_eq_true rfl)
    have f69 := (((((A57.ext E58).wr W60).wr W64).wr W66).wr W68)
    have ne70 : b57 ≠ b58 := Nat.ne_of_lt (Nat.lt_of_lt_of_le A57.lt (Nat.le_of_eq g58.symm))
    have f71 := (((((F57_value.ext E58).other W60 (Or.inl ne70)).other W64 (Or.inl ne70)).other W66 (Or.inl ne70)).other W68 (Or.inl ne70))
    have f72 := (((((F57_coder.ext E58).other W60 (Or.inl ne70)).other W64 (Or.inl ne70)).other W66 (Or.inl ne70)).other W68 (Or.inl ne70))
    refine Go.old fun O73 => ?_
    have lat74 : ∀ c ∈ [z13, (64 : Int32), z19, z22], ¬ c < 0 ∧ ¬ (255 : Int32) < c := own_allc zb13 (own_allc (by decide) (own_allc zb19 (own_allc zb22 (own_allc0))))
    refine Go.callC (a := b57) (ws' := [b57]) (W := 1) (y := (⟨"java/lang/String", "<init>", "([C)V"⟩ : MethodName)) (argsL := [(.ref b58)]) (rest := [(.ref b57)]) (pc' := 184) (k' := 4) (n' := 18) (hb hby at_181) rfl (own_w hw 9 rfl) (own_w hw 10 rfl) (own_w hw 11 rfl) (by decide) (fun s' hZ => own_str hw (own_w hw 7 rfl) hZ (cs := [z13, (64 : Int32), z19, z22]) (n := 4) (Nat.le_trans (Old.le O0) sz57) O73 f69 f71 f72 V68 S0 P0 rfl rfl (by decide) (by decide) lat74 (by decide) (by decide)) (by rw [hml]; rfl) (lenOf pd_15 rfl) rfl (Nat.le_of_ble_eq_true rfl) rfl rfl rfl (by decide) (by decide) (allS (Or.inr sz57) all0) ?_
    rintro v75 h75 K75 ⟨rfl, E75, C75, t75, kb75, ge75, V75, B75⟩
    refine Go.cast (g' := (mkF m 184 #[.val (.int p1), .val (.int p2), .val (.int p3), .val (.int p4), .val (.int (4 : Int32)), .val (.int (1 : Int32)), .val (.ref b11), .unset, .unset, .unset, .unset] [(.ref b57)])) rfl ?_
    refine Go.sp (g' := (mkF m 186 #[.val (.int p1), .val (.int p2), .val (.int p3), .val (.int p4), .val (.int (4 : Int32)), .val (.int (1 : Int32)), .val (.ref b11), .val (.ref b57), .unset, .unset, .unset] [])) (fun T A t r => XS.astore A hx rfl (hb hby at_184) rfl rfl (l' := #[.val (.int p1), .val (.int p2), .val (.int p3), .val (.int p4), .val (.int (4 : Int32)), .val (.int (1 : Int32)), .val (.ref b11), .val (.ref b57), .unset, .unset, .unset]) rfl r) ?_
    refine Go.sp (g' := (mkF m 300 #[.val (.int p1), .val (.int p2), .val (.int p3), .val (.int p4), .val (.int (4 : Int32)), .val (.int (1 : Int32)), .val (.ref b11), .val (.ref b57), .unset, .unset, .unset] [])) (fun T A t r => XS.goto A hx rfl (pc0 := 186) (pc' := 300) rfl (hb hby at_186) (by decide) (by decide) r) ?_
    refine Go.sp (g' := (mkF m 302 #[.val (.int p1), .val (.int p2), .val (.int p3), .val (.int p4), .val (.int (4 : Int32)), .val (.int (1 : Int32)), .val (.ref b11), .val (.ref b57), .unset, .unset, .unset] [(.ref b57)])) (fun T A t r => XS.aload A hx rfl (hb hby at_300) rfl rfl r) ?_
    refine Go.old fun O76 => ?_
    refine Go.callS (ws' := []) (W := 0) (y := (⟨"com/example/slow_digest/slowdigest/rules/MailAddress", "domain", "(Ljava/lang/String;)Ljava/lang/String;"⟩ : MethodName)) (argsL := [(.ref b57)]) (rest := []) (pc' := 305) (k' := 6) (n' := 30) (hb hby at_302) (own_w hw 35 rfl) (own_w hw 36 rfl) (own_w hw 37 rfl) (own_w hw 38 rfl) (by decide) (fun s' hZ => Ct.bk (rmD l Z a0 hw [] b57 t75 kb75 [z13, (64 : Int32), z19, z22] 1 zS fm h75 n0 O76 E75 C75 V75 B75 lat74 (Nat.le_of_ble_eq_true rfl) (Nat.le_of_ble_eq_true rfl) rfl (own_lt1 zn13) (Nat.le_of_ble_eq_true rfl) S0 P0 SF RF) hZ (own_w hw 38 rfl) (own_w hw 37 rfl) (by decide) (by decide)) (by rw [hml]; rfl) (lenOf pd_16 rfl) rfl (Nat.le_of_ble_eq_true rfl) rfl rfl rfl (by decide) (by decide) all0 ?_
    rintro v77 h77 K77 ⟨a77, t77, kb77, rfl, E77, C77, V77, B77⟩
    refine Go.cast (g' := (mkF m 305 #[.val (.int p1), .val (.int p2), .val (.int p3), .val (.int p4), .val (.int (4 : Int32)), .val (.int (1 : Int32)), .val (.ref b11), .val (.ref b57), .unset, .unset, .unset] [(.ref a77)])) rfl ?_
    have D77 : Arv Z h77 t77 kb77 .byte (2 : Int32) (([z19, z22].map fun c => c.toInt8.toInt32).map Value.int) (.int 0) := B77
    have lat78 : ∀ c ∈ [z19, z22], ¬ c < 0 ∧ ¬ (255 : Int32) < c := own_allc zb19 (own_allc zb22 (own_allc0))
    refine Go.sp (g' := (mkF m 307 #[.val (.int p1), .val (.int p2), .val (.int p3), .val (.int p4), .val (.int (4 : Int32)), .val (.int (1 : Int32)), .val (.ref b11), .val (.ref b57), .val (.ref a77), .unset, .unset] [])) (fun T A t r => XS.astore A hx rfl (hb hby at_305) rfl rfl (l' := #[.val (.int p1), .val (.int p2), .val (.int p3), .val (.int p4), .val (.int (4 : Int32)), .val (.int (1 : Int32)), .val (.ref b11), .val (.ref b57), .val (.ref a77), .unset, .unset]) rfl r) ?_
    refine Go.sp (g' := (mkF m 309 #[.val (.int p1), .val (.int p2), .val (.int p3), .val (.int p4), .val (.int (4 : Int32)), .val (.int (1 : Int32)), .val (.ref b11), .val (.ref b57), .val (.ref a77), .unset, .unset] [(.int (4 : Int32))])) (fun T A t r => XS.iload A hx rfl (hb hby at_307) rfl r) ?_
    refine Go.sp (g' := (mkF m 311 #[.val (.int p1), .val (.int p2), .val (.int p3), .val (.int p4), .val (.int (4 : Int32)), .val (.int (1 : Int32)), .val (.ref b11), .val (.ref b57), .val (.ref a77), .unset, .unset] [(.int (1 : Int32)), (.int (4 : Int32))])) (fun T A t r => XS.iload A hx rfl (hb hby at_309) rfl r) ?_
    refine Go.sp (g' := (mkF m 312 #[.val (.int p1), .val (.int p2), .val (.int p3), .val (.int p4), .val (.int (4 : Int32)), .val (.int (1 : Int32)), .val (.ref b11), .val (.ref b57), .val (.ref a77), .unset, .unset] [(.int (3 : Int32))])) (fun T A t r => XS.isub A hx rfl (hb hby at_311) rfl r) ?_
    refine Go.sp (g' := (mkF m 313 #[.val (.int p1), .val (.int p2), .val (.int p3), .val (.int p4), .val (.int (4 : Int32)), .val (.int (1 : Int32)), .val (.ref b11), .val (.ref b57), .val (.ref a77), .unset, .unset] [(.int (1 : Int32)), (.int (3 : Int32))])) (fun T A t r => XS.iconst A hx rfl (hb hby at_312) r) ?_
    refine Go.sp (g' := (mkF m 314 #[.val (.int p1), .val (.int p2), .val (.int p3), .val (.int p4), .val (.int (4 : Int32)), .val (.int (1 : Int32)), .val (.ref b11), .val (.ref b57), .val (.ref a77), .unset, .unset] [(.int (2 : Int32))])) (fun T A t r => XS.isub A hx rfl (hb hby at_313) rfl r) ?_
    refine Go.sp (g' := (mkF m 316 #[.val (.int p1), .val (.int p2), .val (.int p3), .val (.int p4), .val (.int (4 : Int32)), .val (.int (1 : Int32)), .val (.ref b11), .val (.ref b57), .val (.ref a77), .val (.int (2 : Int32)), .unset] [])) (fun T A t r => XS.istore A hx rfl (hb hby at_314) rfl (l' := #[.val (.int p1), .val (.int p2), .val (.int p3), .val (.int p4), .val (.int (4 : Int32)), .val (.int (1 : Int32)), .val (.ref b11), .val (.ref b57), .val (.ref a77), .val (.int (2 : Int32)), .unset]) rfl r) ?_
    refine Go.sp (g' := (mkF m 318 #[.val (.int p1), .val (.int p2), .val (.int p3), .val (.int p4), .val (.int (4 : Int32)), .val (.int (1 : Int32)), .val (.ref b11), .val (.ref b57), .val (.ref a77), .val (.int (2 : Int32)), .unset] [(.ref a77)])) (fun T A t r => XS.aload A hx rfl (hb hby at_316) rfl rfl r) ?_
    refine Go.old fun O79 => ?_
    refine Go.callVP (a := a77) (z := (⟨"java/lang/String", "length", "()I"⟩ : MethodName)) (W := 0) (y := (⟨"java/lang/String", "length", "()I"⟩ : MethodName)) (argsL := []) (rest := []) (pc' := 321) (hb hby at_318) (own_w hw 121 rfl) (own_w hw 55 rfl) (fun s' hZ => notFace_of_selects (args := #[]) (mvT hZ (own_w hw 57 rfl))) (own_w hw 57 rfl) (own_w hw 56 rfl) (by decide) (fun s' hZ => Bk.pure (StrChars.Road.lenW (kI := 4) (cs := [z19, z22]) hZ (own_lenw hw) (own_w hw 7 rfl) E77 V77 C77 D77 (own_cod rfl lat78) (own_up lat78) (S0.ext O79.2) P0 (by show 2 ≤ 4000; decide) (by decide) (by decide))) E77 (by rw [hml]; rfl) (lenOf pd_4 rfl) rfl (Nat.le_of_ble_eq_true rfl) rfl (by decide) (by decide) ?_
    rintro v80 rfl
    refine Go.cast (g' := (mkF m 321 #[.val (.int p1), .val (.int p2), .val (.int p3), .val (.int p4), .val (.int (4 : Int32)), .val (.int (1 : Int32)), .val (.ref b11), .val (.ref b57), .val (.ref a77), .val (.int (2 : Int32)), .unset] [(.int (2 : Int32))])) rfl ?_
    refine Go.sp (g' := (mkF m 323 #[.val (.int p1), .val (.int p2), .val (.int p3), .val (.int p4), .val (.int (4 : Int32)), .val (.int (1 : Int32)), .val (.ref b11), .val (.ref b57), .val (.ref a77), .val (.int (2 : Int32)), .unset] [(.int (2 : Int32)), (.int (2 : Int32))])) (fun T A t r => XS.iload A hx rfl (hb hby at_321) rfl r) ?_
    refine Go.sp (g' := (mkF m 328 #[.val (.int p1), .val (.int p2), .val (.int p3), .val (.int p4), .val (.int (4 : Int32)), .val (.int (1 : Int32)), .val (.ref b11), .val (.ref b57), .val (.ref a77), .val (.int (2 : Int32)), .unset] [])) (fun T A t r => XS.icmpYes A hx rfl (pc0 := 323) (pc' := 328) rfl (hb hby at_323) rfl (teq (by decide : ((2 : Int32) = (2 : Int32)))).1 (by decide) (by decide) r) ?_
    refine Go.sp (g' := (mkF m 329 #[.val (.int p1), .val (.int p2), .val (.int p3), .val (.int p4), .val (.int (4 : Int32)), .val (.int (1 : Int32)), .val (.ref b11), .val (.ref b57), .val (.ref a77), .val (.int (2 : Int32)), .unset] [(.int (1 : Int32))])) (fun T A t r => XS.iconst A hx rfl (hb hby at_328) r) ?_
    refine Go.sp (g' := (mkF m 331 #[.val (.int p1), .val (.int p2), .val (.int p3), .val (.int p4), .val (.int (4 : Int32)), .val (.int (1 : Int32)), .val (.ref b11), .val (.ref b57), .val (.ref a77), .val (.int (2 : Int32)), .val (.int (1 : Int32))] [])) (fun T A t r => XS.istore A hx rfl (hb hby at_329) rfl (l' := #[.val (.int p1), .val (.int p2), .val (.int p3), .val (.int p4), .val (.int (4 : Int32)), .val (.int (1 : Int32)), .val (.ref b11), .val (.ref b57), .val (.ref a77), .val (.int (2 : Int32)), .val (.int (1 : Int32))]) rfl r) ?_
    refine Go.sp (g' := (mkF m 332 #[.val (.int p1), .val (.int p2), .val (.int p3), .val (.int p4), .val (.int (4 : Int32)), .val (.int (1 : Int32)), .val (.ref b11), .val (.ref b57), .val (.ref a77), .val (.int (2 : Int32)), .val (.int (1 : Int32))] [(.int (0 : Int32))])) (fun T A t r => XS.iconst A hx rfl (hb hby at_331) r) ?_
    refine Go.sp (g' := (mkF m 334 #[.val (.int p1), .val (.int p2), .val (.int p3), .val (.int p4), .val (.int (4 : Int32)), .val (.int (1 : Int32)), .val (.ref b11), .val (.ref b57), .val (.ref a77), .val (.int (2 : Int32)), .val (.int (1 : Int32))] [(.int (2 : Int32)), (.int (0 : Int32))])) (fun T A t r => XS.iload A hx rfl (hb hby at_332) rfl r) ?_
    refine Go.sp (g' := (mkF m 337 #[.val (.int p1), .val (.int p2), .val (.int p3), .val (.int p4), .val (.int (4 : Int32)), .val (.int (1 : Int32)), .val (.ref b11), .val (.ref b57), .val (.ref a77), .val (.int (2 : Int32)), .val (.int (1 : Int32))] [])) (fun T A t r => XS.icmpNo A hx rfl (hb hby at_334) rfl (tlt (by decide : ((0 : Int32) < (2 : Int32)))).2.1 r) ?_
    refine Go.sp (g' := (mkF m 339 #[.val (.int p1), .val (.int p2), .val (.int p3), .val (.int p4), .val (.int (4 : Int32)), .val (.int (1 : Int32)), .val (.ref b11), .val (.ref b57), .val (.ref a77), .val (.int (2 : Int32)), .val (.int (1 : Int32))] [(.int (1 : Int32))])) (fun T A t r => XS.iload A hx rfl (hb hby at_337) rfl r) ?_
    refine Go.sp (g' := (mkF m 342 #[.val (.int p1), .val (.int p2), .val (.int p3), .val (.int p4), .val (.int (4 : Int32)), .val (.int (1 : Int32)), .val (.ref b11), .val (.ref b57), .val (.ref a77), .val (.int (2 : Int32)), .val (.int (1 : Int32))] [])) (fun T A t r => XS.ifNo A hx rfl (hb hby at_339) rfl ((if0 _ _).trans (feq (by decide : ¬ ((1 : Int32) = (0 : Int32)))).1) r) ?_
    refine Go.sp (g' := (mkF m 344 #[.val (.int p1), .val (.int p2), .val (.int p3), .val (.int p4), .val (.int (4 : Int32)), .val (.int (1 : Int32)), .val (.ref b11), .val (.ref b57), .val (.ref a77), .val (.int (2 : Int32)), .val (.int (1 : Int32))] [(.ref a77)])) (fun T A t r => XS.aload A hx rfl (hb hby at_342) rfl rfl r) ?_
    refine Go.sp (g' := (mkF m 345 #[.val (.int p1), .val (.int p2), .val (.int p3), .val (.int p4), .val (.int (4 : Int32)), .val (.int (1 : Int32)), .val (.ref b11), .val (.ref b57), .val (.ref a77), .val (.int (2 : Int32)), .val (.int (1 : Int32))] [(.int (0 : Int32)), (.ref a77)])) (fun T A t r => XS.iconst A hx rfl (hb hby at_344) r) ?_
    refine Go.callVP (a := a77) (z := (⟨"java/lang/String", "charAt", "(I)C"⟩ : MethodName)) (W := 0) (y := (⟨"java/lang/String", "charAt", "(I)C"⟩ : MethodName)) (argsL := [(.int (0 : Int32))]) (rest := []) (pc' := 348) (hb hby at_345) (own_w hw 122 rfl) (own_w hw 123 rfl) (fun s' hZ => notFace_of_selects (args := #[]) (mvT hZ (own_w hw 125 rfl))) (own_w hw 125 rfl) (own_w hw 124 rfl) (by decide) (fun s' hZ => Bk.pure (StrChars.Road.chN (kI := 4) (cs := [z19, z22]) (i := 0) hZ (own_chwd hw) (own_w hw 7 rfl) E77 V77 C77 D77 (own_cod rfl lat78) (own_up lat78) (S0.ext O79.2) P0 (SF.ext O79.2) RF (by show 2 ≤ 4000; decide) (by show 0 < 2; decide) rfl (by decide) (by decide))) E77 (by rw [hml]; rfl) (lenOf pd_14 rfl) rfl (Nat.le_of_ble_eq_true rfl) rfl (by decide) (by decide) ?_
    rintro v81 rfl
    refine Go.cast (g' := (mkF m 348 #[.val (.int p1), .val (.int p2), .val (.int p3), .val (.int p4), .val (.int (4 : Int32)), .val (.int (1 : Int32)), .val (.ref b11), .val (.ref b57), .val (.ref a77), .val (.int (2 : Int32)), .val (.int (1 : Int32))] [(.int z19)])) rfl ?_
    refine Go.sp (g' := (mkF m 350 #[.val (.int p1), .val (.int p2), .val (.int p3), .val (.int p4), .val (.int (4 : Int32)), .val (.int (1 : Int32)), .val (.ref b11), .val (.ref b57), .val (.ref a77), .val (.int (2 : Int32)), .val (.int (1 : Int32))] [(.ref b11), (.int z19)])) (fun T A t r => XS.aload A hx rfl (hb hby at_348) rfl rfl r) ?_
    refine Go.sp (g' := (mkF m 352 #[.val (.int p1), .val (.int p2), .val (.int p3), .val (.int p4), .val (.int (4 : Int32)), .val (.int (1 : Int32)), .val (.ref b11), .val (.ref b57), .val (.ref a77), .val (.int (2 : Int32)), .val (.int (1 : Int32))] [(.int (1 : Int32)), (.ref b11), (.int z19)])) (fun T A t r => XS.iload A hx rfl (hb hby at_350) rfl r) ?_
    refine Go.sp (g' := (mkF m 353 #[.val (.int p1), .val (.int p2), .val (.int p3), .val (.int p4), .val (.int (4 : Int32)), .val (.int (1 : Int32)), .val (.ref b11), .val (.ref b57), .val (.ref a77), .val (.int (2 : Int32)), .val (.int (1 : Int32))] [(.int (1 : Int32)), (.int (1 : Int32)), (.ref b11), (.int z19)])) (fun T A t r => XS.iconst A hx rfl (hb hby at_352) r) ?_
    refine Go.sp (g' := (mkF m 354 #[.val (.int p1), .val (.int p2), .val (.int p3), .val (.int p4), .val (.int (4 : Int32)), .val (.int (1 : Int32)), .val (.ref b11), .val (.ref b57), .val (.ref a77), .val (.int (2 : Int32)), .val (.int (1 : Int32))] [(.int (2 : Int32)), (.ref b11), (.int z19)])) (fun T A t r => XS.iadd A hx rfl (hb hby at_353) rfl r) ?_
    have ne82 : b11 ≠ b57 := Nat.ne_of_lt (Nat.lt_of_lt_of_le V56.lt (Nat.le_of_eq g57.symm))
    have f83 := (((f67.other W68 ne62).keep K75 (ninS ne82 nin0)).keep K77 nin0)
    refine Go.r (g' := (mkF m 355 #[.val (.int p1), .val (.int p2), .val (.int p3), .val (.int p4), .val (.int (4 : Int32)), .val (.int (1 : Int32)), .val (.ref b11), .val (.ref b57), .val (.ref a77), .val (.int (2 : Int32)), .val (.int (1 : Int32))] [(.int z19), (.int z19)])) (fun s' T L X eT hZ t r => own_ldC X hx hZ eT f83 (j := (2 : Int32)) ⟨by decide, by decide⟩ (v := (.int z19)) rfl (g := (mkF m 354 #[.val (.int p1), .val (.int p2), .val (.int p3), .val (.int p4), .val (.int (4 : Int32)), .val (.int (1 : Int32)), .val (.ref b11), .val (.ref b57), .val (.ref a77), .val (.int (2 : Int32)), .val (.int (1 : Int32))] [(.int (2 : Int32)), (.ref b11), (.int z19)])) rfl rfl (hb hby at_354) t r) ?_
    refine Go.sp (g' := (mkF m 358 #[.val (.int p1), .val (.int p2), .val (.int p3), .val (.int p4), .val (.int (4 : Int32)), .val (.int (1 : Int32)), .val (.ref b11), .val (.ref b57), .val (.ref a77), .val (.int (2 : Int32)), .val (.int (1 : Int32))] [])) (fun T A t r => XS.icmpNo A hx rfl (hb hby at_355) rfl (teq (rfl : z19 = z19)).2 r) ?_
    refine Go.sp (g' := (mkF m 359 #[.val (.int p1), .val (.int p2), .val (.int p3), .val (.int p4), .val (.int (4 : Int32)), .val (.int (1 : Int32)), .val (.ref b11), .val (.ref b57), .val (.ref a77), .val (.int (2 : Int32)), .val (.int (1 : Int32))] [(.int (1 : Int32))])) (fun T A t r => XS.iconst A hx rfl (hb hby at_358) r) ?_
    refine Go.sp (g' := (mkF m 363 #[.val (.int p1), .val (.int p2), .val (.int p3), .val (.int p4), .val (.int (4 : Int32)), .val (.int (1 : Int32)), .val (.ref b11), .val (.ref b57), .val (.ref a77), .val (.int (2 : Int32)), .val (.int (1 : Int32))] [(.int (1 : Int32))])) (fun T A t r => XS.goto A hx rfl (pc0 := 359) (pc' := 363) rfl (hb hby at_359) (by decide) (by decide) r) ?_
    refine Go.sp (g' := (mkF m 365 #[.val (.int p1), .val (.int p2), .val (.int p3), .val (.int p4), .val (.int (4 : Int32)), .val (.int (1 : Int32)), .val (.ref b11), .val (.ref b57), .val (.ref a77), .val (.int (2 : Int32)), .val (.int (1 : Int32))] [])) (fun T A t r => XS.istore A hx rfl (hb hby at_363) rfl (l' := #[.val (.int p1), .val (.int p2), .val (.int p3), .val (.int p4), .val (.int (4 : Int32)), .val (.int (1 : Int32)), .val (.ref b11), .val (.ref b57), .val (.ref a77), .val (.int (2 : Int32)), .val (.int (1 : Int32))]) rfl r) ?_
    refine Go.sp (g' := (mkF m 366 #[.val (.int p1), .val (.int p2), .val (.int p3), .val (.int p4), .val (.int (4 : Int32)), .val (.int (1 : Int32)), .val (.ref b11), .val (.ref b57), .val (.ref a77), .val (.int (2 : Int32)), .val (.int (1 : Int32))] [(.int (1 : Int32))])) (fun T A t r => XS.iconst A hx rfl (hb hby at_365) r) ?_
    refine Go.sp (g' := (mkF m 368 #[.val (.int p1), .val (.int p2), .val (.int p3), .val (.int p4), .val (.int (4 : Int32)), .val (.int (1 : Int32)), .val (.ref b11), .val (.ref b57), .val (.ref a77), .val (.int (2 : Int32)), .val (.int (1 : Int32))] [(.int (2 : Int32)), (.int (1 : Int32))])) (fun T A t r => XS.iload A hx rfl (hb hby at_366) rfl r) ?_
    refine Go.sp (g' := (mkF m 371 #[.val (.int p1), .val (.int p2), .val (.int p3), .val (.int p4), .val (.int (4 : Int32)), .val (.int (1 : Int32)), .val (.ref b11), .val (.ref b57), .val (.ref a77), .val (.int (2 : Int32)), .val (.int (1 : Int32))] [])) (fun T A t r => XS.icmpNo A hx rfl (hb hby at_368) rfl (tlt (by decide : ((1 : Int32) < (2 : Int32)))).2.1 r) ?_
    refine Go.sp (g' := (mkF m 373 #[.val (.int p1), .val (.int p2), .val (.int p3), .val (.int p4), .val (.int (4 : Int32)), .val (.int (1 : Int32)), .val (.ref b11), .val (.ref b57), .val (.ref a77), .val (.int (2 : Int32)), .val (.int (1 : Int32))] [(.int (1 : Int32))])) (fun T A t r => XS.iload A hx rfl (hb hby at_371) rfl r) ?_
    refine Go.sp (g' := (mkF m 376 #[.val (.int p1), .val (.int p2), .val (.int p3), .val (.int p4), .val (.int (4 : Int32)), .val (.int (1 : Int32)), .val (.ref b11), .val (.ref b57), .val (.ref a77), .val (.int (2 : Int32)), .val (.int (1 : Int32))] [])) (fun T A t r => XS.ifNo A hx rfl (hb hby at_373) rfl ((if0 _ _).trans (feq (by decide : ¬ ((1 : Int32) = (0 : Int32)))).1) r) ?_
    refine Go.sp (g' := (mkF m 378 #[.val (.int p1), .val (.int p2), .val (.int p3), .val (.int p4), .val (.int (4 : Int32)), .val (.int (1 : Int32)), .val (.ref b11), .val (.ref b57), .val (.ref a77), .val (.int (2 : Int32)), .val (.int (1 : Int32))] [(.ref a77)])) (fun T A t r => XS.aload A hx rfl (hb hby at_376) rfl rfl r) ?_
    refine Go.sp (g' := (mkF m 379 #[.val (.int p1), .val (.int p2), .val (.int p3), .val (.int p4), .val (.int (4 : Int32)), .val (.int (1 : Int32)), .val (.ref b11), .val (.ref b57), .val (.ref a77), .val (.int (2 : Int32)), .val (.int (1 : Int32))] [(.int (1 : Int32)), (.ref a77)])) (fun T A t r => XS.iconst A hx rfl (hb hby at_378) r) ?_
    refine Go.callVP (a := a77) (z := (⟨"java/lang/String", "charAt", "(I)C"⟩ : MethodName)) (W := 0) (y := (⟨"java/lang/String", "charAt", "(I)C"⟩ : MethodName)) (argsL := [(.int (1 : Int32))]) (rest := []) (pc' := 382) (hb hby at_379) (own_w hw 122 rfl) (own_w hw 123 rfl) (fun s' hZ => notFace_of_selects (args := #[]) (mvT hZ (own_w hw 125 rfl))) (own_w hw 125 rfl) (own_w hw 124 rfl) (by decide) (fun s' hZ => Bk.pure (StrChars.Road.chN (kI := 4) (cs := [z19, z22]) (i := 1) hZ (own_chwd hw) (own_w hw 7 rfl) E77 V77 C77 D77 (own_cod rfl lat78) (own_up lat78) (S0.ext O79.2) P0 (SF.ext O79.2) RF (by show 2 ≤ 4000; decide) (by show 1 < 2; decide) rfl (by decide) (by decide))) E77 (by rw [hml]; rfl) (lenOf pd_14 rfl) rfl (Nat.le_of_ble_eq_true rfl) rfl (by decide) (by decide) ?_
    rintro v84 rfl
    refine Go.cast (g' := (mkF m 382 #[.val (.int p1), .val (.int p2), .val (.int p3), .val (.int p4), .val (.int (4 : Int32)), .val (.int (1 : Int32)), .val (.ref b11), .val (.ref b57), .val (.ref a77), .val (.int (2 : Int32)), .val (.int (1 : Int32))] [(.int z22)])) rfl ?_
    refine Go.sp (g' := (mkF m 384 #[.val (.int p1), .val (.int p2), .val (.int p3), .val (.int p4), .val (.int (4 : Int32)), .val (.int (1 : Int32)), .val (.ref b11), .val (.ref b57), .val (.ref a77), .val (.int (2 : Int32)), .val (.int (1 : Int32))] [(.ref b11), (.int z22)])) (fun T A t r => XS.aload A hx rfl (hb hby at_382) rfl rfl r) ?_
    refine Go.sp (g' := (mkF m 386 #[.val (.int p1), .val (.int p2), .val (.int p3), .val (.int p4), .val (.int (4 : Int32)), .val (.int (1 : Int32)), .val (.ref b11), .val (.ref b57), .val (.ref a77), .val (.int (2 : Int32)), .val (.int (1 : Int32))] [(.int (1 : Int32)), (.ref b11), (.int z22)])) (fun T A t r => XS.iload A hx rfl (hb hby at_384) rfl r) ?_
    refine Go.sp (g' := (mkF m 387 #[.val (.int p1), .val (.int p2), .val (.int p3), .val (.int p4), .val (.int (4 : Int32)), .val (.int (1 : Int32)), .val (.ref b11), .val (.ref b57), .val (.ref a77), .val (.int (2 : Int32)), .val (.int (1 : Int32))] [(.int (2 : Int32)), (.int (1 : Int32)), (.ref b11), (.int z22)])) (fun T A t r => XS.iconst A hx rfl (hb hby at_386) r) ?_
    refine Go.sp (g' := (mkF m 388 #[.val (.int p1), .val (.int p2), .val (.int p3), .val (.int p4), .val (.int (4 : Int32)), .val (.int (1 : Int32)), .val (.ref b11), .val (.ref b57), .val (.ref a77), .val (.int (2 : Int32)), .val (.int (1 : Int32))] [(.int (3 : Int32)), (.ref b11), (.int z22)])) (fun T A t r => XS.iadd A hx rfl (hb hby at_387) rfl r) ?_
    refine Go.r (g' := (mkF m 389 #[.val (.int p1), .val (.int p2), .val (.int p3), .val (.int p4), .val (.int (4 : Int32)), .val (.int (1 : Int32)), .val (.ref b11), .val (.ref b57), .val (.ref a77), .val (.int (2 : Int32)), .val (.int (1 : Int32))] [(.int z22), (.int z22)])) (fun s' T L X eT hZ t r => own_ldC X hx hZ eT f83 (j := (3 : Int32)) ⟨by decide, by decide⟩ (v := (.int z22)) rfl (g := (mkF m 388 #[.val (.int p1), .val (.int p2), .val (.int p3), .val (.int p4), .val (.int (4 : Int32)), .val (.int (1 : Int32)), .val (.ref b11), .val (.ref b57), .val (.ref a77), .val (.int (2 : Int32)), .val (.int (1 : Int32))] [(.int (3 : Int32)), (.ref b11), (.int z22)])) rfl rfl (hb hby at_388) t r) ?_
    refine Go.sp (g' := (mkF m 392 #[.val (.int p1), .val (.int p2), .val (.int p3), .val (.int p4), .val (.int (4 : Int32)), .val (.int (1 : Int32)), .val (.ref b11), .val (.ref b57), .val (.ref a77), .val (.int (2 : Int32)), .val (.int (1 : Int32))] [])) (fun T A t r => XS.icmpNo A hx rfl (hb hby at_389) rfl (teq (rfl : z22 = z22)).2 r) ?_
    refine Go.sp (g' := (mkF m 393 #[.val (.int p1), .val (.int p2), .val (.int p3), .val (.int p4), .val (.int (4 : Int32)), .val (.int (1 : Int32)), .val (.ref b11), .val (.ref b57), .val (.ref a77), .val (.int (2 : Int32)), .val (.int (1 : Int32))] [(.int (1 : Int32))])) (fun T A t r => XS.iconst A hx rfl (hb hby at_392) r) ?_
    refine Go.sp (g' := (mkF m 397 #[.val (.int p1), .val (.int p2), .val (.int p3), .val (.int p4), .val (.int (4 : Int32)), .val (.int (1 : Int32)), .val (.ref b11), .val (.ref b57), .val (.ref a77), .val (.int (2 : Int32)), .val (.int (1 : Int32))] [(.int (1 : Int32))])) (fun T A t r => XS.goto A hx rfl (pc0 := 393) (pc' := 397) rfl (hb hby at_393) (by decide) (by decide) r) ?_
    refine Go.sp (g' := (mkF m 399 #[.val (.int p1), .val (.int p2), .val (.int p3), .val (.int p4), .val (.int (4 : Int32)), .val (.int (1 : Int32)), .val (.ref b11), .val (.ref b57), .val (.ref a77), .val (.int (2 : Int32)), .val (.int (1 : Int32))] [])) (fun T A t r => XS.istore A hx rfl (hb hby at_397) rfl (l' := #[.val (.int p1), .val (.int p2), .val (.int p3), .val (.int p4), .val (.int (4 : Int32)), .val (.int (1 : Int32)), .val (.ref b11), .val (.ref b57), .val (.ref a77), .val (.int (2 : Int32)), .val (.int (1 : Int32))]) rfl r) ?_
    refine Go.sp (g' := (mkF m 400 #[.val (.int p1), .val (.int p2), .val (.int p3), .val (.int p4), .val (.int (4 : Int32)), .val (.int (1 : Int32)), .val (.ref b11), .val (.ref b57), .val (.ref a77), .val (.int (2 : Int32)), .val (.int (1 : Int32))] [(.int (2 : Int32))])) (fun T A t r => XS.iconst A hx rfl (hb hby at_399) r) ?_
    refine Go.sp (g' := (mkF m 402 #[.val (.int p1), .val (.int p2), .val (.int p3), .val (.int p4), .val (.int (4 : Int32)), .val (.int (1 : Int32)), .val (.ref b11), .val (.ref b57), .val (.ref a77), .val (.int (2 : Int32)), .val (.int (1 : Int32))] [(.int (2 : Int32)), (.int (2 : Int32))])) (fun T A t r => XS.iload A hx rfl (hb hby at_400) rfl r) ?_
    refine Go.sp (g' := (mkF m 433 #[.val (.int p1), .val (.int p2), .val (.int p3), .val (.int p4), .val (.int (4 : Int32)), .val (.int (1 : Int32)), .val (.ref b11), .val (.ref b57), .val (.ref a77), .val (.int (2 : Int32)), .val (.int (1 : Int32))] [])) (fun T A t r => XS.icmpYes A hx rfl (pc0 := 402) (pc' := 433) rfl (hb hby at_402) rfl (flt (by decide : ¬ ((2 : Int32) < (2 : Int32)))).2.1 (by decide) (by decide) r) ?_
    refine Go.sp (g' := (mkF m 434 #[.val (.int p1), .val (.int p2), .val (.int p3), .val (.int p4), .val (.int (4 : Int32)), .val (.int (1 : Int32)), .val (.ref b11), .val (.ref b57), .val (.ref a77), .val (.int (2 : Int32)), .val (.int (1 : Int32))] [(.int (3 : Int32))])) (fun T A t r => XS.iconst A hx rfl (hb hby at_433) r) ?_
    refine Go.sp (g' := (mkF m 436 #[.val (.int p1), .val (.int p2), .val (.int p3), .val (.int p4), .val (.int (4 : Int32)), .val (.int (1 : Int32)), .val (.ref b11), .val (.ref b57), .val (.ref a77), .val (.int (2 : Int32)), .val (.int (1 : Int32))] [(.int (2 : Int32)), (.int (3 : Int32))])) (fun T A t r => XS.iload A hx rfl (hb hby at_434) rfl r) ?_
    refine Go.sp (g' := (mkF m 467 #[.val (.int p1), .val (.int p2), .val (.int p3), .val (.int p4), .val (.int (4 : Int32)), .val (.int (1 : Int32)), .val (.ref b11), .val (.ref b57), .val (.ref a77), .val (.int (2 : Int32)), .val (.int (1 : Int32))] [])) (fun T A t r => XS.icmpYes A hx rfl (pc0 := 436) (pc' := 467) rfl (hb hby at_436) rfl (flt (by decide : ¬ ((3 : Int32) < (2 : Int32)))).2.1 (by decide) (by decide) r) ?_
    refine Go.sp (g' := (mkF m 469 #[.val (.int p1), .val (.int p2), .val (.int p3), .val (.int p4), .val (.int (4 : Int32)), .val (.int (1 : Int32)), .val (.ref b11), .val (.ref b57), .val (.ref a77), .val (.int (2 : Int32)), .val (.int (1 : Int32))] [(.int (1 : Int32))])) (fun T A t r => XS.iload A hx rfl (hb hby at_467) rfl r) ?_
    exact Go.ret (v := (some (.int (nar .boolean (1 : Int32))))) (fun s' T L fs X hr => retN X hx (t := .boolean) hret (by simp) (hb hby at_469) hr) (fun h => by rw [hret] at h; cases h) (by decide) (by decide) rfl
  · skip
    refine Go.cast (g' := (mkF m 91 #[.val (.int p1), .val (.int p2), .val (.int p3), .val (.int p4), .val (.int (4 : Int32)), .val (.int (2 : Int32)), .val (.ref b11), .unset, .unset, .unset, .unset] [])) (by rw [ha, hn]) ?_
    refine Go.sp (g' := (mkF m 93 #[.val (.int p1), .val (.int p2), .val (.int p3), .val (.int p4), .val (.int (4 : Int32)), .val (.int (2 : Int32)), .val (.ref b11), .unset, .unset, .unset, .unset] [(.ref b11)])) (fun T A t r => XS.aload A hx rfl (hb hby at_91) rfl rfl r) ?_
    refine Go.sp (g' := (mkF m 95 #[.val (.int p1), .val (.int p2), .val (.int p3), .val (.int p4), .val (.int (4 : Int32)), .val (.int (2 : Int32)), .val (.ref b11), .unset, .unset, .unset, .unset] [(.int (2 : Int32)), (.ref b11)])) (fun T A t r => XS.iload A hx rfl (hb hby at_93) rfl r) ?_
    refine Go.sp (g' := (mkF m 97 #[.val (.int p1), .val (.int p2), .val (.int p3), .val (.int p4), .val (.int (4 : Int32)), .val (.int (2 : Int32)), .val (.ref b11), .unset, .unset, .unset, .unset] [(.int (64 : Int32)), (.int (2 : Int32)), (.ref b11)])) (fun T A t r => XS.bipush A hx rfl (hb hby at_95) r) ?_
    refine Go.w (g' := (mkF m 98 #[.val (.int p1), .val (.int p2), .val (.int p3), .val (.int p4), .val (.int (4 : Int32)), .val (.int (2 : Int32)), .val (.ref b11), .unset, .unset, .unset, .unset] [])) (fun s' T L X eT hZ hown => own_stC X hx hZ eT V29 (j := (2 : Int32)) ⟨by decide, by decide⟩ (g := (mkF m 97 #[.val (.int p1), .val (.int p2), .val (.int p3), .val (.int p4), .val (.int (4 : Int32)), .val (.int (2 : Int32)), .val (.ref b11), .unset, .unset, .unset, .unset] [(.int (64 : Int32)), (.int (2 : Int32)), (.ref b11)])) rfl rfl (hb hby at_97)) (Or.inr sz11) ?_
    intro h85 W85
    have V85 : Arv Z h85 b11 k11 .char (6 : Int32) [(.int z13), (.int z16), (.int (64 : Int32)), (.int z22), (.int z25), (.int z28)] (.int (0 : Int32)) := own_set V29 (fits_nar_char _) W85 rfl 2 rfl (Nat.le_of_ble_eq_true rfl)
    refine Go.sp (g' := (mkF m 100 #[.val (.int p1), .val (.int p2), .val (.int p3), .val (.int p4), .val (.int (4 : Int32)), .val (.int (2 : Int32)), .val (.ref b11), .unset, .unset, .unset, .unset] [(.int (4 : Int32))])) (fun T A t r => XS.iload A hx rfl (hb hby at_98) rfl r) ?_
    refine Go.sp (g' := (mkF m 101 #[.val (.int p1), .val (.int p2), .val (.int p3), .val (.int p4), .val (.int (4 : Int32)), .val (.int (2 : Int32)), .val (.ref b11), .unset, .unset, .unset, .unset] [(.int (3 : Int32)), (.int (4 : Int32))])) (fun T A t r => XS.iconst A hx rfl (hb hby at_100) r) ?_
    refine Go.sp (g' := (mkF m 140 #[.val (.int p1), .val (.int p2), .val (.int p3), .val (.int p4), .val (.int (4 : Int32)), .val (.int (2 : Int32)), .val (.ref b11), .unset, .unset, .unset, .unset] [])) (fun T A t r => XS.icmpYes A hx rfl (pc0 := 101) (pc' := 140) rfl (hb hby at_101) rfl (feq (by decide : ¬ ((4 : Int32) = (3 : Int32)))).2 (by decide) (by decide) r) ?_
    refine Go.sp (g' := (mkF m 142 #[.val (.int p1), .val (.int p2), .val (.int p3), .val (.int p4), .val (.int (4 : Int32)), .val (.int (2 : Int32)), .val (.ref b11), .unset, .unset, .unset, .unset] [(.int (4 : Int32))])) (fun T A t r => XS.iload A hx rfl (hb hby at_140) rfl r) ?_
    refine Go.sp (g' := (mkF m 143 #[.val (.int p1), .val (.int p2), .val (.int p3), .val (.int p4), .val (.int (4 : Int32)), .val (.int (2 : Int32)), .val (.ref b11), .unset, .unset, .unset, .unset] [(.int (4 : Int32)), (.int (4 : Int32))])) (fun T A t r => XS.iconst A hx rfl (hb hby at_142) r) ?_
    refine Go.sp (g' := (mkF m 146 #[.val (.int p1), .val (.int p2), .val (.int p3), .val (.int p4), .val (.int (4 : Int32)), .val (.int (2 : Int32)), .val (.ref b11), .unset, .unset, .unset, .unset] [])) (fun T A t r => XS.icmpNo A hx rfl (hb hby at_143) rfl (teq (by decide : ((4 : Int32) = (4 : Int32)))).2 r) ?_
    refine Go.newO (k' := 2) (n' := 10) (pc' := 149) (hb hby at_146) (own_w hw 6 rfl) (own_w hw 7 rfl) (own_w hw 8 rfl) rfl rfl rfl (by decide) (by decide) ?_
    intro b86 h86 g86 sz86 E86 A86 D86
    have F86_coder : Fld Z h86 b86 "java/lang/String" "coder" "B" (.int (0 : Int32)) := D86 (Or.inr (own_w hw 32 rfl)) (ty := .byte) (by decide)
    have F86_value : Fld Z h86 b86 "java/lang/String" "value" "[B" .null := D86 (Or.inr (own_w hw 34 rfl)) (ty := (.array .byte)) (by decide)
    refine Go.sp (g' := (mkF m 150 #[.val (.int p1), .val (.int p2), .val (.int p3), .val (.int p4), .val (.int (4 : Int32)), .val (.int (2 : Int32)), .val (.ref b11), .unset, .unset, .unset, .unset] [(.ref b86), (.ref b86)])) (fun T A t r => XS.dup A hx rfl (hb hby at_149) rfl rfl r) ?_
    refine Go.sp (g' := (mkF m 151 #[.val (.int p1), .val (.int p2), .val (.int p3), .val (.int p4), .val (.int (4 : Int32)), .val (.int (2 : Int32)), .val (.ref b11), .unset, .unset, .unset, .unset] [(.int (4 : Int32)), (.ref b86), (.ref b86)])) (fun T A t r => XS.iconst A hx rfl (hb hby at_150) r) ?_
    refine Go.newP (ty := .char) (dv := (.int (0 : Int32))) (cap := 4) (k' := 3) (n' := 14) (pc' := 153) (hb hby at_151) rfl rfl (own_w hw 0 rfl) (by decide) (by decide) (by decide) rfl rfl rfl (by decide) (by decide) ?_
    intro b87 h87 k87 g87 sz87 E87 A87
    have V87 : Arv Z h87 b87 k87 .char (4 : Int32) [(.int (0 : Int32)), (.int (0 : Int32)), (.int (0 : Int32)), (.int (0 : Int32))] (.int (0 : Int32)) := A87.pad (pad_rep [] (.int (0 : Int32)) 4)
    refine Go.sp (g' := (mkF m 154 #[.val (.int p1), .val (.int p2), .val (.int p3), .val (.int p4), .val (.int (4 : Int32)), .val (.int (2 : Int32)), .val (.ref b11), .unset, .unset, .unset, .unset] [(.ref b87), (.ref b87), (.ref b86), (.ref b86)])) (fun T A t r => XS.dup A hx rfl (hb hby at_153) rfl rfl r) ?_
    refine Go.sp (g' := (mkF m 155 #[.val (.int p1), .val (.int p2), .val (.int p3), .val (.int p4), .val (.int (4 : Int32)), .val (.int (2 : Int32)), .val (.ref b11), .unset, .unset, .unset, .unset] [(.int (0 : Int32)), (.ref b87), (.ref b87), (.ref b86), (.ref b86)])) (fun T A t r => XS.iconst A hx rfl (hb hby at_154) r) ?_
    refine Go.sp (g' := (mkF m 157 #[.val (.int p1), .val (.int p2), .val (.int p3), .val (.int p4), .val (.int (4 : Int32)), .val (.int (2 : Int32)), .val (.ref b11), .unset, .unset, .unset, .unset] [(.ref b11), (.int (0 : Int32)), (.ref b87), (.ref b87), (.ref b86), (.ref b86)])) (fun T A t r => XS.aload A hx rfl (hb hby at_155) rfl rfl r) ?_
    refine Go.sp (g' := (mkF m 158 #[.val (.int p1), .val (.int p2), .val (.int p3), .val (.int p4), .val (.int (4 : Int32)), .val (.int (2 : Int32)), .val (.ref b11), .unset, .unset, .unset, .unset] [(.int (0 : Int32)), (.ref b11), (.int (0 : Int32)), (.ref b87), (.ref b87), (.ref b86), (.ref b86)])) (fun T A t r => XS.iconst A hx rfl (hb hby at_157) r) ?_
    have f88 := ((V85.ext E86).ext E87)
    refine Go.r (g' := (mkF m 159 #[.val (.int p1), .val (.int p2), .val (.int p3), .val (.int p4), .val (.int (4 : Int32)), .val (.int (2 : Int32)), .val (.ref b11), .unset, .unset, .unset, .unset] [(.int z13), (.int (0 : Int32)), (.ref b87), (.ref b87), (.ref b86), (.ref b86)])) (fun s' T L X eT hZ t r => own_ldC X hx hZ eT f88 (j := (0 : Int32)) ⟨by decide, by decide⟩ (v := (.int z13)) rfl (g := (mkF m 158 #[.val (.int p1), .val (.int p2), .val (.int p3), .val (.int p4), .val (.int (4 : Int32)), .val (.int (2 : Int32)), .val (.ref b11), .unset, .unset, .unset, .unset] [(.int (0 : Int32)), (.ref b11), (.int (0 : Int32)), (.ref b87), (.ref b87), (.ref b86), (.ref b86)])) rfl rfl (hb hby at_158) t r) ?_
    refine Go.w (g' := (mkF m 160 #[.val (.int p1), .val (.int p2), .val (.int p3), .val (.int p4), .val (.int (4 : Int32)), .val (.int (2 : Int32)), .val (.ref b11), .unset, .unset, .unset, .unset] [(.ref b87), (.ref b86), (.ref b86)])) (fun s' T L X eT hZ hown => own_stC X hx hZ eT V87 (j := (0 : Int32)) ⟨by decide, by decide⟩ (g := (mkF m 159 #[.val (.int p1), .val (.int p2), .val (.int p3), .val (.int p4), .val (.int (4 : Int32)), .val (.int (2 : Int32)), .val (.ref b11), .unset, .unset, .unset, .unset] [(.int z13), (.int (0 : Int32)), (.ref b87), (.ref b87), (.ref b86), (.ref b86)])) rfl rfl (hb hby at_159)) (Or.inr sz87) ?_
    intro h89 W89
    have V89 : Arv Z h89 b87 k87 .char (4 : Int32) [(.int z13), (.int (0 : Int32)), (.int (0 : Int32)), (.int (0 : Int32))] (.int (0 : Int32)) := own_set V87 (fits_nar_char _) W89 (congrArg Value.int (own_nar zb13)) 0 rfl (Nat.le_of_ble_eq_true rfl)
    refine Go.sp (g' := (mkF m 161 #[.val (.int p1), .val (.int p2), .val (.int p3), .val (.int p4), .val (.int (4 : Int32)), .val (.int (2 : Int32)), .val (.ref b11), .unset, .unset, .unset, .unset] [(.ref b87), (.ref b87), (.ref b86), (.ref b86)])) (fun T A t r => XS.dup A hx rfl (hb hby at_160) rfl rfl r) ?_
    refine Go.sp (g' := (mkF m 162 #[.val (.int p1), .val (.int p2), .val (.int p3), .val (.int p4), .val (.int (4 : Int32)), .val (.int (2 : Int32)), .val (.ref b11), .unset, .unset, .unset, .unset] [(.int (1 : Int32)), (.ref b87), (.ref b87), (.ref b86), (.ref b86)])) (fun T A t r => XS.iconst A hx rfl (hb hby at_161) r) ?_
    refine Go.sp (g' := (mkF m 164 #[.val (.int p1), .val (.int p2), .val (.int p3), .val (.int p4), .val (.int (4 : Int32)), .val (.int (2 : Int32)), .val (.ref b11), .unset, .unset, .unset, .unset] [(.ref b11), (.int (1 : Int32)), (.ref b87), (.ref b87), (.ref b86), (.ref b86)])) (fun T A t r => XS.aload A hx rfl (hb hby at_162) rfl rfl r) ?_
    refine Go.sp (g' := (mkF m 165 #[.val (.int p1), .val (.int p2), .val (.int p3), .val (.int p4), .val (.int (4 : Int32)), .val (.int (2 : Int32)), .val (.ref b11), .unset, .unset, .unset, .unset] [(.int (1 : Int32)), (.ref b11), (.int (1 : Int32)), (.ref b87), (.ref b87), (.ref b86), (.ref b86)])) (fun T A t r => XS.iconst A hx rfl (hb hby at_164) r) ?_
    have f90 := (V85.ext E86)
    have ne91 : b11 ≠ b87 := Nat.ne_of_lt (Nat.lt_of_lt_of_le f90.lt (Nat.le_of_eq g87.symm))
    have f92 := (f88.other W89 ne91)
    refine Go.r (g' := (mkF m 166 #[.val (.int p1), .val (.int p2), .val (.int p3), .val (.int p4), .val (.int (4 : Int32)), .val (.int (2 : Int32)), .val (.ref b11), .unset, .unset, .unset, .unset] [(.int z16), (.int (1 : Int32)), (.ref b87), (.ref b87), (.ref b86), (.ref b86)])) (fun s' T L X eT hZ t r => own_ldC X hx hZ eT f92 (j := (1 : Int32)) ⟨by decide, by decide⟩ (v := (.int z16)) rfl (g := (mkF m 165 #[.val (.int p1), .val (.int p2), .val (.int p3), .val (.int p4), .val (.int (4 : Int32)), .val (.int (2 : Int32)), .val (.ref b11), .unset, .unset, .unset, .unset] [(.int (1 : Int32)), (.ref b11), (.int (1 : Int32)), (.ref b87), (.ref b87), (.ref b86), (.ref b86)])) rfl rfl (hb hby at_165) t r) ?_
    refine Go.w (g' := (mkF m 167 #[.val (.int p1), .val (.int p2), .val (.int p3), .val (.int p4), .val (.int (4 : Int32)), .val (.int (2 : Int32)), .val (.ref b11), .unset, .unset, .unset, .unset] [(.ref b87), (.ref b86), (.ref b86)])) (fun s' T L X eT hZ hown => own_stC X hx hZ eT V89 (j := (1 : Int32)) ⟨by decide, by decide⟩ (g := (mkF m 166 #[.val (.int p1), .val (.int p2), .val (.int p3), .val (.int p4), .val (.int (4 : Int32)), .val (.int (2 : Int32)), .val (.ref b11), .unset, .unset, .unset, .unset] [(.int z16), (.int (1 : Int32)), (.ref b87), (.ref b87), (.ref b86), (.ref b86)])) rfl rfl (hb hby at_166)) (Or.inr sz87) ?_
    intro h93 W93
    have V93 : Arv Z h93 b87 k87 .char (4 : Int32) [(.int z13), (.int z16), (.int (0 : Int32)), (.int (0 : Int32))] (.int (0 : Int32)) := own_set V89 (fits_nar_char _) W93 (congrArg Value.int (own_nar zb16)) 1 rfl (Nat.le_of_ble_eq_true rfl)
    refine Go.sp (g' := (mkF m 168 #[.val (.int p1), .val (.int p2), .val (.int p3), .val (.int p4), .val (.int (4 : Int32)), .val (.int (2 : Int32)), .val (.ref b11), .unset, .unset, .unset, .unset] [(.ref b87), (.ref b87), (.ref b86), (.ref b86)])) (fun T A t r => XS.dup A hx rfl (hb hby at_167) rfl rfl r) ?_
    refine Go.sp (g' := (mkF m 169 #[.val (.int p1), .val (.int p2), .val (.int p3), .val (.int p4), .val (.int (4 : Int32)), .val (.int (2 : Int32)), .val (.ref b11), .unset, .unset, .unset, .unset] [(.int (2 : Int32)), (.ref b87), (.ref b87), (.ref b86), (.ref b86)])) (fun T A t r => XS.iconst A hx rfl (hb hby at_168) r) ?_
    refine Go.sp (g' := (mkF m 171 #[.val (.int p1), .val (.int p2), .val (.int p3), .val (.int p4), .val (.int (4 : Int32)), .val (.int (2 : Int32)), .val (.ref b11), .unset, .unset, .unset, .unset] [(.ref b11), (.int (2 : Int32)), (.ref b87), (.ref b87), (.ref b86), (.ref b86)])) (fun T A t r => XS.aload A hx rfl (hb hby at_169) rfl rfl r) ?_
    refine Go.sp (g' := (mkF m 172 #[.val (.int p1), .val (.int p2), .val (.int p3), .val (.int p4), .val (.int (4 : Int32)), .val (.int (2 : Int32)), .val (.ref b11), .unset, .unset, .unset, .unset] [(.int (2 : Int32)), (.ref b11), (.int (2 : Int32)), (.ref b87), (.ref b87), (.ref b86), (.ref b86)])) (fun T A t r => XS.iconst A hx rfl (hb hby at_171) r) ?_
    have f94 := (f92.other W93 ne91)
    refine Go.r (g' := (mkF m 173 #[.val (.int p1), .val (.int p2), .val (.int p3), .val (.int p4), .val (.int (4 : Int32)), .val (.int (2 : Int32)), .val (.ref b11), .unset, .unset, .unset, .unset] [(.int (64 : Int32)), (.int (2 : Int32)), (.ref b87), (.ref b87), (.ref b86), (.ref b86)])) (fun s' T L X eT hZ t r => own_ldC X hx hZ eT f94 (j := (2 : Int32)) ⟨by decide, by decide⟩ (v := (.int (64 : Int32))) rfl (g := (mkF m 172 #[.val (.int p1), .val (.int p2), .val (.int p3), .val (.int p4), .val (.int (4 : Int32)), .val (.int (2 : Int32)), .val (.ref b11), .unset, .unset, .unset, .unset] [(.int (2 : Int32)), (.ref b11), (.int (2 : Int32)), (.ref b87), (.ref b87), (.ref b86), (.ref b86)])) rfl rfl (hb hby at_172) t r) ?_
    refine Go.w (g' := (mkF m 174 #[.val (.int p1), .val (.int p2), .val (.int p3), .val (.int p4), .val (.int (4 : Int32)), .val (.int (2 : Int32)), .val (.ref b11), .unset, .unset, .unset, .unset] [(.ref b87), (.ref b86), (.ref b86)])) (fun s' T L X eT hZ hown => own_stC X hx hZ eT V93 (j := (2 : Int32)) ⟨by decide, by decide⟩ (g := (mkF m 173 #[.val (.int p1), .val (.int p2), .val (.int p3), .val (.int p4), .val (.int (4 : Int32)), .val (.int (2 : Int32)), .val (.ref b11), .unset, .unset, .unset, .unset] [(.int (64 : Int32)), (.int (2 : Int32)), (.ref b87), (.ref b87), (.ref b86), (.ref b86)])) rfl rfl (hb hby at_173)) (Or.inr sz87) ?_
    intro h95 W95
    have V95 : Arv Z h95 b87 k87 .char (4 : Int32) [(.int z13), (.int z16), (.int (64 : Int32)), (.int (0 : Int32))] (.int (0 : Int32)) := own_set V93 (fits_nar_char _) W95 rfl 2 rfl (Nat.le_of_ble_eq_true rfl)
    refine Go.sp (g' := (mkF m 175 #[.val (.int p1), .val (.int p2), .val (.int p3), .val (.int p4), .val (.int (4 : Int32)), .val (.int (2 : Int32)), .val (.ref b11), .unset, .unset, .unset, .unset] [(.ref b87), (.ref b87), (.ref b86), (.ref b86)])) (fun T A t r => XS.dup A hx rfl (hb hby at_174) rfl rfl r) ?_
    refine Go.sp (g' := (mkF m 176 #[.val (.int p1), .val (.int p2), .val (.int p3), .val (.int p4), .val (.int (4 : Int32)), .val (.int (2 : Int32)), .val (.ref b11), .unset, .unset, .unset, .unset] [(.int (3 : Int32)), (.ref b87), (.ref b87), (.ref b86), (.ref b86)])) (fun T A t r => XS.iconst A hx rfl (hb hby at_175) r) ?_
    refine Go.sp (g' := (mkF m 178 #[.val (.int p1), .val (.int p2), .val (.int p3), .val (.int p4), .val (.int (4 : Int32)), .val (.int (2 : Int32)), .val (.ref b11), .unset, .unset, .unset, .unset] [(.ref b11), (.int (3 : Int32)), (.ref b87), (.ref b87), (.ref b86), (.ref b86)])) (fun T A t r => XS.aload A hx rfl (hb hby at_176) rfl rfl r) ?_
    refine Go.sp (g' := (mkF m 179 #[.val (.int p1), .val (.int p2), .val (.int p3), .val (.int p4), .val (.int (4 : Int32)), .val (.int (2 : Int32)), .val (.ref b11), .unset, .unset, .unset, .unset] [(.int (3 : Int32)), (.ref b11), (.int (3 : Int32)), (.ref b87), (.ref b87), (.ref b86), (.ref b86)])) (fun T A t r => XS.iconst A hx rfl (hb hby at_178) r) ?_
    have f96 := (f94.other W95 ne91)
    refine Go.r (g' := (mkF m 180 #[.val (.int p1), .val (.int p2), .val (.int p3), .val (.int p4), .val (.int (4 : Int32)), .val (.int (2 : Int32)), .val (.ref b11), .unset, .unset, .unset, .unset] [(.int z22), (.int (3 : Int32)), (.ref b87), (.ref b87), (.ref b86), (.ref b86)])) (fun s' T L X eT hZ t r => own_ldC X hx hZ eT f96 (j := (3 : Int32)) ⟨by decide, by decide⟩ (v := (.int z22)) rfl (g := (mkF m 179 #[.val (.int p1), .val (.int p2), .val (.int p3), .val (.int p4), .val (.int (4 : Int32)), .val (.int (2 : Int32)), .val (.ref b11), .unset, .unset, .unset, .unset] [(.int (3 : Int32)), (.ref b11), (.int (3 : Int32)), (.ref b87), (.ref b87), (.ref b86), (.ref b86)])) rfl rfl (hb hby at_179) t r) ?_
    refine Go.w (g' := (mkF m 181 #[.val (.int p1), .val (.int p2), .val (.int p3), .val (.int p4), .val (.int (4 : Int32)), .val (.int (2 : Int32)), .val (.ref b11), .unset, .unset, .unset, .unset] [(.ref b87), (.ref b86), (.ref b86)])) (fun s' T L X eT hZ hown => own_stC X hx hZ eT V95 (j := (3 : Int32)) ⟨by decide, by decide⟩ (g := (mkF m 180 #[.val (.int p1), .val (.int p2), .val (.int p3), .val (.int p4), .val (.int (4 : Int32)), .val (.int (2 : Int32)), .val (.ref b11), .unset, .unset, .unset, .unset] [(.int z22), (.int (3 : Int32)), (.ref b87), (.ref b87), (.ref b86), (.ref b86)])) rfl rfl (hb hby at_180)) (Or.inr sz87) ?_
    intro h97 W97
    have V97 : Arv Z h97 b87 k87 .char (4 : Int32) [(.int z13), (.int z16), (.int (64 : Int32)), (.int z22)] (.int (0 : Int32)) := own_set V95 (fits_nar_char _) W97 (congrArg Value.int (own_nar zb22)) 3 rfl (Nat.le_of_ble_eq_true rfl)
    have f98 := (((((A86.ext E87).wr W89).wr W93).wr W95).wr W97)
    have ne99 : b86 ≠ b87 := Nat.ne_of_lt (Nat.lt_of_lt_of_le A86.lt (Nat.le_of_eq g87.symm))
    have f100 := (((((F86_value.ext E87).other W89 (Or.inl ne99)).other W93 (Or.inl ne99)).other W95 (Or.inl ne99)).other W97 (Or.inl ne99))
    have f101 := (((((F86_coder.ext E87).other W89 (Or.inl ne99)).other W93 (Or.inl ne99)).other W95 (Or.inl ne99)).other W97 (Or.inl ne99))
    refine Go.old fun O102 => ?_
    have lat103 : ∀ c ∈ [z13, z16, (64 : Int32), z22], ¬ c < 0 ∧ ¬ (255 : Int32) < c := own_allc zb13 (own_allc zb16 (own_allc (by decide) (own_allc zb22 (own_allc0))))
    refine Go.callC (a := b86) (ws' := [b86]) (W := 1) (y := (⟨"java/lang/String", "<init>", "([C)V"⟩ : MethodName)) (argsL := [(.ref b87)]) (rest := [(.ref b86)]) (pc' := 184) (k' := 4) (n' := 18) (hb hby at_181) rfl (own_w hw 9 rfl) (own_w hw 10 rfl) (own_w hw 11 rfl) (by decide) (fun s' hZ => own_str hw (own_w hw 7 rfl) hZ (cs := [z13, z16, (64 : Int32), z22]) (n := 4) (Nat.le_trans (Old.le O0) sz86) O102 f98 f100 f101 V97 S0 P0 rfl rfl (by decide) (by decide) lat103 (by decide) (by decide)) (by rw [hml]; rfl) (lenOf pd_15 rfl) rfl (Nat.le_of_ble_eq_true rfl) rfl rfl rfl (by decide) (by decide) (allS (Or.inr sz86) all0) ?_
    rintro v104 h104 K104 ⟨rfl, E104, C104, t104, kb104, ge104, V104, B104⟩
    refine Go.cast (g' := (mkF m 184 #[.val (.int p1), .val (.int p2), .val (.int p3), .val (.int p4), .val (.int (4 : Int32)), .val (.int (2 : Int32)), .val (.ref b11), .unset, .unset, .unset, .unset] [(.ref b86)])) rfl ?_
    refine Go.sp (g' := (mkF m 186 #[.val (.int p1), .val (.int p2), .val (.int p3), .val (.int p4), .val (.int (4 : Int32)), .val (.int (2 : Int32)), .val (.ref b11), .val (.ref b86), .unset, .unset, .unset] [])) (fun T A t r => XS.astore A hx rfl (hb hby at_184) rfl rfl (l' := #[.val (.int p1), .val (.int p2), .val (.int p3), .val (.int p4), .val (.int (4 : Int32)), .val (.int (2 : Int32)), .val (.ref b11), .val (.ref b86), .unset, .unset, .unset]) rfl r) ?_
    refine Go.sp (g' := (mkF m 300 #[.val (.int p1), .val (.int p2), .val (.int p3), .val (.int p4), .val (.int (4 : Int32)), .val (.int (2 : Int32)), .val (.ref b11), .val (.ref b86), .unset, .unset, .unset] [])) (fun T A t r => XS.goto A hx rfl (pc0 := 186) (pc' := 300) rfl (hb hby at_186) (by decide) (by decide) r) ?_
    refine Go.sp (g' := (mkF m 302 #[.val (.int p1), .val (.int p2), .val (.int p3), .val (.int p4), .val (.int (4 : Int32)), .val (.int (2 : Int32)), .val (.ref b11), .val (.ref b86), .unset, .unset, .unset] [(.ref b86)])) (fun T A t r => XS.aload A hx rfl (hb hby at_300) rfl rfl r) ?_
    refine Go.old fun O105 => ?_
    refine Go.callS (ws' := []) (W := 0) (y := (⟨"com/example/slow_digest/slowdigest/rules/MailAddress", "domain", "(Ljava/lang/String;)Ljava/lang/String;"⟩ : MethodName)) (argsL := [(.ref b86)]) (rest := []) (pc' := 305) (k' := 6) (n' := 30) (hb hby at_302) (own_w hw 35 rfl) (own_w hw 36 rfl) (own_w hw 37 rfl) (own_w hw 38 rfl) (by decide) (fun s' hZ => Ct.bk (rmD l Z a0 hw [] b86 t104 kb104 [z13, z16, (64 : Int32), z22] 2 zS fm h104 n0 O105 E104 C104 V104 B104 lat103 (Nat.le_of_ble_eq_true rfl) (Nat.le_of_ble_eq_true rfl) rfl (own_lt2 zn13 zn16) (Nat.le_of_ble_eq_true rfl) S0 P0 SF RF) hZ (own_w hw 38 rfl) (own_w hw 37 rfl) (by decide) (by decide)) (by rw [hml]; rfl) (lenOf pd_16 rfl) rfl (Nat.le_of_ble_eq_true rfl) rfl rfl rfl (by decide) (by decide) all0 ?_
    rintro v106 h106 K106 ⟨a106, t106, kb106, rfl, E106, C106, V106, B106⟩
    refine Go.cast (g' := (mkF m 305 #[.val (.int p1), .val (.int p2), .val (.int p3), .val (.int p4), .val (.int (4 : Int32)), .val (.int (2 : Int32)), .val (.ref b11), .val (.ref b86), .unset, .unset, .unset] [(.ref a106)])) rfl ?_
    have D106 : Arv Z h106 t106 kb106 .byte (1 : Int32) (([z22].map fun c => c.toInt8.toInt32).map Value.int) (.int 0) := B106
    have lat107 : ∀ c ∈ [z22], ¬ c < 0 ∧ ¬ (255 : Int32) < c := own_allc zb22 (own_allc0)
    refine Go.sp (g' := (mkF m 307 #[.val (.int p1), .val (.int p2), .val (.int p3), .val (.int p4), .val (.int (4 : Int32)), .val (.int (2 : Int32)), .val (.ref b11), .val (.ref b86), .val (.ref a106), .unset, .unset] [])) (fun T A t r => XS.astore A hx rfl (hb hby at_305) rfl rfl (l' := #[.val (.int p1), .val (.int p2), .val (.int p3), .val (.int p4), .val (.int (4 : Int32)), .val (.int (2 : Int32)), .val (.ref b11), .val (.ref b86), .val (.ref a106), .unset, .unset]) rfl r) ?_
    refine Go.sp (g' := (mkF m 309 #[.val (.int p1), .val (.int p2), .val (.int p3), .val (.int p4), .val (.int (4 : Int32)), .val (.int (2 : Int32)), .val (.ref b11), .val (.ref b86), .val (.ref a106), .unset, .unset] [(.int (4 : Int32))])) (fun T A t r => XS.iload A hx rfl (hb hby at_307) rfl r) ?_
    refine Go.sp (g' := (mkF m 311 #[.val (.int p1), .val (.int p2), .val (.int p3), .val (.int p4), .val (.int (4 : Int32)), .val (.int (2 : Int32)), .val (.ref b11), .val (.ref b86), .val (.ref a106), .unset, .unset] [(.int (2 : Int32)), (.int (4 : Int32))])) (fun T A t r => XS.iload A hx rfl (hb hby at_309) rfl r) ?_
    refine Go.sp (g' := (mkF m 312 #[.val (.int p1), .val (.int p2), .val (.int p3), .val (.int p4), .val (.int (4 : Int32)), .val (.int (2 : Int32)), .val (.ref b11), .val (.ref b86), .val (.ref a106), .unset, .unset] [(.int (2 : Int32))])) (fun T A t r => XS.isub A hx rfl (hb hby at_311) rfl r) ?_
    refine Go.sp (g' := (mkF m 313 #[.val (.int p1), .val (.int p2), .val (.int p3), .val (.int p4), .val (.int (4 : Int32)), .val (.int (2 : Int32)), .val (.ref b11), .val (.ref b86), .val (.ref a106), .unset, .unset] [(.int (1 : Int32)), (.int (2 : Int32))])) (fun T A t r => XS.iconst A hx rfl (hb hby at_312) r) ?_
    refine Go.sp (g' := (mkF m 314 #[.val (.int p1), .val (.int p2), .val (.int p3), .val (.int p4), .val (.int (4 : Int32)), .val (.int (2 : Int32)), .val (.ref b11), .val (.ref b86), .val (.ref a106), .unset, .unset] [(.int (1 : Int32))])) (fun T A t r => XS.isub A hx rfl (hb hby at_313) rfl r) ?_
    refine Go.sp (g' := (mkF m 316 #[.val (.int p1), .val (.int p2), .val (.int p3), .val (.int p4), .val (.int (4 : Int32)), .val (.int (2 : Int32)), .val (.ref b11), .val (.ref b86), .val (.ref a106), .val (.int (1 : Int32)), .unset] [])) (fun T A t r => XS.istore A hx rfl (hb hby at_314) rfl (l' := #[.val (.int p1), .val (.int p2), .val (.int p3), .val (.int p4), .val (.int (4 : Int32)), .val (.int (2 : Int32)), .val (.ref b11), .val (.ref b86), .val (.ref a106), .val (.int (1 : Int32)), .unset]) rfl r) ?_
    refine Go.sp (g' := (mkF m 318 #[.val (.int p1), .val (.int p2), .val (.int p3), .val (.int p4), .val (.int (4 : Int32)), .val (.int (2 : Int32)), .val (.ref b11), .val (.ref b86), .val (.ref a106), .val (.int (1 : Int32)), .unset] [(.ref a106)])) (fun T A t r => XS.aload A hx rfl (hb hby at_316) rfl rfl r) ?_
    refine Go.old fun O108 => ?_
    refine Go.callVP (a := a106) (z := (⟨"java/lang/String", "length", "()I"⟩ : MethodName)) (W := 0) (y := (⟨"java/lang/String", "length", "()I"⟩ : MethodName)) (argsL := []) (rest := []) (pc' := 321) (hb hby at_318) (own_w hw 121 rfl) (own_w hw 55 rfl) (fun s' hZ => notFace_of_selects (args := #[]) (mvT hZ (own_w hw 57 rfl))) (own_w hw 57 rfl) (own_w hw 56 rfl) (by decide) (fun s' hZ => Bk.pure (StrChars.Road.lenW (kI := 4) (cs := [z22]) hZ (own_lenw hw) (own_w hw 7 rfl) E106 V106 C106 D106 (own_cod rfl lat107) (own_up lat107) (S0.ext O108.2) P0 (by show 1 ≤ 4000; decide) (by decide) (by decide))) E106 (by rw [hml]; rfl) (lenOf pd_4 rfl) rfl (Nat.le_of_ble_eq_true rfl) rfl (by decide) (by decide) ?_
    rintro v109 rfl
    refine Go.cast (g' := (mkF m 321 #[.val (.int p1), .val (.int p2), .val (.int p3), .val (.int p4), .val (.int (4 : Int32)), .val (.int (2 : Int32)), .val (.ref b11), .val (.ref b86), .val (.ref a106), .val (.int (1 : Int32)), .unset] [(.int (1 : Int32))])) rfl ?_
    refine Go.sp (g' := (mkF m 323 #[.val (.int p1), .val (.int p2), .val (.int p3), .val (.int p4), .val (.int (4 : Int32)), .val (.int (2 : Int32)), .val (.ref b11), .val (.ref b86), .val (.ref a106), .val (.int (1 : Int32)), .unset] [(.int (1 : Int32)), (.int (1 : Int32))])) (fun T A t r => XS.iload A hx rfl (hb hby at_321) rfl r) ?_
    refine Go.sp (g' := (mkF m 328 #[.val (.int p1), .val (.int p2), .val (.int p3), .val (.int p4), .val (.int (4 : Int32)), .val (.int (2 : Int32)), .val (.ref b11), .val (.ref b86), .val (.ref a106), .val (.int (1 : Int32)), .unset] [])) (fun T A t r => XS.icmpYes A hx rfl (pc0 := 323) (pc' := 328) rfl (hb hby at_323) rfl (teq (by decide : ((1 : Int32) = (1 : Int32)))).1 (by decide) (by decide) r) ?_
    refine Go.sp (g' := (mkF m 329 #[.val (.int p1), .val (.int p2), .val (.int p3), .val (.int p4), .val (.int (4 : Int32)), .val (.int (2 : Int32)), .val (.ref b11), .val (.ref b86), .val (.ref a106), .val (.int (1 : Int32)), .unset] [(.int (1 : Int32))])) (fun T A t r => XS.iconst A hx rfl (hb hby at_328) r) ?_
    refine Go.sp (g' := (mkF m 331 #[.val (.int p1), .val (.int p2), .val (.int p3), .val (.int p4), .val (.int (4 : Int32)), .val (.int (2 : Int32)), .val (.ref b11), .val (.ref b86), .val (.ref a106), .val (.int (1 : Int32)), .val (.int (1 : Int32))] [])) (fun T A t r => XS.istore A hx rfl (hb hby at_329) rfl (l' := #[.val (.int p1), .val (.int p2), .val (.int p3), .val (.int p4), .val (.int (4 : Int32)), .val (.int (2 : Int32)), .val (.ref b11), .val (.ref b86), .val (.ref a106), .val (.int (1 : Int32)), .val (.int (1 : Int32))]) rfl r) ?_
    refine Go.sp (g' := (mkF m 332 #[.val (.int p1), .val (.int p2), .val (.int p3), .val (.int p4), .val (.int (4 : Int32)), .val (.int (2 : Int32)), .val (.ref b11), .val (.ref b86), .val (.ref a106), .val (.int (1 : Int32)), .val (.int (1 : Int32))] [(.int (0 : Int32))])) (fun T A t r => XS.iconst A hx rfl (hb hby at_331) r) ?_
    refine Go.sp (g' := (mkF m 334 #[.val (.int p1), .val (.int p2), .val (.int p3), .val (.int p4), .val (.int (4 : Int32)), .val (.int (2 : Int32)), .val (.ref b11), .val (.ref b86), .val (.ref a106), .val (.int (1 : Int32)), .val (.int (1 : Int32))] [(.int (1 : Int32)), (.int (0 : Int32))])) (fun T A t r => XS.iload A hx rfl (hb hby at_332) rfl r) ?_
    refine Go.sp (g' := (mkF m 337 #[.val (.int p1), .val (.int p2), .val (.int p3), .val (.int p4), .val (.int (4 : Int32)), .val (.int (2 : Int32)), .val (.ref b11), .val (.ref b86), .val (.ref a106), .val (.int (1 : Int32)), .val (.int (1 : Int32))] [])) (fun T A t r => XS.icmpNo A hx rfl (hb hby at_334) rfl (tlt (by decide : ((0 : Int32) < (1 : Int32)))).2.1 r) ?_
    refine Go.sp (g' := (mkF m 339 #[.val (.int p1), .val (.int p2), .val (.int p3), .val (.int p4), .val (.int (4 : Int32)), .val (.int (2 : Int32)), .val (.ref b11), .val (.ref b86), .val (.ref a106), .val (.int (1 : Int32)), .val (.int (1 : Int32))] [(.int (1 : Int32))])) (fun T A t r => XS.iload A hx rfl (hb hby at_337) rfl r) ?_
    refine Go.sp (g' := (mkF m 342 #[.val (.int p1), .val (.int p2), .val (.int p3), .val (.int p4), .val (.int (4 : Int32)), .val (.int (2 : Int32)), .val (.ref b11), .val (.ref b86), .val (.ref a106), .val (.int (1 : Int32)), .val (.int (1 : Int32))] [])) (fun T A t r => XS.ifNo A hx rfl (hb hby at_339) rfl ((if0 _ _).trans (feq (by decide : ¬ ((1 : Int32) = (0 : Int32)))).1) r) ?_
    refine Go.sp (g' := (mkF m 344 #[.val (.int p1), .val (.int p2), .val (.int p3), .val (.int p4), .val (.int (4 : Int32)), .val (.int (2 : Int32)), .val (.ref b11), .val (.ref b86), .val (.ref a106), .val (.int (1 : Int32)), .val (.int (1 : Int32))] [(.ref a106)])) (fun T A t r => XS.aload A hx rfl (hb hby at_342) rfl rfl r) ?_
    refine Go.sp (g' := (mkF m 345 #[.val (.int p1), .val (.int p2), .val (.int p3), .val (.int p4), .val (.int (4 : Int32)), .val (.int (2 : Int32)), .val (.ref b11), .val (.ref b86), .val (.ref a106), .val (.int (1 : Int32)), .val (.int (1 : Int32))] [(.int (0 : Int32)), (.ref a106)])) (fun T A t r => XS.iconst A hx rfl (hb hby at_344) r) ?_
    refine Go.callVP (a := a106) (z := (⟨"java/lang/String", "charAt", "(I)C"⟩ : MethodName)) (W := 0) (y := (⟨"java/lang/String", "charAt", "(I)C"⟩ : MethodName)) (argsL := [(.int (0 : Int32))]) (rest := []) (pc' := 348) (hb hby at_345) (own_w hw 122 rfl) (own_w hw 123 rfl) (fun s' hZ => notFace_of_selects (args := #[]) (mvT hZ (own_w hw 125 rfl))) (own_w hw 125 rfl) (own_w hw 124 rfl) (by decide) (fun s' hZ => Bk.pure (StrChars.Road.chN (kI := 4) (cs := [z22]) (i := 0) hZ (own_chwd hw) (own_w hw 7 rfl) E106 V106 C106 D106 (own_cod rfl lat107) (own_up lat107) (S0.ext O108.2) P0 (SF.ext O108.2) RF (by show 1 ≤ 4000; decide) (by show 0 < 1; decide) rfl (by decide) (by decide))) E106 (by rw [hml]; rfl) (lenOf pd_14 rfl) rfl (Nat.le_of_ble_eq_true rfl) rfl (by decide) (by decide) ?_
    rintro v110 rfl
    refine Go.cast (g' := (mkF m 348 #[.val (.int p1), .val (.int p2), .val (.int p3), .val (.int p4), .val (.int (4 : Int32)), .val (.int (2 : Int32)), .val (.ref b11), .val (.ref b86), .val (.ref a106), .val (.int (1 : Int32)), .val (.int (1 : Int32))] [(.int z22)])) rfl ?_
    refine Go.sp (g' := (mkF m 350 #[.val (.int p1), .val (.int p2), .val (.int p3), .val (.int p4), .val (.int (4 : Int32)), .val (.int (2 : Int32)), .val (.ref b11), .val (.ref b86), .val (.ref a106), .val (.int (1 : Int32)), .val (.int (1 : Int32))] [(.ref b11), (.int z22)])) (fun T A t r => XS.aload A hx rfl (hb hby at_348) rfl rfl r) ?_
    refine Go.sp (g' := (mkF m 352 #[.val (.int p1), .val (.int p2), .val (.int p3), .val (.int p4), .val (.int (4 : Int32)), .val (.int (2 : Int32)), .val (.ref b11), .val (.ref b86), .val (.ref a106), .val (.int (1 : Int32)), .val (.int (1 : Int32))] [(.int (2 : Int32)), (.ref b11), (.int z22)])) (fun T A t r => XS.iload A hx rfl (hb hby at_350) rfl r) ?_
    refine Go.sp (g' := (mkF m 353 #[.val (.int p1), .val (.int p2), .val (.int p3), .val (.int p4), .val (.int (4 : Int32)), .val (.int (2 : Int32)), .val (.ref b11), .val (.ref b86), .val (.ref a106), .val (.int (1 : Int32)), .val (.int (1 : Int32))] [(.int (1 : Int32)), (.int (2 : Int32)), (.ref b11), (.int z22)])) (fun T A t r => XS.iconst A hx rfl (hb hby at_352) r) ?_
    refine Go.sp (g' := (mkF m 354 #[.val (.int p1), .val (.int p2), .val (.int p3), .val (.int p4), .val (.int (4 : Int32)), .val (.int (2 : Int32)), .val (.ref b11), .val (.ref b86), .val (.ref a106), .val (.int (1 : Int32)), .val (.int (1 : Int32))] [(.int (3 : Int32)), (.ref b11), (.int z22)])) (fun T A t r => XS.iadd A hx rfl (hb hby at_353) rfl r) ?_
    have ne111 : b11 ≠ b86 := Nat.ne_of_lt (Nat.lt_of_lt_of_le V85.lt (Nat.le_of_eq g86.symm))
    have f112 := (((f96.other W97 ne91).keep K104 (ninS ne111 nin0)).keep K106 nin0)
    refine Go.r (g' := (mkF m 355 #[.val (.int p1), .val (.int p2), .val (.int p3), .val (.int p4), .val (.int (4 : Int32)), .val (.int (2 : Int32)), .val (.ref b11), .val (.ref b86), .val (.ref a106), .val (.int (1 : Int32)), .val (.int (1 : Int32))] [(.int z22), (.int z22)])) (fun s' T L X eT hZ t r => own_ldC X hx hZ eT f112 (j := (3 : Int32)) ⟨by decide, by decide⟩ (v := (.int z22)) rfl (g := (mkF m 354 #[.val (.int p1), .val (.int p2), .val (.int p3), .val (.int p4), .val (.int (4 : Int32)), .val (.int (2 : Int32)), .val (.ref b11), .val (.ref b86), .val (.ref a106), .val (.int (1 : Int32)), .val (.int (1 : Int32))] [(.int (3 : Int32)), (.ref b11), (.int z22)])) rfl rfl (hb hby at_354) t r) ?_
    refine Go.sp (g' := (mkF m 358 #[.val (.int p1), .val (.int p2), .val (.int p3), .val (.int p4), .val (.int (4 : Int32)), .val (.int (2 : Int32)), .val (.ref b11), .val (.ref b86), .val (.ref a106), .val (.int (1 : Int32)), .val (.int (1 : Int32))] [])) (fun T A t r => XS.icmpNo A hx rfl (hb hby at_355) rfl (teq (rfl : z22 = z22)).2 r) ?_
    refine Go.sp (g' := (mkF m 359 #[.val (.int p1), .val (.int p2), .val (.int p3), .val (.int p4), .val (.int (4 : Int32)), .val (.int (2 : Int32)), .val (.ref b11), .val (.ref b86), .val (.ref a106), .val (.int (1 : Int32)), .val (.int (1 : Int32))] [(.int (1 : Int32))])) (fun T A t r => XS.iconst A hx rfl (hb hby at_358) r) ?_
    refine Go.sp (g' := (mkF m 363 #[.val (.int p1), .val (.int p2), .val (.int p3), .val (.int p4), .val (.int (4 : Int32)), .val (.int (2 : Int32)), .val (.ref b11), .val (.ref b86), .val (.ref a106), .val (.int (1 : Int32)), .val (.int (1 : Int32))] [(.int (1 : Int32))])) (fun T A t r => XS.goto A hx rfl (pc0 := 359) (pc' := 363) rfl (hb hby at_359) (by decide) (by decide) r) ?_
    refine Go.sp (g' := (mkF m 365 #[.val (.int p1), .val (.int p2), .val (.int p3), .val (.int p4), .val (.int (4 : Int32)), .val (.int (2 : Int32)), .val (.ref b11), .val (.ref b86), .val (.ref a106), .val (.int (1 : Int32)), .val (.int (1 : Int32))] [])) (fun T A t r => XS.istore A hx rfl (hb hby at_363) rfl (l' := #[.val (.int p1), .val (.int p2), .val (.int p3), .val (.int p4), .val (.int (4 : Int32)), .val (.int (2 : Int32)), .val (.ref b11), .val (.ref b86), .val (.ref a106), .val (.int (1 : Int32)), .val (.int (1 : Int32))]) rfl r) ?_
    refine Go.sp (g' := (mkF m 366 #[.val (.int p1), .val (.int p2), .val (.int p3), .val (.int p4), .val (.int (4 : Int32)), .val (.int (2 : Int32)), .val (.ref b11), .val (.ref b86), .val (.ref a106), .val (.int (1 : Int32)), .val (.int (1 : Int32))] [(.int (1 : Int32))])) (fun T A t r => XS.iconst A hx rfl (hb hby at_365) r) ?_
    refine Go.sp (g' := (mkF m 368 #[.val (.int p1), .val (.int p2), .val (.int p3), .val (.int p4), .val (.int (4 : Int32)), .val (.int (2 : Int32)), .val (.ref b11), .val (.ref b86), .val (.ref a106), .val (.int (1 : Int32)), .val (.int (1 : Int32))] [(.int (1 : Int32)), (.int (1 : Int32))])) (fun T A t r => XS.iload A hx rfl (hb hby at_366) rfl r) ?_
    refine Go.sp (g' := (mkF m 399 #[.val (.int p1), .val (.int p2), .val (.int p3), .val (.int p4), .val (.int (4 : Int32)), .val (.int (2 : Int32)), .val (.ref b11), .val (.ref b86), .val (.ref a106), .val (.int (1 : Int32)), .val (.int (1 : Int32))] [])) (fun T A t r => XS.icmpYes A hx rfl (pc0 := 368) (pc' := 399) rfl (hb hby at_368) rfl (flt (by decide : ¬ ((1 : Int32) < (1 : Int32)))).2.1 (by decide) (by decide) r) ?_
    refine Go.sp (g' := (mkF m 400 #[.val (.int p1), .val (.int p2), .val (.int p3), .val (.int p4), .val (.int (4 : Int32)), .val (.int (2 : Int32)), .val (.ref b11), .val (.ref b86), .val (.ref a106), .val (.int (1 : Int32)), .val (.int (1 : Int32))] [(.int (2 : Int32))])) (fun T A t r => XS.iconst A hx rfl (hb hby at_399) r) ?_
    refine Go.sp (g' := (mkF m 402 #[.val (.int p1), .val (.int p2), .val (.int p3), .val (.int p4), .val (.int (4 : Int32)), .val (.int (2 : Int32)), .val (.ref b11), .val (.ref b86), .val (.ref a106), .val (.int (1 : Int32)), .val (.int (1 : Int32))] [(.int (1 : Int32)), (.int (2 : Int32))])) (fun T A t r => XS.iload A hx rfl (hb hby at_400) rfl r) ?_
    refine Go.sp (g' := (mkF m 433 #[.val (.int p1), .val (.int p2), .val (.int p3), .val (.int p4), .val (.int (4 : Int32)), .val (.int (2 : Int32)), .val (.ref b11), .val (.ref b86), .val (.ref a106), .val (.int (1 : Int32)), .val (.int (1 : Int32))] [])) (fun T A t r => XS.icmpYes A hx rfl (pc0 := 402) (pc' := 433) rfl (hb hby at_402) rfl (flt (by decide : ¬ ((2 : Int32) < (1 : Int32)))).2.1 (by decide) (by decide) r) ?_
    refine Go.sp (g' := (mkF m 434 #[.val (.int p1), .val (.int p2), .val (.int p3), .val (.int p4), .val (.int (4 : Int32)), .val (.int (2 : Int32)), .val (.ref b11), .val (.ref b86), .val (.ref a106), .val (.int (1 : Int32)), .val (.int (1 : Int32))] [(.int (3 : Int32))])) (fun T A t r => XS.iconst A hx rfl (hb hby at_433) r) ?_
    refine Go.sp (g' := (mkF m 436 #[.val (.int p1), .val (.int p2), .val (.int p3), .val (.int p4), .val (.int (4 : Int32)), .val (.int (2 : Int32)), .val (.ref b11), .val (.ref b86), .val (.ref a106), .val (.int (1 : Int32)), .val (.int (1 : Int32))] [(.int (1 : Int32)), (.int (3 : Int32))])) (fun T A t r => XS.iload A hx rfl (hb hby at_434) rfl r) ?_
    refine Go.sp (g' := (mkF m 467 #[.val (.int p1), .val (.int p2), .val (.int p3), .val (.int p4), .val (.int (4 : Int32)), .val (.int (2 : Int32)), .val (.ref b11), .val (.ref b86), .val (.ref a106), .val (.int (1 : Int32)), .val (.int (1 : Int32))] [])) (fun T A t r => XS.icmpYes A hx rfl (pc0 := 436) (pc' := 467) rfl (hb hby at_436) rfl (flt (by decide : ¬ ((3 : Int32) < (1 : Int32)))).2.1 (by decide) (by decide) r) ?_
    refine Go.sp (g' := (mkF m 469 #[.val (.int p1), .val (.int p2), .val (.int p3), .val (.int p4), .val (.int (4 : Int32)), .val (.int (2 : Int32)), .val (.ref b11), .val (.ref b86), .val (.ref a106), .val (.int (1 : Int32)), .val (.int (1 : Int32))] [(.int (1 : Int32))])) (fun T A t r => XS.iload A hx rfl (hb hby at_467) rfl r) ?_
    exact Go.ret (v := (some (.int (nar .boolean (1 : Int32))))) (fun s' T L fs X hr => retN X hx (t := .boolean) hret (by simp) (hb hby at_469) hr) (fun h => by rw [hret] at h; cases h) (by decide) (by decide) rfl
  · skip
    refine Go.cast (g' := (mkF m 91 #[.val (.int p1), .val (.int p2), .val (.int p3), .val (.int p4), .val (.int (5 : Int32)), .val (.int (1 : Int32)), .val (.ref b11), .unset, .unset, .unset, .unset] [])) (by rw [ha, hn]) ?_
    refine Go.sp (g' := (mkF m 93 #[.val (.int p1), .val (.int p2), .val (.int p3), .val (.int p4), .val (.int (5 : Int32)), .val (.int (1 : Int32)), .val (.ref b11), .unset, .unset, .unset, .unset] [(.ref b11)])) (fun T A t r => XS.aload A hx rfl (hb hby at_91) rfl rfl r) ?_
    refine Go.sp (g' := (mkF m 95 #[.val (.int p1), .val (.int p2), .val (.int p3), .val (.int p4), .val (.int (5 : Int32)), .val (.int (1 : Int32)), .val (.ref b11), .unset, .unset, .unset, .unset] [(.int (1 : Int32)), (.ref b11)])) (fun T A t r => XS.iload A hx rfl (hb hby at_93) rfl r) ?_
    refine Go.sp (g' := (mkF m 97 #[.val (.int p1), .val (.int p2), .val (.int p3), .val (.int p4), .val (.int (5 : Int32)), .val (.int (1 : Int32)), .val (.ref b11), .unset, .unset, .unset, .unset] [(.int (64 : Int32)), (.int (1 : Int32)), (.ref b11)])) (fun T A t r => XS.bipush A hx rfl (hb hby at_95) r) ?_
    refine Go.w (g' := (mkF m 98 #[.val (.int p1), .val (.int p2), .val (.int p3), .val (.int p4), .val (.int (5 : Int32)), .val (.int (1 : Int32)), .val (.ref b11), .unset, .unset, .unset, .unset] [])) (fun s' T L X eT hZ hown => own_stC X hx hZ eT V29 (j := (1 : Int32)) ⟨by decide, by decide⟩ (g := (mkF m 97 #[.val (.int p1), .val (.int p2), .val (.int p3), .val (.int p4), .val (.int (5 : Int32)), .val (.int (1 : Int32)), .val (.ref b11), .unset, .unset, .unset, .unset] [(.int (64 : Int32)), (.int (1 : Int32)), (.ref b11)])) rfl rfl (hb hby at_97)) (Or.inr sz11) ?_
    intro h113 W113
    have V113 : Arv Z h113 b11 k11 .char (6 : Int32) [(.int z13), (.int (64 : Int32)), (.int z19), (.int z22), (.int z25), (.int z28)] (.int (0 : Int32)) := own_set V29 (fits_nar_char _) W113 rfl 1 rfl (Nat.le_of_ble_eq_true rfl)
    refine Go.sp (g' := (mkF m 100 #[.val (.int p1), .val (.int p2), .val (.int p3), .val (.int p4), .val (.int (5 : Int32)), .val (.int (1 : Int32)), .val (.ref b11), .unset, .unset, .unset, .unset] [(.int (5 : Int32))])) (fun T A t r => XS.iload A hx rfl (hb hby at_98) rfl r) ?_
    refine Go.sp (g' := (mkF m 101 #[.val (.int p1), .val (.int p2), .val (.int p3), .val (.int p4), .val (.int (5 : Int32)), .val (.int (1 : Int32)), .val (.ref b11), .unset, .unset, .unset, .unset] [(.int (3 : Int32)), (.int (5 : Int32))])) (fun T A t r => XS.iconst A hx rfl (hb hby at_100) r) ?_
    refine Go.sp (g' := (mkF m 140 #[.val (.int p1), .val (.int p2), .val (.int p3), .val (.int p4), .val (.int (5 : Int32)), .val (.int (1 : Int32)), .val (.ref b11), .unset, .unset, .unset, .unset] [])) (fun T A t r => XS.icmpYes A hx rfl (pc0 := 101) (pc' := 140) rfl (hb hby at_101) rfl (feq (by decide : ¬ ((5 : Int32) = (3 : Int32)))).2 (by decide) (by decide) r) ?_
    refine Go.sp (g' := (mkF m 142 #[.val (.int p1), .val (.int p2), .val (.int p3), .val (.int p4), .val (.int (5 : Int32)), .val (.int (1 : Int32)), .val (.ref b11), .unset, .unset, .unset, .unset] [(.int (5 : Int32))])) (fun T A t r => XS.iload A hx rfl (hb hby at_140) rfl r) ?_
    refine Go.sp (g' := (mkF m 143 #[.val (.int p1), .val (.int p2), .val (.int p3), .val (.int p4), .val (.int (5 : Int32)), .val (.int (1 : Int32)), .val (.ref b11), .unset, .unset, .unset, .unset] [(.int (4 : Int32)), (.int (5 : Int32))])) (fun T A t r => XS.iconst A hx rfl (hb hby at_142) r) ?_
    refine Go.sp (g' := (mkF m 189 #[.val (.int p1), .val (.int p2), .val (.int p3), .val (.int p4), .val (.int (5 : Int32)), .val (.int (1 : Int32)), .val (.ref b11), .unset, .unset, .unset, .unset] [])) (fun T A t r => XS.icmpYes A hx rfl (pc0 := 143) (pc' := 189) rfl (hb hby at_143) rfl (feq (by decide : ¬ ((5 : Int32) = (4 : Int32)))).2 (by decide) (by decide) r) ?_
    refine Go.sp (g' := (mkF m 191 #[.val (.int p1), .val (.int p2), .val (.int p3), .val (.int p4), .val (.int (5 : Int32)), .val (.int (1 : Int32)), .val (.ref b11), .unset, .unset, .unset, .unset] [(.int (5 : Int32))])) (fun T A t r => XS.iload A hx rfl (hb hby at_189) rfl r) ?_
    refine Go.sp (g' := (mkF m 192 #[.val (.int p1), .val (.int p2), .val (.int p3), .val (.int p4), .val (.int (5 : Int32)), .val (.int (1 : Int32)), .val (.ref b11), .unset, .unset, .unset, .unset] [(.int (5 : Int32)), (.int (5 : Int32))])) (fun T A t r => XS.iconst A hx rfl (hb hby at_191) r) ?_
    refine Go.sp (g' := (mkF m 195 #[.val (.int p1), .val (.int p2), .val (.int p3), .val (.int p4), .val (.int (5 : Int32)), .val (.int (1 : Int32)), .val (.ref b11), .unset, .unset, .unset, .unset] [])) (fun T A t r => XS.icmpNo A hx rfl (hb hby at_192) rfl (teq (by decide : ((5 : Int32) = (5 : Int32)))).2 r) ?_
    refine Go.newO (k' := 2) (n' := 10) (pc' := 198) (hb hby at_195) (own_w hw 6 rfl) (own_w hw 7 rfl) (own_w hw 8 rfl) rfl rfl rfl (by decide) (by decide) ?_
    intro b114 h114 g114 sz114 E114 A114 D114
    have F114_coder : Fld Z h114 b114 "java/lang/String" "coder" "B" (.int (0 : Int32)) := D114 (Or.inr (own_w hw 32 rfl)) (ty := .byte) (by decide)
    have F114_value : Fld Z h114 b114 "java/lang/String" "value" "[B" .null := D114 (Or.inr (own_w hw 34 rfl)) (ty := (.array .byte)) (by decide)
    refine Go.sp (g' := (mkF m 199 #[.val (.int p1), .val (.int p2), .val (.int p3), .val (.int p4), .val (.int (5 : Int32)), .val (.int (1 : Int32)), .val (.ref b11), .unset, .unset, .unset, .unset] [(.ref b114), (.ref b114)])) (fun T A t r => XS.dup A hx rfl (hb hby at_198) rfl rfl r) ?_
    refine Go.sp (g' := (mkF m 200 #[.val (.int p1), .val (.int p2), .val (.int p3), .val (.int p4), .val (.int (5 : Int32)), .val (.int (1 : Int32)), .val (.ref b11), .unset, .unset, .unset, .unset] [(.int (5 : Int32)), (.ref b114), (.ref b114)])) (fun T A t r => XS.iconst A hx rfl (hb hby at_199) r) ?_
    refine Go.newP (ty := .char) (dv := (.int (0 : Int32))) (cap := 5) (k' := 3) (n' := 15) (pc' := 202) (hb hby at_200) rfl rfl (own_w hw 0 rfl) (by decide) (by decide) (by decide) rfl rfl rfl (by decide) (by decide) ?_
    intro b115 h115 k115 g115 sz115 E115 A115
    have V115 : Arv Z h115 b115 k115 .char (5 : Int32) [(.int (0 : Int32)), (.int (0 : Int32)), (.int (0 : Int32)), (.int (0 : Int32)), (.int (0 : Int32))] (.int (0 : Int32)) := A115.pad (pad_rep [] (.int (0 : Int32)) 5)
    refine Go.sp (g' := (mkF m 203 #[.val (.int p1), .val (.int p2), .val (.int p3), .val (.int p4), .val (.int (5 : Int32)), .val (.int (1 : Int32)), .val (.ref b11), .unset, .unset, .unset, .unset] [(.ref b115), (.ref b115), (.ref b114), (.ref b114)])) (fun T A t r => XS.dup A hx rfl (hb hby at_202) rfl rfl r) ?_
    refine Go.sp (g' := (mkF m 204 #[.val (.int p1), .val (.int p2), .val (.int p3), .val (.int p4), .val (.int (5 : Int32)), .val (.int (1 : Int32)), .val (.ref b11), .unset, .unset, .unset, .unset] [(.int (0 : Int32)), (.ref b115), (.ref b115), (.ref b114), (.ref b114)])) (fun T A t r => XS.iconst A hx rfl (hb hby at_203) r) ?_
    refine Go.sp (g' := (mkF m 206 #[.val (.int p1), .val (.int p2), .val (.int p3), .val (.int p4), .val (.int (5 : Int32)), .val (.int (1 : Int32)), .val (.ref b11), .unset, .unset, .unset, .unset] [(.ref b11), (.int (0 : Int32)), (.ref b115), (.ref b115), (.ref b114), (.ref b114)])) (fun T A t r => XS.aload A hx rfl (hb hby at_204) rfl rfl r) ?_
    refine Go.sp (g' := (mkF m 207 #[.val (.int p1), .val (.int p2), .val (.int p3), .val (.int p4), .val (.int (5 : Int32)), .val (.int (1 : Int32)), .val (.ref b11), .unset, .unset, .unset, .unset] [(.int (0 : Int32)), (.ref b11), (.int (0 : Int32)), (.ref b115), (.ref b115), (.ref b114), (.ref b114)])) (fun T A t r => XS.iconst A hx rfl (hb hby at_206) r) ?_
    have f116 := ((V113.ext E114).ext E115)
    refine Go.r (g' := (mkF m 208 #[.val (.int p1), .val (.int p2), .val (.int p3), .val (.int p4), .val (.int (5 : Int32)), .val (.int (1 : Int32)), .val (.ref b11), .unset, .unset, .unset, .unset] [(.int z13), (.int (0 : Int32)), (.ref b115), (.ref b115), (.ref b114), (.ref b114)])) (fun s' T L X eT hZ t r => own_ldC X hx hZ eT f116 (j := (0 : Int32)) ⟨by decide, by decide⟩ (v := (.int z13)) rfl (g := (mkF m 207 #[.val (.int p1), .val (.int p2), .val (.int p3), .val (.int p4), .val (.int (5 : Int32)), .val (.int (1 : Int32)), .val (.ref b11), .unset, .unset, .unset, .unset] [(.int (0 : Int32)), (.ref b11), (.int (0 : Int32)), (.ref b115), (.ref b115), (.ref b114), (.ref b114)])) rfl rfl (hb hby at_207) t r) ?_
    refine Go.w (g' := (mkF m 209 #[.val (.int p1), .val (.int p2), .val (.int p3), .val (.int p4), .val (.int (5 : Int32)), .val (.int (1 : Int32)), .val (.ref b11), .unset, .unset, .unset, .unset] [(.ref b115), (.ref b114), (.ref b114)])) (fun s' T L X eT hZ hown => own_stC X hx hZ eT V115 (j := (0 : Int32)) ⟨by decide, by decide⟩ (g := (mkF m 208 #[.val (.int p1), .val (.int p2), .val (.int p3), .val (.int p4), .val (.int (5 : Int32)), .val (.int (1 : Int32)), .val (.ref b11), .unset, .unset, .unset, .unset] [(.int z13), (.int (0 : Int32)), (.ref b115), (.ref b115), (.ref b114), (.ref b114)])) rfl rfl (hb hby at_208)) (Or.inr sz115) ?_
    intro h117 W117
    have V117 : Arv Z h117 b115 k115 .char (5 : Int32) [(.int z13), (.int (0 : Int32)), (.int (0 : Int32)), (.int (0 : Int32)), (.int (0 : Int32))] (.int (0 : Int32)) := own_set V115 (fits_nar_char _) W117 (congrArg Value.int (own_nar zb13)) 0 rfl (Nat.le_of_ble_eq_true rfl)
    refine Go.sp (g' := (mkF m 210 #[.val (.int p1), .val (.int p2), .val (.int p3), .val (.int p4), .val (.int (5 : Int32)), .val (.int (1 : Int32)), .val (.ref b11), .unset, .unset, .unset, .unset] [(.ref b115), (.ref b115), (.ref b114), (.ref b114)])) (fun T A t r => XS.dup A hx rfl (hb hby at_209) rfl rfl r) ?_
    refine Go.sp (g' := (mkF m 211 #[.val (.int p1), .val (.int p2), .val (.int p3), .val (.int p4), .val (.int (5 : Int32)), .val (.int (1 : Int32)), .val (.ref b11), .unset, .unset, .unset, .unset] [(.int (1 : Int32)), (.ref b115), (.ref b115), (.ref b114), (.ref b114)])) (fun T A t r => XS.iconst A hx rfl (hb hby at_210) r) ?_
    refine Go.sp (g' := (mkF m 213 #[.val (.int p1), .val (.int p2), .val (.int p3), .val (.int p4), .val (.int (5 : Int32)), .val (.int (1 : Int32)), .val (.ref b11), .unset, .unset, .unset, .unset] [(.ref b11), (.int (1 : Int32)), (.ref b115), (.ref b115), (.ref b114), (.ref b114)])) (fun T A t r => XS.aload A hx rfl (hb hby at_211) rfl rfl r) ?_
    refine Go.sp (g' := (mkF m 214 #[.val (.int p1), .val (.int p2), .val (.int p3), .val (.int p4), .val (.int (5 : Int32)), .val (.int (1 : Int32)), .val (.ref b11), .unset, .unset, .unset, .unset] [(.int (1 : Int32)), (.ref b11), (.int (1 : Int32)), (.ref b115), (.ref b115), (.ref b114), (.ref b114)])) (fun T A t r => XS.iconst A hx rfl (hb hby at_213) r) ?_
    have f118 := (V113.ext E114)
    have ne119 : b11 ≠ b115 := Nat.ne_of_lt (Nat.lt_of_lt_of_le f118.lt (Nat.le_of_eq g115.symm))
    have f120 := (f116.other W117 ne119)
    refine Go.r (g' := (mkF m 215 #[.val (.int p1), .val (.int p2), .val (.int p3), .val (.int p4), .val (.int (5 : Int32)), .val (.int (1 : Int32)), .val (.ref b11), .unset, .unset, .unset, .unset] [(.int (64 : Int32)), (.int (1 : Int32)), (.ref b115), (.ref b115), (.ref b114), (.ref b114)])) (fun s' T L X eT hZ t r => own_ldC X hx hZ eT f120 (j := (1 : Int32)) ⟨by decide, by decide⟩ (v := (.int (64 : Int32))) rfl (g := (mkF m 214 #[.val (.int p1), .val (.int p2), .val (.int p3), .val (.int p4), .val (.int (5 : Int32)), .val (.int (1 : Int32)), .val (.ref b11), .unset, .unset, .unset, .unset] [(.int (1 : Int32)), (.ref b11), (.int (1 : Int32)), (.ref b115), (.ref b115), (.ref b114), (.ref b114)])) rfl rfl (hb hby at_214) t r) ?_
    refine Go.w (g' := (mkF m 216 #[.val (.int p1), .val (.int p2), .val (.int p3), .val (.int p4), .val (.int (5 : Int32)), .val (.int (1 : Int32)), .val (.ref b11), .unset, .unset, .unset, .unset] [(.ref b115), (.ref b114), (.ref b114)])) (fun s' T L X eT hZ hown => own_stC X hx hZ eT V117 (j := (1 : Int32)) ⟨by decide, by decide⟩ (g := (mkF m 215 #[.val (.int p1), .val (.int p2), .val (.int p3), .val (.int p4), .val (.int (5 : Int32)), .val (.int (1 : Int32)), .val (.ref b11), .unset, .unset, .unset, .unset] [(.int (64 : Int32)), (.int (1 : Int32)), (.ref b115), (.ref b115), (.ref b114), (.ref b114)])) rfl rfl (hb hby at_215)) (Or.inr sz115) ?_
    intro h121 W121
    have V121 : Arv Z h121 b115 k115 .char (5 : Int32) [(.int z13), (.int (64 : Int32)), (.int (0 : Int32)), (.int (0 : Int32)), (.int (0 : Int32))] (.int (0 : Int32)) := own_set V117 (fits_nar_char _) W121 rfl 1 rfl (Nat.le_of_ble_eq_true rfl)
    refine Go.sp (g' := (mkF m 217 #[.val (.int p1), .val (.int p2), .val (.int p3), .val (.int p4), .val (.int (5 : Int32)), .val (.int (1 : Int32)), .val (.ref b11), .unset, .unset, .unset, .unset] [(.ref b115), (.ref b115), (.ref b114), (.ref b114)])) (fun T A t r => XS.dup A hx rfl (hb hby at_216) rfl rfl r) ?_
    refine Go.sp (g' := (mkF m 218 #[.val (.int p1), .val (.int p2), .val (.int p3), .val (.int p4), .val (.int (5 : Int32)), .val (.int (1 : Int32)), .val (.ref b11), .unset, .unset, .unset, .unset] [(.int (2 : Int32)), (.ref b115), (.ref b115), (.ref b114), (.ref b114)])) (fun T A t r => XS.iconst A hx rfl (hb hby at_217) r) ?_
    refine Go.sp (g' := (mkF m 220 #[.val (.int p1), .val (.int p2), .val (.int p3), .val (.int p4), .val (.int (5 : Int32)), .val (.int (1 : Int32)), .val (.ref b11), .unset, .unset, .unset, .unset] [(.ref b11), (.int (2 : Int32)), (.ref b115), (.ref b115), (.ref b114), (.ref b114)])) (fun T A t r => XS.aload A hx rfl (hb hby at_218) rfl rfl r) ?_
    refine Go.sp (g' := (mkF m 221 #[.val (.int p1), .val (.int p2), .val (.int p3), .val (.int p4), .val (.int (5 : Int32)), .val (.int (1 : Int32)), .val (.ref b11), .unset, .unset, .unset, .unset] [(.int (2 : Int32)), (.ref b11), (.int (2 : Int32)), (.ref b115), (.ref b115), (.ref b114), (.ref b114)])) (fun T A t r => XS.iconst A hx rfl (hb hby at_220) r) ?_
    have f122 := (f120.other W121 ne119)
    refine Go.r (g' := (mkF m 222 #[.val (.int p1), .val (.int p2), .val (.int p3), .val (.int p4), .val (.int (5 : Int32)), .val (.int (1 : Int32)), .val (.ref b11), .unset, .unset, .unset, .unset] [(.int z19), (.int (2 : Int32)), (.ref b115), (.ref b115), (.ref b114), (.ref b114)])) (fun s' T L X eT hZ t r => own_ldC X hx hZ eT f122 (j := (2 : Int32)) ⟨by decide, by decide⟩ (v := (.int z19)) rfl (g := (mkF m 221 #[.val (.int p1), .val (.int p2), .val (.int p3), .val (.int p4), .val (.int (5 : Int32)), .val (.int (1 : Int32)), .val (.ref b11), .unset, .unset, .unset, .unset] [(.int (2 : Int32)), (.ref b11), (.int (2 : Int32)), (.ref b115), (.ref b115), (.ref b114), (.ref b114)])) rfl rfl (hb hby at_221) t r) ?_
    refine Go.w (g' := (mkF m 223 #[.val (.int p1), .val (.int p2), .val (.int p3), .val (.int p4), .val (.int (5 : Int32)), .val (.int (1 : Int32)), .val (.ref b11), .unset, .unset, .unset, .unset] [(.ref b115), (.ref b114), (.ref b114)])) (fun s' T L X eT hZ hown => own_stC X hx hZ eT V121 (j := (2 : Int32)) ⟨by decide, by decide⟩ (g := (mkF m 222 #[.val (.int p1), .val (.int p2), .val (.int p3), .val (.int p4), .val (.int (5 : Int32)), .val (.int (1 : Int32)), .val (.ref b11), .unset, .unset, .unset, .unset] [(.int z19), (.int (2 : Int32)), (.ref b115), (.ref b115), (.ref b114), (.ref b114)])) rfl rfl (hb hby at_222)) (Or.inr sz115) ?_
    intro h123 W123
    have V123 : Arv Z h123 b115 k115 .char (5 : Int32) [(.int z13), (.int (64 : Int32)), (.int z19), (.int (0 : Int32)), (.int (0 : Int32))] (.int (0 : Int32)) := own_set V121 (fits_nar_char _) W123 (congrArg Value.int (own_nar zb19)) 2 rfl (Nat.le_of_ble_eq_true rfl)
    refine Go.sp (g' := (mkF m 224 #[.val (.int p1), .val (.int p2), .val (.int p3), .val (.int p4), .val (.int (5 : Int32)), .val (.int (1 : Int32)), .val (.ref b11), .unset, .unset, .unset, .unset] [(.ref b115), (.ref b115), (.ref b114), (.ref b114)])) (fun T A t r => XS.dup A hx rfl (hb hby at_223) rfl rfl r) ?_
    refine Go.sp (g' := (mkF m 225 #[.val (.int p1), .val (.int p2), .val (.int p3), .val (.int p4), .val (.int (5 : Int32)), .val (.int (1 : Int32)), .val (.ref b11), .unset, .unset, .unset, .unset] [(.int (3 : Int32)), (.ref b115), (.ref b115), (.ref b114), (.ref b114)])) (fun T A t r => XS.iconst A hx rfl (hb hby at_224) r) ?_
    refine Go.sp (g' := (mkF m 227 #[.val (.int p1), .val (.int p2), .val (.int p3), .val (.int p4), .val (.int (5 : Int32)), .val (.int (1 : Int32)), .val (.ref b11), .unset, .unset, .unset, .unset] [(.ref b11), (.int (3 : Int32)), (.ref b115), (.ref b115), (.ref b114), (.ref b114)])) (fun T A t r => XS.aload A hx rfl (hb hby at_225) rfl rfl r) ?_
    refine Go.sp (g' := (mkF m 228 #[.val (.int p1), .val (.int p2), .val (.int p3), .val (.int p4), .val (.int (5 : Int32)), .val (.int (1 : Int32)), .val (.ref b11), .unset, .unset, .unset, .unset] [(.int (3 : Int32)), (.ref b11), (.int (3 : Int32)), (.ref b115), (.ref b115), (.ref b114), (.ref b114)])) (fun T A t r => XS.iconst A hx rfl (hb hby at_227) r) ?_
    have f124 := (f122.other W123 ne119)
    refine Go.r (g' := (mkF m 229 #[.val (.int p1), .val (.int p2), .val (.int p3), .val (.int p4), .val (.int (5 : Int32)), .val (.int (1 : Int32)), .val (.ref b11), .unset, .unset, .unset, .unset] [(.int z22), (.int (3 : Int32)), (.ref b115), (.ref b115), (.ref b114), (.ref b114)])) (fun s' T L X eT hZ t r => own_ldC X hx hZ eT f124 (j := (3 : Int32)) ⟨by decide, by decide⟩ (v := (.int z22)) rfl (g := (mkF m 228 #[.val (.int p1), .val (.int p2), .val (.int p3), .val (.int p4), .val (.int (5 : Int32)), .val (.int (1 : Int32)), .val (.ref b11), .unset, .unset, .unset, .unset] [(.int (3 : Int32)), (.ref b11), (.int (3 : Int32)), (.ref b115), (.ref b115), (.ref b114), (.ref b114)])) rfl rfl (hb hby at_228) t r) ?_
    refine Go.w (g' := (mkF m 230 #[.val (.int p1), .val (.int p2), .val (.int p3), .val (.int p4), .val (.int (5 : Int32)), .val (.int (1 : Int32)), .val (.ref b11), .unset, .unset, .unset, .unset] [(.ref b115), (.ref b114), (.ref b114)])) (fun s' T L X eT hZ hown => own_stC X hx hZ eT V123 (j := (3 : Int32)) ⟨by decide, by decide⟩ (g := (mkF m 229 #[.val (.int p1), .val (.int p2), .val (.int p3), .val (.int p4), .val (.int (5 : Int32)), .val (.int (1 : Int32)), .val (.ref b11), .unset, .unset, .unset, .unset] [(.int z22), (.int (3 : Int32)), (.ref b115), (.ref b115), (.ref b114), (.ref b114)])) rfl rfl (hb hby at_229)) (Or.inr sz115) ?_
    intro h125 W125
    have V125 : Arv Z h125 b115 k115 .char (5 : Int32) [(.int z13), (.int (64 : Int32)), (.int z19), (.int z22), (.int (0 : Int32))] (.int (0 : Int32)) := own_set V123 (fits_nar_char _) W125 (congrArg Value.int (own_nar zb22)) 3 rfl (Nat.le_of_ble_eq_true rfl)
    refine Go.sp (g' := (mkF m 231 #[.val (.int p1), .val (.int p2), .val (.int p3), .val (.int p4), .val (.int (5 : Int32)), .val (.int (1 : Int32)), .val (.ref b11), .unset, .unset, .unset, .unset] [(.ref b115), (.ref b115), (.ref b114), (.ref b114)])) (fun T A t r => XS.dup A hx rfl (hb hby at_230) rfl rfl r) ?_
    refine Go.sp (g' := (mkF m 232 #[.val (.int p1), .val (.int p2), .val (.int p3), .val (.int p4), .val (.int (5 : Int32)), .val (.int (1 : Int32)), .val (.ref b11), .unset, .unset, .unset, .unset] [(.int (4 : Int32)), (.ref b115), (.ref b115), (.ref b114), (.ref b114)])) (fun T A t r => XS.iconst A hx rfl (hb hby at_231) r) ?_
    refine Go.sp (g' := (mkF m 234 #[.val (.int p1), .val (.int p2), .val (.int p3), .val (.int p4), .val (.int (5 : Int32)), .val (.int (1 : Int32)), .val (.ref b11), .unset, .unset, .unset, .unset] [(.ref b11), (.int (4 : Int32)), (.ref b115), (.ref b115), (.ref b114), (.ref b114)])) (fun T A t r => XS.aload A hx rfl (hb hby at_232) rfl rfl r) ?_
    refine Go.sp (g' := (mkF m 235 #[.val (.int p1), .val (.int p2), .val (.int p3), .val (.int p4), .val (.int (5 : Int32)), .val (.int (1 : Int32)), .val (.ref b11), .unset, .unset, .unset, .unset] [(.int (4 : Int32)), (.ref b11), (.int (4 : Int32)), (.ref b115), (.ref b115), (.ref b114), (.ref b114)])) (fun T A t r => XS.iconst A hx rfl (hb hby at_234) r) ?_
    have f126 := (f124.other W125 ne119)
    refine Go.r (g' := (mkF m 236 #[.val (.int p1), .val (.int p2), .val (.int p3), .val (.int p4), .val (.int (5 : Int32)), .val (.int (1 : Int32)), .val (.ref b11), .unset, .unset, .unset, .unset] [(.int z25), (.int (4 : Int32)), (.ref b115), (.ref b115), (.ref b114), (.ref b114)])) (fun s' T L X eT hZ t r => own_ldC X hx hZ eT f126 (j := (4 : Int32)) ⟨by decide, by decide⟩ (v := (.int z25)) rfl (g := (mkF m 235 #[.val (.int p1), .val (.int p2), .val (.int p3), .val (.int p4), .val (.int (5 : Int32)), .val (.int (1 : Int32)), .val (.ref b11), .unset, .unset, .unset, .unset] [(.int (4 : Int32)), (.ref b11), (.int (4 : Int32)), (.ref b115), (.ref b115), (.ref b114), (.ref b114)])) rfl rfl (hb hby at_235) t r) ?_
    refine Go.w (g' := (mkF m 237 #[.val (.int p1), .val (.int p2), .val (.int p3), .val (.int p4), .val (.int (5 : Int32)), .val (.int (1 : Int32)), .val (.ref b11), .unset, .unset, .unset, .unset] [(.ref b115), (.ref b114), (.ref b114)])) (fun s' T L X eT hZ hown => own_stC X hx hZ eT V125 (j := (4 : Int32)) ⟨by decide, by decide⟩ (g := (mkF m 236 #[.val (.int p1), .val (.int p2), .val (.int p3), .val (.int p4), .val (.int (5 : Int32)), .val (.int (1 : Int32)), .val (.ref b11), .unset, .unset, .unset, .unset] [(.int z25), (.int (4 : Int32)), (.ref b115), (.ref b115), (.ref b114), (.ref b114)])) rfl rfl (hb hby at_236)) (Or.inr sz115) ?_
    intro h127 W127
    have V127 : Arv Z h127 b115 k115 .char (5 : Int32) [(.int z13), (.int (64 : Int32)), (.int z19), (.int z22), (.int z25)] (.int (0 : Int32)) := own_set V125 (fits_nar_char _) W127 (congrArg Value.int (own_nar zb25)) 4 rfl (Nat.le_of_ble_eq_true rfl)
    have f128 := ((((((A114.ext E115).wr W117).wr W121).wr W123).wr W125).wr W127)
    have ne129 : b114 ≠ b115 := Nat.ne_of_lt (Nat.lt_of_lt_of_le A114.lt (Nat.le_of_eq g115.symm))
    have f130 := ((((((F114_value.ext E115).other W117 (Or.inl ne129)).other W121 (Or.inl ne129)).other W123 (Or.inl ne129)).other W125 (Or.inl ne129)).other W127 (Or.inl ne129))
    have f131 := ((((((F114_coder.ext E115).other W117 (Or.inl ne129)).other W121 (Or.inl ne129)).other W123 (Or.inl ne129)).other W125 (Or.inl ne129)).other W127 (Or.inl ne129))
    refine Go.old fun O132 => ?_
    have lat133 : ∀ c ∈ [z13, (64 : Int32), z19, z22, z25], ¬ c < 0 ∧ ¬ (255 : Int32) < c := own_allc zb13 (own_allc (by decide) (own_allc zb19 (own_allc zb22 (own_allc zb25 (own_allc0)))))
    refine Go.callC (a := b114) (ws' := [b114]) (W := 1) (y := (⟨"java/lang/String", "<init>", "([C)V"⟩ : MethodName)) (argsL := [(.ref b115)]) (rest := [(.ref b114)]) (pc' := 240) (k' := 4) (n' := 20) (hb hby at_237) rfl (own_w hw 9 rfl) (own_w hw 10 rfl) (own_w hw 11 rfl) (by decide) (fun s' hZ => own_str hw (own_w hw 7 rfl) hZ (cs := [z13, (64 : Int32), z19, z22, z25]) (n := 5) (Nat.le_trans (Old.le O0) sz114) O132 f128 f130 f131 V127 S0 P0 rfl rfl (by decide) (by decide) lat133 (by decide) (by decide)) (by rw [hml]; rfl) (lenOf pd_15 rfl) rfl (Nat.le_of_ble_eq_true rfl) rfl rfl rfl (by decide) (by decide) (allS (Or.inr sz114) all0) ?_
    rintro v134 h134 K134 ⟨rfl, E134, C134, t134, kb134, ge134, V134, B134⟩
    refine Go.cast (g' := (mkF m 240 #[.val (.int p1), .val (.int p2), .val (.int p3), .val (.int p4), .val (.int (5 : Int32)), .val (.int (1 : Int32)), .val (.ref b11), .unset, .unset, .unset, .unset] [(.ref b114)])) rfl ?_
    refine Go.sp (g' := (mkF m 242 #[.val (.int p1), .val (.int p2), .val (.int p3), .val (.int p4), .val (.int (5 : Int32)), .val (.int (1 : Int32)), .val (.ref b11), .val (.ref b114), .unset, .unset, .unset] [])) (fun T A t r => XS.astore A hx rfl (hb hby at_240) rfl rfl (l' := #[.val (.int p1), .val (.int p2), .val (.int p3), .val (.int p4), .val (.int (5 : Int32)), .val (.int (1 : Int32)), .val (.ref b11), .val (.ref b114), .unset, .unset, .unset]) rfl r) ?_
    refine Go.sp (g' := (mkF m 300 #[.val (.int p1), .val (.int p2), .val (.int p3), .val (.int p4), .val (.int (5 : Int32)), .val (.int (1 : Int32)), .val (.ref b11), .val (.ref b114), .unset, .unset, .unset] [])) (fun T A t r => XS.goto A hx rfl (pc0 := 242) (pc' := 300) rfl (hb hby at_242) (by decide) (by decide) r) ?_
    refine Go.sp (g' := (mkF m 302 #[.val (.int p1), .val (.int p2), .val (.int p3), .val (.int p4), .val (.int (5 : Int32)), .val (.int (1 : Int32)), .val (.ref b11), .val (.ref b114), .unset, .unset, .unset] [(.ref b114)])) (fun T A t r => XS.aload A hx rfl (hb hby at_300) rfl rfl r) ?_
    refine Go.old fun O135 => ?_
    refine Go.callS (ws' := []) (W := 0) (y := (⟨"com/example/slow_digest/slowdigest/rules/MailAddress", "domain", "(Ljava/lang/String;)Ljava/lang/String;"⟩ : MethodName)) (argsL := [(.ref b114)]) (rest := []) (pc' := 305) (k' := 6) (n' := 32) (hb hby at_302) (own_w hw 35 rfl) (own_w hw 36 rfl) (own_w hw 37 rfl) (own_w hw 38 rfl) (by decide) (fun s' hZ => Ct.bk (rmD l Z a0 hw [] b114 t134 kb134 [z13, (64 : Int32), z19, z22, z25] 1 zS fm h134 n0 O135 E134 C134 V134 B134 lat133 (Nat.le_of_ble_eq_true rfl) (Nat.le_of_ble_eq_true rfl) rfl (own_lt1 zn13) (Nat.le_of_ble_eq_true rfl) S0 P0 SF RF) hZ (own_w hw 38 rfl) (own_w hw 37 rfl) (by decide) (by decide)) (by rw [hml]; rfl) (lenOf pd_16 rfl) rfl (Nat.le_of_ble_eq_true rfl) rfl rfl rfl (by decide) (by decide) all0 ?_
    rintro v136 h136 K136 ⟨a136, t136, kb136, rfl, E136, C136, V136, B136⟩
    refine Go.cast (g' := (mkF m 305 #[.val (.int p1), .val (.int p2), .val (.int p3), .val (.int p4), .val (.int (5 : Int32)), .val (.int (1 : Int32)), .val (.ref b11), .val (.ref b114), .unset, .unset, .unset] [(.ref a136)])) rfl ?_
    have D136 : Arv Z h136 t136 kb136 .byte (3 : Int32) (([z19, z22, z25].map fun c => c.toInt8.toInt32).map Value.int) (.int 0) := B136
    have lat137 : ∀ c ∈ [z19, z22, z25], ¬ c < 0 ∧ ¬ (255 : Int32) < c := own_allc zb19 (own_allc zb22 (own_allc zb25 (own_allc0)))
    refine Go.sp (g' := (mkF m 307 #[.val (.int p1), .val (.int p2), .val (.int p3), .val (.int p4), .val (.int (5 : Int32)), .val (.int (1 : Int32)), .val (.ref b11), .val (.ref b114), .val (.ref a136), .unset, .unset] [])) (fun T A t r => XS.astore A hx rfl (hb hby at_305) rfl rfl (l' := #[.val (.int p1), .val (.int p2), .val (.int p3), .val (.int p4), .val (.int (5 : Int32)), .val (.int (1 : Int32)), .val (.ref b11), .val (.ref b114), .val (.ref a136), .unset, .unset]) rfl r) ?_
    refine Go.sp (g' := (mkF m 309 #[.val (.int p1), .val (.int p2), .val (.int p3), .val (.int p4), .val (.int (5 : Int32)), .val (.int (1 : Int32)), .val (.ref b11), .val (.ref b114), .val (.ref a136), .unset, .unset] [(.int (5 : Int32))])) (fun T A t r => XS.iload A hx rfl (hb hby at_307) rfl r) ?_
    refine Go.sp (g' := (mkF m 311 #[.val (.int p1), .val (.int p2), .val (.int p3), .val (.int p4), .val (.int (5 : Int32)), .val (.int (1 : Int32)), .val (.ref b11), .val (.ref b114), .val (.ref a136), .unset, .unset] [(.int (1 : Int32)), (.int (5 : Int32))])) (fun T A t r => XS.iload A hx rfl (hb hby at_309) rfl r) ?_
    refine Go.sp (g' := (mkF m 312 #[.val (.int p1), .val (.int p2), .val (.int p3), .val (.int p4), .val (.int (5 : Int32)), .val (.int (1 : Int32)), .val (.ref b11), .val (.ref b114), .val (.ref a136), .unset, .unset] [(.int (4 : Int32))])) (fun T A t r => XS.isub A hx rfl (hb hby at_311) rfl r) ?_
    refine Go.sp (g' := (mkF m 313 #[.val (.int p1), .val (.int p2), .val (.int p3), .val (.int p4), .val (.int (5 : Int32)), .val (.int (1 : Int32)), .val (.ref b11), .val (.ref b114), .val (.ref a136), .unset, .unset] [(.int (1 : Int32)), (.int (4 : Int32))])) (fun T A t r => XS.iconst A hx rfl (hb hby at_312) r) ?_
    refine Go.sp (g' := (mkF m 314 #[.val (.int p1), .val (.int p2), .val (.int p3), .val (.int p4), .val (.int (5 : Int32)), .val (.int (1 : Int32)), .val (.ref b11), .val (.ref b114), .val (.ref a136), .unset, .unset] [(.int (3 : Int32))])) (fun T A t r => XS.isub A hx rfl (hb hby at_313) rfl r) ?_
    refine Go.sp (g' := (mkF m 316 #[.val (.int p1), .val (.int p2), .val (.int p3), .val (.int p4), .val (.int (5 : Int32)), .val (.int (1 : Int32)), .val (.ref b11), .val (.ref b114), .val (.ref a136), .val (.int (3 : Int32)), .unset] [])) (fun T A t r => XS.istore A hx rfl (hb hby at_314) rfl (l' := #[.val (.int p1), .val (.int p2), .val (.int p3), .val (.int p4), .val (.int (5 : Int32)), .val (.int (1 : Int32)), .val (.ref b11), .val (.ref b114), .val (.ref a136), .val (.int (3 : Int32)), .unset]) rfl r) ?_
    refine Go.sp (g' := (mkF m 318 #[.val (.int p1), .val (.int p2), .val (.int p3), .val (.int p4), .val (.int (5 : Int32)), .val (.int (1 : Int32)), .val (.ref b11), .val (.ref b114), .val (.ref a136), .val (.int (3 : Int32)), .unset] [(.ref a136)])) (fun T A t r => XS.aload A hx rfl (hb hby at_316) rfl rfl r) ?_
    refine Go.old fun O138 => ?_
    refine Go.callVP (a := a136) (z := (⟨"java/lang/String", "length", "()I"⟩ : MethodName)) (W := 0) (y := (⟨"java/lang/String", "length", "()I"⟩ : MethodName)) (argsL := []) (rest := []) (pc' := 321) (hb hby at_318) (own_w hw 121 rfl) (own_w hw 55 rfl) (fun s' hZ => notFace_of_selects (args := #[]) (mvT hZ (own_w hw 57 rfl))) (own_w hw 57 rfl) (own_w hw 56 rfl) (by decide) (fun s' hZ => Bk.pure (StrChars.Road.lenW (kI := 4) (cs := [z19, z22, z25]) hZ (own_lenw hw) (own_w hw 7 rfl) E136 V136 C136 D136 (own_cod rfl lat137) (own_up lat137) (S0.ext O138.2) P0 (by show 3 ≤ 4000; decide) (by decide) (by decide))) E136 (by rw [hml]; rfl) (lenOf pd_4 rfl) rfl (Nat.le_of_ble_eq_true rfl) rfl (by decide) (by decide) ?_
    rintro v139 rfl
    refine Go.cast (g' := (mkF m 321 #[.val (.int p1), .val (.int p2), .val (.int p3), .val (.int p4), .val (.int (5 : Int32)), .val (.int (1 : Int32)), .val (.ref b11), .val (.ref b114), .val (.ref a136), .val (.int (3 : Int32)), .unset] [(.int (3 : Int32))])) rfl ?_
    refine Go.sp (g' := (mkF m 323 #[.val (.int p1), .val (.int p2), .val (.int p3), .val (.int p4), .val (.int (5 : Int32)), .val (.int (1 : Int32)), .val (.ref b11), .val (.ref b114), .val (.ref a136), .val (.int (3 : Int32)), .unset] [(.int (3 : Int32)), (.int (3 : Int32))])) (fun T A t r => XS.iload A hx rfl (hb hby at_321) rfl r) ?_
    refine Go.sp (g' := (mkF m 328 #[.val (.int p1), .val (.int p2), .val (.int p3), .val (.int p4), .val (.int (5 : Int32)), .val (.int (1 : Int32)), .val (.ref b11), .val (.ref b114), .val (.ref a136), .val (.int (3 : Int32)), .unset] [])) (fun T A t r => XS.icmpYes A hx rfl (pc0 := 323) (pc' := 328) rfl (hb hby at_323) rfl (teq (by decide : ((3 : Int32) = (3 : Int32)))).1 (by decide) (by decide) r) ?_
    refine Go.sp (g' := (mkF m 329 #[.val (.int p1), .val (.int p2), .val (.int p3), .val (.int p4), .val (.int (5 : Int32)), .val (.int (1 : Int32)), .val (.ref b11), .val (.ref b114), .val (.ref a136), .val (.int (3 : Int32)), .unset] [(.int (1 : Int32))])) (fun T A t r => XS.iconst A hx rfl (hb hby at_328) r) ?_
    refine Go.sp (g' := (mkF m 331 #[.val (.int p1), .val (.int p2), .val (.int p3), .val (.int p4), .val (.int (5 : Int32)), .val (.int (1 : Int32)), .val (.ref b11), .val (.ref b114), .val (.ref a136), .val (.int (3 : Int32)), .val (.int (1 : Int32))] [])) (fun T A t r => XS.istore A hx rfl (hb hby at_329) rfl (l' := #[.val (.int p1), .val (.int p2), .val (.int p3), .val (.int p4), .val (.int (5 : Int32)), .val (.int (1 : Int32)), .val (.ref b11), .val (.ref b114), .val (.ref a136), .val (.int (3 : Int32)), .val (.int (1 : Int32))]) rfl r) ?_
    refine Go.sp (g' := (mkF m 332 #[.val (.int p1), .val (.int p2), .val (.int p3), .val (.int p4), .val (.int (5 : Int32)), .val (.int (1 : Int32)), .val (.ref b11), .val (.ref b114), .val (.ref a136), .val (.int (3 : Int32)), .val (.int (1 : Int32))] [(.int (0 : Int32))])) (fun T A t r => XS.iconst A hx rfl (hb hby at_331) r) ?_
    refine Go.sp (g' := (mkF m 334 #[.val (.int p1), .val (.int p2), .val (.int p3), .val (.int p4), .val (.int (5 : Int32)), .val (.int (1 : Int32)), .val (.ref b11), .val (.ref b114), .val (.ref a136), .val (.int (3 : Int32)), .val (.int (1 : Int32))] [(.int (3 : Int32)), (.int (0 : Int32))])) (fun T A t r => XS.iload A hx rfl (hb hby at_332) rfl r) ?_
    refine Go.sp (g' := (mkF m 337 #[.val (.int p1), .val (.int p2), .val (.int p3), .val (.int p4), .val (.int (5 : Int32)), .val (.int (1 : Int32)), .val (.ref b11), .val (.ref b114), .val (.ref a136), .val (.int (3 : Int32)), .val (.int (1 : Int32))] [])) (fun T A t r => XS.icmpNo A hx rfl (hb hby at_334) rfl (tlt (by decide : ((0 : Int32) < (3 : Int32)))).2.1 r) ?_
    refine Go.sp (g' := (mkF m 339 #[.val (.int p1), .val (.int p2), .val (.int p3), .val (.int p4), .val (.int (5 : Int32)), .val (.int (1 : Int32)), .val (.ref b11), .val (.ref b114), .val (.ref a136), .val (.int (3 : Int32)), .val (.int (1 : Int32))] [(.int (1 : Int32))])) (fun T A t r => XS.iload A hx rfl (hb hby at_337) rfl r) ?_
    refine Go.sp (g' := (mkF m 342 #[.val (.int p1), .val (.int p2), .val (.int p3), .val (.int p4), .val (.int (5 : Int32)), .val (.int (1 : Int32)), .val (.ref b11), .val (.ref b114), .val (.ref a136), .val (.int (3 : Int32)), .val (.int (1 : Int32))] [])) (fun T A t r => XS.ifNo A hx rfl (hb hby at_339) rfl ((if0 _ _).trans (feq (by decide : ¬ ((1 : Int32) = (0 : Int32)))).1) r) ?_
    refine Go.sp (g' := (mkF m 344 #[.val (.int p1), .val (.int p2), .val (.int p3), .val (.int p4), .val (.int (5 : Int32)), .val (.int (1 : Int32)), .val (.ref b11), .val (.ref b114), .val (.ref a136), .val (.int (3 : Int32)), .val (.int (1 : Int32))] [(.ref a136)])) (fun T A t r => XS.aload A hx rfl (hb hby at_342) rfl rfl r) ?_
    refine Go.sp (g' := (mkF m 345 #[.val (.int p1), .val (.int p2), .val (.int p3), .val (.int p4), .val (.int (5 : Int32)), .val (.int (1 : Int32)), .val (.ref b11), .val (.ref b114), .val (.ref a136), .val (.int (3 : Int32)), .val (.int (1 : Int32))] [(.int (0 : Int32)), (.ref a136)])) (fun T A t r => XS.iconst A hx rfl (hb hby at_344) r) ?_
    refine Go.callVP (a := a136) (z := (⟨"java/lang/String", "charAt", "(I)C"⟩ : MethodName)) (W := 0) (y := (⟨"java/lang/String", "charAt", "(I)C"⟩ : MethodName)) (argsL := [(.int (0 : Int32))]) (rest := []) (pc' := 348) (hb hby at_345) (own_w hw 122 rfl) (own_w hw 123 rfl) (fun s' hZ => notFace_of_selects (args := #[]) (mvT hZ (own_w hw 125 rfl))) (own_w hw 125 rfl) (own_w hw 124 rfl) (by decide) (fun s' hZ => Bk.pure (StrChars.Road.chN (kI := 4) (cs := [z19, z22, z25]) (i := 0) hZ (own_chwd hw) (own_w hw 7 rfl) E136 V136 C136 D136 (own_cod rfl lat137) (own_up lat137) (S0.ext O138.2) P0 (SF.ext O138.2) RF (by show 3 ≤ 4000; decide) (by show 0 < 3; decide) rfl (by decide) (by decide))) E136 (by rw [hml]; rfl) (lenOf pd_14 rfl) rfl (Nat.le_of_ble_eq_true rfl) rfl (by decide) (by decide) ?_
    rintro v140 rfl
    refine Go.cast (g' := (mkF m 348 #[.val (.int p1), .val (.int p2), .val (.int p3), .val (.int p4), .val (.int (5 : Int32)), .val (.int (1 : Int32)), .val (.ref b11), .val (.ref b114), .val (.ref a136), .val (.int (3 : Int32)), .val (.int (1 : Int32))] [(.int z19)])) rfl ?_
    refine Go.sp (g' := (mkF m 350 #[.val (.int p1), .val (.int p2), .val (.int p3), .val (.int p4), .val (.int (5 : Int32)), .val (.int (1 : Int32)), .val (.ref b11), .val (.ref b114), .val (.ref a136), .val (.int (3 : Int32)), .val (.int (1 : Int32))] [(.ref b11), (.int z19)])) (fun T A t r => XS.aload A hx rfl (hb hby at_348) rfl rfl r) ?_
    refine Go.sp (g' := (mkF m 352 #[.val (.int p1), .val (.int p2), .val (.int p3), .val (.int p4), .val (.int (5 : Int32)), .val (.int (1 : Int32)), .val (.ref b11), .val (.ref b114), .val (.ref a136), .val (.int (3 : Int32)), .val (.int (1 : Int32))] [(.int (1 : Int32)), (.ref b11), (.int z19)])) (fun T A t r => XS.iload A hx rfl (hb hby at_350) rfl r) ?_
    refine Go.sp (g' := (mkF m 353 #[.val (.int p1), .val (.int p2), .val (.int p3), .val (.int p4), .val (.int (5 : Int32)), .val (.int (1 : Int32)), .val (.ref b11), .val (.ref b114), .val (.ref a136), .val (.int (3 : Int32)), .val (.int (1 : Int32))] [(.int (1 : Int32)), (.int (1 : Int32)), (.ref b11), (.int z19)])) (fun T A t r => XS.iconst A hx rfl (hb hby at_352) r) ?_
    refine Go.sp (g' := (mkF m 354 #[.val (.int p1), .val (.int p2), .val (.int p3), .val (.int p4), .val (.int (5 : Int32)), .val (.int (1 : Int32)), .val (.ref b11), .val (.ref b114), .val (.ref a136), .val (.int (3 : Int32)), .val (.int (1 : Int32))] [(.int (2 : Int32)), (.ref b11), (.int z19)])) (fun T A t r => XS.iadd A hx rfl (hb hby at_353) rfl r) ?_
    have ne141 : b11 ≠ b114 := Nat.ne_of_lt (Nat.lt_of_lt_of_le V113.lt (Nat.le_of_eq g114.symm))
    have f142 := (((f126.other W127 ne119).keep K134 (ninS ne141 nin0)).keep K136 nin0)
    refine Go.r (g' := (mkF m 355 #[.val (.int p1), .val (.int p2), .val (.int p3), .val (.int p4), .val (.int (5 : Int32)), .val (.int (1 : Int32)), .val (.ref b11), .val (.ref b114), .val (.ref a136), .val (.int (3 : Int32)), .val (.int (1 : Int32))] [(.int z19), (.int z19)])) (fun s' T L X eT hZ t r => own_ldC X hx hZ eT f142 (j := (2 : Int32)) ⟨by decide, by decide⟩ (v := (.int z19)) rfl (g := (mkF m 354 #[.val (.int p1), .val (.int p2), .val (.int p3), .val (.int p4), .val (.int (5 : Int32)), .val (.int (1 : Int32)), .val (.ref b11), .val (.ref b114), .val (.ref a136), .val (.int (3 : Int32)), .val (.int (1 : Int32))] [(.int (2 : Int32)), (.ref b11), (.int z19)])) rfl rfl (hb hby at_354) t r) ?_
    refine Go.sp (g' := (mkF m 358 #[.val (.int p1), .val (.int p2), .val (.int p3), .val (.int p4), .val (.int (5 : Int32)), .val (.int (1 : Int32)), .val (.ref b11), .val (.ref b114), .val (.ref a136), .val (.int (3 : Int32)), .val (.int (1 : Int32))] [])) (fun T A t r => XS.icmpNo A hx rfl (hb hby at_355) rfl (teq (rfl : z19 = z19)).2 r) ?_
    refine Go.sp (g' := (mkF m 359 #[.val (.int p1), .val (.int p2), .val (.int p3), .val (.int p4), .val (.int (5 : Int32)), .val (.int (1 : Int32)), .val (.ref b11), .val (.ref b114), .val (.ref a136), .val (.int (3 : Int32)), .val (.int (1 : Int32))] [(.int (1 : Int32))])) (fun T A t r => XS.iconst A hx rfl (hb hby at_358) r) ?_
    refine Go.sp (g' := (mkF m 363 #[.val (.int p1), .val (.int p2), .val (.int p3), .val (.int p4), .val (.int (5 : Int32)), .val (.int (1 : Int32)), .val (.ref b11), .val (.ref b114), .val (.ref a136), .val (.int (3 : Int32)), .val (.int (1 : Int32))] [(.int (1 : Int32))])) (fun T A t r => XS.goto A hx rfl (pc0 := 359) (pc' := 363) rfl (hb hby at_359) (by decide) (by decide) r) ?_
    refine Go.sp (g' := (mkF m 365 #[.val (.int p1), .val (.int p2), .val (.int p3), .val (.int p4), .val (.int (5 : Int32)), .val (.int (1 : Int32)), .val (.ref b11), .val (.ref b114), .val (.ref a136), .val (.int (3 : Int32)), .val (.int (1 : Int32))] [])) (fun T A t r => XS.istore A hx rfl (hb hby at_363) rfl (l' := #[.val (.int p1), .val (.int p2), .val (.int p3), .val (.int p4), .val (.int (5 : Int32)), .val (.int (1 : Int32)), .val (.ref b11), .val (.ref b114), .val (.ref a136), .val (.int (3 : Int32)), .val (.int (1 : Int32))]) rfl r) ?_
    refine Go.sp (g' := (mkF m 366 #[.val (.int p1), .val (.int p2), .val (.int p3), .val (.int p4), .val (.int (5 : Int32)), .val (.int (1 : Int32)), .val (.ref b11), .val (.ref b114), .val (.ref a136), .val (.int (3 : Int32)), .val (.int (1 : Int32))] [(.int (1 : Int32))])) (fun T A t r => XS.iconst A hx rfl (hb hby at_365) r) ?_
    refine Go.sp (g' := (mkF m 368 #[.val (.int p1), .val (.int p2), .val (.int p3), .val (.int p4), .val (.int (5 : Int32)), .val (.int (1 : Int32)), .val (.ref b11), .val (.ref b114), .val (.ref a136), .val (.int (3 : Int32)), .val (.int (1 : Int32))] [(.int (3 : Int32)), (.int (1 : Int32))])) (fun T A t r => XS.iload A hx rfl (hb hby at_366) rfl r) ?_
    refine Go.sp (g' := (mkF m 371 #[.val (.int p1), .val (.int p2), .val (.int p3), .val (.int p4), .val (.int (5 : Int32)), .val (.int (1 : Int32)), .val (.ref b11), .val (.ref b114), .val (.ref a136), .val (.int (3 : Int32)), .val (.int (1 : Int32))] [])) (fun T A t r => XS.icmpNo A hx rfl (hb hby at_368) rfl (tlt (by decide : ((1 : Int32) < (3 : Int32)))).2.1 r) ?_
    refine Go.sp (g' := (mkF m 373 #[.val (.int p1), .val (.int p2), .val (.int p3), .val (.int p4), .val (.int (5 : Int32)), .val (.int (1 : Int32)), .val (.ref b11), .val (.ref b114), .val (.ref a136), .val (.int (3 : Int32)), .val (.int (1 : Int32))] [(.int (1 : Int32))])) (fun T A t r => XS.iload A hx rfl (hb hby at_371) rfl r) ?_
    refine Go.sp (g' := (mkF m 376 #[.val (.int p1), .val (.int p2), .val (.int p3), .val (.int p4), .val (.int (5 : Int32)), .val (.int (1 : Int32)), .val (.ref b11), .val (.ref b114), .val (.ref a136), .val (.int (3 : Int32)), .val (.int (1 : Int32))] [])) (fun T A t r => XS.ifNo A hx rfl (hb hby at_373) rfl ((if0 _ _).trans (feq (by decide : ¬ ((1 : Int32) = (0 : Int32)))).1) r) ?_
    refine Go.sp (g' := (mkF m 378 #[.val (.int p1), .val (.int p2), .val (.int p3), .val (.int p4), .val (.int (5 : Int32)), .val (.int (1 : Int32)), .val (.ref b11), .val (.ref b114), .val (.ref a136), .val (.int (3 : Int32)), .val (.int (1 : Int32))] [(.ref a136)])) (fun T A t r => XS.aload A hx rfl (hb hby at_376) rfl rfl r) ?_
    refine Go.sp (g' := (mkF m 379 #[.val (.int p1), .val (.int p2), .val (.int p3), .val (.int p4), .val (.int (5 : Int32)), .val (.int (1 : Int32)), .val (.ref b11), .val (.ref b114), .val (.ref a136), .val (.int (3 : Int32)), .val (.int (1 : Int32))] [(.int (1 : Int32)), (.ref a136)])) (fun T A t r => XS.iconst A hx rfl (hb hby at_378) r) ?_
    refine Go.callVP (a := a136) (z := (⟨"java/lang/String", "charAt", "(I)C"⟩ : MethodName)) (W := 0) (y := (⟨"java/lang/String", "charAt", "(I)C"⟩ : MethodName)) (argsL := [(.int (1 : Int32))]) (rest := []) (pc' := 382) (hb hby at_379) (own_w hw 122 rfl) (own_w hw 123 rfl) (fun s' hZ => notFace_of_selects (args := #[]) (mvT hZ (own_w hw 125 rfl))) (own_w hw 125 rfl) (own_w hw 124 rfl) (by decide) (fun s' hZ => Bk.pure (StrChars.Road.chN (kI := 4) (cs := [z19, z22, z25]) (i := 1) hZ (own_chwd hw) (own_w hw 7 rfl) E136 V136 C136 D136 (own_cod rfl lat137) (own_up lat137) (S0.ext O138.2) P0 (SF.ext O138.2) RF (by show 3 ≤ 4000; decide) (by show 1 < 3; decide) rfl (by decide) (by decide))) E136 (by rw [hml]; rfl) (lenOf pd_14 rfl) rfl (Nat.le_of_ble_eq_true rfl) rfl (by decide) (by decide) ?_
    rintro v143 rfl
    refine Go.cast (g' := (mkF m 382 #[.val (.int p1), .val (.int p2), .val (.int p3), .val (.int p4), .val (.int (5 : Int32)), .val (.int (1 : Int32)), .val (.ref b11), .val (.ref b114), .val (.ref a136), .val (.int (3 : Int32)), .val (.int (1 : Int32))] [(.int z22)])) rfl ?_
    refine Go.sp (g' := (mkF m 384 #[.val (.int p1), .val (.int p2), .val (.int p3), .val (.int p4), .val (.int (5 : Int32)), .val (.int (1 : Int32)), .val (.ref b11), .val (.ref b114), .val (.ref a136), .val (.int (3 : Int32)), .val (.int (1 : Int32))] [(.ref b11), (.int z22)])) (fun T A t r => XS.aload A hx rfl (hb hby at_382) rfl rfl r) ?_
    refine Go.sp (g' := (mkF m 386 #[.val (.int p1), .val (.int p2), .val (.int p3), .val (.int p4), .val (.int (5 : Int32)), .val (.int (1 : Int32)), .val (.ref b11), .val (.ref b114), .val (.ref a136), .val (.int (3 : Int32)), .val (.int (1 : Int32))] [(.int (1 : Int32)), (.ref b11), (.int z22)])) (fun T A t r => XS.iload A hx rfl (hb hby at_384) rfl r) ?_
    refine Go.sp (g' := (mkF m 387 #[.val (.int p1), .val (.int p2), .val (.int p3), .val (.int p4), .val (.int (5 : Int32)), .val (.int (1 : Int32)), .val (.ref b11), .val (.ref b114), .val (.ref a136), .val (.int (3 : Int32)), .val (.int (1 : Int32))] [(.int (2 : Int32)), (.int (1 : Int32)), (.ref b11), (.int z22)])) (fun T A t r => XS.iconst A hx rfl (hb hby at_386) r) ?_
    refine Go.sp (g' := (mkF m 388 #[.val (.int p1), .val (.int p2), .val (.int p3), .val (.int p4), .val (.int (5 : Int32)), .val (.int (1 : Int32)), .val (.ref b11), .val (.ref b114), .val (.ref a136), .val (.int (3 : Int32)), .val (.int (1 : Int32))] [(.int (3 : Int32)), (.ref b11), (.int z22)])) (fun T A t r => XS.iadd A hx rfl (hb hby at_387) rfl r) ?_
    refine Go.r (g' := (mkF m 389 #[.val (.int p1), .val (.int p2), .val (.int p3), .val (.int p4), .val (.int (5 : Int32)), .val (.int (1 : Int32)), .val (.ref b11), .val (.ref b114), .val (.ref a136), .val (.int (3 : Int32)), .val (.int (1 : Int32))] [(.int z22), (.int z22)])) (fun s' T L X eT hZ t r => own_ldC X hx hZ eT f142 (j := (3 : Int32)) ⟨by decide, by decide⟩ (v := (.int z22)) rfl (g := (mkF m 388 #[.val (.int p1), .val (.int p2), .val (.int p3), .val (.int p4), .val (.int (5 : Int32)), .val (.int (1 : Int32)), .val (.ref b11), .val (.ref b114), .val (.ref a136), .val (.int (3 : Int32)), .val (.int (1 : Int32))] [(.int (3 : Int32)), (.ref b11), (.int z22)])) rfl rfl (hb hby at_388) t r) ?_
    refine Go.sp (g' := (mkF m 392 #[.val (.int p1), .val (.int p2), .val (.int p3), .val (.int p4), .val (.int (5 : Int32)), .val (.int (1 : Int32)), .val (.ref b11), .val (.ref b114), .val (.ref a136), .val (.int (3 : Int32)), .val (.int (1 : Int32))] [])) (fun T A t r => XS.icmpNo A hx rfl (hb hby at_389) rfl (teq (rfl : z22 = z22)).2 r) ?_
    refine Go.sp (g' := (mkF m 393 #[.val (.int p1), .val (.int p2), .val (.int p3), .val (.int p4), .val (.int (5 : Int32)), .val (.int (1 : Int32)), .val (.ref b11), .val (.ref b114), .val (.ref a136), .val (.int (3 : Int32)), .val (.int (1 : Int32))] [(.int (1 : Int32))])) (fun T A t r => XS.iconst A hx rfl (hb hby at_392) r) ?_
    refine Go.sp (g' := (mkF m 397 #[.val (.int p1), .val (.int p2), .val (.int p3), .val (.int p4), .val (.int (5 : Int32)), .val (.int (1 : Int32)), .val (.ref b11), .val (.ref b114), .val (.ref a136), .val (.int (3 : Int32)), .val (.int (1 : Int32))] [(.int (1 : Int32))])) (fun T A t r => XS.goto A hx rfl (pc0 := 393) (pc' := 397) rfl (hb hby at_393) (by decide) (by decide) r) ?_
    refine Go.sp (g' := (mkF m 399 #[.val (.int p1), .val (.int p2), .val (.int p3), .val (.int p4), .val (.int (5 : Int32)), .val (.int (1 : Int32)), .val (.ref b11), .val (.ref b114), .val (.ref a136), .val (.int (3 : Int32)), .val (.int (1 : Int32))] [])) (fun T A t r => XS.istore A hx rfl (hb hby at_397) rfl (l' := #[.val (.int p1), .val (.int p2), .val (.int p3), .val (.int p4), .val (.int (5 : Int32)), .val (.int (1 : Int32)), .val (.ref b11), .val (.ref b114), .val (.ref a136), .val (.int (3 : Int32)), .val (.int (1 : Int32))]) rfl r) ?_
    refine Go.sp (g' := (mkF m 400 #[.val (.int p1), .val (.int p2), .val (.int p3), .val (.int p4), .val (.int (5 : Int32)), .val (.int (1 : Int32)), .val (.ref b11), .val (.ref b114), .val (.ref a136), .val (.int (3 : Int32)), .val (.int (1 : Int32))] [(.int (2 : Int32))])) (fun T A t r => XS.iconst A hx rfl (hb hby at_399) r) ?_
    refine Go.sp (g' := (mkF m 402 #[.val (.int p1), .val (.int p2), .val (.int p3), .val (.int p4), .val (.int (5 : Int32)), .val (.int (1 : Int32)), .val (.ref b11), .val (.ref b114), .val (.ref a136), .val (.int (3 : Int32)), .val (.int (1 : Int32))] [(.int (3 : Int32)), (.int (2 : Int32))])) (fun T A t r => XS.iload A hx rfl (hb hby at_400) rfl r) ?_
    refine Go.sp (g' := (mkF m 405 #[.val (.int p1), .val (.int p2), .val (.int p3), .val (.int p4), .val (.int (5 : Int32)), .val (.int (1 : Int32)), .val (.ref b11), .val (.ref b114), .val (.ref a136), .val (.int (3 : Int32)), .val (.int (1 : Int32))] [])) (fun T A t r => XS.icmpNo A hx rfl (hb hby at_402) rfl (tlt (by decide : ((2 : Int32) < (3 : Int32)))).2.1 r) ?_
    refine Go.sp (g' := (mkF m 407 #[.val (.int p1), .val (.int p2), .val (.int p3), .val (.int p4), .val (.int (5 : Int32)), .val (.int (1 : Int32)), .val (.ref b11), .val (.ref b114), .val (.ref a136), .val (.int (3 : Int32)), .val (.int (1 : Int32))] [(.int (1 : Int32))])) (fun T A t r => XS.iload A hx rfl (hb hby at_405) rfl r) ?_
    refine Go.sp (g' := (mkF m 410 #[.val (.int p1), .val (.int p2), .val (.int p3), .val (.int p4), .val (.int (5 : Int32)), .val (.int (1 : Int32)), .val (.ref b11), .val (.ref b114), .val (.ref a136), .val (.int (3 : Int32)), .val (.int (1 : Int32))] [])) (fun T A t r => XS.ifNo A hx rfl (hb hby at_407) rfl ((if0 _ _).trans (feq (by decide : ¬ ((1 : Int32) = (0 : Int32)))).1) r) ?_
    refine Go.sp (g' := (mkF m 412 #[.val (.int p1), .val (.int p2), .val (.int p3), .val (.int p4), .val (.int (5 : Int32)), .val (.int (1 : Int32)), .val (.ref b11), .val (.ref b114), .val (.ref a136), .val (.int (3 : Int32)), .val (.int (1 : Int32))] [(.ref a136)])) (fun T A t r => XS.aload A hx rfl (hb hby at_410) rfl rfl r) ?_
    refine Go.sp (g' := (mkF m 413 #[.val (.int p1), .val (.int p2), .val (.int p3), .val (.int p4), .val (.int (5 : Int32)), .val (.int (1 : Int32)), .val (.ref b11), .val (.ref b114), .val (.ref a136), .val (.int (3 : Int32)), .val (.int (1 : Int32))] [(.int (2 : Int32)), (.ref a136)])) (fun T A t r => XS.iconst A hx rfl (hb hby at_412) r) ?_
    refine Go.callVP (a := a136) (z := (⟨"java/lang/String", "charAt", "(I)C"⟩ : MethodName)) (W := 0) (y := (⟨"java/lang/String", "charAt", "(I)C"⟩ : MethodName)) (argsL := [(.int (2 : Int32))]) (rest := []) (pc' := 416) (hb hby at_413) (own_w hw 122 rfl) (own_w hw 123 rfl) (fun s' hZ => notFace_of_selects (args := #[]) (mvT hZ (own_w hw 125 rfl))) (own_w hw 125 rfl) (own_w hw 124 rfl) (by decide) (fun s' hZ => Bk.pure (StrChars.Road.chN (kI := 4) (cs := [z19, z22, z25]) (i := 2) hZ (own_chwd hw) (own_w hw 7 rfl) E136 V136 C136 D136 (own_cod rfl lat137) (own_up lat137) (S0.ext O138.2) P0 (SF.ext O138.2) RF (by show 3 ≤ 4000; decide) (by show 2 < 3; decide) rfl (by decide) (by decide))) E136 (by rw [hml]; rfl) (lenOf pd_14 rfl) rfl (Nat.le_of_ble_eq_true rfl) rfl (by decide) (by decide) ?_
    rintro v144 rfl
    refine Go.cast (g' := (mkF m 416 #[.val (.int p1), .val (.int p2), .val (.int p3), .val (.int p4), .val (.int (5 : Int32)), .val (.int (1 : Int32)), .val (.ref b11), .val (.ref b114), .val (.ref a136), .val (.int (3 : Int32)), .val (.int (1 : Int32))] [(.int z25)])) rfl ?_
    refine Go.sp (g' := (mkF m 418 #[.val (.int p1), .val (.int p2), .val (.int p3), .val (.int p4), .val (.int (5 : Int32)), .val (.int (1 : Int32)), .val (.ref b11), .val (.ref b114), .val (.ref a136), .val (.int (3 : Int32)), .val (.int (1 : Int32))] [(.ref b11), (.int z25)])) (fun T A t r => XS.aload A hx rfl (hb hby at_416) rfl rfl r) ?_
    refine Go.sp (g' := (mkF m 420 #[.val (.int p1), .val (.int p2), .val (.int p3), .val (.int p4), .val (.int (5 : Int32)), .val (.int (1 : Int32)), .val (.ref b11), .val (.ref b114), .val (.ref a136), .val (.int (3 : Int32)), .val (.int (1 : Int32))] [(.int (1 : Int32)), (.ref b11), (.int z25)])) (fun T A t r => XS.iload A hx rfl (hb hby at_418) rfl r) ?_
    refine Go.sp (g' := (mkF m 421 #[.val (.int p1), .val (.int p2), .val (.int p3), .val (.int p4), .val (.int (5 : Int32)), .val (.int (1 : Int32)), .val (.ref b11), .val (.ref b114), .val (.ref a136), .val (.int (3 : Int32)), .val (.int (1 : Int32))] [(.int (3 : Int32)), (.int (1 : Int32)), (.ref b11), (.int z25)])) (fun T A t r => XS.iconst A hx rfl (hb hby at_420) r) ?_
    refine Go.sp (g' := (mkF m 422 #[.val (.int p1), .val (.int p2), .val (.int p3), .val (.int p4), .val (.int (5 : Int32)), .val (.int (1 : Int32)), .val (.ref b11), .val (.ref b114), .val (.ref a136), .val (.int (3 : Int32)), .val (.int (1 : Int32))] [(.int (4 : Int32)), (.ref b11), (.int z25)])) (fun T A t r => XS.iadd A hx rfl (hb hby at_421) rfl r) ?_
    refine Go.r (g' := (mkF m 423 #[.val (.int p1), .val (.int p2), .val (.int p3), .val (.int p4), .val (.int (5 : Int32)), .val (.int (1 : Int32)), .val (.ref b11), .val (.ref b114), .val (.ref a136), .val (.int (3 : Int32)), .val (.int (1 : Int32))] [(.int z25), (.int z25)])) (fun s' T L X eT hZ t r => own_ldC X hx hZ eT f142 (j := (4 : Int32)) ⟨by decide, by decide⟩ (v := (.int z25)) rfl (g := (mkF m 422 #[.val (.int p1), .val (.int p2), .val (.int p3), .val (.int p4), .val (.int (5 : Int32)), .val (.int (1 : Int32)), .val (.ref b11), .val (.ref b114), .val (.ref a136), .val (.int (3 : Int32)), .val (.int (1 : Int32))] [(.int (4 : Int32)), (.ref b11), (.int z25)])) rfl rfl (hb hby at_422) t r) ?_
    refine Go.sp (g' := (mkF m 426 #[.val (.int p1), .val (.int p2), .val (.int p3), .val (.int p4), .val (.int (5 : Int32)), .val (.int (1 : Int32)), .val (.ref b11), .val (.ref b114), .val (.ref a136), .val (.int (3 : Int32)), .val (.int (1 : Int32))] [])) (fun T A t r => XS.icmpNo A hx rfl (hb hby at_423) rfl (teq (rfl : z25 = z25)).2 r) ?_
    refine Go.sp (g' := (mkF m 427 #[.val (.int p1), .val (.int p2), .val (.int p3), .val (.int p4), .val (.int (5 : Int32)), .val (.int (1 : Int32)), .val (.ref b11), .val (.ref b114), .val (.ref a136), .val (.int (3 : Int32)), .val (.int (1 : Int32))] [(.int (1 : Int32))])) (fun T A t r => XS.iconst A hx rfl (hb hby at_426) r) ?_
    refine Go.sp (g' := (mkF m 431 #[.val (.int p1), .val (.int p2), .val (.int p3), .val (.int p4), .val (.int (5 : Int32)), .val (.int (1 : Int32)), .val (.ref b11), .val (.ref b114), .val (.ref a136), .val (.int (3 : Int32)), .val (.int (1 : Int32))] [(.int (1 : Int32))])) (fun T A t r => XS.goto A hx rfl (pc0 := 427) (pc' := 431) rfl (hb hby at_427) (by decide) (by decide) r) ?_
    refine Go.sp (g' := (mkF m 433 #[.val (.int p1), .val (.int p2), .val (.int p3), .val (.int p4), .val (.int (5 : Int32)), .val (.int (1 : Int32)), .val (.ref b11), .val (.ref b114), .val (.ref a136), .val (.int (3 : Int32)), .val (.int (1 : Int32))] [])) (fun T A t r => XS.istore A hx rfl (hb hby at_431) rfl (l' := #[.val (.int p1), .val (.int p2), .val (.int p3), .val (.int p4), .val (.int (5 : Int32)), .val (.int (1 : Int32)), .val (.ref b11), .val (.ref b114), .val (.ref a136), .val (.int (3 : Int32)), .val (.int (1 : Int32))]) rfl r) ?_
    refine Go.sp (g' := (mkF m 434 #[.val (.int p1), .val (.int p2), .val (.int p3), .val (.int p4), .val (.int (5 : Int32)), .val (.int (1 : Int32)), .val (.ref b11), .val (.ref b114), .val (.ref a136), .val (.int (3 : Int32)), .val (.int (1 : Int32))] [(.int (3 : Int32))])) (fun T A t r => XS.iconst A hx rfl (hb hby at_433) r) ?_
    refine Go.sp (g' := (mkF m 436 #[.val (.int p1), .val (.int p2), .val (.int p3), .val (.int p4), .val (.int (5 : Int32)), .val (.int (1 : Int32)), .val (.ref b11), .val (.ref b114), .val (.ref a136), .val (.int (3 : Int32)), .val (.int (1 : Int32))] [(.int (3 : Int32)), (.int (3 : Int32))])) (fun T A t r => XS.iload A hx rfl (hb hby at_434) rfl r) ?_
    refine Go.sp (g' := (mkF m 467 #[.val (.int p1), .val (.int p2), .val (.int p3), .val (.int p4), .val (.int (5 : Int32)), .val (.int (1 : Int32)), .val (.ref b11), .val (.ref b114), .val (.ref a136), .val (.int (3 : Int32)), .val (.int (1 : Int32))] [])) (fun T A t r => XS.icmpYes A hx rfl (pc0 := 436) (pc' := 467) rfl (hb hby at_436) rfl (flt (by decide : ¬ ((3 : Int32) < (3 : Int32)))).2.1 (by decide) (by decide) r) ?_
    refine Go.sp (g' := (mkF m 469 #[.val (.int p1), .val (.int p2), .val (.int p3), .val (.int p4), .val (.int (5 : Int32)), .val (.int (1 : Int32)), .val (.ref b11), .val (.ref b114), .val (.ref a136), .val (.int (3 : Int32)), .val (.int (1 : Int32))] [(.int (1 : Int32))])) (fun T A t r => XS.iload A hx rfl (hb hby at_467) rfl r) ?_
    exact Go.ret (v := (some (.int (nar .boolean (1 : Int32))))) (fun s' T L fs X hr => retN X hx (t := .boolean) hret (by simp) (hb hby at_469) hr) (fun h => by rw [hret] at h; cases h) (by decide) (by decide) rfl
  · skip
    refine Go.cast (g' := (mkF m 91 #[.val (.int p1), .val (.int p2), .val (.int p3), .val (.int p4), .val (.int (5 : Int32)), .val (.int (2 : Int32)), .val (.ref b11), .unset, .unset, .unset, .unset] [])) (by rw [ha, hn]) ?_
    refine Go.sp (g' := (mkF m 93 #[.val (.int p1), .val (.int p2), .val (.int p3), .val (.int p4), .val (.int (5 : Int32)), .val (.int (2 : Int32)), .val (.ref b11), .unset, .unset, .unset, .unset] [(.ref b11)])) (fun T A t r => XS.aload A hx rfl (hb hby at_91) rfl rfl r) ?_
    refine Go.sp (g' := (mkF m 95 #[.val (.int p1), .val (.int p2), .val (.int p3), .val (.int p4), .val (.int (5 : Int32)), .val (.int (2 : Int32)), .val (.ref b11), .unset, .unset, .unset, .unset] [(.int (2 : Int32)), (.ref b11)])) (fun T A t r => XS.iload A hx rfl (hb hby at_93) rfl r) ?_
    refine Go.sp (g' := (mkF m 97 #[.val (.int p1), .val (.int p2), .val (.int p3), .val (.int p4), .val (.int (5 : Int32)), .val (.int (2 : Int32)), .val (.ref b11), .unset, .unset, .unset, .unset] [(.int (64 : Int32)), (.int (2 : Int32)), (.ref b11)])) (fun T A t r => XS.bipush A hx rfl (hb hby at_95) r) ?_
    refine Go.w (g' := (mkF m 98 #[.val (.int p1), .val (.int p2), .val (.int p3), .val (.int p4), .val (.int (5 : Int32)), .val (.int (2 : Int32)), .val (.ref b11), .unset, .unset, .unset, .unset] [])) (fun s' T L X eT hZ hown => own_stC X hx hZ eT V29 (j := (2 : Int32)) ⟨by decide, by decide⟩ (g := (mkF m 97 #[.val (.int p1), .val (.int p2), .val (.int p3), .val (.int p4), .val (.int (5 : Int32)), .val (.int (2 : Int32)), .val (.ref b11), .unset, .unset, .unset, .unset] [(.int (64 : Int32)), (.int (2 : Int32)), (.ref b11)])) rfl rfl (hb hby at_97)) (Or.inr sz11) ?_
    intro h145 W145
    have V145 : Arv Z h145 b11 k11 .char (6 : Int32) [(.int z13), (.int z16), (.int (64 : Int32)), (.int z22), (.int z25), (.int z28)] (.int (0 : Int32)) := own_set V29 (fits_nar_char _) W145 rfl 2 rfl (Nat.le_of_ble_eq_true rfl)
    refine Go.sp (g' := (mkF m 100 #[.val (.int p1), .val (.int p2), .val (.int p3), .val (.int p4), .val (.int (5 : Int32)), .val (.int (2 : Int32)), .val (.ref b11), .unset, .unset, .unset, .unset] [(.int (5 : Int32))])) (fun T A t r => XS.iload A hx rfl (hb hby at_98) rfl r) ?_
    refine Go.sp (g' := (mkF m 101 #[.val (.int p1), .val (.int p2), .val (.int p3), .val (.int p4), .val (.int (5 : Int32)), .val (.int (2 : Int32)), .val (.ref b11), .unset, .unset, .unset, .unset] [(.int (3 : Int32)), (.int (5 : Int32))])) (fun T A t r => XS.iconst A hx rfl (hb hby at_100) r) ?_
    refine Go.sp (g' := (mkF m 140 #[.val (.int p1), .val (.int p2), .val (.int p3), .val (.int p4), .val (.int (5 : Int32)), .val (.int (2 : Int32)), .val (.ref b11), .unset, .unset, .unset, .unset] [])) (fun T A t r => XS.icmpYes A hx rfl (pc0 := 101) (pc' := 140) rfl (hb hby at_101) rfl (feq (by decide : ¬ ((5 : Int32) = (3 : Int32)))).2 (by decide) (by decide) r) ?_
    refine Go.sp (g' := (mkF m 142 #[.val (.int p1), .val (.int p2), .val (.int p3), .val (.int p4), .val (.int (5 : Int32)), .val (.int (2 : Int32)), .val (.ref b11), .unset, .unset, .unset, .unset] [(.int (5 : Int32))])) (fun T A t r => XS.iload A hx rfl (hb hby at_140) rfl r) ?_
    refine Go.sp (g' := (mkF m 143 #[.val (.int p1), .val (.int p2), .val (.int p3), .val (.int p4), .val (.int (5 : Int32)), .val (.int (2 : Int32)), .val (.ref b11), .unset, .unset, .unset, .unset] [(.int (4 : Int32)), (.int (5 : Int32))])) (fun T A t r => XS.iconst A hx rfl (hb hby at_142) r) ?_
    refine Go.sp (g' := (mkF m 189 #[.val (.int p1), .val (.int p2), .val (.int p3), .val (.int p4), .val (.int (5 : Int32)), .val (.int (2 : Int32)), .val (.ref b11), .unset, .unset, .unset, .unset] [])) (fun T A t r => XS.icmpYes A hx rfl (pc0 := 143) (pc' := 189) rfl (hb hby at_143) rfl (feq (by decide : ¬ ((5 : Int32) = (4 : Int32)))).2 (by decide) (by decide) r) ?_
    refine Go.sp (g' := (mkF m 191 #[.val (.int p1), .val (.int p2), .val (.int p3), .val (.int p4), .val (.int (5 : Int32)), .val (.int (2 : Int32)), .val (.ref b11), .unset, .unset, .unset, .unset] [(.int (5 : Int32))])) (fun T A t r => XS.iload A hx rfl (hb hby at_189) rfl r) ?_
    refine Go.sp (g' := (mkF m 192 #[.val (.int p1), .val (.int p2), .val (.int p3), .val (.int p4), .val (.int (5 : Int32)), .val (.int (2 : Int32)), .val (.ref b11), .unset, .unset, .unset, .unset] [(.int (5 : Int32)), (.int (5 : Int32))])) (fun T A t r => XS.iconst A hx rfl (hb hby at_191) r) ?_
    refine Go.sp (g' := (mkF m 195 #[.val (.int p1), .val (.int p2), .val (.int p3), .val (.int p4), .val (.int (5 : Int32)), .val (.int (2 : Int32)), .val (.ref b11), .unset, .unset, .unset, .unset] [])) (fun T A t r => XS.icmpNo A hx rfl (hb hby at_192) rfl (teq (by decide : ((5 : Int32) = (5 : Int32)))).2 r) ?_
    refine Go.newO (k' := 2) (n' := 10) (pc' := 198) (hb hby at_195) (own_w hw 6 rfl) (own_w hw 7 rfl) (own_w hw 8 rfl) rfl rfl rfl (by decide) (by decide) ?_
    intro b146 h146 g146 sz146 E146 A146 D146
    have F146_coder : Fld Z h146 b146 "java/lang/String" "coder" "B" (.int (0 : Int32)) := D146 (Or.inr (own_w hw 32 rfl)) (ty := .byte) (by decide)
    have F146_value : Fld Z h146 b146 "java/lang/String" "value" "[B" .null := D146 (Or.inr (own_w hw 34 rfl)) (ty := (.array .byte)) (by decide)
    refine Go.sp (g' := (mkF m 199 #[.val (.int p1), .val (.int p2), .val (.int p3), .val (.int p4), .val (.int (5 : Int32)), .val (.int (2 : Int32)), .val (.ref b11), .unset, .unset, .unset, .unset] [(.ref b146), (.ref b146)])) (fun T A t r => XS.dup A hx rfl (hb hby at_198) rfl rfl r) ?_
    refine Go.sp (g' := (mkF m 200 #[.val (.int p1), .val (.int p2), .val (.int p3), .val (.int p4), .val (.int (5 : Int32)), .val (.int (2 : Int32)), .val (.ref b11), .unset, .unset, .unset, .unset] [(.int (5 : Int32)), (.ref b146), (.ref b146)])) (fun T A t r => XS.iconst A hx rfl (hb hby at_199) r) ?_
    refine Go.newP (ty := .char) (dv := (.int (0 : Int32))) (cap := 5) (k' := 3) (n' := 15) (pc' := 202) (hb hby at_200) rfl rfl (own_w hw 0 rfl) (by decide) (by decide) (by decide) rfl rfl rfl (by decide) (by decide) ?_
    intro b147 h147 k147 g147 sz147 E147 A147
    have V147 : Arv Z h147 b147 k147 .char (5 : Int32) [(.int (0 : Int32)), (.int (0 : Int32)), (.int (0 : Int32)), (.int (0 : Int32)), (.int (0 : Int32))] (.int (0 : Int32)) := A147.pad (pad_rep [] (.int (0 : Int32)) 5)
    refine Go.sp (g' := (mkF m 203 #[.val (.int p1), .val (.int p2), .val (.int p3), .val (.int p4), .val (.int (5 : Int32)), .val (.int (2 : Int32)), .val (.ref b11), .unset, .unset, .unset, .unset] [(.ref b147), (.ref b147), (.ref b146), (.ref b146)])) (fun T A t r => XS.dup A hx rfl (hb hby at_202) rfl rfl r) ?_
    refine Go.sp (g' := (mkF m 204 #[.val (.int p1), .val (.int p2), .val (.int p3), .val (.int p4), .val (.int (5 : Int32)), .val (.int (2 : Int32)), .val (.ref b11), .unset, .unset, .unset, .unset] [(.int (0 : Int32)), (.ref b147), (.ref b147), (.ref b146), (.ref b146)])) (fun T A t r => XS.iconst A hx rfl (hb hby at_203) r) ?_
    refine Go.sp (g' := (mkF m 206 #[.val (.int p1), .val (.int p2), .val (.int p3), .val (.int p4), .val (.int (5 : Int32)), .val (.int (2 : Int32)), .val (.ref b11), .unset, .unset, .unset, .unset] [(.ref b11), (.int (0 : Int32)), (.ref b147), (.ref b147), (.ref b146), (.ref b146)])) (fun T A t r => XS.aload A hx rfl (hb hby at_204) rfl rfl r) ?_
    refine Go.sp (g' := (mkF m 207 #[.val (.int p1), .val (.int p2), .val (.int p3), .val (.int p4), .val (.int (5 : Int32)), .val (.int (2 : Int32)), .val (.ref b11), .unset, .unset, .unset, .unset] [(.int (0 : Int32)), (.ref b11), (.int (0 : Int32)), (.ref b147), (.ref b147), (.ref b146), (.ref b146)])) (fun T A t r => XS.iconst A hx rfl (hb hby at_206) r) ?_
    have f148 := ((V145.ext E146).ext E147)
    refine Go.r (g' := (mkF m 208 #[.val (.int p1), .val (.int p2), .val (.int p3), .val (.int p4), .val (.int (5 : Int32)), .val (.int (2 : Int32)), .val (.ref b11), .unset, .unset, .unset, .unset] [(.int z13), (.int (0 : Int32)), (.ref b147), (.ref b147), (.ref b146), (.ref b146)])) (fun s' T L X eT hZ t r => own_ldC X hx hZ eT f148 (j := (0 : Int32)) ⟨by decide, by decide⟩ (v := (.int z13)) rfl (g := (mkF m 207 #[.val (.int p1), .val (.int p2), .val (.int p3), .val (.int p4), .val (.int (5 : Int32)), .val (.int (2 : Int32)), .val (.ref b11), .unset, .unset, .unset, .unset] [(.int (0 : Int32)), (.ref b11), (.int (0 : Int32)), (.ref b147), (.ref b147), (.ref b146), (.ref b146)])) rfl rfl (hb hby at_207) t r) ?_
    refine Go.w (g' := (mkF m 209 #[.val (.int p1), .val (.int p2), .val (.int p3), .val (.int p4), .val (.int (5 : Int32)), .val (.int (2 : Int32)), .val (.ref b11), .unset, .unset, .unset, .unset] [(.ref b147), (.ref b146), (.ref b146)])) (fun s' T L X eT hZ hown => own_stC X hx hZ eT V147 (j := (0 : Int32)) ⟨by decide, by decide⟩ (g := (mkF m 208 #[.val (.int p1), .val (.int p2), .val (.int p3), .val (.int p4), .val (.int (5 : Int32)), .val (.int (2 : Int32)), .val (.ref b11), .unset, .unset, .unset, .unset] [(.int z13), (.int (0 : Int32)), (.ref b147), (.ref b147), (.ref b146), (.ref b146)])) rfl rfl (hb hby at_208)) (Or.inr sz147) ?_
    intro h149 W149
    have V149 : Arv Z h149 b147 k147 .char (5 : Int32) [(.int z13), (.int (0 : Int32)), (.int (0 : Int32)), (.int (0 : Int32)), (.int (0 : Int32))] (.int (0 : Int32)) := own_set V147 (fits_nar_char _) W149 (congrArg Value.int (own_nar zb13)) 0 rfl (Nat.le_of_ble_eq_true rfl)
    refine Go.sp (g' := (mkF m 210 #[.val (.int p1), .val (.int p2), .val (.int p3), .val (.int p4), .val (.int (5 : Int32)), .val (.int (2 : Int32)), .val (.ref b11), .unset, .unset, .unset, .unset] [(.ref b147), (.ref b147), (.ref b146), (.ref b146)])) (fun T A t r => XS.dup A hx rfl (hb hby at_209) rfl rfl r) ?_
    refine Go.sp (g' := (mkF m 211 #[.val (.int p1), .val (.int p2), .val (.int p3), .val (.int p4), .val (.int (5 : Int32)), .val (.int (2 : Int32)), .val (.ref b11), .unset, .unset, .unset, .unset] [(.int (1 : Int32)), (.ref b147), (.ref b147), (.ref b146), (.ref b146)])) (fun T A t r => XS.iconst A hx rfl (hb hby at_210) r) ?_
    refine Go.sp (g' := (mkF m 213 #[.val (.int p1), .val (.int p2), .val (.int p3), .val (.int p4), .val (.int (5 : Int32)), .val (.int (2 : Int32)), .val (.ref b11), .unset, .unset, .unset, .unset] [(.ref b11), (.int (1 : Int32)), (.ref b147), (.ref b147), (.ref b146), (.ref b146)])) (fun T A t r => XS.aload A hx rfl (hb hby at_211) rfl rfl r) ?_
    refine Go.sp (g' := (mkF m 214 #[.val (.int p1), .val (.int p2), .val (.int p3), .val (.int p4), .val (.int (5 : Int32)), .val (.int (2 : Int32)), .val (.ref b11), .unset, .unset, .unset, .unset] [(.int (1 : Int32)), (.ref b11), (.int (1 : Int32)), (.ref b147), (.ref b147), (.ref b146), (.ref b146)])) (fun T A t r => XS.iconst A hx rfl (hb hby at_213) r) ?_
    have f150 := (V145.ext E146)
    have ne151 : b11 ≠ b147 := Nat.ne_of_lt (Nat.lt_of_lt_of_le f150.lt (Nat.le_of_eq g147.symm))
    have f152 := (f148.other W149 ne151)
    refine Go.r (g' := (mkF m 215 #[.val (.int p1), .val (.int p2), .val (.int p3), .val (.int p4), .val (.int (5 : Int32)), .val (.int (2 : Int32)), .val (.ref b11), .unset, .unset, .unset, .unset] [(.int z16), (.int (1 : Int32)), (.ref b147), (.ref b147), (.ref b146), (.ref b146)])) (fun s' T L X eT hZ t r => own_ldC X hx hZ eT f152 (j := (1 : Int32)) ⟨by decide, by decide⟩ (v := (.int z16)) rfl (g := (mkF m 214 #[.val (.int p1), .val (.int p2), .val (.int p3), .val (.int p4), .val (.int (5 : Int32)), .val (.int (2 : Int32)), .val (.ref b11), .unset, .unset, .unset, .unset] [(.int (1 : Int32)), (.ref b11), (.int (1 : Int32)), (.ref b147), (.ref b147), (.ref b146), (.ref b146)])) rfl rfl (hb hby at_214) t r) ?_
    refine Go.w (g' := (mkF m 216 #[.val (.int p1), .val (.int p2), .val (.int p3), .val (.int p4), .val (.int (5 : Int32)), .val (.int (2 : Int32)), .val (.ref b11), .unset, .unset, .unset, .unset] [(.ref b147), (.ref b146), (.ref b146)])) (fun s' T L X eT hZ hown => own_stC X hx hZ eT V149 (j := (1 : Int32)) ⟨by decide, by decide⟩ (g := (mkF m 215 #[.val (.int p1), .val (.int p2), .val (.int p3), .val (.int p4), .val (.int (5 : Int32)), .val (.int (2 : Int32)), .val (.ref b11), .unset, .unset, .unset, .unset] [(.int z16), (.int (1 : Int32)), (.ref b147), (.ref b147), (.ref b146), (.ref b146)])) rfl rfl (hb hby at_215)) (Or.inr sz147) ?_
    intro h153 W153
    have V153 : Arv Z h153 b147 k147 .char (5 : Int32) [(.int z13), (.int z16), (.int (0 : Int32)), (.int (0 : Int32)), (.int (0 : Int32))] (.int (0 : Int32)) := own_set V149 (fits_nar_char _) W153 (congrArg Value.int (own_nar zb16)) 1 rfl (Nat.le_of_ble_eq_true rfl)
    refine Go.sp (g' := (mkF m 217 #[.val (.int p1), .val (.int p2), .val (.int p3), .val (.int p4), .val (.int (5 : Int32)), .val (.int (2 : Int32)), .val (.ref b11), .unset, .unset, .unset, .unset] [(.ref b147), (.ref b147), (.ref b146), (.ref b146)])) (fun T A t r => XS.dup A hx rfl (hb hby at_216) rfl rfl r) ?_
    refine Go.sp (g' := (mkF m 218 #[.val (.int p1), .val (.int p2), .val (.int p3), .val (.int p4), .val (.int (5 : Int32)), .val (.int (2 : Int32)), .val (.ref b11), .unset, .unset, .unset, .unset] [(.int (2 : Int32)), (.ref b147), (.ref b147), (.ref b146), (.ref b146)])) (fun T A t r => XS.iconst A hx rfl (hb hby at_217) r) ?_
    refine Go.sp (g' := (mkF m 220 #[.val (.int p1), .val (.int p2), .val (.int p3), .val (.int p4), .val (.int (5 : Int32)), .val (.int (2 : Int32)), .val (.ref b11), .unset, .unset, .unset, .unset] [(.ref b11), (.int (2 : Int32)), (.ref b147), (.ref b147), (.ref b146), (.ref b146)])) (fun T A t r => XS.aload A hx rfl (hb hby at_218) rfl rfl r) ?_
    refine Go.sp (g' := (mkF m 221 #[.val (.int p1), .val (.int p2), .val (.int p3), .val (.int p4), .val (.int (5 : Int32)), .val (.int (2 : Int32)), .val (.ref b11), .unset, .unset, .unset, .unset] [(.int (2 : Int32)), (.ref b11), (.int (2 : Int32)), (.ref b147), (.ref b147), (.ref b146), (.ref b146)])) (fun T A t r => XS.iconst A hx rfl (hb hby at_220) r) ?_
    have f154 := (f152.other W153 ne151)
    refine Go.r (g' := (mkF m 222 #[.val (.int p1), .val (.int p2), .val (.int p3), .val (.int p4), .val (.int (5 : Int32)), .val (.int (2 : Int32)), .val (.ref b11), .unset, .unset, .unset, .unset] [(.int (64 : Int32)), (.int (2 : Int32)), (.ref b147), (.ref b147), (.ref b146), (.ref b146)])) (fun s' T L X eT hZ t r => own_ldC X hx hZ eT f154 (j := (2 : Int32)) ⟨by decide, by decide⟩ (v := (.int (64 : Int32))) rfl (g := (mkF m 221 #[.val (.int p1), .val (.int p2), .val (.int p3), .val (.int p4), .val (.int (5 : Int32)), .val (.int (2 : Int32)), .val (.ref b11), .unset, .unset, .unset, .unset] [(.int (2 : Int32)), (.ref b11), (.int (2 : Int32)), (.ref b147), (.ref b147), (.ref b146), (.ref b146)])) rfl rfl (hb hby at_221) t r) ?_
    refine Go.w (g' := (mkF m 223 #[.val (.int p1), .val (.int p2), .val (.int p3), .val (.int p4), .val (.int (5 : Int32)), .val (.int (2 : Int32)), .val (.ref b11), .unset, .unset, .unset, .unset] [(.ref b147), (.ref b146), (.ref b146)])) (fun s' T L X eT hZ hown => own_stC X hx hZ eT V153 (j := (2 : Int32)) ⟨by decide, by decide⟩ (g := (mkF m 222 #[.val (.int p1), .val (.int p2), .val (.int p3), .val (.int p4), .val (.int (5 : Int32)), .val (.int (2 : Int32)), .val (.ref b11), .unset, .unset, .unset, .unset] [(.int (64 : Int32)), (.int (2 : Int32)), (.ref b147), (.ref b147), (.ref b146), (.ref b146)])) rfl rfl (hb hby at_222)) (Or.inr sz147) ?_
    intro h155 W155
    have V155 : Arv Z h155 b147 k147 .char (5 : Int32) [(.int z13), (.int z16), (.int (64 : Int32)), (.int (0 : Int32)), (.int (0 : Int32))] (.int (0 : Int32)) := own_set V153 (fits_nar_char _) W155 rfl 2 rfl (Nat.le_of_ble_eq_true rfl)
    refine Go.sp (g' := (mkF m 224 #[.val (.int p1), .val (.int p2), .val (.int p3), .val (.int p4), .val (.int (5 : Int32)), .val (.int (2 : Int32)), .val (.ref b11), .unset, .unset, .unset, .unset] [(.ref b147), (.ref b147), (.ref b146), (.ref b146)])) (fun T A t r => XS.dup A hx rfl (hb hby at_223) rfl rfl r) ?_
    refine Go.sp (g' := (mkF m 225 #[.val (.int p1), .val (.int p2), .val (.int p3), .val (.int p4), .val (.int (5 : Int32)), .val (.int (2 : Int32)), .val (.ref b11), .unset, .unset, .unset, .unset] [(.int (3 : Int32)), (.ref b147), (.ref b147), (.ref b146), (.ref b146)])) (fun T A t r => XS.iconst A hx rfl (hb hby at_224) r) ?_
    refine Go.sp (g' := (mkF m 227 #[.val (.int p1), .val (.int p2), .val (.int p3), .val (.int p4), .val (.int (5 : Int32)), .val (.int (2 : Int32)), .val (.ref b11), .unset, .unset, .unset, .unset] [(.ref b11), (.int (3 : Int32)), (.ref b147), (.ref b147), (.ref b146), (.ref b146)])) (fun T A t r => XS.aload A hx rfl (hb hby at_225) rfl rfl r) ?_
    refine Go.sp (g' := (mkF m 228 #[.val (.int p1), .val (.int p2), .val (.int p3), .val (.int p4), .val (.int (5 : Int32)), .val (.int (2 : Int32)), .val (.ref b11), .unset, .unset, .unset, .unset] [(.int (3 : Int32)), (.ref b11), (.int (3 : Int32)), (.ref b147), (.ref b147), (.ref b146), (.ref b146)])) (fun T A t r => XS.iconst A hx rfl (hb hby at_227) r) ?_
    have f156 := (f154.other W155 ne151)
    refine Go.r (g' := (mkF m 229 #[.val (.int p1), .val (.int p2), .val (.int p3), .val (.int p4), .val (.int (5 : Int32)), .val (.int (2 : Int32)), .val (.ref b11), .unset, .unset, .unset, .unset] [(.int z22), (.int (3 : Int32)), (.ref b147), (.ref b147), (.ref b146), (.ref b146)])) (fun s' T L X eT hZ t r => own_ldC X hx hZ eT f156 (j := (3 : Int32)) ⟨by decide, by decide⟩ (v := (.int z22)) rfl (g := (mkF m 228 #[.val (.int p1), .val (.int p2), .val (.int p3), .val (.int p4), .val (.int (5 : Int32)), .val (.int (2 : Int32)), .val (.ref b11), .unset, .unset, .unset, .unset] [(.int (3 : Int32)), (.ref b11), (.int (3 : Int32)), (.ref b147), (.ref b147), (.ref b146), (.ref b146)])) rfl rfl (hb hby at_228) t r) ?_
    refine Go.w (g' := (mkF m 230 #[.val (.int p1), .val (.int p2), .val (.int p3), .val (.int p4), .val (.int (5 : Int32)), .val (.int (2 : Int32)), .val (.ref b11), .unset, .unset, .unset, .unset] [(.ref b147), (.ref b146), (.ref b146)])) (fun s' T L X eT hZ hown => own_stC X hx hZ eT V155 (j := (3 : Int32)) ⟨by decide, by decide⟩ (g := (mkF m 229 #[.val (.int p1), .val (.int p2), .val (.int p3), .val (.int p4), .val (.int (5 : Int32)), .val (.int (2 : Int32)), .val (.ref b11), .unset, .unset, .unset, .unset] [(.int z22), (.int (3 : Int32)), (.ref b147), (.ref b147), (.ref b146), (.ref b146)])) rfl rfl (hb hby at_229)) (Or.inr sz147) ?_
    intro h157 W157
    have V157 : Arv Z h157 b147 k147 .char (5 : Int32) [(.int z13), (.int z16), (.int (64 : Int32)), (.int z22), (.int (0 : Int32))] (.int (0 : Int32)) := own_set V155 (fits_nar_char _) W157 (congrArg Value.int (own_nar zb22)) 3 rfl (Nat.le_of_ble_eq_true rfl)
    refine Go.sp (g' := (mkF m 231 #[.val (.int p1), .val (.int p2), .val (.int p3), .val (.int p4), .val (.int (5 : Int32)), .val (.int (2 : Int32)), .val (.ref b11), .unset, .unset, .unset, .unset] [(.ref b147), (.ref b147), (.ref b146), (.ref b146)])) (fun T A t r => XS.dup A hx rfl (hb hby at_230) rfl rfl r) ?_
    refine Go.sp (g' := (mkF m 232 #[.val (.int p1), .val (.int p2), .val (.int p3), .val (.int p4), .val (.int (5 : Int32)), .val (.int (2 : Int32)), .val (.ref b11), .unset, .unset, .unset, .unset] [(.int (4 : Int32)), (.ref b147), (.ref b147), (.ref b146), (.ref b146)])) (fun T A t r => XS.iconst A hx rfl (hb hby at_231) r) ?_
    refine Go.sp (g' := (mkF m 234 #[.val (.int p1), .val (.int p2), .val (.int p3), .val (.int p4), .val (.int (5 : Int32)), .val (.int (2 : Int32)), .val (.ref b11), .unset, .unset, .unset, .unset] [(.ref b11), (.int (4 : Int32)), (.ref b147), (.ref b147), (.ref b146), (.ref b146)])) (fun T A t r => XS.aload A hx rfl (hb hby at_232) rfl rfl r) ?_
    refine Go.sp (g' := (mkF m 235 #[.val (.int p1), .val (.int p2), .val (.int p3), .val (.int p4), .val (.int (5 : Int32)), .val (.int (2 : Int32)), .val (.ref b11), .unset, .unset, .unset, .unset] [(.int (4 : Int32)), (.ref b11), (.int (4 : Int32)), (.ref b147), (.ref b147), (.ref b146), (.ref b146)])) (fun T A t r => XS.iconst A hx rfl (hb hby at_234) r) ?_
    have f158 := (f156.other W157 ne151)
    refine Go.r (g' := (mkF m 236 #[.val (.int p1), .val (.int p2), .val (.int p3), .val (.int p4), .val (.int (5 : Int32)), .val (.int (2 : Int32)), .val (.ref b11), .unset, .unset, .unset, .unset] [(.int z25), (.int (4 : Int32)), (.ref b147), (.ref b147), (.ref b146), (.ref b146)])) (fun s' T L X eT hZ t r => own_ldC X hx hZ eT f158 (j := (4 : Int32)) ⟨by decide, by decide⟩ (v := (.int z25)) rfl (g := (mkF m 235 #[.val (.int p1), .val (.int p2), .val (.int p3), .val (.int p4), .val (.int (5 : Int32)), .val (.int (2 : Int32)), .val (.ref b11), .unset, .unset, .unset, .unset] [(.int (4 : Int32)), (.ref b11), (.int (4 : Int32)), (.ref b147), (.ref b147), (.ref b146), (.ref b146)])) rfl rfl (hb hby at_235) t r) ?_
    refine Go.w (g' := (mkF m 237 #[.val (.int p1), .val (.int p2), .val (.int p3), .val (.int p4), .val (.int (5 : Int32)), .val (.int (2 : Int32)), .val (.ref b11), .unset, .unset, .unset, .unset] [(.ref b147), (.ref b146), (.ref b146)])) (fun s' T L X eT hZ hown => own_stC X hx hZ eT V157 (j := (4 : Int32)) ⟨by decide, by decide⟩ (g := (mkF m 236 #[.val (.int p1), .val (.int p2), .val (.int p3), .val (.int p4), .val (.int (5 : Int32)), .val (.int (2 : Int32)), .val (.ref b11), .unset, .unset, .unset, .unset] [(.int z25), (.int (4 : Int32)), (.ref b147), (.ref b147), (.ref b146), (.ref b146)])) rfl rfl (hb hby at_236)) (Or.inr sz147) ?_
    intro h159 W159
    have V159 : Arv Z h159 b147 k147 .char (5 : Int32) [(.int z13), (.int z16), (.int (64 : Int32)), (.int z22), (.int z25)] (.int (0 : Int32)) := own_set V157 (fits_nar_char _) W159 (congrArg Value.int (own_nar zb25)) 4 rfl (Nat.le_of_ble_eq_true rfl)
    have f160 := ((((((A146.ext E147).wr W149).wr W153).wr W155).wr W157).wr W159)
    have ne161 : b146 ≠ b147 := Nat.ne_of_lt (Nat.lt_of_lt_of_le A146.lt (Nat.le_of_eq g147.symm))
    have f162 := ((((((F146_value.ext E147).other W149 (Or.inl ne161)).other W153 (Or.inl ne161)).other W155 (Or.inl ne161)).other W157 (Or.inl ne161)).other W159 (Or.inl ne161))
    have f163 := ((((((F146_coder.ext E147).other W149 (Or.inl ne161)).other W153 (Or.inl ne161)).other W155 (Or.inl ne161)).other W157 (Or.inl ne161)).other W159 (Or.inl ne161))
    refine Go.old fun O164 => ?_
    have lat165 : ∀ c ∈ [z13, z16, (64 : Int32), z22, z25], ¬ c < 0 ∧ ¬ (255 : Int32) < c := own_allc zb13 (own_allc zb16 (own_allc (by decide) (own_allc zb22 (own_allc zb25 (own_allc0)))))
    refine Go.callC (a := b146) (ws' := [b146]) (W := 1) (y := (⟨"java/lang/String", "<init>", "([C)V"⟩ : MethodName)) (argsL := [(.ref b147)]) (rest := [(.ref b146)]) (pc' := 240) (k' := 4) (n' := 20) (hb hby at_237) rfl (own_w hw 9 rfl) (own_w hw 10 rfl) (own_w hw 11 rfl) (by decide) (fun s' hZ => own_str hw (own_w hw 7 rfl) hZ (cs := [z13, z16, (64 : Int32), z22, z25]) (n := 5) (Nat.le_trans (Old.le O0) sz146) O164 f160 f162 f163 V159 S0 P0 rfl rfl (by decide) (by decide) lat165 (by decide) (by decide)) (by rw [hml]; rfl) (lenOf pd_15 rfl) rfl (Nat.le_of_ble_eq_true rfl) rfl rfl rfl (by decide) (by decide) (allS (Or.inr sz146) all0) ?_
    rintro v166 h166 K166 ⟨rfl, E166, C166, t166, kb166, ge166, V166, B166⟩
    refine Go.cast (g' := (mkF m 240 #[.val (.int p1), .val (.int p2), .val (.int p3), .val (.int p4), .val (.int (5 : Int32)), .val (.int (2 : Int32)), .val (.ref b11), .unset, .unset, .unset, .unset] [(.ref b146)])) rfl ?_
    refine Go.sp (g' := (mkF m 242 #[.val (.int p1), .val (.int p2), .val (.int p3), .val (.int p4), .val (.int (5 : Int32)), .val (.int (2 : Int32)), .val (.ref b11), .val (.ref b146), .unset, .unset, .unset] [])) (fun T A t r => XS.astore A hx rfl (hb hby at_240) rfl rfl (l' := #[.val (.int p1), .val (.int p2), .val (.int p3), .val (.int p4), .val (.int (5 : Int32)), .val (.int (2 : Int32)), .val (.ref b11), .val (.ref b146), .unset, .unset, .unset]) rfl r) ?_
    refine Go.sp (g' := (mkF m 300 #[.val (.int p1), .val (.int p2), .val (.int p3), .val (.int p4), .val (.int (5 : Int32)), .val (.int (2 : Int32)), .val (.ref b11), .val (.ref b146), .unset, .unset, .unset] [])) (fun T A t r => XS.goto A hx rfl (pc0 := 242) (pc' := 300) rfl (hb hby at_242) (by decide) (by decide) r) ?_
    refine Go.sp (g' := (mkF m 302 #[.val (.int p1), .val (.int p2), .val (.int p3), .val (.int p4), .val (.int (5 : Int32)), .val (.int (2 : Int32)), .val (.ref b11), .val (.ref b146), .unset, .unset, .unset] [(.ref b146)])) (fun T A t r => XS.aload A hx rfl (hb hby at_300) rfl rfl r) ?_
    refine Go.old fun O167 => ?_
    refine Go.callS (ws' := []) (W := 0) (y := (⟨"com/example/slow_digest/slowdigest/rules/MailAddress", "domain", "(Ljava/lang/String;)Ljava/lang/String;"⟩ : MethodName)) (argsL := [(.ref b146)]) (rest := []) (pc' := 305) (k' := 6) (n' := 32) (hb hby at_302) (own_w hw 35 rfl) (own_w hw 36 rfl) (own_w hw 37 rfl) (own_w hw 38 rfl) (by decide) (fun s' hZ => Ct.bk (rmD l Z a0 hw [] b146 t166 kb166 [z13, z16, (64 : Int32), z22, z25] 2 zS fm h166 n0 O167 E166 C166 V166 B166 lat165 (Nat.le_of_ble_eq_true rfl) (Nat.le_of_ble_eq_true rfl) rfl (own_lt2 zn13 zn16) (Nat.le_of_ble_eq_true rfl) S0 P0 SF RF) hZ (own_w hw 38 rfl) (own_w hw 37 rfl) (by decide) (by decide)) (by rw [hml]; rfl) (lenOf pd_16 rfl) rfl (Nat.le_of_ble_eq_true rfl) rfl rfl rfl (by decide) (by decide) all0 ?_
    rintro v168 h168 K168 ⟨a168, t168, kb168, rfl, E168, C168, V168, B168⟩
    refine Go.cast (g' := (mkF m 305 #[.val (.int p1), .val (.int p2), .val (.int p3), .val (.int p4), .val (.int (5 : Int32)), .val (.int (2 : Int32)), .val (.ref b11), .val (.ref b146), .unset, .unset, .unset] [(.ref a168)])) rfl ?_
    have D168 : Arv Z h168 t168 kb168 .byte (2 : Int32) (([z22, z25].map fun c => c.toInt8.toInt32).map Value.int) (.int 0) := B168
    have lat169 : ∀ c ∈ [z22, z25], ¬ c < 0 ∧ ¬ (255 : Int32) < c := own_allc zb22 (own_allc zb25 (own_allc0))
    refine Go.sp (g' := (mkF m 307 #[.val (.int p1), .val (.int p2), .val (.int p3), .val (.int p4), .val (.int (5 : Int32)), .val (.int (2 : Int32)), .val (.ref b11), .val (.ref b146), .val (.ref a168), .unset, .unset] [])) (fun T A t r => XS.astore A hx rfl (hb hby at_305) rfl rfl (l' := #[.val (.int p1), .val (.int p2), .val (.int p3), .val (.int p4), .val (.int (5 : Int32)), .val (.int (2 : Int32)), .val (.ref b11), .val (.ref b146), .val (.ref a168), .unset, .unset]) rfl r) ?_
    refine Go.sp (g' := (mkF m 309 #[.val (.int p1), .val (.int p2), .val (.int p3), .val (.int p4), .val (.int (5 : Int32)), .val (.int (2 : Int32)), .val (.ref b11), .val (.ref b146), .val (.ref a168), .unset, .unset] [(.int (5 : Int32))])) (fun T A t r => XS.iload A hx rfl (hb hby at_307) rfl r) ?_
    refine Go.sp (g' := (mkF m 311 #[.val (.int p1), .val (.int p2), .val (.int p3), .val (.int p4), .val (.int (5 : Int32)), .val (.int (2 : Int32)), .val (.ref b11), .val (.ref b146), .val (.ref a168), .unset, .unset] [(.int (2 : Int32)), (.int (5 : Int32))])) (fun T A t r => XS.iload A hx rfl (hb hby at_309) rfl r) ?_
    refine Go.sp (g' := (mkF m 312 #[.val (.int p1), .val (.int p2), .val (.int p3), .val (.int p4), .val (.int (5 : Int32)), .val (.int (2 : Int32)), .val (.ref b11), .val (.ref b146), .val (.ref a168), .unset, .unset] [(.int (3 : Int32))])) (fun T A t r => XS.isub A hx rfl (hb hby at_311) rfl r) ?_
    refine Go.sp (g' := (mkF m 313 #[.val (.int p1), .val (.int p2), .val (.int p3), .val (.int p4), .val (.int (5 : Int32)), .val (.int (2 : Int32)), .val (.ref b11), .val (.ref b146), .val (.ref a168), .unset, .unset] [(.int (1 : Int32)), (.int (3 : Int32))])) (fun T A t r => XS.iconst A hx rfl (hb hby at_312) r) ?_
    refine Go.sp (g' := (mkF m 314 #[.val (.int p1), .val (.int p2), .val (.int p3), .val (.int p4), .val (.int (5 : Int32)), .val (.int (2 : Int32)), .val (.ref b11), .val (.ref b146), .val (.ref a168), .unset, .unset] [(.int (2 : Int32))])) (fun T A t r => XS.isub A hx rfl (hb hby at_313) rfl r) ?_
    refine Go.sp (g' := (mkF m 316 #[.val (.int p1), .val (.int p2), .val (.int p3), .val (.int p4), .val (.int (5 : Int32)), .val (.int (2 : Int32)), .val (.ref b11), .val (.ref b146), .val (.ref a168), .val (.int (2 : Int32)), .unset] [])) (fun T A t r => XS.istore A hx rfl (hb hby at_314) rfl (l' := #[.val (.int p1), .val (.int p2), .val (.int p3), .val (.int p4), .val (.int (5 : Int32)), .val (.int (2 : Int32)), .val (.ref b11), .val (.ref b146), .val (.ref a168), .val (.int (2 : Int32)), .unset]) rfl r) ?_
    refine Go.sp (g' := (mkF m 318 #[.val (.int p1), .val (.int p2), .val (.int p3), .val (.int p4), .val (.int (5 : Int32)), .val (.int (2 : Int32)), .val (.ref b11), .val (.ref b146), .val (.ref a168), .val (.int (2 : Int32)), .unset] [(.ref a168)])) (fun T A t r => XS.aload A hx rfl (hb hby at_316) rfl rfl r) ?_
    refine Go.old fun O170 => ?_
    refine Go.callVP (a := a168) (z := (⟨"java/lang/String", "length", "()I"⟩ : MethodName)) (W := 0) (y := (⟨"java/lang/String", "length", "()I"⟩ : MethodName)) (argsL := []) (rest := []) (pc' := 321) (hb hby at_318) (own_w hw 121 rfl) (own_w hw 55 rfl) (fun s' hZ => notFace_of_selects (args := #[]) (mvT hZ (own_w hw 57 rfl))) (own_w hw 57 rfl) (own_w hw 56 rfl) (by decide) (fun s' hZ => Bk.pure (StrChars.Road.lenW (kI := 4) (cs := [z22, z25]) hZ (own_lenw hw) (own_w hw 7 rfl) E168 V168 C168 D168 (own_cod rfl lat169) (own_up lat169) (S0.ext O170.2) P0 (by show 2 ≤ 4000; decide) (by decide) (by decide))) E168 (by rw [hml]; rfl) (lenOf pd_4 rfl) rfl (Nat.le_of_ble_eq_true rfl) rfl (by decide) (by decide) ?_
    rintro v171 rfl
    refine Go.cast (g' := (mkF m 321 #[.val (.int p1), .val (.int p2), .val (.int p3), .val (.int p4), .val (.int (5 : Int32)), .val (.int (2 : Int32)), .val (.ref b11), .val (.ref b146), .val (.ref a168), .val (.int (2 : Int32)), .unset] [(.int (2 : Int32))])) rfl ?_
    refine Go.sp (g' := (mkF m 323 #[.val (.int p1), .val (.int p2), .val (.int p3), .val (.int p4), .val (.int (5 : Int32)), .val (.int (2 : Int32)), .val (.ref b11), .val (.ref b146), .val (.ref a168), .val (.int (2 : Int32)), .unset] [(.int (2 : Int32)), (.int (2 : Int32))])) (fun T A t r => XS.iload A hx rfl (hb hby at_321) rfl r) ?_
    refine Go.sp (g' := (mkF m 328 #[.val (.int p1), .val (.int p2), .val (.int p3), .val (.int p4), .val (.int (5 : Int32)), .val (.int (2 : Int32)), .val (.ref b11), .val (.ref b146), .val (.ref a168), .val (.int (2 : Int32)), .unset] [])) (fun T A t r => XS.icmpYes A hx rfl (pc0 := 323) (pc' := 328) rfl (hb hby at_323) rfl (teq (by decide : ((2 : Int32) = (2 : Int32)))).1 (by decide) (by decide) r) ?_
    refine Go.sp (g' := (mkF m 329 #[.val (.int p1), .val (.int p2), .val (.int p3), .val (.int p4), .val (.int (5 : Int32)), .val (.int (2 : Int32)), .val (.ref b11), .val (.ref b146), .val (.ref a168), .val (.int (2 : Int32)), .unset] [(.int (1 : Int32))])) (fun T A t r => XS.iconst A hx rfl (hb hby at_328) r) ?_
    refine Go.sp (g' := (mkF m 331 #[.val (.int p1), .val (.int p2), .val (.int p3), .val (.int p4), .val (.int (5 : Int32)), .val (.int (2 : Int32)), .val (.ref b11), .val (.ref b146), .val (.ref a168), .val (.int (2 : Int32)), .val (.int (1 : Int32))] [])) (fun T A t r => XS.istore A hx rfl (hb hby at_329) rfl (l' := #[.val (.int p1), .val (.int p2), .val (.int p3), .val (.int p4), .val (.int (5 : Int32)), .val (.int (2 : Int32)), .val (.ref b11), .val (.ref b146), .val (.ref a168), .val (.int (2 : Int32)), .val (.int (1 : Int32))]) rfl r) ?_
    refine Go.sp (g' := (mkF m 332 #[.val (.int p1), .val (.int p2), .val (.int p3), .val (.int p4), .val (.int (5 : Int32)), .val (.int (2 : Int32)), .val (.ref b11), .val (.ref b146), .val (.ref a168), .val (.int (2 : Int32)), .val (.int (1 : Int32))] [(.int (0 : Int32))])) (fun T A t r => XS.iconst A hx rfl (hb hby at_331) r) ?_
    refine Go.sp (g' := (mkF m 334 #[.val (.int p1), .val (.int p2), .val (.int p3), .val (.int p4), .val (.int (5 : Int32)), .val (.int (2 : Int32)), .val (.ref b11), .val (.ref b146), .val (.ref a168), .val (.int (2 : Int32)), .val (.int (1 : Int32))] [(.int (2 : Int32)), (.int (0 : Int32))])) (fun T A t r => XS.iload A hx rfl (hb hby at_332) rfl r) ?_
    refine Go.sp (g' := (mkF m 337 #[.val (.int p1), .val (.int p2), .val (.int p3), .val (.int p4), .val (.int (5 : Int32)), .val (.int (2 : Int32)), .val (.ref b11), .val (.ref b146), .val (.ref a168), .val (.int (2 : Int32)), .val (.int (1 : Int32))] [])) (fun T A t r => XS.icmpNo A hx rfl (hb hby at_334) rfl (tlt (by decide : ((0 : Int32) < (2 : Int32)))).2.1 r) ?_
    refine Go.sp (g' := (mkF m 339 #[.val (.int p1), .val (.int p2), .val (.int p3), .val (.int p4), .val (.int (5 : Int32)), .val (.int (2 : Int32)), .val (.ref b11), .val (.ref b146), .val (.ref a168), .val (.int (2 : Int32)), .val (.int (1 : Int32))] [(.int (1 : Int32))])) (fun T A t r => XS.iload A hx rfl (hb hby at_337) rfl r) ?_
    refine Go.sp (g' := (mkF m 342 #[.val (.int p1), .val (.int p2), .val (.int p3), .val (.int p4), .val (.int (5 : Int32)), .val (.int (2 : Int32)), .val (.ref b11), .val (.ref b146), .val (.ref a168), .val (.int (2 : Int32)), .val (.int (1 : Int32))] [])) (fun T A t r => XS.ifNo A hx rfl (hb hby at_339) rfl ((if0 _ _).trans (feq (by decide : ¬ ((1 : Int32) = (0 : Int32)))).1) r) ?_
    refine Go.sp (g' := (mkF m 344 #[.val (.int p1), .val (.int p2), .val (.int p3), .val (.int p4), .val (.int (5 : Int32)), .val (.int (2 : Int32)), .val (.ref b11), .val (.ref b146), .val (.ref a168), .val (.int (2 : Int32)), .val (.int (1 : Int32))] [(.ref a168)])) (fun T A t r => XS.aload A hx rfl (hb hby at_342) rfl rfl r) ?_
    refine Go.sp (g' := (mkF m 345 #[.val (.int p1), .val (.int p2), .val (.int p3), .val (.int p4), .val (.int (5 : Int32)), .val (.int (2 : Int32)), .val (.ref b11), .val (.ref b146), .val (.ref a168), .val (.int (2 : Int32)), .val (.int (1 : Int32))] [(.int (0 : Int32)), (.ref a168)])) (fun T A t r => XS.iconst A hx rfl (hb hby at_344) r) ?_
    refine Go.callVP (a := a168) (z := (⟨"java/lang/String", "charAt", "(I)C"⟩ : MethodName)) (W := 0) (y := (⟨"java/lang/String", "charAt", "(I)C"⟩ : MethodName)) (argsL := [(.int (0 : Int32))]) (rest := []) (pc' := 348) (hb hby at_345) (own_w hw 122 rfl) (own_w hw 123 rfl) (fun s' hZ => notFace_of_selects (args := #[]) (mvT hZ (own_w hw 125 rfl))) (own_w hw 125 rfl) (own_w hw 124 rfl) (by decide) (fun s' hZ => Bk.pure (StrChars.Road.chN (kI := 4) (cs := [z22, z25]) (i := 0) hZ (own_chwd hw) (own_w hw 7 rfl) E168 V168 C168 D168 (own_cod rfl lat169) (own_up lat169) (S0.ext O170.2) P0 (SF.ext O170.2) RF (by show 2 ≤ 4000; decide) (by show 0 < 2; decide) rfl (by decide) (by decide))) E168 (by rw [hml]; rfl) (lenOf pd_14 rfl) rfl (Nat.le_of_ble_eq_true rfl) rfl (by decide) (by decide) ?_
    rintro v172 rfl
    refine Go.cast (g' := (mkF m 348 #[.val (.int p1), .val (.int p2), .val (.int p3), .val (.int p4), .val (.int (5 : Int32)), .val (.int (2 : Int32)), .val (.ref b11), .val (.ref b146), .val (.ref a168), .val (.int (2 : Int32)), .val (.int (1 : Int32))] [(.int z22)])) rfl ?_
    refine Go.sp (g' := (mkF m 350 #[.val (.int p1), .val (.int p2), .val (.int p3), .val (.int p4), .val (.int (5 : Int32)), .val (.int (2 : Int32)), .val (.ref b11), .val (.ref b146), .val (.ref a168), .val (.int (2 : Int32)), .val (.int (1 : Int32))] [(.ref b11), (.int z22)])) (fun T A t r => XS.aload A hx rfl (hb hby at_348) rfl rfl r) ?_
    refine Go.sp (g' := (mkF m 352 #[.val (.int p1), .val (.int p2), .val (.int p3), .val (.int p4), .val (.int (5 : Int32)), .val (.int (2 : Int32)), .val (.ref b11), .val (.ref b146), .val (.ref a168), .val (.int (2 : Int32)), .val (.int (1 : Int32))] [(.int (2 : Int32)), (.ref b11), (.int z22)])) (fun T A t r => XS.iload A hx rfl (hb hby at_350) rfl r) ?_
    refine Go.sp (g' := (mkF m 353 #[.val (.int p1), .val (.int p2), .val (.int p3), .val (.int p4), .val (.int (5 : Int32)), .val (.int (2 : Int32)), .val (.ref b11), .val (.ref b146), .val (.ref a168), .val (.int (2 : Int32)), .val (.int (1 : Int32))] [(.int (1 : Int32)), (.int (2 : Int32)), (.ref b11), (.int z22)])) (fun T A t r => XS.iconst A hx rfl (hb hby at_352) r) ?_
    refine Go.sp (g' := (mkF m 354 #[.val (.int p1), .val (.int p2), .val (.int p3), .val (.int p4), .val (.int (5 : Int32)), .val (.int (2 : Int32)), .val (.ref b11), .val (.ref b146), .val (.ref a168), .val (.int (2 : Int32)), .val (.int (1 : Int32))] [(.int (3 : Int32)), (.ref b11), (.int z22)])) (fun T A t r => XS.iadd A hx rfl (hb hby at_353) rfl r) ?_
    have ne173 : b11 ≠ b146 := Nat.ne_of_lt (Nat.lt_of_lt_of_le V145.lt (Nat.le_of_eq g146.symm))
    have f174 := (((f158.other W159 ne151).keep K166 (ninS ne173 nin0)).keep K168 nin0)
    refine Go.r (g' := (mkF m 355 #[.val (.int p1), .val (.int p2), .val (.int p3), .val (.int p4), .val (.int (5 : Int32)), .val (.int (2 : Int32)), .val (.ref b11), .val (.ref b146), .val (.ref a168), .val (.int (2 : Int32)), .val (.int (1 : Int32))] [(.int z22), (.int z22)])) (fun s' T L X eT hZ t r => own_ldC X hx hZ eT f174 (j := (3 : Int32)) ⟨by decide, by decide⟩ (v := (.int z22)) rfl (g := (mkF m 354 #[.val (.int p1), .val (.int p2), .val (.int p3), .val (.int p4), .val (.int (5 : Int32)), .val (.int (2 : Int32)), .val (.ref b11), .val (.ref b146), .val (.ref a168), .val (.int (2 : Int32)), .val (.int (1 : Int32))] [(.int (3 : Int32)), (.ref b11), (.int z22)])) rfl rfl (hb hby at_354) t r) ?_
    refine Go.sp (g' := (mkF m 358 #[.val (.int p1), .val (.int p2), .val (.int p3), .val (.int p4), .val (.int (5 : Int32)), .val (.int (2 : Int32)), .val (.ref b11), .val (.ref b146), .val (.ref a168), .val (.int (2 : Int32)), .val (.int (1 : Int32))] [])) (fun T A t r => XS.icmpNo A hx rfl (hb hby at_355) rfl (teq (rfl : z22 = z22)).2 r) ?_
    refine Go.sp (g' := (mkF m 359 #[.val (.int p1), .val (.int p2), .val (.int p3), .val (.int p4), .val (.int (5 : Int32)), .val (.int (2 : Int32)), .val (.ref b11), .val (.ref b146), .val (.ref a168), .val (.int (2 : Int32)), .val (.int (1 : Int32))] [(.int (1 : Int32))])) (fun T A t r => XS.iconst A hx rfl (hb hby at_358) r) ?_
    refine Go.sp (g' := (mkF m 363 #[.val (.int p1), .val (.int p2), .val (.int p3), .val (.int p4), .val (.int (5 : Int32)), .val (.int (2 : Int32)), .val (.ref b11), .val (.ref b146), .val (.ref a168), .val (.int (2 : Int32)), .val (.int (1 : Int32))] [(.int (1 : Int32))])) (fun T A t r => XS.goto A hx rfl (pc0 := 359) (pc' := 363) rfl (hb hby at_359) (by decide) (by decide) r) ?_
    refine Go.sp (g' := (mkF m 365 #[.val (.int p1), .val (.int p2), .val (.int p3), .val (.int p4), .val (.int (5 : Int32)), .val (.int (2 : Int32)), .val (.ref b11), .val (.ref b146), .val (.ref a168), .val (.int (2 : Int32)), .val (.int (1 : Int32))] [])) (fun T A t r => XS.istore A hx rfl (hb hby at_363) rfl (l' := #[.val (.int p1), .val (.int p2), .val (.int p3), .val (.int p4), .val (.int (5 : Int32)), .val (.int (2 : Int32)), .val (.ref b11), .val (.ref b146), .val (.ref a168), .val (.int (2 : Int32)), .val (.int (1 : Int32))]) rfl r) ?_
    refine Go.sp (g' := (mkF m 366 #[.val (.int p1), .val (.int p2), .val (.int p3), .val (.int p4), .val (.int (5 : Int32)), .val (.int (2 : Int32)), .val (.ref b11), .val (.ref b146), .val (.ref a168), .val (.int (2 : Int32)), .val (.int (1 : Int32))] [(.int (1 : Int32))])) (fun T A t r => XS.iconst A hx rfl (hb hby at_365) r) ?_
    refine Go.sp (g' := (mkF m 368 #[.val (.int p1), .val (.int p2), .val (.int p3), .val (.int p4), .val (.int (5 : Int32)), .val (.int (2 : Int32)), .val (.ref b11), .val (.ref b146), .val (.ref a168), .val (.int (2 : Int32)), .val (.int (1 : Int32))] [(.int (2 : Int32)), (.int (1 : Int32))])) (fun T A t r => XS.iload A hx rfl (hb hby at_366) rfl r) ?_
    refine Go.sp (g' := (mkF m 371 #[.val (.int p1), .val (.int p2), .val (.int p3), .val (.int p4), .val (.int (5 : Int32)), .val (.int (2 : Int32)), .val (.ref b11), .val (.ref b146), .val (.ref a168), .val (.int (2 : Int32)), .val (.int (1 : Int32))] [])) (fun T A t r => XS.icmpNo A hx rfl (hb hby at_368) rfl (tlt (by decide : ((1 : Int32) < (2 : Int32)))).2.1 r) ?_
    refine Go.sp (g' := (mkF m 373 #[.val (.int p1), .val (.int p2), .val (.int p3), .val (.int p4), .val (.int (5 : Int32)), .val (.int (2 : Int32)), .val (.ref b11), .val (.ref b146), .val (.ref a168), .val (.int (2 : Int32)), .val (.int (1 : Int32))] [(.int (1 : Int32))])) (fun T A t r => XS.iload A hx rfl (hb hby at_371) rfl r) ?_
    refine Go.sp (g' := (mkF m 376 #[.val (.int p1), .val (.int p2), .val (.int p3), .val (.int p4), .val (.int (5 : Int32)), .val (.int (2 : Int32)), .val (.ref b11), .val (.ref b146), .val (.ref a168), .val (.int (2 : Int32)), .val (.int (1 : Int32))] [])) (fun T A t r => XS.ifNo A hx rfl (hb hby at_373) rfl ((if0 _ _).trans (feq (by decide : ¬ ((1 : Int32) = (0 : Int32)))).1) r) ?_
    refine Go.sp (g' := (mkF m 378 #[.val (.int p1), .val (.int p2), .val (.int p3), .val (.int p4), .val (.int (5 : Int32)), .val (.int (2 : Int32)), .val (.ref b11), .val (.ref b146), .val (.ref a168), .val (.int (2 : Int32)), .val (.int (1 : Int32))] [(.ref a168)])) (fun T A t r => XS.aload A hx rfl (hb hby at_376) rfl rfl r) ?_
    refine Go.sp (g' := (mkF m 379 #[.val (.int p1), .val (.int p2), .val (.int p3), .val (.int p4), .val (.int (5 : Int32)), .val (.int (2 : Int32)), .val (.ref b11), .val (.ref b146), .val (.ref a168), .val (.int (2 : Int32)), .val (.int (1 : Int32))] [(.int (1 : Int32)), (.ref a168)])) (fun T A t r => XS.iconst A hx rfl (hb hby at_378) r) ?_
    refine Go.callVP (a := a168) (z := (⟨"java/lang/String", "charAt", "(I)C"⟩ : MethodName)) (W := 0) (y := (⟨"java/lang/String", "charAt", "(I)C"⟩ : MethodName)) (argsL := [(.int (1 : Int32))]) (rest := []) (pc' := 382) (hb hby at_379) (own_w hw 122 rfl) (own_w hw 123 rfl) (fun s' hZ => notFace_of_selects (args := #[]) (mvT hZ (own_w hw 125 rfl))) (own_w hw 125 rfl) (own_w hw 124 rfl) (by decide) (fun s' hZ => Bk.pure (StrChars.Road.chN (kI := 4) (cs := [z22, z25]) (i := 1) hZ (own_chwd hw) (own_w hw 7 rfl) E168 V168 C168 D168 (own_cod rfl lat169) (own_up lat169) (S0.ext O170.2) P0 (SF.ext O170.2) RF (by show 2 ≤ 4000; decide) (by show 1 < 2; decide) rfl (by decide) (by decide))) E168 (by rw [hml]; rfl) (lenOf pd_14 rfl) rfl (Nat.le_of_ble_eq_true rfl) rfl (by decide) (by decide) ?_
    rintro v175 rfl
    refine Go.cast (g' := (mkF m 382 #[.val (.int p1), .val (.int p2), .val (.int p3), .val (.int p4), .val (.int (5 : Int32)), .val (.int (2 : Int32)), .val (.ref b11), .val (.ref b146), .val (.ref a168), .val (.int (2 : Int32)), .val (.int (1 : Int32))] [(.int z25)])) rfl ?_
    refine Go.sp (g' := (mkF m 384 #[.val (.int p1), .val (.int p2), .val (.int p3), .val (.int p4), .val (.int (5 : Int32)), .val (.int (2 : Int32)), .val (.ref b11), .val (.ref b146), .val (.ref a168), .val (.int (2 : Int32)), .val (.int (1 : Int32))] [(.ref b11), (.int z25)])) (fun T A t r => XS.aload A hx rfl (hb hby at_382) rfl rfl r) ?_
    refine Go.sp (g' := (mkF m 386 #[.val (.int p1), .val (.int p2), .val (.int p3), .val (.int p4), .val (.int (5 : Int32)), .val (.int (2 : Int32)), .val (.ref b11), .val (.ref b146), .val (.ref a168), .val (.int (2 : Int32)), .val (.int (1 : Int32))] [(.int (2 : Int32)), (.ref b11), (.int z25)])) (fun T A t r => XS.iload A hx rfl (hb hby at_384) rfl r) ?_
    refine Go.sp (g' := (mkF m 387 #[.val (.int p1), .val (.int p2), .val (.int p3), .val (.int p4), .val (.int (5 : Int32)), .val (.int (2 : Int32)), .val (.ref b11), .val (.ref b146), .val (.ref a168), .val (.int (2 : Int32)), .val (.int (1 : Int32))] [(.int (2 : Int32)), (.int (2 : Int32)), (.ref b11), (.int z25)])) (fun T A t r => XS.iconst A hx rfl (hb hby at_386) r) ?_
    refine Go.sp (g' := (mkF m 388 #[.val (.int p1), .val (.int p2), .val (.int p3), .val (.int p4), .val (.int (5 : Int32)), .val (.int (2 : Int32)), .val (.ref b11), .val (.ref b146), .val (.ref a168), .val (.int (2 : Int32)), .val (.int (1 : Int32))] [(.int (4 : Int32)), (.ref b11), (.int z25)])) (fun T A t r => XS.iadd A hx rfl (hb hby at_387) rfl r) ?_
    refine Go.r (g' := (mkF m 389 #[.val (.int p1), .val (.int p2), .val (.int p3), .val (.int p4), .val (.int (5 : Int32)), .val (.int (2 : Int32)), .val (.ref b11), .val (.ref b146), .val (.ref a168), .val (.int (2 : Int32)), .val (.int (1 : Int32))] [(.int z25), (.int z25)])) (fun s' T L X eT hZ t r => own_ldC X hx hZ eT f174 (j := (4 : Int32)) ⟨by decide, by decide⟩ (v := (.int z25)) rfl (g := (mkF m 388 #[.val (.int p1), .val (.int p2), .val (.int p3), .val (.int p4), .val (.int (5 : Int32)), .val (.int (2 : Int32)), .val (.ref b11), .val (.ref b146), .val (.ref a168), .val (.int (2 : Int32)), .val (.int (1 : Int32))] [(.int (4 : Int32)), (.ref b11), (.int z25)])) rfl rfl (hb hby at_388) t r) ?_
    refine Go.sp (g' := (mkF m 392 #[.val (.int p1), .val (.int p2), .val (.int p3), .val (.int p4), .val (.int (5 : Int32)), .val (.int (2 : Int32)), .val (.ref b11), .val (.ref b146), .val (.ref a168), .val (.int (2 : Int32)), .val (.int (1 : Int32))] [])) (fun T A t r => XS.icmpNo A hx rfl (hb hby at_389) rfl (teq (rfl : z25 = z25)).2 r) ?_
    refine Go.sp (g' := (mkF m 393 #[.val (.int p1), .val (.int p2), .val (.int p3), .val (.int p4), .val (.int (5 : Int32)), .val (.int (2 : Int32)), .val (.ref b11), .val (.ref b146), .val (.ref a168), .val (.int (2 : Int32)), .val (.int (1 : Int32))] [(.int (1 : Int32))])) (fun T A t r => XS.iconst A hx rfl (hb hby at_392) r) ?_
    refine Go.sp (g' := (mkF m 397 #[.val (.int p1), .val (.int p2), .val (.int p3), .val (.int p4), .val (.int (5 : Int32)), .val (.int (2 : Int32)), .val (.ref b11), .val (.ref b146), .val (.ref a168), .val (.int (2 : Int32)), .val (.int (1 : Int32))] [(.int (1 : Int32))])) (fun T A t r => XS.goto A hx rfl (pc0 := 393) (pc' := 397) rfl (hb hby at_393) (by decide) (by decide) r) ?_
    refine Go.sp (g' := (mkF m 399 #[.val (.int p1), .val (.int p2), .val (.int p3), .val (.int p4), .val (.int (5 : Int32)), .val (.int (2 : Int32)), .val (.ref b11), .val (.ref b146), .val (.ref a168), .val (.int (2 : Int32)), .val (.int (1 : Int32))] [])) (fun T A t r => XS.istore A hx rfl (hb hby at_397) rfl (l' := #[.val (.int p1), .val (.int p2), .val (.int p3), .val (.int p4), .val (.int (5 : Int32)), .val (.int (2 : Int32)), .val (.ref b11), .val (.ref b146), .val (.ref a168), .val (.int (2 : Int32)), .val (.int (1 : Int32))]) rfl r) ?_
    refine Go.sp (g' := (mkF m 400 #[.val (.int p1), .val (.int p2), .val (.int p3), .val (.int p4), .val (.int (5 : Int32)), .val (.int (2 : Int32)), .val (.ref b11), .val (.ref b146), .val (.ref a168), .val (.int (2 : Int32)), .val (.int (1 : Int32))] [(.int (2 : Int32))])) (fun T A t r => XS.iconst A hx rfl (hb hby at_399) r) ?_
    refine Go.sp (g' := (mkF m 402 #[.val (.int p1), .val (.int p2), .val (.int p3), .val (.int p4), .val (.int (5 : Int32)), .val (.int (2 : Int32)), .val (.ref b11), .val (.ref b146), .val (.ref a168), .val (.int (2 : Int32)), .val (.int (1 : Int32))] [(.int (2 : Int32)), (.int (2 : Int32))])) (fun T A t r => XS.iload A hx rfl (hb hby at_400) rfl r) ?_
    refine Go.sp (g' := (mkF m 433 #[.val (.int p1), .val (.int p2), .val (.int p3), .val (.int p4), .val (.int (5 : Int32)), .val (.int (2 : Int32)), .val (.ref b11), .val (.ref b146), .val (.ref a168), .val (.int (2 : Int32)), .val (.int (1 : Int32))] [])) (fun T A t r => XS.icmpYes A hx rfl (pc0 := 402) (pc' := 433) rfl (hb hby at_402) rfl (flt (by decide : ¬ ((2 : Int32) < (2 : Int32)))).2.1 (by decide) (by decide) r) ?_
    refine Go.sp (g' := (mkF m 434 #[.val (.int p1), .val (.int p2), .val (.int p3), .val (.int p4), .val (.int (5 : Int32)), .val (.int (2 : Int32)), .val (.ref b11), .val (.ref b146), .val (.ref a168), .val (.int (2 : Int32)), .val (.int (1 : Int32))] [(.int (3 : Int32))])) (fun T A t r => XS.iconst A hx rfl (hb hby at_433) r) ?_
    refine Go.sp (g' := (mkF m 436 #[.val (.int p1), .val (.int p2), .val (.int p3), .val (.int p4), .val (.int (5 : Int32)), .val (.int (2 : Int32)), .val (.ref b11), .val (.ref b146), .val (.ref a168), .val (.int (2 : Int32)), .val (.int (1 : Int32))] [(.int (2 : Int32)), (.int (3 : Int32))])) (fun T A t r => XS.iload A hx rfl (hb hby at_434) rfl r) ?_
    refine Go.sp (g' := (mkF m 467 #[.val (.int p1), .val (.int p2), .val (.int p3), .val (.int p4), .val (.int (5 : Int32)), .val (.int (2 : Int32)), .val (.ref b11), .val (.ref b146), .val (.ref a168), .val (.int (2 : Int32)), .val (.int (1 : Int32))] [])) (fun T A t r => XS.icmpYes A hx rfl (pc0 := 436) (pc' := 467) rfl (hb hby at_436) rfl (flt (by decide : ¬ ((3 : Int32) < (2 : Int32)))).2.1 (by decide) (by decide) r) ?_
    refine Go.sp (g' := (mkF m 469 #[.val (.int p1), .val (.int p2), .val (.int p3), .val (.int p4), .val (.int (5 : Int32)), .val (.int (2 : Int32)), .val (.ref b11), .val (.ref b146), .val (.ref a168), .val (.int (2 : Int32)), .val (.int (1 : Int32))] [(.int (1 : Int32))])) (fun T A t r => XS.iload A hx rfl (hb hby at_467) rfl r) ?_
    exact Go.ret (v := (some (.int (nar .boolean (1 : Int32))))) (fun s' T L fs X hr => retN X hx (t := .boolean) hret (by simp) (hb hby at_469) hr) (fun h => by rw [hret] at h; cases h) (by decide) (by decide) rfl
  · skip
    refine Go.cast (g' := (mkF m 91 #[.val (.int p1), .val (.int p2), .val (.int p3), .val (.int p4), .val (.int (5 : Int32)), .val (.int (3 : Int32)), .val (.ref b11), .unset, .unset, .unset, .unset] [])) (by rw [ha, hn]) ?_
    refine Go.sp (g' := (mkF m 93 #[.val (.int p1), .val (.int p2), .val (.int p3), .val (.int p4), .val (.int (5 : Int32)), .val (.int (3 : Int32)), .val (.ref b11), .unset, .unset, .unset, .unset] [(.ref b11)])) (fun T A t r => XS.aload A hx rfl (hb hby at_91) rfl rfl r) ?_
    refine Go.sp (g' := (mkF m 95 #[.val (.int p1), .val (.int p2), .val (.int p3), .val (.int p4), .val (.int (5 : Int32)), .val (.int (3 : Int32)), .val (.ref b11), .unset, .unset, .unset, .unset] [(.int (3 : Int32)), (.ref b11)])) (fun T A t r => XS.iload A hx rfl (hb hby at_93) rfl r) ?_
    refine Go.sp (g' := (mkF m 97 #[.val (.int p1), .val (.int p2), .val (.int p3), .val (.int p4), .val (.int (5 : Int32)), .val (.int (3 : Int32)), .val (.ref b11), .unset, .unset, .unset, .unset] [(.int (64 : Int32)), (.int (3 : Int32)), (.ref b11)])) (fun T A t r => XS.bipush A hx rfl (hb hby at_95) r) ?_
    refine Go.w (g' := (mkF m 98 #[.val (.int p1), .val (.int p2), .val (.int p3), .val (.int p4), .val (.int (5 : Int32)), .val (.int (3 : Int32)), .val (.ref b11), .unset, .unset, .unset, .unset] [])) (fun s' T L X eT hZ hown => own_stC X hx hZ eT V29 (j := (3 : Int32)) ⟨by decide, by decide⟩ (g := (mkF m 97 #[.val (.int p1), .val (.int p2), .val (.int p3), .val (.int p4), .val (.int (5 : Int32)), .val (.int (3 : Int32)), .val (.ref b11), .unset, .unset, .unset, .unset] [(.int (64 : Int32)), (.int (3 : Int32)), (.ref b11)])) rfl rfl (hb hby at_97)) (Or.inr sz11) ?_
    intro h176 W176
    have V176 : Arv Z h176 b11 k11 .char (6 : Int32) [(.int z13), (.int z16), (.int z19), (.int (64 : Int32)), (.int z25), (.int z28)] (.int (0 : Int32)) := own_set V29 (fits_nar_char _) W176 rfl 3 rfl (Nat.le_of_ble_eq_true rfl)
    refine Go.sp (g' := (mkF m 100 #[.val (.int p1), .val (.int p2), .val (.int p3), .val (.int p4), .val (.int (5 : Int32)), .val (.int (3 : Int32)), .val (.ref b11), .unset, .unset, .unset, .unset] [(.int (5 : Int32))])) (fun T A t r => XS.iload A hx rfl (hb hby at_98) rfl r) ?_
    refine Go.sp (g' := (mkF m 101 #[.val (.int p1), .val (.int p2), .val (.int p3), .val (.int p4), .val (.int (5 : Int32)), .val (.int (3 : Int32)), .val (.ref b11), .unset, .unset, .unset, .unset] [(.int (3 : Int32)), (.int (5 : Int32))])) (fun T A t r => XS.iconst A hx rfl (hb hby at_100) r) ?_
    refine Go.sp (g' := (mkF m 140 #[.val (.int p1), .val (.int p2), .val (.int p3), .val (.int p4), .val (.int (5 : Int32)), .val (.int (3 : Int32)), .val (.ref b11), .unset, .unset, .unset, .unset] [])) (fun T A t r => XS.icmpYes A hx rfl (pc0 := 101) (pc' := 140) rfl (hb hby at_101) rfl (feq (by decide : ¬ ((5 : Int32) = (3 : Int32)))).2 (by decide) (by decide) r) ?_
    refine Go.sp (g' := (mkF m 142 #[.val (.int p1), .val (.int p2), .val (.int p3), .val (.int p4), .val (.int (5 : Int32)), .val (.int (3 : Int32)), .val (.ref b11), .unset, .unset, .unset, .unset] [(.int (5 : Int32))])) (fun T A t r => XS.iload A hx rfl (hb hby at_140) rfl r) ?_
    refine Go.sp (g' := (mkF m 143 #[.val (.int p1), .val (.int p2), .val (.int p3), .val (.int p4), .val (.int (5 : Int32)), .val (.int (3 : Int32)), .val (.ref b11), .unset, .unset, .unset, .unset] [(.int (4 : Int32)), (.int (5 : Int32))])) (fun T A t r => XS.iconst A hx rfl (hb hby at_142) r) ?_
    refine Go.sp (g' := (mkF m 189 #[.val (.int p1), .val (.int p2), .val (.int p3), .val (.int p4), .val (.int (5 : Int32)), .val (.int (3 : Int32)), .val (.ref b11), .unset, .unset, .unset, .unset] [])) (fun T A t r => XS.icmpYes A hx rfl (pc0 := 143) (pc' := 189) rfl (hb hby at_143) rfl (feq (by decide : ¬ ((5 : Int32) = (4 : Int32)))).2 (by decide) (by decide) r) ?_
    refine Go.sp (g' := (mkF m 191 #[.val (.int p1), .val (.int p2), .val (.int p3), .val (.int p4), .val (.int (5 : Int32)), .val (.int (3 : Int32)), .val (.ref b11), .unset, .unset, .unset, .unset] [(.int (5 : Int32))])) (fun T A t r => XS.iload A hx rfl (hb hby at_189) rfl r) ?_
    refine Go.sp (g' := (mkF m 192 #[.val (.int p1), .val (.int p2), .val (.int p3), .val (.int p4), .val (.int (5 : Int32)), .val (.int (3 : Int32)), .val (.ref b11), .unset, .unset, .unset, .unset] [(.int (5 : Int32)), (.int (5 : Int32))])) (fun T A t r => XS.iconst A hx rfl (hb hby at_191) r) ?_
    refine Go.sp (g' := (mkF m 195 #[.val (.int p1), .val (.int p2), .val (.int p3), .val (.int p4), .val (.int (5 : Int32)), .val (.int (3 : Int32)), .val (.ref b11), .unset, .unset, .unset, .unset] [])) (fun T A t r => XS.icmpNo A hx rfl (hb hby at_192) rfl (teq (by decide : ((5 : Int32) = (5 : Int32)))).2 r) ?_
    refine Go.newO (k' := 2) (n' := 10) (pc' := 198) (hb hby at_195) (own_w hw 6 rfl) (own_w hw 7 rfl) (own_w hw 8 rfl) rfl rfl rfl (by decide) (by decide) ?_
    intro b177 h177 g177 sz177 E177 A177 D177
    have F177_coder : Fld Z h177 b177 "java/lang/String" "coder" "B" (.int (0 : Int32)) := D177 (Or.inr (own_w hw 32 rfl)) (ty := .byte) (by decide)
    have F177_value : Fld Z h177 b177 "java/lang/String" "value" "[B" .null := D177 (Or.inr (own_w hw 34 rfl)) (ty := (.array .byte)) (by decide)
    refine Go.sp (g' := (mkF m 199 #[.val (.int p1), .val (.int p2), .val (.int p3), .val (.int p4), .val (.int (5 : Int32)), .val (.int (3 : Int32)), .val (.ref b11), .unset, .unset, .unset, .unset] [(.ref b177), (.ref b177)])) (fun T A t r => XS.dup A hx rfl (hb hby at_198) rfl rfl r) ?_
    refine Go.sp (g' := (mkF m 200 #[.val (.int p1), .val (.int p2), .val (.int p3), .val (.int p4), .val (.int (5 : Int32)), .val (.int (3 : Int32)), .val (.ref b11), .unset, .unset, .unset, .unset] [(.int (5 : Int32)), (.ref b177), (.ref b177)])) (fun T A t r => XS.iconst A hx rfl (hb hby at_199) r) ?_
    refine Go.newP (ty := .char) (dv := (.int (0 : Int32))) (cap := 5) (k' := 3) (n' := 15) (pc' := 202) (hb hby at_200) rfl rfl (own_w hw 0 rfl) (by decide) (by decide) (by decide) rfl rfl rfl (by decide) (by decide) ?_
    intro b178 h178 k178 g178 sz178 E178 A178
    have V178 : Arv Z h178 b178 k178 .char (5 : Int32) [(.int (0 : Int32)), (.int (0 : Int32)), (.int (0 : Int32)), (.int (0 : Int32)), (.int (0 : Int32))] (.int (0 : Int32)) := A178.pad (pad_rep [] (.int (0 : Int32)) 5)
    refine Go.sp (g' := (mkF m 203 #[.val (.int p1), .val (.int p2), .val (.int p3), .val (.int p4), .val (.int (5 : Int32)), .val (.int (3 : Int32)), .val (.ref b11), .unset, .unset, .unset, .unset] [(.ref b178), (.ref b178), (.ref b177), (.ref b177)])) (fun T A t r => XS.dup A hx rfl (hb hby at_202) rfl rfl r) ?_
    refine Go.sp (g' := (mkF m 204 #[.val (.int p1), .val (.int p2), .val (.int p3), .val (.int p4), .val (.int (5 : Int32)), .val (.int (3 : Int32)), .val (.ref b11), .unset, .unset, .unset, .unset] [(.int (0 : Int32)), (.ref b178), (.ref b178), (.ref b177), (.ref b177)])) (fun T A t r => XS.iconst A hx rfl (hb hby at_203) r) ?_
    refine Go.sp (g' := (mkF m 206 #[.val (.int p1), .val (.int p2), .val (.int p3), .val (.int p4), .val (.int (5 : Int32)), .val (.int (3 : Int32)), .val (.ref b11), .unset, .unset, .unset, .unset] [(.ref b11), (.int (0 : Int32)), (.ref b178), (.ref b178), (.ref b177), (.ref b177)])) (fun T A t r => XS.aload A hx rfl (hb hby at_204) rfl rfl r) ?_
    refine Go.sp (g' := (mkF m 207 #[.val (.int p1), .val (.int p2), .val (.int p3), .val (.int p4), .val (.int (5 : Int32)), .val (.int (3 : Int32)), .val (.ref b11), .unset, .unset, .unset, .unset] [(.int (0 : Int32)), (.ref b11), (.int (0 : Int32)), (.ref b178), (.ref b178), (.ref b177), (.ref b177)])) (fun T A t r => XS.iconst A hx rfl (hb hby at_206) r) ?_
    have f179 := ((V176.ext E177).ext E178)
    refine Go.r (g' := (mkF m 208 #[.val (.int p1), .val (.int p2), .val (.int p3), .val (.int p4), .val (.int (5 : Int32)), .val (.int (3 : Int32)), .val (.ref b11), .unset, .unset, .unset, .unset] [(.int z13), (.int (0 : Int32)), (.ref b178), (.ref b178), (.ref b177), (.ref b177)])) (fun s' T L X eT hZ t r => own_ldC X hx hZ eT f179 (j := (0 : Int32)) ⟨by decide, by decide⟩ (v := (.int z13)) rfl (g := (mkF m 207 #[.val (.int p1), .val (.int p2), .val (.int p3), .val (.int p4), .val (.int (5 : Int32)), .val (.int (3 : Int32)), .val (.ref b11), .unset, .unset, .unset, .unset] [(.int (0 : Int32)), (.ref b11), (.int (0 : Int32)), (.ref b178), (.ref b178), (.ref b177), (.ref b177)])) rfl rfl (hb hby at_207) t r) ?_
    refine Go.w (g' := (mkF m 209 #[.val (.int p1), .val (.int p2), .val (.int p3), .val (.int p4), .val (.int (5 : Int32)), .val (.int (3 : Int32)), .val (.ref b11), .unset, .unset, .unset, .unset] [(.ref b178), (.ref b177), (.ref b177)])) (fun s' T L X eT hZ hown => own_stC X hx hZ eT V178 (j := (0 : Int32)) ⟨by decide, by decide⟩ (g := (mkF m 208 #[.val (.int p1), .val (.int p2), .val (.int p3), .val (.int p4), .val (.int (5 : Int32)), .val (.int (3 : Int32)), .val (.ref b11), .unset, .unset, .unset, .unset] [(.int z13), (.int (0 : Int32)), (.ref b178), (.ref b178), (.ref b177), (.ref b177)])) rfl rfl (hb hby at_208)) (Or.inr sz178) ?_
    intro h180 W180
    have V180 : Arv Z h180 b178 k178 .char (5 : Int32) [(.int z13), (.int (0 : Int32)), (.int (0 : Int32)), (.int (0 : Int32)), (.int (0 : Int32))] (.int (0 : Int32)) := own_set V178 (fits_nar_char _) W180 (congrArg Value.int (own_nar zb13)) 0 rfl (Nat.le_of_ble_eq_true rfl)
    refine Go.sp (g' := (mkF m 210 #[.val (.int p1), .val (.int p2), .val (.int p3), .val (.int p4), .val (.int (5 : Int32)), .val (.int (3 : Int32)), .val (.ref b11), .unset, .unset, .unset, .unset] [(.ref b178), (.ref b178), (.ref b177), (.ref b177)])) (fun T A t r => XS.dup A hx rfl (hb hby at_209) rfl rfl r) ?_
    refine Go.sp (g' := (mkF m 211 #[.val (.int p1), .val (.int p2), .val (.int p3), .val (.int p4), .val (.int (5 : Int32)), .val (.int (3 : Int32)), .val (.ref b11), .unset, .unset, .unset, .unset] [(.int (1 : Int32)), (.ref b178), (.ref b178), (.ref b177), (.ref b177)])) (fun T A t r => XS.iconst A hx rfl (hb hby at_210) r) ?_
    refine Go.sp (g' := (mkF m 213 #[.val (.int p1), .val (.int p2), .val (.int p3), .val (.int p4), .val (.int (5 : Int32)), .val (.int (3 : Int32)), .val (.ref b11), .unset, .unset, .unset, .unset] [(.ref b11), (.int (1 : Int32)), (.ref b178), (.ref b178), (.ref b177), (.ref b177)])) (fun T A t r => XS.aload A hx rfl (hb hby at_211) rfl rfl r) ?_
    refine Go.sp (g' := (mkF m 214 #[.val (.int p1), .val (.int p2), .val (.int p3), .val (.int p4), .val (.int (5 : Int32)), .val (.int (3 : Int32)), .val (.ref b11), .unset, .unset, .unset, .unset] [(.int (1 : Int32)), (.ref b11), (.int (1 : Int32)), (.ref b178), (.ref b178), (.ref b177), (.ref b177)])) (fun T A t r => XS.iconst A hx rfl (hb hby at_213) r) ?_
    have f181 := (V176.ext E177)
    have ne182 : b11 ≠ b178 := Nat.ne_of_lt (Nat.lt_of_lt_of_le f181.lt (Nat.le_of_eq g178.symm))
    have f183 := (f179.other W180 ne182)
    refine Go.r (g' := (mkF m 215 #[.val (.int p1), .val (.int p2), .val (.int p3), .val (.int p4), .val (.int (5 : Int32)), .val (.int (3 : Int32)), .val (.ref b11), .unset, .unset, .unset, .unset] [(.int z16), (.int (1 : Int32)), (.ref b178), (.ref b178), (.ref b177), (.ref b177)])) (fun s' T L X eT hZ t r => own_ldC X hx hZ eT f183 (j := (1 : Int32)) ⟨by decide, by decide⟩ (v := (.int z16)) rfl (g := (mkF m 214 #[.val (.int p1), .val (.int p2), .val (.int p3), .val (.int p4), .val (.int (5 : Int32)), .val (.int (3 : Int32)), .val (.ref b11), .unset, .unset, .unset, .unset] [(.int (1 : Int32)), (.ref b11), (.int (1 : Int32)), (.ref b178), (.ref b178), (.ref b177), (.ref b177)])) rfl rfl (hb hby at_214) t r) ?_
    refine Go.w (g' := (mkF m 216 #[.val (.int p1), .val (.int p2), .val (.int p3), .val (.int p4), .val (.int (5 : Int32)), .val (.int (3 : Int32)), .val (.ref b11), .unset, .unset, .unset, .unset] [(.ref b178), (.ref b177), (.ref b177)])) (fun s' T L X eT hZ hown => own_stC X hx hZ eT V180 (j := (1 : Int32)) ⟨by decide, by decide⟩ (g := (mkF m 215 #[.val (.int p1), .val (.int p2), .val (.int p3), .val (.int p4), .val (.int (5 : Int32)), .val (.int (3 : Int32)), .val (.ref b11), .unset, .unset, .unset, .unset] [(.int z16), (.int (1 : Int32)), (.ref b178), (.ref b178), (.ref b177), (.ref b177)])) rfl rfl (hb hby at_215)) (Or.inr sz178) ?_
    intro h184 W184
    have V184 : Arv Z h184 b178 k178 .char (5 : Int32) [(.int z13), (.int z16), (.int (0 : Int32)), (.int (0 : Int32)), (.int (0 : Int32))] (.int (0 : Int32)) := own_set V180 (fits_nar_char _) W184 (congrArg Value.int (own_nar zb16)) 1 rfl (Nat.le_of_ble_eq_true rfl)
    refine Go.sp (g' := (mkF m 217 #[.val (.int p1), .val (.int p2), .val (.int p3), .val (.int p4), .val (.int (5 : Int32)), .val (.int (3 : Int32)), .val (.ref b11), .unset, .unset, .unset, .unset] [(.ref b178), (.ref b178), (.ref b177), (.ref b177)])) (fun T A t r => XS.dup A hx rfl (hb hby at_216) rfl rfl r) ?_
    refine Go.sp (g' := (mkF m 218 #[.val (.int p1), .val (.int p2), .val (.int p3), .val (.int p4), .val (.int (5 : Int32)), .val (.int (3 : Int32)), .val (.ref b11), .unset, .unset, .unset, .unset] [(.int (2 : Int32)), (.ref b178), (.ref b178), (.ref b177), (.ref b177)])) (fun T A t r => XS.iconst A hx rfl (hb hby at_217) r) ?_
    refine Go.sp (g' := (mkF m 220 #[.val (.int p1), .val (.int p2), .val (.int p3), .val (.int p4), .val (.int (5 : Int32)), .val (.int (3 : Int32)), .val (.ref b11), .unset, .unset, .unset, .unset] [(.ref b11), (.int (2 : Int32)), (.ref b178), (.ref b178), (.ref b177), (.ref b177)])) (fun T A t r => XS.aload A hx rfl (hb hby at_218) rfl rfl r) ?_
    refine Go.sp (g' := (mkF m 221 #[.val (.int p1), .val (.int p2), .val (.int p3), .val (.int p4), .val (.int (5 : Int32)), .val (.int (3 : Int32)), .val (.ref b11), .unset, .unset, .unset, .unset] [(.int (2 : Int32)), (.ref b11), (.int (2 : Int32)), (.ref b178), (.ref b178), (.ref b177), (.ref b177)])) (fun T A t r => XS.iconst A hx rfl (hb hby at_220) r) ?_
    have f185 := (f183.other W184 ne182)
    refine Go.r (g' := (mkF m 222 #[.val (.int p1), .val (.int p2), .val (.int p3), .val (.int p4), .val (.int (5 : Int32)), .val (.int (3 : Int32)), .val (.ref b11), .unset, .unset, .unset, .unset] [(.int z19), (.int (2 : Int32)), (.ref b178), (.ref b178), (.ref b177), (.ref b177)])) (fun s' T L X eT hZ t r => own_ldC X hx hZ eT f185 (j := (2 : Int32)) ⟨by decide, by decide⟩ (v := (.int z19)) rfl (g := (mkF m 221 #[.val (.int p1), .val (.int p2), .val (.int p3), .val (.int p4), .val (.int (5 : Int32)), .val (.int (3 : Int32)), .val (.ref b11), .unset, .unset, .unset, .unset] [(.int (2 : Int32)), (.ref b11), (.int (2 : Int32)), (.ref b178), (.ref b178), (.ref b177), (.ref b177)])) rfl rfl (hb hby at_221) t r) ?_
    refine Go.w (g' := (mkF m 223 #[.val (.int p1), .val (.int p2), .val (.int p3), .val (.int p4), .val (.int (5 : Int32)), .val (.int (3 : Int32)), .val (.ref b11), .unset, .unset, .unset, .unset] [(.ref b178), (.ref b177), (.ref b177)])) (fun s' T L X eT hZ hown => own_stC X hx hZ eT V184 (j := (2 : Int32)) ⟨by decide, by decide⟩ (g := (mkF m 222 #[.val (.int p1), .val (.int p2), .val (.int p3), .val (.int p4), .val (.int (5 : Int32)), .val (.int (3 : Int32)), .val (.ref b11), .unset, .unset, .unset, .unset] [(.int z19), (.int (2 : Int32)), (.ref b178), (.ref b178), (.ref b177), (.ref b177)])) rfl rfl (hb hby at_222)) (Or.inr sz178) ?_
    intro h186 W186
    have V186 : Arv Z h186 b178 k178 .char (5 : Int32) [(.int z13), (.int z16), (.int z19), (.int (0 : Int32)), (.int (0 : Int32))] (.int (0 : Int32)) := own_set V184 (fits_nar_char _) W186 (congrArg Value.int (own_nar zb19)) 2 rfl (Nat.le_of_ble_eq_true rfl)
    refine Go.sp (g' := (mkF m 224 #[.val (.int p1), .val (.int p2), .val (.int p3), .val (.int p4), .val (.int (5 : Int32)), .val (.int (3 : Int32)), .val (.ref b11), .unset, .unset, .unset, .unset] [(.ref b178), (.ref b178), (.ref b177), (.ref b177)])) (fun T A t r => XS.dup A hx rfl (hb hby at_223) rfl rfl r) ?_
    refine Go.sp (g' := (mkF m 225 #[.val (.int p1), .val (.int p2), .val (.int p3), .val (.int p4), .val (.int (5 : Int32)), .val (.int (3 : Int32)), .val (.ref b11), .unset, .unset, .unset, .unset] [(.int (3 : Int32)), (.ref b178), (.ref b178), (.ref b177), (.ref b177)])) (fun T A t r => XS.iconst A hx rfl (hb hby at_224) r) ?_
    refine Go.sp (g' := (mkF m 227 #[.val (.int p1), .val (.int p2), .val (.int p3), .val (.int p4), .val (.int (5 : Int32)), .val (.int (3 : Int32)), .val (.ref b11), .unset, .unset, .unset, .unset] [(.ref b11), (.int (3 : Int32)), (.ref b178), (.ref b178), (.ref b177), (.ref b177)])) (fun T A t r => XS.aload A hx rfl (hb hby at_225) rfl rfl r) ?_
    refine Go.sp (g' := (mkF m 228 #[.val (.int p1), .val (.int p2), .val (.int p3), .val (.int p4), .val (.int (5 : Int32)), .val (.int (3 : Int32)), .val (.ref b11), .unset, .unset, .unset, .unset] [(.int (3 : Int32)), (.ref b11), (.int (3 : Int32)), (.ref b178), (.ref b178), (.ref b177), (.ref b177)])) (fun T A t r => XS.iconst A hx rfl (hb hby at_227) r) ?_
    have f187 := (f185.other W186 ne182)
    refine Go.r (g' := (mkF m 229 #[.val (.int p1), .val (.int p2), .val (.int p3), .val (.int p4), .val (.int (5 : Int32)), .val (.int (3 : Int32)), .val (.ref b11), .unset, .unset, .unset, .unset] [(.int (64 : Int32)), (.int (3 : Int32)), (.ref b178), (.ref b178), (.ref b177), (.ref b177)])) (fun s' T L X eT hZ t r => own_ldC X hx hZ eT f187 (j := (3 : Int32)) ⟨by decide, by decide⟩ (v := (.int (64 : Int32))) rfl (g := (mkF m 228 #[.val (.int p1), .val (.int p2), .val (.int p3), .val (.int p4), .val (.int (5 : Int32)), .val (.int (3 : Int32)), .val (.ref b11), .unset, .unset, .unset, .unset] [(.int (3 : Int32)), (.ref b11), (.int (3 : Int32)), (.ref b178), (.ref b178), (.ref b177), (.ref b177)])) rfl rfl (hb hby at_228) t r) ?_
    refine Go.w (g' := (mkF m 230 #[.val (.int p1), .val (.int p2), .val (.int p3), .val (.int p4), .val (.int (5 : Int32)), .val (.int (3 : Int32)), .val (.ref b11), .unset, .unset, .unset, .unset] [(.ref b178), (.ref b177), (.ref b177)])) (fun s' T L X eT hZ hown => own_stC X hx hZ eT V186 (j := (3 : Int32)) ⟨by decide, by decide⟩ (g := (mkF m 229 #[.val (.int p1), .val (.int p2), .val (.int p3), .val (.int p4), .val (.int (5 : Int32)), .val (.int (3 : Int32)), .val (.ref b11), .unset, .unset, .unset, .unset] [(.int (64 : Int32)), (.int (3 : Int32)), (.ref b178), (.ref b178), (.ref b177), (.ref b177)])) rfl rfl (hb hby at_229)) (Or.inr sz178) ?_
    intro h188 W188
    have V188 : Arv Z h188 b178 k178 .char (5 : Int32) [(.int z13), (.int z16), (.int z19), (.int (64 : Int32)), (.int (0 : Int32))] (.int (0 : Int32)) := own_set V186 (fits_nar_char _) W188 rfl 3 rfl (Nat.le_of_ble_eq_true rfl)
    refine Go.sp (g' := (mkF m 231 #[.val (.int p1), .val (.int p2), .val (.int p3), .val (.int p4), .val (.int (5 : Int32)), .val (.int (3 : Int32)), .val (.ref b11), .unset, .unset, .unset, .unset] [(.ref b178), (.ref b178), (.ref b177), (.ref b177)])) (fun T A t r => XS.dup A hx rfl (hb hby at_230) rfl rfl r) ?_
    refine Go.sp (g' := (mkF m 232 #[.val (.int p1), .val (.int p2), .val (.int p3), .val (.int p4), .val (.int (5 : Int32)), .val (.int (3 : Int32)), .val (.ref b11), .unset, .unset, .unset, .unset] [(.int (4 : Int32)), (.ref b178), (.ref b178), (.ref b177), (.ref b177)])) (fun T A t r => XS.iconst A hx rfl (hb hby at_231) r) ?_
    refine Go.sp (g' := (mkF m 234 #[.val (.int p1), .val (.int p2), .val (.int p3), .val (.int p4), .val (.int (5 : Int32)), .val (.int (3 : Int32)), .val (.ref b11), .unset, .unset, .unset, .unset] [(.ref b11), (.int (4 : Int32)), (.ref b178), (.ref b178), (.ref b177), (.ref b177)])) (fun T A t r => XS.aload A hx rfl (hb hby at_232) rfl rfl r) ?_
    refine Go.sp (g' := (mkF m 235 #[.val (.int p1), .val (.int p2), .val (.int p3), .val (.int p4), .val (.int (5 : Int32)), .val (.int (3 : Int32)), .val (.ref b11), .unset, .unset, .unset, .unset] [(.int (4 : Int32)), (.ref b11), (.int (4 : Int32)), (.ref b178), (.ref b178), (.ref b177), (.ref b177)])) (fun T A t r => XS.iconst A hx rfl (hb hby at_234) r) ?_
    have f189 := (f187.other W188 ne182)
    refine Go.r (g' := (mkF m 236 #[.val (.int p1), .val (.int p2), .val (.int p3), .val (.int p4), .val (.int (5 : Int32)), .val (.int (3 : Int32)), .val (.ref b11), .unset, .unset, .unset, .unset] [(.int z25), (.int (4 : Int32)), (.ref b178), (.ref b178), (.ref b177), (.ref b177)])) (fun s' T L X eT hZ t r => own_ldC X hx hZ eT f189 (j := (4 : Int32)) ⟨by decide, by decide⟩ (v := (.int z25)) rfl (g := (mkF m 235 #[.val (.int p1), .val (.int p2), .val (.int p3), .val (.int p4), .val (.int (5 : Int32)), .val (.int (3 : Int32)), .val (.ref b11), .unset, .unset, .unset, .unset] [(.int (4 : Int32)), (.ref b11), (.int (4 : Int32)), (.ref b178), (.ref b178), (.ref b177), (.ref b177)])) rfl rfl (hb hby at_235) t r) ?_
    refine Go.w (g' := (mkF m 237 #[.val (.int p1), .val (.int p2), .val (.int p3), .val (.int p4), .val (.int (5 : Int32)), .val (.int (3 : Int32)), .val (.ref b11), .unset, .unset, .unset, .unset] [(.ref b178), (.ref b177), (.ref b177)])) (fun s' T L X eT hZ hown => own_stC X hx hZ eT V188 (j := (4 : Int32)) ⟨by decide, by decide⟩ (g := (mkF m 236 #[.val (.int p1), .val (.int p2), .val (.int p3), .val (.int p4), .val (.int (5 : Int32)), .val (.int (3 : Int32)), .val (.ref b11), .unset, .unset, .unset, .unset] [(.int z25), (.int (4 : Int32)), (.ref b178), (.ref b178), (.ref b177), (.ref b177)])) rfl rfl (hb hby at_236)) (Or.inr sz178) ?_
    intro h190 W190
    have V190 : Arv Z h190 b178 k178 .char (5 : Int32) [(.int z13), (.int z16), (.int z19), (.int (64 : Int32)), (.int z25)] (.int (0 : Int32)) := own_set V188 (fits_nar_char _) W190 (congrArg Value.int (own_nar zb25)) 4 rfl (Nat.le_of_ble_eq_true rfl)
    have f191 := ((((((A177.ext E178).wr W180).wr W184).wr W186).wr W188).wr W190)
    have ne192 : b177 ≠ b178 := Nat.ne_of_lt (Nat.lt_of_lt_of_le A177.lt (Nat.le_of_eq g178.symm))
    have f193 := ((((((F177_value.ext E178).other W180 (Or.inl ne192)).other W184 (Or.inl ne192)).other W186 (Or.inl ne192)).other W188 (Or.inl ne192)).other W190 (Or.inl ne192))
    have f194 := ((((((F177_coder.ext E178).other W180 (Or.inl ne192)).other W184 (Or.inl ne192)).other W186 (Or.inl ne192)).other W188 (Or.inl ne192)).other W190 (Or.inl ne192))
    refine Go.old fun O195 => ?_
    have lat196 : ∀ c ∈ [z13, z16, z19, (64 : Int32), z25], ¬ c < 0 ∧ ¬ (255 : Int32) < c := own_allc zb13 (own_allc zb16 (own_allc zb19 (own_allc (by decide) (own_allc zb25 (own_allc0)))))
    refine Go.callC (a := b177) (ws' := [b177]) (W := 1) (y := (⟨"java/lang/String", "<init>", "([C)V"⟩ : MethodName)) (argsL := [(.ref b178)]) (rest := [(.ref b177)]) (pc' := 240) (k' := 4) (n' := 20) (hb hby at_237) rfl (own_w hw 9 rfl) (own_w hw 10 rfl) (own_w hw 11 rfl) (by decide) (fun s' hZ => own_str hw (own_w hw 7 rfl) hZ (cs := [z13, z16, z19, (64 : Int32), z25]) (n := 5) (Nat.le_trans (Old.le O0) sz177) O195 f191 f193 f194 V190 S0 P0 rfl rfl (by decide) (by decide) lat196 (by decide) (by decide)) (by rw [hml]; rfl) (lenOf pd_15 rfl) rfl (Nat.le_of_ble_eq_true rfl) rfl rfl rfl (by decide) (by decide) (allS (Or.inr sz177) all0) ?_
    rintro v197 h197 K197 ⟨rfl, E197, C197, t197, kb197, ge197, V197, B197⟩
    refine Go.cast (g' := (mkF m 240 #[.val (.int p1), .val (.int p2), .val (.int p3), .val (.int p4), .val (.int (5 : Int32)), .val (.int (3 : Int32)), .val (.ref b11), .unset, .unset, .unset, .unset] [(.ref b177)])) rfl ?_
    refine Go.sp (g' := (mkF m 242 #[.val (.int p1), .val (.int p2), .val (.int p3), .val (.int p4), .val (.int (5 : Int32)), .val (.int (3 : Int32)), .val (.ref b11), .val (.ref b177), .unset, .unset, .unset] [])) (fun T A t r => XS.astore A hx rfl (hb hby at_240) rfl rfl (l' := #[.val (.int p1), .val (.int p2), .val (.int p3), .val (.int p4), .val (.int (5 : Int32)), .val (.int (3 : Int32)), .val (.ref b11), .val (.ref b177), .unset, .unset, .unset]) rfl r) ?_
    refine Go.sp (g' := (mkF m 300 #[.val (.int p1), .val (.int p2), .val (.int p3), .val (.int p4), .val (.int (5 : Int32)), .val (.int (3 : Int32)), .val (.ref b11), .val (.ref b177), .unset, .unset, .unset] [])) (fun T A t r => XS.goto A hx rfl (pc0 := 242) (pc' := 300) rfl (hb hby at_242) (by decide) (by decide) r) ?_
    refine Go.sp (g' := (mkF m 302 #[.val (.int p1), .val (.int p2), .val (.int p3), .val (.int p4), .val (.int (5 : Int32)), .val (.int (3 : Int32)), .val (.ref b11), .val (.ref b177), .unset, .unset, .unset] [(.ref b177)])) (fun T A t r => XS.aload A hx rfl (hb hby at_300) rfl rfl r) ?_
    refine Go.old fun O198 => ?_
    refine Go.callS (ws' := []) (W := 0) (y := (⟨"com/example/slow_digest/slowdigest/rules/MailAddress", "domain", "(Ljava/lang/String;)Ljava/lang/String;"⟩ : MethodName)) (argsL := [(.ref b177)]) (rest := []) (pc' := 305) (k' := 6) (n' := 32) (hb hby at_302) (own_w hw 35 rfl) (own_w hw 36 rfl) (own_w hw 37 rfl) (own_w hw 38 rfl) (by decide) (fun s' hZ => Ct.bk (rmD l Z a0 hw [] b177 t197 kb197 [z13, z16, z19, (64 : Int32), z25] 3 zS fm h197 n0 O198 E197 C197 V197 B197 lat196 (Nat.le_of_ble_eq_true rfl) (Nat.le_of_ble_eq_true rfl) rfl (own_lt3 zn13 zn16 zn19) (Nat.le_of_ble_eq_true rfl) S0 P0 SF RF) hZ (own_w hw 38 rfl) (own_w hw 37 rfl) (by decide) (by decide)) (by rw [hml]; rfl) (lenOf pd_16 rfl) rfl (Nat.le_of_ble_eq_true rfl) rfl rfl rfl (by decide) (by decide) all0 ?_
    rintro v199 h199 K199 ⟨a199, t199, kb199, rfl, E199, C199, V199, B199⟩
    refine Go.cast (g' := (mkF m 305 #[.val (.int p1), .val (.int p2), .val (.int p3), .val (.int p4), .val (.int (5 : Int32)), .val (.int (3 : Int32)), .val (.ref b11), .val (.ref b177), .unset, .unset, .unset] [(.ref a199)])) rfl ?_
    have D199 : Arv Z h199 t199 kb199 .byte (1 : Int32) (([z25].map fun c => c.toInt8.toInt32).map Value.int) (.int 0) := B199
    have lat200 : ∀ c ∈ [z25], ¬ c < 0 ∧ ¬ (255 : Int32) < c := own_allc zb25 (own_allc0)
    refine Go.sp (g' := (mkF m 307 #[.val (.int p1), .val (.int p2), .val (.int p3), .val (.int p4), .val (.int (5 : Int32)), .val (.int (3 : Int32)), .val (.ref b11), .val (.ref b177), .val (.ref a199), .unset, .unset] [])) (fun T A t r => XS.astore A hx rfl (hb hby at_305) rfl rfl (l' := #[.val (.int p1), .val (.int p2), .val (.int p3), .val (.int p4), .val (.int (5 : Int32)), .val (.int (3 : Int32)), .val (.ref b11), .val (.ref b177), .val (.ref a199), .unset, .unset]) rfl r) ?_
    refine Go.sp (g' := (mkF m 309 #[.val (.int p1), .val (.int p2), .val (.int p3), .val (.int p4), .val (.int (5 : Int32)), .val (.int (3 : Int32)), .val (.ref b11), .val (.ref b177), .val (.ref a199), .unset, .unset] [(.int (5 : Int32))])) (fun T A t r => XS.iload A hx rfl (hb hby at_307) rfl r) ?_
    refine Go.sp (g' := (mkF m 311 #[.val (.int p1), .val (.int p2), .val (.int p3), .val (.int p4), .val (.int (5 : Int32)), .val (.int (3 : Int32)), .val (.ref b11), .val (.ref b177), .val (.ref a199), .unset, .unset] [(.int (3 : Int32)), (.int (5 : Int32))])) (fun T A t r => XS.iload A hx rfl (hb hby at_309) rfl r) ?_
    refine Go.sp (g' := (mkF m 312 #[.val (.int p1), .val (.int p2), .val (.int p3), .val (.int p4), .val (.int (5 : Int32)), .val (.int (3 : Int32)), .val (.ref b11), .val (.ref b177), .val (.ref a199), .unset, .unset] [(.int (2 : Int32))])) (fun T A t r => XS.isub A hx rfl (hb hby at_311) rfl r) ?_
    refine Go.sp (g' := (mkF m 313 #[.val (.int p1), .val (.int p2), .val (.int p3), .val (.int p4), .val (.int (5 : Int32)), .val (.int (3 : Int32)), .val (.ref b11), .val (.ref b177), .val (.ref a199), .unset, .unset] [(.int (1 : Int32)), (.int (2 : Int32))])) (fun T A t r => XS.iconst A hx rfl (hb hby at_312) r) ?_
    refine Go.sp (g' := (mkF m 314 #[.val (.int p1), .val (.int p2), .val (.int p3), .val (.int p4), .val (.int (5 : Int32)), .val (.int (3 : Int32)), .val (.ref b11), .val (.ref b177), .val (.ref a199), .unset, .unset] [(.int (1 : Int32))])) (fun T A t r => XS.isub A hx rfl (hb hby at_313) rfl r) ?_
    refine Go.sp (g' := (mkF m 316 #[.val (.int p1), .val (.int p2), .val (.int p3), .val (.int p4), .val (.int (5 : Int32)), .val (.int (3 : Int32)), .val (.ref b11), .val (.ref b177), .val (.ref a199), .val (.int (1 : Int32)), .unset] [])) (fun T A t r => XS.istore A hx rfl (hb hby at_314) rfl (l' := #[.val (.int p1), .val (.int p2), .val (.int p3), .val (.int p4), .val (.int (5 : Int32)), .val (.int (3 : Int32)), .val (.ref b11), .val (.ref b177), .val (.ref a199), .val (.int (1 : Int32)), .unset]) rfl r) ?_
    refine Go.sp (g' := (mkF m 318 #[.val (.int p1), .val (.int p2), .val (.int p3), .val (.int p4), .val (.int (5 : Int32)), .val (.int (3 : Int32)), .val (.ref b11), .val (.ref b177), .val (.ref a199), .val (.int (1 : Int32)), .unset] [(.ref a199)])) (fun T A t r => XS.aload A hx rfl (hb hby at_316) rfl rfl r) ?_
    refine Go.old fun O201 => ?_
    refine Go.callVP (a := a199) (z := (⟨"java/lang/String", "length", "()I"⟩ : MethodName)) (W := 0) (y := (⟨"java/lang/String", "length", "()I"⟩ : MethodName)) (argsL := []) (rest := []) (pc' := 321) (hb hby at_318) (own_w hw 121 rfl) (own_w hw 55 rfl) (fun s' hZ => notFace_of_selects (args := #[]) (mvT hZ (own_w hw 57 rfl))) (own_w hw 57 rfl) (own_w hw 56 rfl) (by decide) (fun s' hZ => Bk.pure (StrChars.Road.lenW (kI := 4) (cs := [z25]) hZ (own_lenw hw) (own_w hw 7 rfl) E199 V199 C199 D199 (own_cod rfl lat200) (own_up lat200) (S0.ext O201.2) P0 (by show 1 ≤ 4000; decide) (by decide) (by decide))) E199 (by rw [hml]; rfl) (lenOf pd_4 rfl) rfl (Nat.le_of_ble_eq_true rfl) rfl (by decide) (by decide) ?_
    rintro v202 rfl
    refine Go.cast (g' := (mkF m 321 #[.val (.int p1), .val (.int p2), .val (.int p3), .val (.int p4), .val (.int (5 : Int32)), .val (.int (3 : Int32)), .val (.ref b11), .val (.ref b177), .val (.ref a199), .val (.int (1 : Int32)), .unset] [(.int (1 : Int32))])) rfl ?_
    refine Go.sp (g' := (mkF m 323 #[.val (.int p1), .val (.int p2), .val (.int p3), .val (.int p4), .val (.int (5 : Int32)), .val (.int (3 : Int32)), .val (.ref b11), .val (.ref b177), .val (.ref a199), .val (.int (1 : Int32)), .unset] [(.int (1 : Int32)), (.int (1 : Int32))])) (fun T A t r => XS.iload A hx rfl (hb hby at_321) rfl r) ?_
    refine Go.sp (g' := (mkF m 328 #[.val (.int p1), .val (.int p2), .val (.int p3), .val (.int p4), .val (.int (5 : Int32)), .val (.int (3 : Int32)), .val (.ref b11), .val (.ref b177), .val (.ref a199), .val (.int (1 : Int32)), .unset] [])) (fun T A t r => XS.icmpYes A hx rfl (pc0 := 323) (pc' := 328) rfl (hb hby at_323) rfl (teq (by decide : ((1 : Int32) = (1 : Int32)))).1 (by decide) (by decide) r) ?_
    refine Go.sp (g' := (mkF m 329 #[.val (.int p1), .val (.int p2), .val (.int p3), .val (.int p4), .val (.int (5 : Int32)), .val (.int (3 : Int32)), .val (.ref b11), .val (.ref b177), .val (.ref a199), .val (.int (1 : Int32)), .unset] [(.int (1 : Int32))])) (fun T A t r => XS.iconst A hx rfl (hb hby at_328) r) ?_
    refine Go.sp (g' := (mkF m 331 #[.val (.int p1), .val (.int p2), .val (.int p3), .val (.int p4), .val (.int (5 : Int32)), .val (.int (3 : Int32)), .val (.ref b11), .val (.ref b177), .val (.ref a199), .val (.int (1 : Int32)), .val (.int (1 : Int32))] [])) (fun T A t r => XS.istore A hx rfl (hb hby at_329) rfl (l' := #[.val (.int p1), .val (.int p2), .val (.int p3), .val (.int p4), .val (.int (5 : Int32)), .val (.int (3 : Int32)), .val (.ref b11), .val (.ref b177), .val (.ref a199), .val (.int (1 : Int32)), .val (.int (1 : Int32))]) rfl r) ?_
    refine Go.sp (g' := (mkF m 332 #[.val (.int p1), .val (.int p2), .val (.int p3), .val (.int p4), .val (.int (5 : Int32)), .val (.int (3 : Int32)), .val (.ref b11), .val (.ref b177), .val (.ref a199), .val (.int (1 : Int32)), .val (.int (1 : Int32))] [(.int (0 : Int32))])) (fun T A t r => XS.iconst A hx rfl (hb hby at_331) r) ?_
    refine Go.sp (g' := (mkF m 334 #[.val (.int p1), .val (.int p2), .val (.int p3), .val (.int p4), .val (.int (5 : Int32)), .val (.int (3 : Int32)), .val (.ref b11), .val (.ref b177), .val (.ref a199), .val (.int (1 : Int32)), .val (.int (1 : Int32))] [(.int (1 : Int32)), (.int (0 : Int32))])) (fun T A t r => XS.iload A hx rfl (hb hby at_332) rfl r) ?_
    refine Go.sp (g' := (mkF m 337 #[.val (.int p1), .val (.int p2), .val (.int p3), .val (.int p4), .val (.int (5 : Int32)), .val (.int (3 : Int32)), .val (.ref b11), .val (.ref b177), .val (.ref a199), .val (.int (1 : Int32)), .val (.int (1 : Int32))] [])) (fun T A t r => XS.icmpNo A hx rfl (hb hby at_334) rfl (tlt (by decide : ((0 : Int32) < (1 : Int32)))).2.1 r) ?_
    refine Go.sp (g' := (mkF m 339 #[.val (.int p1), .val (.int p2), .val (.int p3), .val (.int p4), .val (.int (5 : Int32)), .val (.int (3 : Int32)), .val (.ref b11), .val (.ref b177), .val (.ref a199), .val (.int (1 : Int32)), .val (.int (1 : Int32))] [(.int (1 : Int32))])) (fun T A t r => XS.iload A hx rfl (hb hby at_337) rfl r) ?_
    refine Go.sp (g' := (mkF m 342 #[.val (.int p1), .val (.int p2), .val (.int p3), .val (.int p4), .val (.int (5 : Int32)), .val (.int (3 : Int32)), .val (.ref b11), .val (.ref b177), .val (.ref a199), .val (.int (1 : Int32)), .val (.int (1 : Int32))] [])) (fun T A t r => XS.ifNo A hx rfl (hb hby at_339) rfl ((if0 _ _).trans (feq (by decide : ¬ ((1 : Int32) = (0 : Int32)))).1) r) ?_
    refine Go.sp (g' := (mkF m 344 #[.val (.int p1), .val (.int p2), .val (.int p3), .val (.int p4), .val (.int (5 : Int32)), .val (.int (3 : Int32)), .val (.ref b11), .val (.ref b177), .val (.ref a199), .val (.int (1 : Int32)), .val (.int (1 : Int32))] [(.ref a199)])) (fun T A t r => XS.aload A hx rfl (hb hby at_342) rfl rfl r) ?_
    refine Go.sp (g' := (mkF m 345 #[.val (.int p1), .val (.int p2), .val (.int p3), .val (.int p4), .val (.int (5 : Int32)), .val (.int (3 : Int32)), .val (.ref b11), .val (.ref b177), .val (.ref a199), .val (.int (1 : Int32)), .val (.int (1 : Int32))] [(.int (0 : Int32)), (.ref a199)])) (fun T A t r => XS.iconst A hx rfl (hb hby at_344) r) ?_
    refine Go.callVP (a := a199) (z := (⟨"java/lang/String", "charAt", "(I)C"⟩ : MethodName)) (W := 0) (y := (⟨"java/lang/String", "charAt", "(I)C"⟩ : MethodName)) (argsL := [(.int (0 : Int32))]) (rest := []) (pc' := 348) (hb hby at_345) (own_w hw 122 rfl) (own_w hw 123 rfl) (fun s' hZ => notFace_of_selects (args := #[]) (mvT hZ (own_w hw 125 rfl))) (own_w hw 125 rfl) (own_w hw 124 rfl) (by decide) (fun s' hZ => Bk.pure (StrChars.Road.chN (kI := 4) (cs := [z25]) (i := 0) hZ (own_chwd hw) (own_w hw 7 rfl) E199 V199 C199 D199 (own_cod rfl lat200) (own_up lat200) (S0.ext O201.2) P0 (SF.ext O201.2) RF (by show 1 ≤ 4000; decide) (by show 0 < 1; decide) rfl (by decide) (by decide))) E199 (by rw [hml]; rfl) (lenOf pd_14 rfl) rfl (Nat.le_of_ble_eq_true rfl) rfl (by decide) (by decide) ?_
    rintro v203 rfl
    refine Go.cast (g' := (mkF m 348 #[.val (.int p1), .val (.int p2), .val (.int p3), .val (.int p4), .val (.int (5 : Int32)), .val (.int (3 : Int32)), .val (.ref b11), .val (.ref b177), .val (.ref a199), .val (.int (1 : Int32)), .val (.int (1 : Int32))] [(.int z25)])) rfl ?_
    refine Go.sp (g' := (mkF m 350 #[.val (.int p1), .val (.int p2), .val (.int p3), .val (.int p4), .val (.int (5 : Int32)), .val (.int (3 : Int32)), .val (.ref b11), .val (.ref b177), .val (.ref a199), .val (.int (1 : Int32)), .val (.int (1 : Int32))] [(.ref b11), (.int z25)])) (fun T A t r => XS.aload A hx rfl (hb hby at_348) rfl rfl r) ?_
    refine Go.sp (g' := (mkF m 352 #[.val (.int p1), .val (.int p2), .val (.int p3), .val (.int p4), .val (.int (5 : Int32)), .val (.int (3 : Int32)), .val (.ref b11), .val (.ref b177), .val (.ref a199), .val (.int (1 : Int32)), .val (.int (1 : Int32))] [(.int (3 : Int32)), (.ref b11), (.int z25)])) (fun T A t r => XS.iload A hx rfl (hb hby at_350) rfl r) ?_
    refine Go.sp (g' := (mkF m 353 #[.val (.int p1), .val (.int p2), .val (.int p3), .val (.int p4), .val (.int (5 : Int32)), .val (.int (3 : Int32)), .val (.ref b11), .val (.ref b177), .val (.ref a199), .val (.int (1 : Int32)), .val (.int (1 : Int32))] [(.int (1 : Int32)), (.int (3 : Int32)), (.ref b11), (.int z25)])) (fun T A t r => XS.iconst A hx rfl (hb hby at_352) r) ?_
    refine Go.sp (g' := (mkF m 354 #[.val (.int p1), .val (.int p2), .val (.int p3), .val (.int p4), .val (.int (5 : Int32)), .val (.int (3 : Int32)), .val (.ref b11), .val (.ref b177), .val (.ref a199), .val (.int (1 : Int32)), .val (.int (1 : Int32))] [(.int (4 : Int32)), (.ref b11), (.int z25)])) (fun T A t r => XS.iadd A hx rfl (hb hby at_353) rfl r) ?_
    have ne204 : b11 ≠ b177 := Nat.ne_of_lt (Nat.lt_of_lt_of_le V176.lt (Nat.le_of_eq g177.symm))
    have f205 := (((f189.other W190 ne182).keep K197 (ninS ne204 nin0)).keep K199 nin0)
    refine Go.r (g' := (mkF m 355 #[.val (.int p1), .val (.int p2), .val (.int p3), .val (.int p4), .val (.int (5 : Int32)), .val (.int (3 : Int32)), .val (.ref b11), .val (.ref b177), .val (.ref a199), .val (.int (1 : Int32)), .val (.int (1 : Int32))] [(.int z25), (.int z25)])) (fun s' T L X eT hZ t r => own_ldC X hx hZ eT f205 (j := (4 : Int32)) ⟨by decide, by decide⟩ (v := (.int z25)) rfl (g := (mkF m 354 #[.val (.int p1), .val (.int p2), .val (.int p3), .val (.int p4), .val (.int (5 : Int32)), .val (.int (3 : Int32)), .val (.ref b11), .val (.ref b177), .val (.ref a199), .val (.int (1 : Int32)), .val (.int (1 : Int32))] [(.int (4 : Int32)), (.ref b11), (.int z25)])) rfl rfl (hb hby at_354) t r) ?_
    refine Go.sp (g' := (mkF m 358 #[.val (.int p1), .val (.int p2), .val (.int p3), .val (.int p4), .val (.int (5 : Int32)), .val (.int (3 : Int32)), .val (.ref b11), .val (.ref b177), .val (.ref a199), .val (.int (1 : Int32)), .val (.int (1 : Int32))] [])) (fun T A t r => XS.icmpNo A hx rfl (hb hby at_355) rfl (teq (rfl : z25 = z25)).2 r) ?_
    refine Go.sp (g' := (mkF m 359 #[.val (.int p1), .val (.int p2), .val (.int p3), .val (.int p4), .val (.int (5 : Int32)), .val (.int (3 : Int32)), .val (.ref b11), .val (.ref b177), .val (.ref a199), .val (.int (1 : Int32)), .val (.int (1 : Int32))] [(.int (1 : Int32))])) (fun T A t r => XS.iconst A hx rfl (hb hby at_358) r) ?_
    refine Go.sp (g' := (mkF m 363 #[.val (.int p1), .val (.int p2), .val (.int p3), .val (.int p4), .val (.int (5 : Int32)), .val (.int (3 : Int32)), .val (.ref b11), .val (.ref b177), .val (.ref a199), .val (.int (1 : Int32)), .val (.int (1 : Int32))] [(.int (1 : Int32))])) (fun T A t r => XS.goto A hx rfl (pc0 := 359) (pc' := 363) rfl (hb hby at_359) (by decide) (by decide) r) ?_
    refine Go.sp (g' := (mkF m 365 #[.val (.int p1), .val (.int p2), .val (.int p3), .val (.int p4), .val (.int (5 : Int32)), .val (.int (3 : Int32)), .val (.ref b11), .val (.ref b177), .val (.ref a199), .val (.int (1 : Int32)), .val (.int (1 : Int32))] [])) (fun T A t r => XS.istore A hx rfl (hb hby at_363) rfl (l' := #[.val (.int p1), .val (.int p2), .val (.int p3), .val (.int p4), .val (.int (5 : Int32)), .val (.int (3 : Int32)), .val (.ref b11), .val (.ref b177), .val (.ref a199), .val (.int (1 : Int32)), .val (.int (1 : Int32))]) rfl r) ?_
    refine Go.sp (g' := (mkF m 366 #[.val (.int p1), .val (.int p2), .val (.int p3), .val (.int p4), .val (.int (5 : Int32)), .val (.int (3 : Int32)), .val (.ref b11), .val (.ref b177), .val (.ref a199), .val (.int (1 : Int32)), .val (.int (1 : Int32))] [(.int (1 : Int32))])) (fun T A t r => XS.iconst A hx rfl (hb hby at_365) r) ?_
    refine Go.sp (g' := (mkF m 368 #[.val (.int p1), .val (.int p2), .val (.int p3), .val (.int p4), .val (.int (5 : Int32)), .val (.int (3 : Int32)), .val (.ref b11), .val (.ref b177), .val (.ref a199), .val (.int (1 : Int32)), .val (.int (1 : Int32))] [(.int (1 : Int32)), (.int (1 : Int32))])) (fun T A t r => XS.iload A hx rfl (hb hby at_366) rfl r) ?_
    refine Go.sp (g' := (mkF m 399 #[.val (.int p1), .val (.int p2), .val (.int p3), .val (.int p4), .val (.int (5 : Int32)), .val (.int (3 : Int32)), .val (.ref b11), .val (.ref b177), .val (.ref a199), .val (.int (1 : Int32)), .val (.int (1 : Int32))] [])) (fun T A t r => XS.icmpYes A hx rfl (pc0 := 368) (pc' := 399) rfl (hb hby at_368) rfl (flt (by decide : ¬ ((1 : Int32) < (1 : Int32)))).2.1 (by decide) (by decide) r) ?_
    refine Go.sp (g' := (mkF m 400 #[.val (.int p1), .val (.int p2), .val (.int p3), .val (.int p4), .val (.int (5 : Int32)), .val (.int (3 : Int32)), .val (.ref b11), .val (.ref b177), .val (.ref a199), .val (.int (1 : Int32)), .val (.int (1 : Int32))] [(.int (2 : Int32))])) (fun T A t r => XS.iconst A hx rfl (hb hby at_399) r) ?_
    refine Go.sp (g' := (mkF m 402 #[.val (.int p1), .val (.int p2), .val (.int p3), .val (.int p4), .val (.int (5 : Int32)), .val (.int (3 : Int32)), .val (.ref b11), .val (.ref b177), .val (.ref a199), .val (.int (1 : Int32)), .val (.int (1 : Int32))] [(.int (1 : Int32)), (.int (2 : Int32))])) (fun T A t r => XS.iload A hx rfl (hb hby at_400) rfl r) ?_
    refine Go.sp (g' := (mkF m 433 #[.val (.int p1), .val (.int p2), .val (.int p3), .val (.int p4), .val (.int (5 : Int32)), .val (.int (3 : Int32)), .val (.ref b11), .val (.ref b177), .val (.ref a199), .val (.int (1 : Int32)), .val (.int (1 : Int32))] [])) (fun T A t r => XS.icmpYes A hx rfl (pc0 := 402) (pc' := 433) rfl (hb hby at_402) rfl (flt (by decide : ¬ ((2 : Int32) < (1 : Int32)))).2.1 (by decide) (by decide) r) ?_
    refine Go.sp (g' := (mkF m 434 #[.val (.int p1), .val (.int p2), .val (.int p3), .val (.int p4), .val (.int (5 : Int32)), .val (.int (3 : Int32)), .val (.ref b11), .val (.ref b177), .val (.ref a199), .val (.int (1 : Int32)), .val (.int (1 : Int32))] [(.int (3 : Int32))])) (fun T A t r => XS.iconst A hx rfl (hb hby at_433) r) ?_
    refine Go.sp (g' := (mkF m 436 #[.val (.int p1), .val (.int p2), .val (.int p3), .val (.int p4), .val (.int (5 : Int32)), .val (.int (3 : Int32)), .val (.ref b11), .val (.ref b177), .val (.ref a199), .val (.int (1 : Int32)), .val (.int (1 : Int32))] [(.int (1 : Int32)), (.int (3 : Int32))])) (fun T A t r => XS.iload A hx rfl (hb hby at_434) rfl r) ?_
    refine Go.sp (g' := (mkF m 467 #[.val (.int p1), .val (.int p2), .val (.int p3), .val (.int p4), .val (.int (5 : Int32)), .val (.int (3 : Int32)), .val (.ref b11), .val (.ref b177), .val (.ref a199), .val (.int (1 : Int32)), .val (.int (1 : Int32))] [])) (fun T A t r => XS.icmpYes A hx rfl (pc0 := 436) (pc' := 467) rfl (hb hby at_436) rfl (flt (by decide : ¬ ((3 : Int32) < (1 : Int32)))).2.1 (by decide) (by decide) r) ?_
    refine Go.sp (g' := (mkF m 469 #[.val (.int p1), .val (.int p2), .val (.int p3), .val (.int p4), .val (.int (5 : Int32)), .val (.int (3 : Int32)), .val (.ref b11), .val (.ref b177), .val (.ref a199), .val (.int (1 : Int32)), .val (.int (1 : Int32))] [(.int (1 : Int32))])) (fun T A t r => XS.iload A hx rfl (hb hby at_467) rfl r) ?_
    exact Go.ret (v := (some (.int (nar .boolean (1 : Int32))))) (fun s' T L fs X hr => retN X hx (t := .boolean) hret (by simp) (hb hby at_469) hr) (fun h => by rw [hret] at h; cases h) (by decide) (by decide) rfl
  · skip
    refine Go.cast (g' := (mkF m 91 #[.val (.int p1), .val (.int p2), .val (.int p3), .val (.int p4), .val (.int (6 : Int32)), .val (.int (1 : Int32)), .val (.ref b11), .unset, .unset, .unset, .unset] [])) (by rw [ha, hn]) ?_
    refine Go.sp (g' := (mkF m 93 #[.val (.int p1), .val (.int p2), .val (.int p3), .val (.int p4), .val (.int (6 : Int32)), .val (.int (1 : Int32)), .val (.ref b11), .unset, .unset, .unset, .unset] [(.ref b11)])) (fun T A t r => XS.aload A hx rfl (hb hby at_91) rfl rfl r) ?_
    refine Go.sp (g' := (mkF m 95 #[.val (.int p1), .val (.int p2), .val (.int p3), .val (.int p4), .val (.int (6 : Int32)), .val (.int (1 : Int32)), .val (.ref b11), .unset, .unset, .unset, .unset] [(.int (1 : Int32)), (.ref b11)])) (fun T A t r => XS.iload A hx rfl (hb hby at_93) rfl r) ?_
    refine Go.sp (g' := (mkF m 97 #[.val (.int p1), .val (.int p2), .val (.int p3), .val (.int p4), .val (.int (6 : Int32)), .val (.int (1 : Int32)), .val (.ref b11), .unset, .unset, .unset, .unset] [(.int (64 : Int32)), (.int (1 : Int32)), (.ref b11)])) (fun T A t r => XS.bipush A hx rfl (hb hby at_95) r) ?_
    refine Go.w (g' := (mkF m 98 #[.val (.int p1), .val (.int p2), .val (.int p3), .val (.int p4), .val (.int (6 : Int32)), .val (.int (1 : Int32)), .val (.ref b11), .unset, .unset, .unset, .unset] [])) (fun s' T L X eT hZ hown => own_stC X hx hZ eT V29 (j := (1 : Int32)) ⟨by decide, by decide⟩ (g := (mkF m 97 #[.val (.int p1), .val (.int p2), .val (.int p3), .val (.int p4), .val (.int (6 : Int32)), .val (.int (1 : Int32)), .val (.ref b11), .unset, .unset, .unset, .unset] [(.int (64 : Int32)), (.int (1 : Int32)), (.ref b11)])) rfl rfl (hb hby at_97)) (Or.inr sz11) ?_
    intro h206 W206
    have V206 : Arv Z h206 b11 k11 .char (6 : Int32) [(.int z13), (.int (64 : Int32)), (.int z19), (.int z22), (.int z25), (.int z28)] (.int (0 : Int32)) := own_set V29 (fits_nar_char _) W206 rfl 1 rfl (Nat.le_of_ble_eq_true rfl)
    refine Go.sp (g' := (mkF m 100 #[.val (.int p1), .val (.int p2), .val (.int p3), .val (.int p4), .val (.int (6 : Int32)), .val (.int (1 : Int32)), .val (.ref b11), .unset, .unset, .unset, .unset] [(.int (6 : Int32))])) (fun T A t r => XS.iload A hx rfl (hb hby at_98) rfl r) ?_
    refine Go.sp (g' := (mkF m 101 #[.val (.int p1), .val (.int p2), .val (.int p3), .val (.int p4), .val (.int (6 : Int32)), .val (.int (1 : Int32)), .val (.ref b11), .unset, .unset, .unset, .unset] [(.int (3 : Int32)), (.int (6 : Int32))])) (fun T A t r => XS.iconst A hx rfl (hb hby at_100) r) ?_
    refine Go.sp (g' := (mkF m 140 #[.val (.int p1), .val (.int p2), .val (.int p3), .val (.int p4), .val (.int (6 : Int32)), .val (.int (1 : Int32)), .val (.ref b11), .unset, .unset, .unset, .unset] [])) (fun T A t r => XS.icmpYes A hx rfl (pc0 := 101) (pc' := 140) rfl (hb hby at_101) rfl (feq (by decide : ¬ ((6 : Int32) = (3 : Int32)))).2 (by decide) (by decide) r) ?_
    refine Go.sp (g' := (mkF m 142 #[.val (.int p1), .val (.int p2), .val (.int p3), .val (.int p4), .val (.int (6 : Int32)), .val (.int (1 : Int32)), .val (.ref b11), .unset, .unset, .unset, .unset] [(.int (6 : Int32))])) (fun T A t r => XS.iload A hx rfl (hb hby at_140) rfl r) ?_
    refine Go.sp (g' := (mkF m 143 #[.val (.int p1), .val (.int p2), .val (.int p3), .val (.int p4), .val (.int (6 : Int32)), .val (.int (1 : Int32)), .val (.ref b11), .unset, .unset, .unset, .unset] [(.int (4 : Int32)), (.int (6 : Int32))])) (fun T A t r => XS.iconst A hx rfl (hb hby at_142) r) ?_
    refine Go.sp (g' := (mkF m 189 #[.val (.int p1), .val (.int p2), .val (.int p3), .val (.int p4), .val (.int (6 : Int32)), .val (.int (1 : Int32)), .val (.ref b11), .unset, .unset, .unset, .unset] [])) (fun T A t r => XS.icmpYes A hx rfl (pc0 := 143) (pc' := 189) rfl (hb hby at_143) rfl (feq (by decide : ¬ ((6 : Int32) = (4 : Int32)))).2 (by decide) (by decide) r) ?_
    refine Go.sp (g' := (mkF m 191 #[.val (.int p1), .val (.int p2), .val (.int p3), .val (.int p4), .val (.int (6 : Int32)), .val (.int (1 : Int32)), .val (.ref b11), .unset, .unset, .unset, .unset] [(.int (6 : Int32))])) (fun T A t r => XS.iload A hx rfl (hb hby at_189) rfl r) ?_
    refine Go.sp (g' := (mkF m 192 #[.val (.int p1), .val (.int p2), .val (.int p3), .val (.int p4), .val (.int (6 : Int32)), .val (.int (1 : Int32)), .val (.ref b11), .unset, .unset, .unset, .unset] [(.int (5 : Int32)), (.int (6 : Int32))])) (fun T A t r => XS.iconst A hx rfl (hb hby at_191) r) ?_
    refine Go.sp (g' := (mkF m 245 #[.val (.int p1), .val (.int p2), .val (.int p3), .val (.int p4), .val (.int (6 : Int32)), .val (.int (1 : Int32)), .val (.ref b11), .unset, .unset, .unset, .unset] [])) (fun T A t r => XS.icmpYes A hx rfl (pc0 := 192) (pc' := 245) rfl (hb hby at_192) rfl (feq (by decide : ¬ ((6 : Int32) = (5 : Int32)))).2 (by decide) (by decide) r) ?_
    refine Go.newO (k' := 2) (n' := 10) (pc' := 248) (hb hby at_245) (own_w hw 6 rfl) (own_w hw 7 rfl) (own_w hw 8 rfl) rfl rfl rfl (by decide) (by decide) ?_
    intro b207 h207 g207 sz207 E207 A207 D207
    have F207_coder : Fld Z h207 b207 "java/lang/String" "coder" "B" (.int (0 : Int32)) := D207 (Or.inr (own_w hw 32 rfl)) (ty := .byte) (by decide)
    have F207_value : Fld Z h207 b207 "java/lang/String" "value" "[B" .null := D207 (Or.inr (own_w hw 34 rfl)) (ty := (.array .byte)) (by decide)
    refine Go.sp (g' := (mkF m 249 #[.val (.int p1), .val (.int p2), .val (.int p3), .val (.int p4), .val (.int (6 : Int32)), .val (.int (1 : Int32)), .val (.ref b11), .unset, .unset, .unset, .unset] [(.ref b207), (.ref b207)])) (fun T A t r => XS.dup A hx rfl (hb hby at_248) rfl rfl r) ?_
    refine Go.sp (g' := (mkF m 251 #[.val (.int p1), .val (.int p2), .val (.int p3), .val (.int p4), .val (.int (6 : Int32)), .val (.int (1 : Int32)), .val (.ref b11), .unset, .unset, .unset, .unset] [(.int (6 : Int32)), (.ref b207), (.ref b207)])) (fun T A t r => XS.bipush A hx rfl (hb hby at_249) r) ?_
    refine Go.newP (ty := .char) (dv := (.int (0 : Int32))) (cap := 6) (k' := 3) (n' := 16) (pc' := 253) (hb hby at_251) rfl rfl (own_w hw 0 rfl) (by decide) (by decide) (by decide) rfl rfl rfl (by decide) (by decide) ?_
    intro b208 h208 k208 g208 sz208 E208 A208
    have V208 : Arv Z h208 b208 k208 .char (6 : Int32) [(.int (0 : Int32)), (.int (0 : Int32)), (.int (0 : Int32)), (.int (0 : Int32)), (.int (0 : Int32)), (.int (0 : Int32))] (.int (0 : Int32)) := A208.pad (pad_rep [] (.int (0 : Int32)) 6)
    refine Go.sp (g' := (mkF m 254 #[.val (.int p1), .val (.int p2), .val (.int p3), .val (.int p4), .val (.int (6 : Int32)), .val (.int (1 : Int32)), .val (.ref b11), .unset, .unset, .unset, .unset] [(.ref b208), (.ref b208), (.ref b207), (.ref b207)])) (fun T A t r => XS.dup A hx rfl (hb hby at_253) rfl rfl r) ?_
    refine Go.sp (g' := (mkF m 255 #[.val (.int p1), .val (.int p2), .val (.int p3), .val (.int p4), .val (.int (6 : Int32)), .val (.int (1 : Int32)), .val (.ref b11), .unset, .unset, .unset, .unset] [(.int (0 : Int32)), (.ref b208), (.ref b208), (.ref b207), (.ref b207)])) (fun T A t r => XS.iconst A hx rfl (hb hby at_254) r) ?_
    refine Go.sp (g' := (mkF m 257 #[.val (.int p1), .val (.int p2), .val (.int p3), .val (.int p4), .val (.int (6 : Int32)), .val (.int (1 : Int32)), .val (.ref b11), .unset, .unset, .unset, .unset] [(.ref b11), (.int (0 : Int32)), (.ref b208), (.ref b208), (.ref b207), (.ref b207)])) (fun T A t r => XS.aload A hx rfl (hb hby at_255) rfl rfl r) ?_
    refine Go.sp (g' := (mkF m 258 #[.val (.int p1), .val (.int p2), .val (.int p3), .val (.int p4), .val (.int (6 : Int32)), .val (.int (1 : Int32)), .val (.ref b11), .unset, .unset, .unset, .unset] [(.int (0 : Int32)), (.ref b11), (.int (0 : Int32)), (.ref b208), (.ref b208), (.ref b207), (.ref b207)])) (fun T A t r => XS.iconst A hx rfl (hb hby at_257) r) ?_
    have f209 := ((V206.ext E207).ext E208)
    refine Go.r (g' := (mkF m 259 #[.val (.int p1), .val (.int p2), .val (.int p3), .val (.int p4), .val (.int (6 : Int32)), .val (.int (1 : Int32)), .val (.ref b11), .unset, .unset, .unset, .unset] [(.int z13), (.int (0 : Int32)), (.ref b208), (.ref b208), (.ref b207), (.ref b207)])) (fun s' T L X eT hZ t r => own_ldC X hx hZ eT f209 (j := (0 : Int32)) ⟨by decide, by decide⟩ (v := (.int z13)) rfl (g := (mkF m 258 #[.val (.int p1), .val (.int p2), .val (.int p3), .val (.int p4), .val (.int (6 : Int32)), .val (.int (1 : Int32)), .val (.ref b11), .unset, .unset, .unset, .unset] [(.int (0 : Int32)), (.ref b11), (.int (0 : Int32)), (.ref b208), (.ref b208), (.ref b207), (.ref b207)])) rfl rfl (hb hby at_258) t r) ?_
    refine Go.w (g' := (mkF m 260 #[.val (.int p1), .val (.int p2), .val (.int p3), .val (.int p4), .val (.int (6 : Int32)), .val (.int (1 : Int32)), .val (.ref b11), .unset, .unset, .unset, .unset] [(.ref b208), (.ref b207), (.ref b207)])) (fun s' T L X eT hZ hown => own_stC X hx hZ eT V208 (j := (0 : Int32)) ⟨by decide, by decide⟩ (g := (mkF m 259 #[.val (.int p1), .val (.int p2), .val (.int p3), .val (.int p4), .val (.int (6 : Int32)), .val (.int (1 : Int32)), .val (.ref b11), .unset, .unset, .unset, .unset] [(.int z13), (.int (0 : Int32)), (.ref b208), (.ref b208), (.ref b207), (.ref b207)])) rfl rfl (hb hby at_259)) (Or.inr sz208) ?_
    intro h210 W210
    have V210 : Arv Z h210 b208 k208 .char (6 : Int32) [(.int z13), (.int (0 : Int32)), (.int (0 : Int32)), (.int (0 : Int32)), (.int (0 : Int32)), (.int (0 : Int32))] (.int (0 : Int32)) := own_set V208 (fits_nar_char _) W210 (congrArg Value.int (own_nar zb13)) 0 rfl (Nat.le_of_ble_eq_true rfl)
    refine Go.sp (g' := (mkF m 261 #[.val (.int p1), .val (.int p2), .val (.int p3), .val (.int p4), .val (.int (6 : Int32)), .val (.int (1 : Int32)), .val (.ref b11), .unset, .unset, .unset, .unset] [(.ref b208), (.ref b208), (.ref b207), (.ref b207)])) (fun T A t r => XS.dup A hx rfl (hb hby at_260) rfl rfl r) ?_
    refine Go.sp (g' := (mkF m 262 #[.val (.int p1), .val (.int p2), .val (.int p3), .val (.int p4), .val (.int (6 : Int32)), .val (.int (1 : Int32)), .val (.ref b11), .unset, .unset, .unset, .unset] [(.int (1 : Int32)), (.ref b208), (.ref b208), (.ref b207), (.ref b207)])) (fun T A t r => XS.iconst A hx rfl (hb hby at_261) r) ?_
    refine Go.sp (g' := (mkF m 264 #[.val (.int p1), .val (.int p2), .val (.int p3), .val (.int p4), .val (.int (6 : Int32)), .val (.int (1 : Int32)), .val (.ref b11), .unset, .unset, .unset, .unset] [(.ref b11), (.int (1 : Int32)), (.ref b208), (.ref b208), (.ref b207), (.ref b207)])) (fun T A t r => XS.aload A hx rfl (hb hby at_262) rfl rfl r) ?_
    refine Go.sp (g' := (mkF m 265 #[.val (.int p1), .val (.int p2), .val (.int p3), .val (.int p4), .val (.int (6 : Int32)), .val (.int (1 : Int32)), .val (.ref b11), .unset, .unset, .unset, .unset] [(.int (1 : Int32)), (.ref b11), (.int (1 : Int32)), (.ref b208), (.ref b208), (.ref b207), (.ref b207)])) (fun T A t r => XS.iconst A hx rfl (hb hby at_264) r) ?_
    have f211 := (V206.ext E207)
    have ne212 : b11 ≠ b208 := Nat.ne_of_lt (Nat.lt_of_lt_of_le f211.lt (Nat.le_of_eq g208.symm))
    have f213 := (f209.other W210 ne212)
    refine Go.r (g' := (mkF m 266 #[.val (.int p1), .val (.int p2), .val (.int p3), .val (.int p4), .val (.int (6 : Int32)), .val (.int (1 : Int32)), .val (.ref b11), .unset, .unset, .unset, .unset] [(.int (64 : Int32)), (.int (1 : Int32)), (.ref b208), (.ref b208), (.ref b207), (.ref b207)])) (fun s' T L X eT hZ t r => own_ldC X hx hZ eT f213 (j := (1 : Int32)) ⟨by decide, by decide⟩ (v := (.int (64 : Int32))) rfl (g := (mkF m 265 #[.val (.int p1), .val (.int p2), .val (.int p3), .val (.int p4), .val (.int (6 : Int32)), .val (.int (1 : Int32)), .val (.ref b11), .unset, .unset, .unset, .unset] [(.int (1 : Int32)), (.ref b11), (.int (1 : Int32)), (.ref b208), (.ref b208), (.ref b207), (.ref b207)])) rfl rfl (hb hby at_265) t r) ?_
    refine Go.w (g' := (mkF m 267 #[.val (.int p1), .val (.int p2), .val (.int p3), .val (.int p4), .val (.int (6 : Int32)), .val (.int (1 : Int32)), .val (.ref b11), .unset, .unset, .unset, .unset] [(.ref b208), (.ref b207), (.ref b207)])) (fun s' T L X eT hZ hown => own_stC X hx hZ eT V210 (j := (1 : Int32)) ⟨by decide, by decide⟩ (g := (mkF m 266 #[.val (.int p1), .val (.int p2), .val (.int p3), .val (.int p4), .val (.int (6 : Int32)), .val (.int (1 : Int32)), .val (.ref b11), .unset, .unset, .unset, .unset] [(.int (64 : Int32)), (.int (1 : Int32)), (.ref b208), (.ref b208), (.ref b207), (.ref b207)])) rfl rfl (hb hby at_266)) (Or.inr sz208) ?_
    intro h214 W214
    have V214 : Arv Z h214 b208 k208 .char (6 : Int32) [(.int z13), (.int (64 : Int32)), (.int (0 : Int32)), (.int (0 : Int32)), (.int (0 : Int32)), (.int (0 : Int32))] (.int (0 : Int32)) := own_set V210 (fits_nar_char _) W214 rfl 1 rfl (Nat.le_of_ble_eq_true rfl)
    refine Go.sp (g' := (mkF m 268 #[.val (.int p1), .val (.int p2), .val (.int p3), .val (.int p4), .val (.int (6 : Int32)), .val (.int (1 : Int32)), .val (.ref b11), .unset, .unset, .unset, .unset] [(.ref b208), (.ref b208), (.ref b207), (.ref b207)])) (fun T A t r => XS.dup A hx rfl (hb hby at_267) rfl rfl r) ?_
    refine Go.sp (g' := (mkF m 269 #[.val (.int p1), .val (.int p2), .val (.int p3), .val (.int p4), .val (.int (6 : Int32)), .val (.int (1 : Int32)), .val (.ref b11), .unset, .unset, .unset, .unset] [(.int (2 : Int32)), (.ref b208), (.ref b208), (.ref b207), (.ref b207)])) (fun T A t r => XS.iconst A hx rfl (hb hby at_268) r) ?_
    refine Go.sp (g' := (mkF m 271 #[.val (.int p1), .val (.int p2), .val (.int p3), .val (.int p4), .val (.int (6 : Int32)), .val (.int (1 : Int32)), .val (.ref b11), .unset, .unset, .unset, .unset] [(.ref b11), (.int (2 : Int32)), (.ref b208), (.ref b208), (.ref b207), (.ref b207)])) (fun T A t r => XS.aload A hx rfl (hb hby at_269) rfl rfl r) ?_
    refine Go.sp (g' := (mkF m 272 #[.val (.int p1), .val (.int p2), .val (.int p3), .val (.int p4), .val (.int (6 : Int32)), .val (.int (1 : Int32)), .val (.ref b11), .unset, .unset, .unset, .unset] [(.int (2 : Int32)), (.ref b11), (.int (2 : Int32)), (.ref b208), (.ref b208), (.ref b207), (.ref b207)])) (fun T A t r => XS.iconst A hx rfl (hb hby at_271) r) ?_
    have f215 := (f213.other W214 ne212)
    refine Go.r (g' := (mkF m 273 #[.val (.int p1), .val (.int p2), .val (.int p3), .val (.int p4), .val (.int (6 : Int32)), .val (.int (1 : Int32)), .val (.ref b11), .unset, .unset, .unset, .unset] [(.int z19), (.int (2 : Int32)), (.ref b208), (.ref b208), (.ref b207), (.ref b207)])) (fun s' T L X eT hZ t r => own_ldC X hx hZ eT f215 (j := (2 : Int32)) ⟨by decide, by decide⟩ (v := (.int z19)) rfl (g := (mkF m 272 #[.val (.int p1), .val (.int p2), .val (.int p3), .val (.int p4), .val (.int (6 : Int32)), .val (.int (1 : Int32)), .val (.ref b11), .unset, .unset, .unset, .unset] [(.int (2 : Int32)), (.ref b11), (.int (2 : Int32)), (.ref b208), (.ref b208), (.ref b207), (.ref b207)])) rfl rfl (hb hby at_272) t r) ?_
    refine Go.w (g' := (mkF m 274 #[.val (.int p1), .val (.int p2), .val (.int p3), .val (.int p4), .val (.int (6 : Int32)), .val (.int (1 : Int32)), .val (.ref b11), .unset, .unset, .unset, .unset] [(.ref b208), (.ref b207), (.ref b207)])) (fun s' T L X eT hZ hown => own_stC X hx hZ eT V214 (j := (2 : Int32)) ⟨by decide, by decide⟩ (g := (mkF m 273 #[.val (.int p1), .val (.int p2), .val (.int p3), .val (.int p4), .val (.int (6 : Int32)), .val (.int (1 : Int32)), .val (.ref b11), .unset, .unset, .unset, .unset] [(.int z19), (.int (2 : Int32)), (.ref b208), (.ref b208), (.ref b207), (.ref b207)])) rfl rfl (hb hby at_273)) (Or.inr sz208) ?_
    intro h216 W216
    have V216 : Arv Z h216 b208 k208 .char (6 : Int32) [(.int z13), (.int (64 : Int32)), (.int z19), (.int (0 : Int32)), (.int (0 : Int32)), (.int (0 : Int32))] (.int (0 : Int32)) := own_set V214 (fits_nar_char _) W216 (congrArg Value.int (own_nar zb19)) 2 rfl (Nat.le_of_ble_eq_true rfl)
    refine Go.sp (g' := (mkF m 275 #[.val (.int p1), .val (.int p2), .val (.int p3), .val (.int p4), .val (.int (6 : Int32)), .val (.int (1 : Int32)), .val (.ref b11), .unset, .unset, .unset, .unset] [(.ref b208), (.ref b208), (.ref b207), (.ref b207)])) (fun T A t r => XS.dup A hx rfl (hb hby at_274) rfl rfl r) ?_
    refine Go.sp (g' := (mkF m 276 #[.val (.int p1), .val (.int p2), .val (.int p3), .val (.int p4), .val (.int (6 : Int32)), .val (.int (1 : Int32)), .val (.ref b11), .unset, .unset, .unset, .unset] [(.int (3 : Int32)), (.ref b208), (.ref b208), (.ref b207), (.ref b207)])) (fun T A t r => XS.iconst A hx rfl (hb hby at_275) r) ?_
    refine Go.sp (g' := (mkF m 278 #[.val (.int p1), .val (.int p2), .val (.int p3), .val (.int p4), .val (.int (6 : Int32)), .val (.int (1 : Int32)), .val (.ref b11), .unset, .unset, .unset, .unset] [(.ref b11), (.int (3 : Int32)), (.ref b208), (.ref b208), (.ref b207), (.ref b207)])) (fun T A t r => XS.aload A hx rfl (hb hby at_276) rfl rfl r) ?_
    refine Go.sp (g' := (mkF m 279 #[.val (.int p1), .val (.int p2), .val (.int p3), .val (.int p4), .val (.int (6 : Int32)), .val (.int (1 : Int32)), .val (.ref b11), .unset, .unset, .unset, .unset] [(.int (3 : Int32)), (.ref b11), (.int (3 : Int32)), (.ref b208), (.ref b208), (.ref b207), (.ref b207)])) (fun T A t r => XS.iconst A hx rfl (hb hby at_278) r) ?_
    have f217 := (f215.other W216 ne212)
    refine Go.r (g' := (mkF m 280 #[.val (.int p1), .val (.int p2), .val (.int p3), .val (.int p4), .val (.int (6 : Int32)), .val (.int (1 : Int32)), .val (.ref b11), .unset, .unset, .unset, .unset] [(.int z22), (.int (3 : Int32)), (.ref b208), (.ref b208), (.ref b207), (.ref b207)])) (fun s' T L X eT hZ t r => own_ldC X hx hZ eT f217 (j := (3 : Int32)) ⟨by decide, by decide⟩ (v := (.int z22)) rfl (g := (mkF m 279 #[.val (.int p1), .val (.int p2), .val (.int p3), .val (.int p4), .val (.int (6 : Int32)), .val (.int (1 : Int32)), .val (.ref b11), .unset, .unset, .unset, .unset] [(.int (3 : Int32)), (.ref b11), (.int (3 : Int32)), (.ref b208), (.ref b208), (.ref b207), (.ref b207)])) rfl rfl (hb hby at_279) t r) ?_
    refine Go.w (g' := (mkF m 281 #[.val (.int p1), .val (.int p2), .val (.int p3), .val (.int p4), .val (.int (6 : Int32)), .val (.int (1 : Int32)), .val (.ref b11), .unset, .unset, .unset, .unset] [(.ref b208), (.ref b207), (.ref b207)])) (fun s' T L X eT hZ hown => own_stC X hx hZ eT V216 (j := (3 : Int32)) ⟨by decide, by decide⟩ (g := (mkF m 280 #[.val (.int p1), .val (.int p2), .val (.int p3), .val (.int p4), .val (.int (6 : Int32)), .val (.int (1 : Int32)), .val (.ref b11), .unset, .unset, .unset, .unset] [(.int z22), (.int (3 : Int32)), (.ref b208), (.ref b208), (.ref b207), (.ref b207)])) rfl rfl (hb hby at_280)) (Or.inr sz208) ?_
    intro h218 W218
    have V218 : Arv Z h218 b208 k208 .char (6 : Int32) [(.int z13), (.int (64 : Int32)), (.int z19), (.int z22), (.int (0 : Int32)), (.int (0 : Int32))] (.int (0 : Int32)) := own_set V216 (fits_nar_char _) W218 (congrArg Value.int (own_nar zb22)) 3 rfl (Nat.le_of_ble_eq_true rfl)
    refine Go.sp (g' := (mkF m 282 #[.val (.int p1), .val (.int p2), .val (.int p3), .val (.int p4), .val (.int (6 : Int32)), .val (.int (1 : Int32)), .val (.ref b11), .unset, .unset, .unset, .unset] [(.ref b208), (.ref b208), (.ref b207), (.ref b207)])) (fun T A t r => XS.dup A hx rfl (hb hby at_281) rfl rfl r) ?_
    refine Go.sp (g' := (mkF m 283 #[.val (.int p1), .val (.int p2), .val (.int p3), .val (.int p4), .val (.int (6 : Int32)), .val (.int (1 : Int32)), .val (.ref b11), .unset, .unset, .unset, .unset] [(.int (4 : Int32)), (.ref b208), (.ref b208), (.ref b207), (.ref b207)])) (fun T A t r => XS.iconst A hx rfl (hb hby at_282) r) ?_
    refine Go.sp (g' := (mkF m 285 #[.val (.int p1), .val (.int p2), .val (.int p3), .val (.int p4), .val (.int (6 : Int32)), .val (.int (1 : Int32)), .val (.ref b11), .unset, .unset, .unset, .unset] [(.ref b11), (.int (4 : Int32)), (.ref b208), (.ref b208), (.ref b207), (.ref b207)])) (fun T A t r => XS.aload A hx rfl (hb hby at_283) rfl rfl r) ?_
    refine Go.sp (g' := (mkF m 286 #[.val (.int p1), .val (.int p2), .val (.int p3), .val (.int p4), .val (.int (6 : Int32)), .val (.int (1 : Int32)), .val (.ref b11), .unset, .unset, .unset, .unset] [(.int (4 : Int32)), (.ref b11), (.int (4 : Int32)), (.ref b208), (.ref b208), (.ref b207), (.ref b207)])) (fun T A t r => XS.iconst A hx rfl (hb hby at_285) r) ?_
    have f219 := (f217.other W218 ne212)
    refine Go.r (g' := (mkF m 287 #[.val (.int p1), .val (.int p2), .val (.int p3), .val (.int p4), .val (.int (6 : Int32)), .val (.int (1 : Int32)), .val (.ref b11), .unset, .unset, .unset, .unset] [(.int z25), (.int (4 : Int32)), (.ref b208), (.ref b208), (.ref b207), (.ref b207)])) (fun s' T L X eT hZ t r => own_ldC X hx hZ eT f219 (j := (4 : Int32)) ⟨by decide, by decide⟩ (v := (.int z25)) rfl (g := (mkF m 286 #[.val (.int p1), .val (.int p2), .val (.int p3), .val (.int p4), .val (.int (6 : Int32)), .val (.int (1 : Int32)), .val (.ref b11), .unset, .unset, .unset, .unset] [(.int (4 : Int32)), (.ref b11), (.int (4 : Int32)), (.ref b208), (.ref b208), (.ref b207), (.ref b207)])) rfl rfl (hb hby at_286) t r) ?_
    refine Go.w (g' := (mkF m 288 #[.val (.int p1), .val (.int p2), .val (.int p3), .val (.int p4), .val (.int (6 : Int32)), .val (.int (1 : Int32)), .val (.ref b11), .unset, .unset, .unset, .unset] [(.ref b208), (.ref b207), (.ref b207)])) (fun s' T L X eT hZ hown => own_stC X hx hZ eT V218 (j := (4 : Int32)) ⟨by decide, by decide⟩ (g := (mkF m 287 #[.val (.int p1), .val (.int p2), .val (.int p3), .val (.int p4), .val (.int (6 : Int32)), .val (.int (1 : Int32)), .val (.ref b11), .unset, .unset, .unset, .unset] [(.int z25), (.int (4 : Int32)), (.ref b208), (.ref b208), (.ref b207), (.ref b207)])) rfl rfl (hb hby at_287)) (Or.inr sz208) ?_
    intro h220 W220
    have V220 : Arv Z h220 b208 k208 .char (6 : Int32) [(.int z13), (.int (64 : Int32)), (.int z19), (.int z22), (.int z25), (.int (0 : Int32))] (.int (0 : Int32)) := own_set V218 (fits_nar_char _) W220 (congrArg Value.int (own_nar zb25)) 4 rfl (Nat.le_of_ble_eq_true rfl)
    refine Go.sp (g' := (mkF m 289 #[.val (.int p1), .val (.int p2), .val (.int p3), .val (.int p4), .val (.int (6 : Int32)), .val (.int (1 : Int32)), .val (.ref b11), .unset, .unset, .unset, .unset] [(.ref b208), (.ref b208), (.ref b207), (.ref b207)])) (fun T A t r => XS.dup A hx rfl (hb hby at_288) rfl rfl r) ?_
    refine Go.sp (g' := (mkF m 290 #[.val (.int p1), .val (.int p2), .val (.int p3), .val (.int p4), .val (.int (6 : Int32)), .val (.int (1 : Int32)), .val (.ref b11), .unset, .unset, .unset, .unset] [(.int (5 : Int32)), (.ref b208), (.ref b208), (.ref b207), (.ref b207)])) (fun T A t r => XS.iconst A hx rfl (hb hby at_289) r) ?_
    refine Go.sp (g' := (mkF m 292 #[.val (.int p1), .val (.int p2), .val (.int p3), .val (.int p4), .val (.int (6 : Int32)), .val (.int (1 : Int32)), .val (.ref b11), .unset, .unset, .unset, .unset] [(.ref b11), (.int (5 : Int32)), (.ref b208), (.ref b208), (.ref b207), (.ref b207)])) (fun T A t r => XS.aload A hx rfl (hb hby at_290) rfl rfl r) ?_
    refine Go.sp (g' := (mkF m 293 #[.val (.int p1), .val (.int p2), .val (.int p3), .val (.int p4), .val (.int (6 : Int32)), .val (.int (1 : Int32)), .val (.ref b11), .unset, .unset, .unset, .unset] [(.int (5 : Int32)), (.ref b11), (.int (5 : Int32)), (.ref b208), (.ref b208), (.ref b207), (.ref b207)])) (fun T A t r => XS.iconst A hx rfl (hb hby at_292) r) ?_
    have f221 := (f219.other W220 ne212)
    refine Go.r (g' := (mkF m 294 #[.val (.int p1), .val (.int p2), .val (.int p3), .val (.int p4), .val (.int (6 : Int32)), .val (.int (1 : Int32)), .val (.ref b11), .unset, .unset, .unset, .unset] [(.int z28), (.int (5 : Int32)), (.ref b208), (.ref b208), (.ref b207), (.ref b207)])) (fun s' T L X eT hZ t r => own_ldC X hx hZ eT f221 (j := (5 : Int32)) ⟨by decide, by decide⟩ (v := (.int z28)) rfl (g := (mkF m 293 #[.val (.int p1), .val (.int p2), .val (.int p3), .val (.int p4), .val (.int (6 : Int32)), .val (.int (1 : Int32)), .val (.ref b11), .unset, .unset, .unset, .unset] [(.int (5 : Int32)), (.ref b11), (.int (5 : Int32)), (.ref b208), (.ref b208), (.ref b207), (.ref b207)])) rfl rfl (hb hby at_293) t r) ?_
    refine Go.w (g' := (mkF m 295 #[.val (.int p1), .val (.int p2), .val (.int p3), .val (.int p4), .val (.int (6 : Int32)), .val (.int (1 : Int32)), .val (.ref b11), .unset, .unset, .unset, .unset] [(.ref b208), (.ref b207), (.ref b207)])) (fun s' T L X eT hZ hown => own_stC X hx hZ eT V220 (j := (5 : Int32)) ⟨by decide, by decide⟩ (g := (mkF m 294 #[.val (.int p1), .val (.int p2), .val (.int p3), .val (.int p4), .val (.int (6 : Int32)), .val (.int (1 : Int32)), .val (.ref b11), .unset, .unset, .unset, .unset] [(.int z28), (.int (5 : Int32)), (.ref b208), (.ref b208), (.ref b207), (.ref b207)])) rfl rfl (hb hby at_294)) (Or.inr sz208) ?_
    intro h222 W222
    have V222 : Arv Z h222 b208 k208 .char (6 : Int32) [(.int z13), (.int (64 : Int32)), (.int z19), (.int z22), (.int z25), (.int z28)] (.int (0 : Int32)) := own_set V220 (fits_nar_char _) W222 (congrArg Value.int (own_nar zb28)) 5 rfl (Nat.le_of_ble_eq_true rfl)
    have f223 := (((((((A207.ext E208).wr W210).wr W214).wr W216).wr W218).wr W220).wr W222)
    have ne224 : b207 ≠ b208 := Nat.ne_of_lt (Nat.lt_of_lt_of_le A207.lt (Nat.le_of_eq g208.symm))
    have f225 := (((((((F207_value.ext E208).other W210 (Or.inl ne224)).other W214 (Or.inl ne224)).other W216 (Or.inl ne224)).other W218 (Or.inl ne224)).other W220 (Or.inl ne224)).other W222 (Or.inl ne224))
    have f226 := (((((((F207_coder.ext E208).other W210 (Or.inl ne224)).other W214 (Or.inl ne224)).other W216 (Or.inl ne224)).other W218 (Or.inl ne224)).other W220 (Or.inl ne224)).other W222 (Or.inl ne224))
    refine Go.old fun O227 => ?_
    have lat228 : ∀ c ∈ [z13, (64 : Int32), z19, z22, z25, z28], ¬ c < 0 ∧ ¬ (255 : Int32) < c := own_allc zb13 (own_allc (by decide) (own_allc zb19 (own_allc zb22 (own_allc zb25 (own_allc zb28 (own_allc0))))))
    refine Go.callC (a := b207) (ws' := [b207]) (W := 1) (y := (⟨"java/lang/String", "<init>", "([C)V"⟩ : MethodName)) (argsL := [(.ref b208)]) (rest := [(.ref b207)]) (pc' := 298) (k' := 4) (n' := 22) (hb hby at_295) rfl (own_w hw 9 rfl) (own_w hw 10 rfl) (own_w hw 11 rfl) (by decide) (fun s' hZ => own_str hw (own_w hw 7 rfl) hZ (cs := [z13, (64 : Int32), z19, z22, z25, z28]) (n := 6) (Nat.le_trans (Old.le O0) sz207) O227 f223 f225 f226 V222 S0 P0 rfl rfl (by decide) (by decide) lat228 (by decide) (by decide)) (by rw [hml]; rfl) (lenOf pd_15 rfl) rfl (Nat.le_of_ble_eq_true rfl) rfl rfl rfl (by decide) (by decide) (allS (Or.inr sz207) all0) ?_
    rintro v229 h229 K229 ⟨rfl, E229, C229, t229, kb229, ge229, V229, B229⟩
    refine Go.cast (g' := (mkF m 298 #[.val (.int p1), .val (.int p2), .val (.int p3), .val (.int p4), .val (.int (6 : Int32)), .val (.int (1 : Int32)), .val (.ref b11), .unset, .unset, .unset, .unset] [(.ref b207)])) rfl ?_
    refine Go.sp (g' := (mkF m 300 #[.val (.int p1), .val (.int p2), .val (.int p3), .val (.int p4), .val (.int (6 : Int32)), .val (.int (1 : Int32)), .val (.ref b11), .val (.ref b207), .unset, .unset, .unset] [])) (fun T A t r => XS.astore A hx rfl (hb hby at_298) rfl rfl (l' := #[.val (.int p1), .val (.int p2), .val (.int p3), .val (.int p4), .val (.int (6 : Int32)), .val (.int (1 : Int32)), .val (.ref b11), .val (.ref b207), .unset, .unset, .unset]) rfl r) ?_
    refine Go.sp (g' := (mkF m 302 #[.val (.int p1), .val (.int p2), .val (.int p3), .val (.int p4), .val (.int (6 : Int32)), .val (.int (1 : Int32)), .val (.ref b11), .val (.ref b207), .unset, .unset, .unset] [(.ref b207)])) (fun T A t r => XS.aload A hx rfl (hb hby at_300) rfl rfl r) ?_
    refine Go.old fun O230 => ?_
    refine Go.callS (ws' := []) (W := 0) (y := (⟨"com/example/slow_digest/slowdigest/rules/MailAddress", "domain", "(Ljava/lang/String;)Ljava/lang/String;"⟩ : MethodName)) (argsL := [(.ref b207)]) (rest := []) (pc' := 305) (k' := 6) (n' := 34) (hb hby at_302) (own_w hw 35 rfl) (own_w hw 36 rfl) (own_w hw 37 rfl) (own_w hw 38 rfl) (by decide) (fun s' hZ => Ct.bk (rmD l Z a0 hw [] b207 t229 kb229 [z13, (64 : Int32), z19, z22, z25, z28] 1 zS fm h229 n0 O230 E229 C229 V229 B229 lat228 (Nat.le_of_ble_eq_true rfl) (Nat.le_of_ble_eq_true rfl) rfl (own_lt1 zn13) (Nat.le_of_ble_eq_true rfl) S0 P0 SF RF) hZ (own_w hw 38 rfl) (own_w hw 37 rfl) (by decide) (by decide)) (by rw [hml]; rfl) (lenOf pd_16 rfl) rfl (Nat.le_of_ble_eq_true rfl) rfl rfl rfl (by decide) (by decide) all0 ?_
    rintro v231 h231 K231 ⟨a231, t231, kb231, rfl, E231, C231, V231, B231⟩
    refine Go.cast (g' := (mkF m 305 #[.val (.int p1), .val (.int p2), .val (.int p3), .val (.int p4), .val (.int (6 : Int32)), .val (.int (1 : Int32)), .val (.ref b11), .val (.ref b207), .unset, .unset, .unset] [(.ref a231)])) rfl ?_
    have D231 : Arv Z h231 t231 kb231 .byte (4 : Int32) (([z19, z22, z25, z28].map fun c => c.toInt8.toInt32).map Value.int) (.int 0) := B231
    have lat232 : ∀ c ∈ [z19, z22, z25, z28], ¬ c < 0 ∧ ¬ (255 : Int32) < c := own_allc zb19 (own_allc zb22 (own_allc zb25 (own_allc zb28 (own_allc0))))
    refine Go.sp (g' := (mkF m 307 #[.val (.int p1), .val (.int p2), .val (.int p3), .val (.int p4), .val (.int (6 : Int32)), .val (.int (1 : Int32)), .val (.ref b11), .val (.ref b207), .val (.ref a231), .unset, .unset] [])) (fun T A t r => XS.astore A hx rfl (hb hby at_305) rfl rfl (l' := #[.val (.int p1), .val (.int p2), .val (.int p3), .val (.int p4), .val (.int (6 : Int32)), .val (.int (1 : Int32)), .val (.ref b11), .val (.ref b207), .val (.ref a231), .unset, .unset]) rfl r) ?_
    refine Go.sp (g' := (mkF m 309 #[.val (.int p1), .val (.int p2), .val (.int p3), .val (.int p4), .val (.int (6 : Int32)), .val (.int (1 : Int32)), .val (.ref b11), .val (.ref b207), .val (.ref a231), .unset, .unset] [(.int (6 : Int32))])) (fun T A t r => XS.iload A hx rfl (hb hby at_307) rfl r) ?_
    refine Go.sp (g' := (mkF m 311 #[.val (.int p1), .val (.int p2), .val (.int p3), .val (.int p4), .val (.int (6 : Int32)), .val (.int (1 : Int32)), .val (.ref b11), .val (.ref b207), .val (.ref a231), .unset, .unset] [(.int (1 : Int32)), (.int (6 : Int32))])) (fun T A t r => XS.iload A hx rfl (hb hby at_309) rfl r) ?_
    refine Go.sp (g' := (mkF m 312 #[.val (.int p1), .val (.int p2), .val (.int p3), .val (.int p4), .val (.int (6 : Int32)), .val (.int (1 : Int32)), .val (.ref b11), .val (.ref b207), .val (.ref a231), .unset, .unset] [(.int (5 : Int32))])) (fun T A t r => XS.isub A hx rfl (hb hby at_311) rfl r) ?_
    refine Go.sp (g' := (mkF m 313 #[.val (.int p1), .val (.int p2), .val (.int p3), .val (.int p4), .val (.int (6 : Int32)), .val (.int (1 : Int32)), .val (.ref b11), .val (.ref b207), .val (.ref a231), .unset, .unset] [(.int (1 : Int32)), (.int (5 : Int32))])) (fun T A t r => XS.iconst A hx rfl (hb hby at_312) r) ?_
    refine Go.sp (g' := (mkF m 314 #[.val (.int p1), .val (.int p2), .val (.int p3), .val (.int p4), .val (.int (6 : Int32)), .val (.int (1 : Int32)), .val (.ref b11), .val (.ref b207), .val (.ref a231), .unset, .unset] [(.int (4 : Int32))])) (fun T A t r => XS.isub A hx rfl (hb hby at_313) rfl r) ?_
    refine Go.sp (g' := (mkF m 316 #[.val (.int p1), .val (.int p2), .val (.int p3), .val (.int p4), .val (.int (6 : Int32)), .val (.int (1 : Int32)), .val (.ref b11), .val (.ref b207), .val (.ref a231), .val (.int (4 : Int32)), .unset] [])) (fun T A t r => XS.istore A hx rfl (hb hby at_314) rfl (l' := #[.val (.int p1), .val (.int p2), .val (.int p3), .val (.int p4), .val (.int (6 : Int32)), .val (.int (1 : Int32)), .val (.ref b11), .val (.ref b207), .val (.ref a231), .val (.int (4 : Int32)), .unset]) rfl r) ?_
    refine Go.sp (g' := (mkF m 318 #[.val (.int p1), .val (.int p2), .val (.int p3), .val (.int p4), .val (.int (6 : Int32)), .val (.int (1 : Int32)), .val (.ref b11), .val (.ref b207), .val (.ref a231), .val (.int (4 : Int32)), .unset] [(.ref a231)])) (fun T A t r => XS.aload A hx rfl (hb hby at_316) rfl rfl r) ?_
    refine Go.old fun O233 => ?_
    refine Go.callVP (a := a231) (z := (⟨"java/lang/String", "length", "()I"⟩ : MethodName)) (W := 0) (y := (⟨"java/lang/String", "length", "()I"⟩ : MethodName)) (argsL := []) (rest := []) (pc' := 321) (hb hby at_318) (own_w hw 121 rfl) (own_w hw 55 rfl) (fun s' hZ => notFace_of_selects (args := #[]) (mvT hZ (own_w hw 57 rfl))) (own_w hw 57 rfl) (own_w hw 56 rfl) (by decide) (fun s' hZ => Bk.pure (StrChars.Road.lenW (kI := 4) (cs := [z19, z22, z25, z28]) hZ (own_lenw hw) (own_w hw 7 rfl) E231 V231 C231 D231 (own_cod rfl lat232) (own_up lat232) (S0.ext O233.2) P0 (by show 4 ≤ 4000; decide) (by decide) (by decide))) E231 (by rw [hml]; rfl) (lenOf pd_4 rfl) rfl (Nat.le_of_ble_eq_true rfl) rfl (by decide) (by decide) ?_
    rintro v234 rfl
    refine Go.cast (g' := (mkF m 321 #[.val (.int p1), .val (.int p2), .val (.int p3), .val (.int p4), .val (.int (6 : Int32)), .val (.int (1 : Int32)), .val (.ref b11), .val (.ref b207), .val (.ref a231), .val (.int (4 : Int32)), .unset] [(.int (4 : Int32))])) rfl ?_
    refine Go.sp (g' := (mkF m 323 #[.val (.int p1), .val (.int p2), .val (.int p3), .val (.int p4), .val (.int (6 : Int32)), .val (.int (1 : Int32)), .val (.ref b11), .val (.ref b207), .val (.ref a231), .val (.int (4 : Int32)), .unset] [(.int (4 : Int32)), (.int (4 : Int32))])) (fun T A t r => XS.iload A hx rfl (hb hby at_321) rfl r) ?_
    refine Go.sp (g' := (mkF m 328 #[.val (.int p1), .val (.int p2), .val (.int p3), .val (.int p4), .val (.int (6 : Int32)), .val (.int (1 : Int32)), .val (.ref b11), .val (.ref b207), .val (.ref a231), .val (.int (4 : Int32)), .unset] [])) (fun T A t r => XS.icmpYes A hx rfl (pc0 := 323) (pc' := 328) rfl (hb hby at_323) rfl (teq (by decide : ((4 : Int32) = (4 : Int32)))).1 (by decide) (by decide) r) ?_
    refine Go.sp (g' := (mkF m 329 #[.val (.int p1), .val (.int p2), .val (.int p3), .val (.int p4), .val (.int (6 : Int32)), .val (.int (1 : Int32)), .val (.ref b11), .val (.ref b207), .val (.ref a231), .val (.int (4 : Int32)), .unset] [(.int (1 : Int32))])) (fun T A t r => XS.iconst A hx rfl (hb hby at_328) r) ?_
    refine Go.sp (g' := (mkF m 331 #[.val (.int p1), .val (.int p2), .val (.int p3), .val (.int p4), .val (.int (6 : Int32)), .val (.int (1 : Int32)), .val (.ref b11), .val (.ref b207), .val (.ref a231), .val (.int (4 : Int32)), .val (.int (1 : Int32))] [])) (fun T A t r => XS.istore A hx rfl (hb hby at_329) rfl (l' := #[.val (.int p1), .val (.int p2), .val (.int p3), .val (.int p4), .val (.int (6 : Int32)), .val (.int (1 : Int32)), .val (.ref b11), .val (.ref b207), .val (.ref a231), .val (.int (4 : Int32)), .val (.int (1 : Int32))]) rfl r) ?_
    refine Go.sp (g' := (mkF m 332 #[.val (.int p1), .val (.int p2), .val (.int p3), .val (.int p4), .val (.int (6 : Int32)), .val (.int (1 : Int32)), .val (.ref b11), .val (.ref b207), .val (.ref a231), .val (.int (4 : Int32)), .val (.int (1 : Int32))] [(.int (0 : Int32))])) (fun T A t r => XS.iconst A hx rfl (hb hby at_331) r) ?_
    refine Go.sp (g' := (mkF m 334 #[.val (.int p1), .val (.int p2), .val (.int p3), .val (.int p4), .val (.int (6 : Int32)), .val (.int (1 : Int32)), .val (.ref b11), .val (.ref b207), .val (.ref a231), .val (.int (4 : Int32)), .val (.int (1 : Int32))] [(.int (4 : Int32)), (.int (0 : Int32))])) (fun T A t r => XS.iload A hx rfl (hb hby at_332) rfl r) ?_
    refine Go.sp (g' := (mkF m 337 #[.val (.int p1), .val (.int p2), .val (.int p3), .val (.int p4), .val (.int (6 : Int32)), .val (.int (1 : Int32)), .val (.ref b11), .val (.ref b207), .val (.ref a231), .val (.int (4 : Int32)), .val (.int (1 : Int32))] [])) (fun T A t r => XS.icmpNo A hx rfl (hb hby at_334) rfl (tlt (by decide : ((0 : Int32) < (4 : Int32)))).2.1 r) ?_
    refine Go.sp (g' := (mkF m 339 #[.val (.int p1), .val (.int p2), .val (.int p3), .val (.int p4), .val (.int (6 : Int32)), .val (.int (1 : Int32)), .val (.ref b11), .val (.ref b207), .val (.ref a231), .val (.int (4 : Int32)), .val (.int (1 : Int32))] [(.int (1 : Int32))])) (fun T A t r => XS.iload A hx rfl (hb hby at_337) rfl r) ?_
    refine Go.sp (g' := (mkF m 342 #[.val (.int p1), .val (.int p2), .val (.int p3), .val (.int p4), .val (.int (6 : Int32)), .val (.int (1 : Int32)), .val (.ref b11), .val (.ref b207), .val (.ref a231), .val (.int (4 : Int32)), .val (.int (1 : Int32))] [])) (fun T A t r => XS.ifNo A hx rfl (hb hby at_339) rfl ((if0 _ _).trans (feq (by decide : ¬ ((1 : Int32) = (0 : Int32)))).1) r) ?_
    refine Go.sp (g' := (mkF m 344 #[.val (.int p1), .val (.int p2), .val (.int p3), .val (.int p4), .val (.int (6 : Int32)), .val (.int (1 : Int32)), .val (.ref b11), .val (.ref b207), .val (.ref a231), .val (.int (4 : Int32)), .val (.int (1 : Int32))] [(.ref a231)])) (fun T A t r => XS.aload A hx rfl (hb hby at_342) rfl rfl r) ?_
    refine Go.sp (g' := (mkF m 345 #[.val (.int p1), .val (.int p2), .val (.int p3), .val (.int p4), .val (.int (6 : Int32)), .val (.int (1 : Int32)), .val (.ref b11), .val (.ref b207), .val (.ref a231), .val (.int (4 : Int32)), .val (.int (1 : Int32))] [(.int (0 : Int32)), (.ref a231)])) (fun T A t r => XS.iconst A hx rfl (hb hby at_344) r) ?_
    refine Go.callVP (a := a231) (z := (⟨"java/lang/String", "charAt", "(I)C"⟩ : MethodName)) (W := 0) (y := (⟨"java/lang/String", "charAt", "(I)C"⟩ : MethodName)) (argsL := [(.int (0 : Int32))]) (rest := []) (pc' := 348) (hb hby at_345) (own_w hw 122 rfl) (own_w hw 123 rfl) (fun s' hZ => notFace_of_selects (args := #[]) (mvT hZ (own_w hw 125 rfl))) (own_w hw 125 rfl) (own_w hw 124 rfl) (by decide) (fun s' hZ => Bk.pure (StrChars.Road.chN (kI := 4) (cs := [z19, z22, z25, z28]) (i := 0) hZ (own_chwd hw) (own_w hw 7 rfl) E231 V231 C231 D231 (own_cod rfl lat232) (own_up lat232) (S0.ext O233.2) P0 (SF.ext O233.2) RF (by show 4 ≤ 4000; decide) (by show 0 < 4; decide) rfl (by decide) (by decide))) E231 (by rw [hml]; rfl) (lenOf pd_14 rfl) rfl (Nat.le_of_ble_eq_true rfl) rfl (by decide) (by decide) ?_
    rintro v235 rfl
    refine Go.cast (g' := (mkF m 348 #[.val (.int p1), .val (.int p2), .val (.int p3), .val (.int p4), .val (.int (6 : Int32)), .val (.int (1 : Int32)), .val (.ref b11), .val (.ref b207), .val (.ref a231), .val (.int (4 : Int32)), .val (.int (1 : Int32))] [(.int z19)])) rfl ?_
    refine Go.sp (g' := (mkF m 350 #[.val (.int p1), .val (.int p2), .val (.int p3), .val (.int p4), .val (.int (6 : Int32)), .val (.int (1 : Int32)), .val (.ref b11), .val (.ref b207), .val (.ref a231), .val (.int (4 : Int32)), .val (.int (1 : Int32))] [(.ref b11), (.int z19)])) (fun T A t r => XS.aload A hx rfl (hb hby at_348) rfl rfl r) ?_
    refine Go.sp (g' := (mkF m 352 #[.val (.int p1), .val (.int p2), .val (.int p3), .val (.int p4), .val (.int (6 : Int32)), .val (.int (1 : Int32)), .val (.ref b11), .val (.ref b207), .val (.ref a231), .val (.int (4 : Int32)), .val (.int (1 : Int32))] [(.int (1 : Int32)), (.ref b11), (.int z19)])) (fun T A t r => XS.iload A hx rfl (hb hby at_350) rfl r) ?_
    refine Go.sp (g' := (mkF m 353 #[.val (.int p1), .val (.int p2), .val (.int p3), .val (.int p4), .val (.int (6 : Int32)), .val (.int (1 : Int32)), .val (.ref b11), .val (.ref b207), .val (.ref a231), .val (.int (4 : Int32)), .val (.int (1 : Int32))] [(.int (1 : Int32)), (.int (1 : Int32)), (.ref b11), (.int z19)])) (fun T A t r => XS.iconst A hx rfl (hb hby at_352) r) ?_
    refine Go.sp (g' := (mkF m 354 #[.val (.int p1), .val (.int p2), .val (.int p3), .val (.int p4), .val (.int (6 : Int32)), .val (.int (1 : Int32)), .val (.ref b11), .val (.ref b207), .val (.ref a231), .val (.int (4 : Int32)), .val (.int (1 : Int32))] [(.int (2 : Int32)), (.ref b11), (.int z19)])) (fun T A t r => XS.iadd A hx rfl (hb hby at_353) rfl r) ?_
    have ne236 : b11 ≠ b207 := Nat.ne_of_lt (Nat.lt_of_lt_of_le V206.lt (Nat.le_of_eq g207.symm))
    have f237 := (((f221.other W222 ne212).keep K229 (ninS ne236 nin0)).keep K231 nin0)
    refine Go.r (g' := (mkF m 355 #[.val (.int p1), .val (.int p2), .val (.int p3), .val (.int p4), .val (.int (6 : Int32)), .val (.int (1 : Int32)), .val (.ref b11), .val (.ref b207), .val (.ref a231), .val (.int (4 : Int32)), .val (.int (1 : Int32))] [(.int z19), (.int z19)])) (fun s' T L X eT hZ t r => own_ldC X hx hZ eT f237 (j := (2 : Int32)) ⟨by decide, by decide⟩ (v := (.int z19)) rfl (g := (mkF m 354 #[.val (.int p1), .val (.int p2), .val (.int p3), .val (.int p4), .val (.int (6 : Int32)), .val (.int (1 : Int32)), .val (.ref b11), .val (.ref b207), .val (.ref a231), .val (.int (4 : Int32)), .val (.int (1 : Int32))] [(.int (2 : Int32)), (.ref b11), (.int z19)])) rfl rfl (hb hby at_354) t r) ?_
    refine Go.sp (g' := (mkF m 358 #[.val (.int p1), .val (.int p2), .val (.int p3), .val (.int p4), .val (.int (6 : Int32)), .val (.int (1 : Int32)), .val (.ref b11), .val (.ref b207), .val (.ref a231), .val (.int (4 : Int32)), .val (.int (1 : Int32))] [])) (fun T A t r => XS.icmpNo A hx rfl (hb hby at_355) rfl (teq (rfl : z19 = z19)).2 r) ?_
    refine Go.sp (g' := (mkF m 359 #[.val (.int p1), .val (.int p2), .val (.int p3), .val (.int p4), .val (.int (6 : Int32)), .val (.int (1 : Int32)), .val (.ref b11), .val (.ref b207), .val (.ref a231), .val (.int (4 : Int32)), .val (.int (1 : Int32))] [(.int (1 : Int32))])) (fun T A t r => XS.iconst A hx rfl (hb hby at_358) r) ?_
    refine Go.sp (g' := (mkF m 363 #[.val (.int p1), .val (.int p2), .val (.int p3), .val (.int p4), .val (.int (6 : Int32)), .val (.int (1 : Int32)), .val (.ref b11), .val (.ref b207), .val (.ref a231), .val (.int (4 : Int32)), .val (.int (1 : Int32))] [(.int (1 : Int32))])) (fun T A t r => XS.goto A hx rfl (pc0 := 359) (pc' := 363) rfl (hb hby at_359) (by decide) (by decide) r) ?_
    refine Go.sp (g' := (mkF m 365 #[.val (.int p1), .val (.int p2), .val (.int p3), .val (.int p4), .val (.int (6 : Int32)), .val (.int (1 : Int32)), .val (.ref b11), .val (.ref b207), .val (.ref a231), .val (.int (4 : Int32)), .val (.int (1 : Int32))] [])) (fun T A t r => XS.istore A hx rfl (hb hby at_363) rfl (l' := #[.val (.int p1), .val (.int p2), .val (.int p3), .val (.int p4), .val (.int (6 : Int32)), .val (.int (1 : Int32)), .val (.ref b11), .val (.ref b207), .val (.ref a231), .val (.int (4 : Int32)), .val (.int (1 : Int32))]) rfl r) ?_
    refine Go.sp (g' := (mkF m 366 #[.val (.int p1), .val (.int p2), .val (.int p3), .val (.int p4), .val (.int (6 : Int32)), .val (.int (1 : Int32)), .val (.ref b11), .val (.ref b207), .val (.ref a231), .val (.int (4 : Int32)), .val (.int (1 : Int32))] [(.int (1 : Int32))])) (fun T A t r => XS.iconst A hx rfl (hb hby at_365) r) ?_
    refine Go.sp (g' := (mkF m 368 #[.val (.int p1), .val (.int p2), .val (.int p3), .val (.int p4), .val (.int (6 : Int32)), .val (.int (1 : Int32)), .val (.ref b11), .val (.ref b207), .val (.ref a231), .val (.int (4 : Int32)), .val (.int (1 : Int32))] [(.int (4 : Int32)), (.int (1 : Int32))])) (fun T A t r => XS.iload A hx rfl (hb hby at_366) rfl r) ?_
    refine Go.sp (g' := (mkF m 371 #[.val (.int p1), .val (.int p2), .val (.int p3), .val (.int p4), .val (.int (6 : Int32)), .val (.int (1 : Int32)), .val (.ref b11), .val (.ref b207), .val (.ref a231), .val (.int (4 : Int32)), .val (.int (1 : Int32))] [])) (fun T A t r => XS.icmpNo A hx rfl (hb hby at_368) rfl (tlt (by decide : ((1 : Int32) < (4 : Int32)))).2.1 r) ?_
    refine Go.sp (g' := (mkF m 373 #[.val (.int p1), .val (.int p2), .val (.int p3), .val (.int p4), .val (.int (6 : Int32)), .val (.int (1 : Int32)), .val (.ref b11), .val (.ref b207), .val (.ref a231), .val (.int (4 : Int32)), .val (.int (1 : Int32))] [(.int (1 : Int32))])) (fun T A t r => XS.iload A hx rfl (hb hby at_371) rfl r) ?_
    refine Go.sp (g' := (mkF m 376 #[.val (.int p1), .val (.int p2), .val (.int p3), .val (.int p4), .val (.int (6 : Int32)), .val (.int (1 : Int32)), .val (.ref b11), .val (.ref b207), .val (.ref a231), .val (.int (4 : Int32)), .val (.int (1 : Int32))] [])) (fun T A t r => XS.ifNo A hx rfl (hb hby at_373) rfl ((if0 _ _).trans (feq (by decide : ¬ ((1 : Int32) = (0 : Int32)))).1) r) ?_
    refine Go.sp (g' := (mkF m 378 #[.val (.int p1), .val (.int p2), .val (.int p3), .val (.int p4), .val (.int (6 : Int32)), .val (.int (1 : Int32)), .val (.ref b11), .val (.ref b207), .val (.ref a231), .val (.int (4 : Int32)), .val (.int (1 : Int32))] [(.ref a231)])) (fun T A t r => XS.aload A hx rfl (hb hby at_376) rfl rfl r) ?_
    refine Go.sp (g' := (mkF m 379 #[.val (.int p1), .val (.int p2), .val (.int p3), .val (.int p4), .val (.int (6 : Int32)), .val (.int (1 : Int32)), .val (.ref b11), .val (.ref b207), .val (.ref a231), .val (.int (4 : Int32)), .val (.int (1 : Int32))] [(.int (1 : Int32)), (.ref a231)])) (fun T A t r => XS.iconst A hx rfl (hb hby at_378) r) ?_
    refine Go.callVP (a := a231) (z := (⟨"java/lang/String", "charAt", "(I)C"⟩ : MethodName)) (W := 0) (y := (⟨"java/lang/String", "charAt", "(I)C"⟩ : MethodName)) (argsL := [(.int (1 : Int32))]) (rest := []) (pc' := 382) (hb hby at_379) (own_w hw 122 rfl) (own_w hw 123 rfl) (fun s' hZ => notFace_of_selects (args := #[]) (mvT hZ (own_w hw 125 rfl))) (own_w hw 125 rfl) (own_w hw 124 rfl) (by decide) (fun s' hZ => Bk.pure (StrChars.Road.chN (kI := 4) (cs := [z19, z22, z25, z28]) (i := 1) hZ (own_chwd hw) (own_w hw 7 rfl) E231 V231 C231 D231 (own_cod rfl lat232) (own_up lat232) (S0.ext O233.2) P0 (SF.ext O233.2) RF (by show 4 ≤ 4000; decide) (by show 1 < 4; decide) rfl (by decide) (by decide))) E231 (by rw [hml]; rfl) (lenOf pd_14 rfl) rfl (Nat.le_of_ble_eq_true rfl) rfl (by decide) (by decide) ?_
    rintro v238 rfl
    refine Go.cast (g' := (mkF m 382 #[.val (.int p1), .val (.int p2), .val (.int p3), .val (.int p4), .val (.int (6 : Int32)), .val (.int (1 : Int32)), .val (.ref b11), .val (.ref b207), .val (.ref a231), .val (.int (4 : Int32)), .val (.int (1 : Int32))] [(.int z22)])) rfl ?_
    refine Go.sp (g' := (mkF m 384 #[.val (.int p1), .val (.int p2), .val (.int p3), .val (.int p4), .val (.int (6 : Int32)), .val (.int (1 : Int32)), .val (.ref b11), .val (.ref b207), .val (.ref a231), .val (.int (4 : Int32)), .val (.int (1 : Int32))] [(.ref b11), (.int z22)])) (fun T A t r => XS.aload A hx rfl (hb hby at_382) rfl rfl r) ?_
    refine Go.sp (g' := (mkF m 386 #[.val (.int p1), .val (.int p2), .val (.int p3), .val (.int p4), .val (.int (6 : Int32)), .val (.int (1 : Int32)), .val (.ref b11), .val (.ref b207), .val (.ref a231), .val (.int (4 : Int32)), .val (.int (1 : Int32))] [(.int (1 : Int32)), (.ref b11), (.int z22)])) (fun T A t r => XS.iload A hx rfl (hb hby at_384) rfl r) ?_
    refine Go.sp (g' := (mkF m 387 #[.val (.int p1), .val (.int p2), .val (.int p3), .val (.int p4), .val (.int (6 : Int32)), .val (.int (1 : Int32)), .val (.ref b11), .val (.ref b207), .val (.ref a231), .val (.int (4 : Int32)), .val (.int (1 : Int32))] [(.int (2 : Int32)), (.int (1 : Int32)), (.ref b11), (.int z22)])) (fun T A t r => XS.iconst A hx rfl (hb hby at_386) r) ?_
    refine Go.sp (g' := (mkF m 388 #[.val (.int p1), .val (.int p2), .val (.int p3), .val (.int p4), .val (.int (6 : Int32)), .val (.int (1 : Int32)), .val (.ref b11), .val (.ref b207), .val (.ref a231), .val (.int (4 : Int32)), .val (.int (1 : Int32))] [(.int (3 : Int32)), (.ref b11), (.int z22)])) (fun T A t r => XS.iadd A hx rfl (hb hby at_387) rfl r) ?_
    refine Go.r (g' := (mkF m 389 #[.val (.int p1), .val (.int p2), .val (.int p3), .val (.int p4), .val (.int (6 : Int32)), .val (.int (1 : Int32)), .val (.ref b11), .val (.ref b207), .val (.ref a231), .val (.int (4 : Int32)), .val (.int (1 : Int32))] [(.int z22), (.int z22)])) (fun s' T L X eT hZ t r => own_ldC X hx hZ eT f237 (j := (3 : Int32)) ⟨by decide, by decide⟩ (v := (.int z22)) rfl (g := (mkF m 388 #[.val (.int p1), .val (.int p2), .val (.int p3), .val (.int p4), .val (.int (6 : Int32)), .val (.int (1 : Int32)), .val (.ref b11), .val (.ref b207), .val (.ref a231), .val (.int (4 : Int32)), .val (.int (1 : Int32))] [(.int (3 : Int32)), (.ref b11), (.int z22)])) rfl rfl (hb hby at_388) t r) ?_
    refine Go.sp (g' := (mkF m 392 #[.val (.int p1), .val (.int p2), .val (.int p3), .val (.int p4), .val (.int (6 : Int32)), .val (.int (1 : Int32)), .val (.ref b11), .val (.ref b207), .val (.ref a231), .val (.int (4 : Int32)), .val (.int (1 : Int32))] [])) (fun T A t r => XS.icmpNo A hx rfl (hb hby at_389) rfl (teq (rfl : z22 = z22)).2 r) ?_
    refine Go.sp (g' := (mkF m 393 #[.val (.int p1), .val (.int p2), .val (.int p3), .val (.int p4), .val (.int (6 : Int32)), .val (.int (1 : Int32)), .val (.ref b11), .val (.ref b207), .val (.ref a231), .val (.int (4 : Int32)), .val (.int (1 : Int32))] [(.int (1 : Int32))])) (fun T A t r => XS.iconst A hx rfl (hb hby at_392) r) ?_
    refine Go.sp (g' := (mkF m 397 #[.val (.int p1), .val (.int p2), .val (.int p3), .val (.int p4), .val (.int (6 : Int32)), .val (.int (1 : Int32)), .val (.ref b11), .val (.ref b207), .val (.ref a231), .val (.int (4 : Int32)), .val (.int (1 : Int32))] [(.int (1 : Int32))])) (fun T A t r => XS.goto A hx rfl (pc0 := 393) (pc' := 397) rfl (hb hby at_393) (by decide) (by decide) r) ?_
    refine Go.sp (g' := (mkF m 399 #[.val (.int p1), .val (.int p2), .val (.int p3), .val (.int p4), .val (.int (6 : Int32)), .val (.int (1 : Int32)), .val (.ref b11), .val (.ref b207), .val (.ref a231), .val (.int (4 : Int32)), .val (.int (1 : Int32))] [])) (fun T A t r => XS.istore A hx rfl (hb hby at_397) rfl (l' := #[.val (.int p1), .val (.int p2), .val (.int p3), .val (.int p4), .val (.int (6 : Int32)), .val (.int (1 : Int32)), .val (.ref b11), .val (.ref b207), .val (.ref a231), .val (.int (4 : Int32)), .val (.int (1 : Int32))]) rfl r) ?_
    refine Go.sp (g' := (mkF m 400 #[.val (.int p1), .val (.int p2), .val (.int p3), .val (.int p4), .val (.int (6 : Int32)), .val (.int (1 : Int32)), .val (.ref b11), .val (.ref b207), .val (.ref a231), .val (.int (4 : Int32)), .val (.int (1 : Int32))] [(.int (2 : Int32))])) (fun T A t r => XS.iconst A hx rfl (hb hby at_399) r) ?_
    refine Go.sp (g' := (mkF m 402 #[.val (.int p1), .val (.int p2), .val (.int p3), .val (.int p4), .val (.int (6 : Int32)), .val (.int (1 : Int32)), .val (.ref b11), .val (.ref b207), .val (.ref a231), .val (.int (4 : Int32)), .val (.int (1 : Int32))] [(.int (4 : Int32)), (.int (2 : Int32))])) (fun T A t r => XS.iload A hx rfl (hb hby at_400) rfl r) ?_
    refine Go.sp (g' := (mkF m 405 #[.val (.int p1), .val (.int p2), .val (.int p3), .val (.int p4), .val (.int (6 : Int32)), .val (.int (1 : Int32)), .val (.ref b11), .val (.ref b207), .val (.ref a231), .val (.int (4 : Int32)), .val (.int (1 : Int32))] [])) (fun T A t r => XS.icmpNo A hx rfl (hb hby at_402) rfl (tlt (by decide : ((2 : Int32) < (4 : Int32)))).2.1 r) ?_
    refine Go.sp (g' := (mkF m 407 #[.val (.int p1), .val (.int p2), .val (.int p3), .val (.int p4), .val (.int (6 : Int32)), .val (.int (1 : Int32)), .val (.ref b11), .val (.ref b207), .val (.ref a231), .val (.int (4 : Int32)), .val (.int (1 : Int32))] [(.int (1 : Int32))])) (fun T A t r => XS.iload A hx rfl (hb hby at_405) rfl r) ?_
    refine Go.sp (g' := (mkF m 410 #[.val (.int p1), .val (.int p2), .val (.int p3), .val (.int p4), .val (.int (6 : Int32)), .val (.int (1 : Int32)), .val (.ref b11), .val (.ref b207), .val (.ref a231), .val (.int (4 : Int32)), .val (.int (1 : Int32))] [])) (fun T A t r => XS.ifNo A hx rfl (hb hby at_407) rfl ((if0 _ _).trans (feq (by decide : ¬ ((1 : Int32) = (0 : Int32)))).1) r) ?_
    refine Go.sp (g' := (mkF m 412 #[.val (.int p1), .val (.int p2), .val (.int p3), .val (.int p4), .val (.int (6 : Int32)), .val (.int (1 : Int32)), .val (.ref b11), .val (.ref b207), .val (.ref a231), .val (.int (4 : Int32)), .val (.int (1 : Int32))] [(.ref a231)])) (fun T A t r => XS.aload A hx rfl (hb hby at_410) rfl rfl r) ?_
    refine Go.sp (g' := (mkF m 413 #[.val (.int p1), .val (.int p2), .val (.int p3), .val (.int p4), .val (.int (6 : Int32)), .val (.int (1 : Int32)), .val (.ref b11), .val (.ref b207), .val (.ref a231), .val (.int (4 : Int32)), .val (.int (1 : Int32))] [(.int (2 : Int32)), (.ref a231)])) (fun T A t r => XS.iconst A hx rfl (hb hby at_412) r) ?_
    refine Go.callVP (a := a231) (z := (⟨"java/lang/String", "charAt", "(I)C"⟩ : MethodName)) (W := 0) (y := (⟨"java/lang/String", "charAt", "(I)C"⟩ : MethodName)) (argsL := [(.int (2 : Int32))]) (rest := []) (pc' := 416) (hb hby at_413) (own_w hw 122 rfl) (own_w hw 123 rfl) (fun s' hZ => notFace_of_selects (args := #[]) (mvT hZ (own_w hw 125 rfl))) (own_w hw 125 rfl) (own_w hw 124 rfl) (by decide) (fun s' hZ => Bk.pure (StrChars.Road.chN (kI := 4) (cs := [z19, z22, z25, z28]) (i := 2) hZ (own_chwd hw) (own_w hw 7 rfl) E231 V231 C231 D231 (own_cod rfl lat232) (own_up lat232) (S0.ext O233.2) P0 (SF.ext O233.2) RF (by show 4 ≤ 4000; decide) (by show 2 < 4; decide) rfl (by decide) (by decide))) E231 (by rw [hml]; rfl) (lenOf pd_14 rfl) rfl (Nat.le_of_ble_eq_true rfl) rfl (by decide) (by decide) ?_
    rintro v239 rfl
    refine Go.cast (g' := (mkF m 416 #[.val (.int p1), .val (.int p2), .val (.int p3), .val (.int p4), .val (.int (6 : Int32)), .val (.int (1 : Int32)), .val (.ref b11), .val (.ref b207), .val (.ref a231), .val (.int (4 : Int32)), .val (.int (1 : Int32))] [(.int z25)])) rfl ?_
    refine Go.sp (g' := (mkF m 418 #[.val (.int p1), .val (.int p2), .val (.int p3), .val (.int p4), .val (.int (6 : Int32)), .val (.int (1 : Int32)), .val (.ref b11), .val (.ref b207), .val (.ref a231), .val (.int (4 : Int32)), .val (.int (1 : Int32))] [(.ref b11), (.int z25)])) (fun T A t r => XS.aload A hx rfl (hb hby at_416) rfl rfl r) ?_
    refine Go.sp (g' := (mkF m 420 #[.val (.int p1), .val (.int p2), .val (.int p3), .val (.int p4), .val (.int (6 : Int32)), .val (.int (1 : Int32)), .val (.ref b11), .val (.ref b207), .val (.ref a231), .val (.int (4 : Int32)), .val (.int (1 : Int32))] [(.int (1 : Int32)), (.ref b11), (.int z25)])) (fun T A t r => XS.iload A hx rfl (hb hby at_418) rfl r) ?_
    refine Go.sp (g' := (mkF m 421 #[.val (.int p1), .val (.int p2), .val (.int p3), .val (.int p4), .val (.int (6 : Int32)), .val (.int (1 : Int32)), .val (.ref b11), .val (.ref b207), .val (.ref a231), .val (.int (4 : Int32)), .val (.int (1 : Int32))] [(.int (3 : Int32)), (.int (1 : Int32)), (.ref b11), (.int z25)])) (fun T A t r => XS.iconst A hx rfl (hb hby at_420) r) ?_
    refine Go.sp (g' := (mkF m 422 #[.val (.int p1), .val (.int p2), .val (.int p3), .val (.int p4), .val (.int (6 : Int32)), .val (.int (1 : Int32)), .val (.ref b11), .val (.ref b207), .val (.ref a231), .val (.int (4 : Int32)), .val (.int (1 : Int32))] [(.int (4 : Int32)), (.ref b11), (.int z25)])) (fun T A t r => XS.iadd A hx rfl (hb hby at_421) rfl r) ?_
    refine Go.r (g' := (mkF m 423 #[.val (.int p1), .val (.int p2), .val (.int p3), .val (.int p4), .val (.int (6 : Int32)), .val (.int (1 : Int32)), .val (.ref b11), .val (.ref b207), .val (.ref a231), .val (.int (4 : Int32)), .val (.int (1 : Int32))] [(.int z25), (.int z25)])) (fun s' T L X eT hZ t r => own_ldC X hx hZ eT f237 (j := (4 : Int32)) ⟨by decide, by decide⟩ (v := (.int z25)) rfl (g := (mkF m 422 #[.val (.int p1), .val (.int p2), .val (.int p3), .val (.int p4), .val (.int (6 : Int32)), .val (.int (1 : Int32)), .val (.ref b11), .val (.ref b207), .val (.ref a231), .val (.int (4 : Int32)), .val (.int (1 : Int32))] [(.int (4 : Int32)), (.ref b11), (.int z25)])) rfl rfl (hb hby at_422) t r) ?_
    refine Go.sp (g' := (mkF m 426 #[.val (.int p1), .val (.int p2), .val (.int p3), .val (.int p4), .val (.int (6 : Int32)), .val (.int (1 : Int32)), .val (.ref b11), .val (.ref b207), .val (.ref a231), .val (.int (4 : Int32)), .val (.int (1 : Int32))] [])) (fun T A t r => XS.icmpNo A hx rfl (hb hby at_423) rfl (teq (rfl : z25 = z25)).2 r) ?_
    refine Go.sp (g' := (mkF m 427 #[.val (.int p1), .val (.int p2), .val (.int p3), .val (.int p4), .val (.int (6 : Int32)), .val (.int (1 : Int32)), .val (.ref b11), .val (.ref b207), .val (.ref a231), .val (.int (4 : Int32)), .val (.int (1 : Int32))] [(.int (1 : Int32))])) (fun T A t r => XS.iconst A hx rfl (hb hby at_426) r) ?_
    refine Go.sp (g' := (mkF m 431 #[.val (.int p1), .val (.int p2), .val (.int p3), .val (.int p4), .val (.int (6 : Int32)), .val (.int (1 : Int32)), .val (.ref b11), .val (.ref b207), .val (.ref a231), .val (.int (4 : Int32)), .val (.int (1 : Int32))] [(.int (1 : Int32))])) (fun T A t r => XS.goto A hx rfl (pc0 := 427) (pc' := 431) rfl (hb hby at_427) (by decide) (by decide) r) ?_
    refine Go.sp (g' := (mkF m 433 #[.val (.int p1), .val (.int p2), .val (.int p3), .val (.int p4), .val (.int (6 : Int32)), .val (.int (1 : Int32)), .val (.ref b11), .val (.ref b207), .val (.ref a231), .val (.int (4 : Int32)), .val (.int (1 : Int32))] [])) (fun T A t r => XS.istore A hx rfl (hb hby at_431) rfl (l' := #[.val (.int p1), .val (.int p2), .val (.int p3), .val (.int p4), .val (.int (6 : Int32)), .val (.int (1 : Int32)), .val (.ref b11), .val (.ref b207), .val (.ref a231), .val (.int (4 : Int32)), .val (.int (1 : Int32))]) rfl r) ?_
    refine Go.sp (g' := (mkF m 434 #[.val (.int p1), .val (.int p2), .val (.int p3), .val (.int p4), .val (.int (6 : Int32)), .val (.int (1 : Int32)), .val (.ref b11), .val (.ref b207), .val (.ref a231), .val (.int (4 : Int32)), .val (.int (1 : Int32))] [(.int (3 : Int32))])) (fun T A t r => XS.iconst A hx rfl (hb hby at_433) r) ?_
    refine Go.sp (g' := (mkF m 436 #[.val (.int p1), .val (.int p2), .val (.int p3), .val (.int p4), .val (.int (6 : Int32)), .val (.int (1 : Int32)), .val (.ref b11), .val (.ref b207), .val (.ref a231), .val (.int (4 : Int32)), .val (.int (1 : Int32))] [(.int (4 : Int32)), (.int (3 : Int32))])) (fun T A t r => XS.iload A hx rfl (hb hby at_434) rfl r) ?_
    refine Go.sp (g' := (mkF m 439 #[.val (.int p1), .val (.int p2), .val (.int p3), .val (.int p4), .val (.int (6 : Int32)), .val (.int (1 : Int32)), .val (.ref b11), .val (.ref b207), .val (.ref a231), .val (.int (4 : Int32)), .val (.int (1 : Int32))] [])) (fun T A t r => XS.icmpNo A hx rfl (hb hby at_436) rfl (tlt (by decide : ((3 : Int32) < (4 : Int32)))).2.1 r) ?_
    refine Go.sp (g' := (mkF m 441 #[.val (.int p1), .val (.int p2), .val (.int p3), .val (.int p4), .val (.int (6 : Int32)), .val (.int (1 : Int32)), .val (.ref b11), .val (.ref b207), .val (.ref a231), .val (.int (4 : Int32)), .val (.int (1 : Int32))] [(.int (1 : Int32))])) (fun T A t r => XS.iload A hx rfl (hb hby at_439) rfl r) ?_
    refine Go.sp (g' := (mkF m 444 #[.val (.int p1), .val (.int p2), .val (.int p3), .val (.int p4), .val (.int (6 : Int32)), .val (.int (1 : Int32)), .val (.ref b11), .val (.ref b207), .val (.ref a231), .val (.int (4 : Int32)), .val (.int (1 : Int32))] [])) (fun T A t r => XS.ifNo A hx rfl (hb hby at_441) rfl ((if0 _ _).trans (feq (by decide : ¬ ((1 : Int32) = (0 : Int32)))).1) r) ?_
    refine Go.sp (g' := (mkF m 446 #[.val (.int p1), .val (.int p2), .val (.int p3), .val (.int p4), .val (.int (6 : Int32)), .val (.int (1 : Int32)), .val (.ref b11), .val (.ref b207), .val (.ref a231), .val (.int (4 : Int32)), .val (.int (1 : Int32))] [(.ref a231)])) (fun T A t r => XS.aload A hx rfl (hb hby at_444) rfl rfl r) ?_
    refine Go.sp (g' := (mkF m 447 #[.val (.int p1), .val (.int p2), .val (.int p3), .val (.int p4), .val (.int (6 : Int32)), .val (.int (1 : Int32)), .val (.ref b11), .val (.ref b207), .val (.ref a231), .val (.int (4 : Int32)), .val (.int (1 : Int32))] [(.int (3 : Int32)), (.ref a231)])) (fun T A t r => XS.iconst A hx rfl (hb hby at_446) r) ?_
    refine Go.callVP (a := a231) (z := (⟨"java/lang/String", "charAt", "(I)C"⟩ : MethodName)) (W := 0) (y := (⟨"java/lang/String", "charAt", "(I)C"⟩ : MethodName)) (argsL := [(.int (3 : Int32))]) (rest := []) (pc' := 450) (hb hby at_447) (own_w hw 122 rfl) (own_w hw 123 rfl) (fun s' hZ => notFace_of_selects (args := #[]) (mvT hZ (own_w hw 125 rfl))) (own_w hw 125 rfl) (own_w hw 124 rfl) (by decide) (fun s' hZ => Bk.pure (StrChars.Road.chN (kI := 4) (cs := [z19, z22, z25, z28]) (i := 3) hZ (own_chwd hw) (own_w hw 7 rfl) E231 V231 C231 D231 (own_cod rfl lat232) (own_up lat232) (S0.ext O233.2) P0 (SF.ext O233.2) RF (by show 4 ≤ 4000; decide) (by show 3 < 4; decide) rfl (by decide) (by decide))) E231 (by rw [hml]; rfl) (lenOf pd_14 rfl) rfl (Nat.le_of_ble_eq_true rfl) rfl (by decide) (by decide) ?_
    rintro v240 rfl
    refine Go.cast (g' := (mkF m 450 #[.val (.int p1), .val (.int p2), .val (.int p3), .val (.int p4), .val (.int (6 : Int32)), .val (.int (1 : Int32)), .val (.ref b11), .val (.ref b207), .val (.ref a231), .val (.int (4 : Int32)), .val (.int (1 : Int32))] [(.int z28)])) rfl ?_
    refine Go.sp (g' := (mkF m 452 #[.val (.int p1), .val (.int p2), .val (.int p3), .val (.int p4), .val (.int (6 : Int32)), .val (.int (1 : Int32)), .val (.ref b11), .val (.ref b207), .val (.ref a231), .val (.int (4 : Int32)), .val (.int (1 : Int32))] [(.ref b11), (.int z28)])) (fun T A t r => XS.aload A hx rfl (hb hby at_450) rfl rfl r) ?_
    refine Go.sp (g' := (mkF m 454 #[.val (.int p1), .val (.int p2), .val (.int p3), .val (.int p4), .val (.int (6 : Int32)), .val (.int (1 : Int32)), .val (.ref b11), .val (.ref b207), .val (.ref a231), .val (.int (4 : Int32)), .val (.int (1 : Int32))] [(.int (1 : Int32)), (.ref b11), (.int z28)])) (fun T A t r => XS.iload A hx rfl (hb hby at_452) rfl r) ?_
    refine Go.sp (g' := (mkF m 455 #[.val (.int p1), .val (.int p2), .val (.int p3), .val (.int p4), .val (.int (6 : Int32)), .val (.int (1 : Int32)), .val (.ref b11), .val (.ref b207), .val (.ref a231), .val (.int (4 : Int32)), .val (.int (1 : Int32))] [(.int (4 : Int32)), (.int (1 : Int32)), (.ref b11), (.int z28)])) (fun T A t r => XS.iconst A hx rfl (hb hby at_454) r) ?_
    refine Go.sp (g' := (mkF m 456 #[.val (.int p1), .val (.int p2), .val (.int p3), .val (.int p4), .val (.int (6 : Int32)), .val (.int (1 : Int32)), .val (.ref b11), .val (.ref b207), .val (.ref a231), .val (.int (4 : Int32)), .val (.int (1 : Int32))] [(.int (5 : Int32)), (.ref b11), (.int z28)])) (fun T A t r => XS.iadd A hx rfl (hb hby at_455) rfl r) ?_
    refine Go.r (g' := (mkF m 457 #[.val (.int p1), .val (.int p2), .val (.int p3), .val (.int p4), .val (.int (6 : Int32)), .val (.int (1 : Int32)), .val (.ref b11), .val (.ref b207), .val (.ref a231), .val (.int (4 : Int32)), .val (.int (1 : Int32))] [(.int z28), (.int z28)])) (fun s' T L X eT hZ t r => own_ldC X hx hZ eT f237 (j := (5 : Int32)) ⟨by decide, by decide⟩ (v := (.int z28)) rfl (g := (mkF m 456 #[.val (.int p1), .val (.int p2), .val (.int p3), .val (.int p4), .val (.int (6 : Int32)), .val (.int (1 : Int32)), .val (.ref b11), .val (.ref b207), .val (.ref a231), .val (.int (4 : Int32)), .val (.int (1 : Int32))] [(.int (5 : Int32)), (.ref b11), (.int z28)])) rfl rfl (hb hby at_456) t r) ?_
    refine Go.sp (g' := (mkF m 460 #[.val (.int p1), .val (.int p2), .val (.int p3), .val (.int p4), .val (.int (6 : Int32)), .val (.int (1 : Int32)), .val (.ref b11), .val (.ref b207), .val (.ref a231), .val (.int (4 : Int32)), .val (.int (1 : Int32))] [])) (fun T A t r => XS.icmpNo A hx rfl (hb hby at_457) rfl (teq (rfl : z28 = z28)).2 r) ?_
    refine Go.sp (g' := (mkF m 461 #[.val (.int p1), .val (.int p2), .val (.int p3), .val (.int p4), .val (.int (6 : Int32)), .val (.int (1 : Int32)), .val (.ref b11), .val (.ref b207), .val (.ref a231), .val (.int (4 : Int32)), .val (.int (1 : Int32))] [(.int (1 : Int32))])) (fun T A t r => XS.iconst A hx rfl (hb hby at_460) r) ?_
    refine Go.sp (g' := (mkF m 465 #[.val (.int p1), .val (.int p2), .val (.int p3), .val (.int p4), .val (.int (6 : Int32)), .val (.int (1 : Int32)), .val (.ref b11), .val (.ref b207), .val (.ref a231), .val (.int (4 : Int32)), .val (.int (1 : Int32))] [(.int (1 : Int32))])) (fun T A t r => XS.goto A hx rfl (pc0 := 461) (pc' := 465) rfl (hb hby at_461) (by decide) (by decide) r) ?_
    refine Go.sp (g' := (mkF m 467 #[.val (.int p1), .val (.int p2), .val (.int p3), .val (.int p4), .val (.int (6 : Int32)), .val (.int (1 : Int32)), .val (.ref b11), .val (.ref b207), .val (.ref a231), .val (.int (4 : Int32)), .val (.int (1 : Int32))] [])) (fun T A t r => XS.istore A hx rfl (hb hby at_465) rfl (l' := #[.val (.int p1), .val (.int p2), .val (.int p3), .val (.int p4), .val (.int (6 : Int32)), .val (.int (1 : Int32)), .val (.ref b11), .val (.ref b207), .val (.ref a231), .val (.int (4 : Int32)), .val (.int (1 : Int32))]) rfl r) ?_
    refine Go.sp (g' := (mkF m 469 #[.val (.int p1), .val (.int p2), .val (.int p3), .val (.int p4), .val (.int (6 : Int32)), .val (.int (1 : Int32)), .val (.ref b11), .val (.ref b207), .val (.ref a231), .val (.int (4 : Int32)), .val (.int (1 : Int32))] [(.int (1 : Int32))])) (fun T A t r => XS.iload A hx rfl (hb hby at_467) rfl r) ?_
    exact Go.ret (v := (some (.int (nar .boolean (1 : Int32))))) (fun s' T L fs X hr => retN X hx (t := .boolean) hret (by simp) (hb hby at_469) hr) (fun h => by rw [hret] at h; cases h) (by decide) (by decide) rfl
  · skip
    refine Go.cast (g' := (mkF m 91 #[.val (.int p1), .val (.int p2), .val (.int p3), .val (.int p4), .val (.int (6 : Int32)), .val (.int (2 : Int32)), .val (.ref b11), .unset, .unset, .unset, .unset] [])) (by rw [ha, hn]) ?_
    refine Go.sp (g' := (mkF m 93 #[.val (.int p1), .val (.int p2), .val (.int p3), .val (.int p4), .val (.int (6 : Int32)), .val (.int (2 : Int32)), .val (.ref b11), .unset, .unset, .unset, .unset] [(.ref b11)])) (fun T A t r => XS.aload A hx rfl (hb hby at_91) rfl rfl r) ?_
    refine Go.sp (g' := (mkF m 95 #[.val (.int p1), .val (.int p2), .val (.int p3), .val (.int p4), .val (.int (6 : Int32)), .val (.int (2 : Int32)), .val (.ref b11), .unset, .unset, .unset, .unset] [(.int (2 : Int32)), (.ref b11)])) (fun T A t r => XS.iload A hx rfl (hb hby at_93) rfl r) ?_
    refine Go.sp (g' := (mkF m 97 #[.val (.int p1), .val (.int p2), .val (.int p3), .val (.int p4), .val (.int (6 : Int32)), .val (.int (2 : Int32)), .val (.ref b11), .unset, .unset, .unset, .unset] [(.int (64 : Int32)), (.int (2 : Int32)), (.ref b11)])) (fun T A t r => XS.bipush A hx rfl (hb hby at_95) r) ?_
    refine Go.w (g' := (mkF m 98 #[.val (.int p1), .val (.int p2), .val (.int p3), .val (.int p4), .val (.int (6 : Int32)), .val (.int (2 : Int32)), .val (.ref b11), .unset, .unset, .unset, .unset] [])) (fun s' T L X eT hZ hown => own_stC X hx hZ eT V29 (j := (2 : Int32)) ⟨by decide, by decide⟩ (g := (mkF m 97 #[.val (.int p1), .val (.int p2), .val (.int p3), .val (.int p4), .val (.int (6 : Int32)), .val (.int (2 : Int32)), .val (.ref b11), .unset, .unset, .unset, .unset] [(.int (64 : Int32)), (.int (2 : Int32)), (.ref b11)])) rfl rfl (hb hby at_97)) (Or.inr sz11) ?_
    intro h241 W241
    have V241 : Arv Z h241 b11 k11 .char (6 : Int32) [(.int z13), (.int z16), (.int (64 : Int32)), (.int z22), (.int z25), (.int z28)] (.int (0 : Int32)) := own_set V29 (fits_nar_char _) W241 rfl 2 rfl (Nat.le_of_ble_eq_true rfl)
    refine Go.sp (g' := (mkF m 100 #[.val (.int p1), .val (.int p2), .val (.int p3), .val (.int p4), .val (.int (6 : Int32)), .val (.int (2 : Int32)), .val (.ref b11), .unset, .unset, .unset, .unset] [(.int (6 : Int32))])) (fun T A t r => XS.iload A hx rfl (hb hby at_98) rfl r) ?_
    refine Go.sp (g' := (mkF m 101 #[.val (.int p1), .val (.int p2), .val (.int p3), .val (.int p4), .val (.int (6 : Int32)), .val (.int (2 : Int32)), .val (.ref b11), .unset, .unset, .unset, .unset] [(.int (3 : Int32)), (.int (6 : Int32))])) (fun T A t r => XS.iconst A hx rfl (hb hby at_100) r) ?_
    refine Go.sp (g' := (mkF m 140 #[.val (.int p1), .val (.int p2), .val (.int p3), .val (.int p4), .val (.int (6 : Int32)), .val (.int (2 : Int32)), .val (.ref b11), .unset, .unset, .unset, .unset] [])) (fun T A t r => XS.icmpYes A hx rfl (pc0 := 101) (pc' := 140) rfl (hb hby at_101) rfl (feq (by decide : ¬ ((6 : Int32) = (3 : Int32)))).2 (by decide) (by decide) r) ?_
    refine Go.sp (g' := (mkF m 142 #[.val (.int p1), .val (.int p2), .val (.int p3), .val (.int p4), .val (.int (6 : Int32)), .val (.int (2 : Int32)), .val (.ref b11), .unset, .unset, .unset, .unset] [(.int (6 : Int32))])) (fun T A t r => XS.iload A hx rfl (hb hby at_140) rfl r) ?_
    refine Go.sp (g' := (mkF m 143 #[.val (.int p1), .val (.int p2), .val (.int p3), .val (.int p4), .val (.int (6 : Int32)), .val (.int (2 : Int32)), .val (.ref b11), .unset, .unset, .unset, .unset] [(.int (4 : Int32)), (.int (6 : Int32))])) (fun T A t r => XS.iconst A hx rfl (hb hby at_142) r) ?_
    refine Go.sp (g' := (mkF m 189 #[.val (.int p1), .val (.int p2), .val (.int p3), .val (.int p4), .val (.int (6 : Int32)), .val (.int (2 : Int32)), .val (.ref b11), .unset, .unset, .unset, .unset] [])) (fun T A t r => XS.icmpYes A hx rfl (pc0 := 143) (pc' := 189) rfl (hb hby at_143) rfl (feq (by decide : ¬ ((6 : Int32) = (4 : Int32)))).2 (by decide) (by decide) r) ?_
    refine Go.sp (g' := (mkF m 191 #[.val (.int p1), .val (.int p2), .val (.int p3), .val (.int p4), .val (.int (6 : Int32)), .val (.int (2 : Int32)), .val (.ref b11), .unset, .unset, .unset, .unset] [(.int (6 : Int32))])) (fun T A t r => XS.iload A hx rfl (hb hby at_189) rfl r) ?_
    refine Go.sp (g' := (mkF m 192 #[.val (.int p1), .val (.int p2), .val (.int p3), .val (.int p4), .val (.int (6 : Int32)), .val (.int (2 : Int32)), .val (.ref b11), .unset, .unset, .unset, .unset] [(.int (5 : Int32)), (.int (6 : Int32))])) (fun T A t r => XS.iconst A hx rfl (hb hby at_191) r) ?_
    refine Go.sp (g' := (mkF m 245 #[.val (.int p1), .val (.int p2), .val (.int p3), .val (.int p4), .val (.int (6 : Int32)), .val (.int (2 : Int32)), .val (.ref b11), .unset, .unset, .unset, .unset] [])) (fun T A t r => XS.icmpYes A hx rfl (pc0 := 192) (pc' := 245) rfl (hb hby at_192) rfl (feq (by decide : ¬ ((6 : Int32) = (5 : Int32)))).2 (by decide) (by decide) r) ?_
    refine Go.newO (k' := 2) (n' := 10) (pc' := 248) (hb hby at_245) (own_w hw 6 rfl) (own_w hw 7 rfl) (own_w hw 8 rfl) rfl rfl rfl (by decide) (by decide) ?_
    intro b242 h242 g242 sz242 E242 A242 D242
    have F242_coder : Fld Z h242 b242 "java/lang/String" "coder" "B" (.int (0 : Int32)) := D242 (Or.inr (own_w hw 32 rfl)) (ty := .byte) (by decide)
    have F242_value : Fld Z h242 b242 "java/lang/String" "value" "[B" .null := D242 (Or.inr (own_w hw 34 rfl)) (ty := (.array .byte)) (by decide)
    refine Go.sp (g' := (mkF m 249 #[.val (.int p1), .val (.int p2), .val (.int p3), .val (.int p4), .val (.int (6 : Int32)), .val (.int (2 : Int32)), .val (.ref b11), .unset, .unset, .unset, .unset] [(.ref b242), (.ref b242)])) (fun T A t r => XS.dup A hx rfl (hb hby at_248) rfl rfl r) ?_
    refine Go.sp (g' := (mkF m 251 #[.val (.int p1), .val (.int p2), .val (.int p3), .val (.int p4), .val (.int (6 : Int32)), .val (.int (2 : Int32)), .val (.ref b11), .unset, .unset, .unset, .unset] [(.int (6 : Int32)), (.ref b242), (.ref b242)])) (fun T A t r => XS.bipush A hx rfl (hb hby at_249) r) ?_
    refine Go.newP (ty := .char) (dv := (.int (0 : Int32))) (cap := 6) (k' := 3) (n' := 16) (pc' := 253) (hb hby at_251) rfl rfl (own_w hw 0 rfl) (by decide) (by decide) (by decide) rfl rfl rfl (by decide) (by decide) ?_
    intro b243 h243 k243 g243 sz243 E243 A243
    have V243 : Arv Z h243 b243 k243 .char (6 : Int32) [(.int (0 : Int32)), (.int (0 : Int32)), (.int (0 : Int32)), (.int (0 : Int32)), (.int (0 : Int32)), (.int (0 : Int32))] (.int (0 : Int32)) := A243.pad (pad_rep [] (.int (0 : Int32)) 6)
    refine Go.sp (g' := (mkF m 254 #[.val (.int p1), .val (.int p2), .val (.int p3), .val (.int p4), .val (.int (6 : Int32)), .val (.int (2 : Int32)), .val (.ref b11), .unset, .unset, .unset, .unset] [(.ref b243), (.ref b243), (.ref b242), (.ref b242)])) (fun T A t r => XS.dup A hx rfl (hb hby at_253) rfl rfl r) ?_
    refine Go.sp (g' := (mkF m 255 #[.val (.int p1), .val (.int p2), .val (.int p3), .val (.int p4), .val (.int (6 : Int32)), .val (.int (2 : Int32)), .val (.ref b11), .unset, .unset, .unset, .unset] [(.int (0 : Int32)), (.ref b243), (.ref b243), (.ref b242), (.ref b242)])) (fun T A t r => XS.iconst A hx rfl (hb hby at_254) r) ?_
    refine Go.sp (g' := (mkF m 257 #[.val (.int p1), .val (.int p2), .val (.int p3), .val (.int p4), .val (.int (6 : Int32)), .val (.int (2 : Int32)), .val (.ref b11), .unset, .unset, .unset, .unset] [(.ref b11), (.int (0 : Int32)), (.ref b243), (.ref b243), (.ref b242), (.ref b242)])) (fun T A t r => XS.aload A hx rfl (hb hby at_255) rfl rfl r) ?_
    refine Go.sp (g' := (mkF m 258 #[.val (.int p1), .val (.int p2), .val (.int p3), .val (.int p4), .val (.int (6 : Int32)), .val (.int (2 : Int32)), .val (.ref b11), .unset, .unset, .unset, .unset] [(.int (0 : Int32)), (.ref b11), (.int (0 : Int32)), (.ref b243), (.ref b243), (.ref b242), (.ref b242)])) (fun T A t r => XS.iconst A hx rfl (hb hby at_257) r) ?_
    have f244 := ((V241.ext E242).ext E243)
    refine Go.r (g' := (mkF m 259 #[.val (.int p1), .val (.int p2), .val (.int p3), .val (.int p4), .val (.int (6 : Int32)), .val (.int (2 : Int32)), .val (.ref b11), .unset, .unset, .unset, .unset] [(.int z13), (.int (0 : Int32)), (.ref b243), (.ref b243), (.ref b242), (.ref b242)])) (fun s' T L X eT hZ t r => own_ldC X hx hZ eT f244 (j := (0 : Int32)) ⟨by decide, by decide⟩ (v := (.int z13)) rfl (g := (mkF m 258 #[.val (.int p1), .val (.int p2), .val (.int p3), .val (.int p4), .val (.int (6 : Int32)), .val (.int (2 : Int32)), .val (.ref b11), .unset, .unset, .unset, .unset] [(.int (0 : Int32)), (.ref b11), (.int (0 : Int32)), (.ref b243), (.ref b243), (.ref b242), (.ref b242)])) rfl rfl (hb hby at_258) t r) ?_
    refine Go.w (g' := (mkF m 260 #[.val (.int p1), .val (.int p2), .val (.int p3), .val (.int p4), .val (.int (6 : Int32)), .val (.int (2 : Int32)), .val (.ref b11), .unset, .unset, .unset, .unset] [(.ref b243), (.ref b242), (.ref b242)])) (fun s' T L X eT hZ hown => own_stC X hx hZ eT V243 (j := (0 : Int32)) ⟨by decide, by decide⟩ (g := (mkF m 259 #[.val (.int p1), .val (.int p2), .val (.int p3), .val (.int p4), .val (.int (6 : Int32)), .val (.int (2 : Int32)), .val (.ref b11), .unset, .unset, .unset, .unset] [(.int z13), (.int (0 : Int32)), (.ref b243), (.ref b243), (.ref b242), (.ref b242)])) rfl rfl (hb hby at_259)) (Or.inr sz243) ?_
    intro h245 W245
    have V245 : Arv Z h245 b243 k243 .char (6 : Int32) [(.int z13), (.int (0 : Int32)), (.int (0 : Int32)), (.int (0 : Int32)), (.int (0 : Int32)), (.int (0 : Int32))] (.int (0 : Int32)) := own_set V243 (fits_nar_char _) W245 (congrArg Value.int (own_nar zb13)) 0 rfl (Nat.le_of_ble_eq_true rfl)
    refine Go.sp (g' := (mkF m 261 #[.val (.int p1), .val (.int p2), .val (.int p3), .val (.int p4), .val (.int (6 : Int32)), .val (.int (2 : Int32)), .val (.ref b11), .unset, .unset, .unset, .unset] [(.ref b243), (.ref b243), (.ref b242), (.ref b242)])) (fun T A t r => XS.dup A hx rfl (hb hby at_260) rfl rfl r) ?_
    refine Go.sp (g' := (mkF m 262 #[.val (.int p1), .val (.int p2), .val (.int p3), .val (.int p4), .val (.int (6 : Int32)), .val (.int (2 : Int32)), .val (.ref b11), .unset, .unset, .unset, .unset] [(.int (1 : Int32)), (.ref b243), (.ref b243), (.ref b242), (.ref b242)])) (fun T A t r => XS.iconst A hx rfl (hb hby at_261) r) ?_
    refine Go.sp (g' := (mkF m 264 #[.val (.int p1), .val (.int p2), .val (.int p3), .val (.int p4), .val (.int (6 : Int32)), .val (.int (2 : Int32)), .val (.ref b11), .unset, .unset, .unset, .unset] [(.ref b11), (.int (1 : Int32)), (.ref b243), (.ref b243), (.ref b242), (.ref b242)])) (fun T A t r => XS.aload A hx rfl (hb hby at_262) rfl rfl r) ?_
    refine Go.sp (g' := (mkF m 265 #[.val (.int p1), .val (.int p2), .val (.int p3), .val (.int p4), .val (.int (6 : Int32)), .val (.int (2 : Int32)), .val (.ref b11), .unset, .unset, .unset, .unset] [(.int (1 : Int32)), (.ref b11), (.int (1 : Int32)), (.ref b243), (.ref b243), (.ref b242), (.ref b242)])) (fun T A t r => XS.iconst A hx rfl (hb hby at_264) r) ?_
    have f246 := (V241.ext E242)
    have ne247 : b11 ≠ b243 := Nat.ne_of_lt (Nat.lt_of_lt_of_le f246.lt (Nat.le_of_eq g243.symm))
    have f248 := (f244.other W245 ne247)
    refine Go.r (g' := (mkF m 266 #[.val (.int p1), .val (.int p2), .val (.int p3), .val (.int p4), .val (.int (6 : Int32)), .val (.int (2 : Int32)), .val (.ref b11), .unset, .unset, .unset, .unset] [(.int z16), (.int (1 : Int32)), (.ref b243), (.ref b243), (.ref b242), (.ref b242)])) (fun s' T L X eT hZ t r => own_ldC X hx hZ eT f248 (j := (1 : Int32)) ⟨by decide, by decide⟩ (v := (.int z16)) rfl (g := (mkF m 265 #[.val (.int p1), .val (.int p2), .val (.int p3), .val (.int p4), .val (.int (6 : Int32)), .val (.int (2 : Int32)), .val (.ref b11), .unset, .unset, .unset, .unset] [(.int (1 : Int32)), (.ref b11), (.int (1 : Int32)), (.ref b243), (.ref b243), (.ref b242), (.ref b242)])) rfl rfl (hb hby at_265) t r) ?_
    refine Go.w (g' := (mkF m 267 #[.val (.int p1), .val (.int p2), .val (.int p3), .val (.int p4), .val (.int (6 : Int32)), .val (.int (2 : Int32)), .val (.ref b11), .unset, .unset, .unset, .unset] [(.ref b243), (.ref b242), (.ref b242)])) (fun s' T L X eT hZ hown => own_stC X hx hZ eT V245 (j := (1 : Int32)) ⟨by decide, by decide⟩ (g := (mkF m 266 #[.val (.int p1), .val (.int p2), .val (.int p3), .val (.int p4), .val (.int (6 : Int32)), .val (.int (2 : Int32)), .val (.ref b11), .unset, .unset, .unset, .unset] [(.int z16), (.int (1 : Int32)), (.ref b243), (.ref b243), (.ref b242), (.ref b242)])) rfl rfl (hb hby at_266)) (Or.inr sz243) ?_
    intro h249 W249
    have V249 : Arv Z h249 b243 k243 .char (6 : Int32) [(.int z13), (.int z16), (.int (0 : Int32)), (.int (0 : Int32)), (.int (0 : Int32)), (.int (0 : Int32))] (.int (0 : Int32)) := own_set V245 (fits_nar_char _) W249 (congrArg Value.int (own_nar zb16)) 1 rfl (Nat.le_of_ble_eq_true rfl)
    refine Go.sp (g' := (mkF m 268 #[.val (.int p1), .val (.int p2), .val (.int p3), .val (.int p4), .val (.int (6 : Int32)), .val (.int (2 : Int32)), .val (.ref b11), .unset, .unset, .unset, .unset] [(.ref b243), (.ref b243), (.ref b242), (.ref b242)])) (fun T A t r => XS.dup A hx rfl (hb hby at_267) rfl rfl r) ?_
    refine Go.sp (g' := (mkF m 269 #[.val (.int p1), .val (.int p2), .val (.int p3), .val (.int p4), .val (.int (6 : Int32)), .val (.int (2 : Int32)), .val (.ref b11), .unset, .unset, .unset, .unset] [(.int (2 : Int32)), (.ref b243), (.ref b243), (.ref b242), (.ref b242)])) (fun T A t r => XS.iconst A hx rfl (hb hby at_268) r) ?_
    refine Go.sp (g' := (mkF m 271 #[.val (.int p1), .val (.int p2), .val (.int p3), .val (.int p4), .val (.int (6 : Int32)), .val (.int (2 : Int32)), .val (.ref b11), .unset, .unset, .unset, .unset] [(.ref b11), (.int (2 : Int32)), (.ref b243), (.ref b243), (.ref b242), (.ref b242)])) (fun T A t r => XS.aload A hx rfl (hb hby at_269) rfl rfl r) ?_
    refine Go.sp (g' := (mkF m 272 #[.val (.int p1), .val (.int p2), .val (.int p3), .val (.int p4), .val (.int (6 : Int32)), .val (.int (2 : Int32)), .val (.ref b11), .unset, .unset, .unset, .unset] [(.int (2 : Int32)), (.ref b11), (.int (2 : Int32)), (.ref b243), (.ref b243), (.ref b242), (.ref b242)])) (fun T A t r => XS.iconst A hx rfl (hb hby at_271) r) ?_
    have f250 := (f248.other W249 ne247)
    refine Go.r (g' := (mkF m 273 #[.val (.int p1), .val (.int p2), .val (.int p3), .val (.int p4), .val (.int (6 : Int32)), .val (.int (2 : Int32)), .val (.ref b11), .unset, .unset, .unset, .unset] [(.int (64 : Int32)), (.int (2 : Int32)), (.ref b243), (.ref b243), (.ref b242), (.ref b242)])) (fun s' T L X eT hZ t r => own_ldC X hx hZ eT f250 (j := (2 : Int32)) ⟨by decide, by decide⟩ (v := (.int (64 : Int32))) rfl (g := (mkF m 272 #[.val (.int p1), .val (.int p2), .val (.int p3), .val (.int p4), .val (.int (6 : Int32)), .val (.int (2 : Int32)), .val (.ref b11), .unset, .unset, .unset, .unset] [(.int (2 : Int32)), (.ref b11), (.int (2 : Int32)), (.ref b243), (.ref b243), (.ref b242), (.ref b242)])) rfl rfl (hb hby at_272) t r) ?_
    refine Go.w (g' := (mkF m 274 #[.val (.int p1), .val (.int p2), .val (.int p3), .val (.int p4), .val (.int (6 : Int32)), .val (.int (2 : Int32)), .val (.ref b11), .unset, .unset, .unset, .unset] [(.ref b243), (.ref b242), (.ref b242)])) (fun s' T L X eT hZ hown => own_stC X hx hZ eT V249 (j := (2 : Int32)) ⟨by decide, by decide⟩ (g := (mkF m 273 #[.val (.int p1), .val (.int p2), .val (.int p3), .val (.int p4), .val (.int (6 : Int32)), .val (.int (2 : Int32)), .val (.ref b11), .unset, .unset, .unset, .unset] [(.int (64 : Int32)), (.int (2 : Int32)), (.ref b243), (.ref b243), (.ref b242), (.ref b242)])) rfl rfl (hb hby at_273)) (Or.inr sz243) ?_
    intro h251 W251
    have V251 : Arv Z h251 b243 k243 .char (6 : Int32) [(.int z13), (.int z16), (.int (64 : Int32)), (.int (0 : Int32)), (.int (0 : Int32)), (.int (0 : Int32))] (.int (0 : Int32)) := own_set V249 (fits_nar_char _) W251 rfl 2 rfl (Nat.le_of_ble_eq_true rfl)
    refine Go.sp (g' := (mkF m 275 #[.val (.int p1), .val (.int p2), .val (.int p3), .val (.int p4), .val (.int (6 : Int32)), .val (.int (2 : Int32)), .val (.ref b11), .unset, .unset, .unset, .unset] [(.ref b243), (.ref b243), (.ref b242), (.ref b242)])) (fun T A t r => XS.dup A hx rfl (hb hby at_274) rfl rfl r) ?_
    refine Go.sp (g' := (mkF m 276 #[.val (.int p1), .val (.int p2), .val (.int p3), .val (.int p4), .val (.int (6 : Int32)), .val (.int (2 : Int32)), .val (.ref b11), .unset, .unset, .unset, .unset] [(.int (3 : Int32)), (.ref b243), (.ref b243), (.ref b242), (.ref b242)])) (fun T A t r => XS.iconst A hx rfl (hb hby at_275) r) ?_
    refine Go.sp (g' := (mkF m 278 #[.val (.int p1), .val (.int p2), .val (.int p3), .val (.int p4), .val (.int (6 : Int32)), .val (.int (2 : Int32)), .val (.ref b11), .unset, .unset, .unset, .unset] [(.ref b11), (.int (3 : Int32)), (.ref b243), (.ref b243), (.ref b242), (.ref b242)])) (fun T A t r => XS.aload A hx rfl (hb hby at_276) rfl rfl r) ?_
    refine Go.sp (g' := (mkF m 279 #[.val (.int p1), .val (.int p2), .val (.int p3), .val (.int p4), .val (.int (6 : Int32)), .val (.int (2 : Int32)), .val (.ref b11), .unset, .unset, .unset, .unset] [(.int (3 : Int32)), (.ref b11), (.int (3 : Int32)), (.ref b243), (.ref b243), (.ref b242), (.ref b242)])) (fun T A t r => XS.iconst A hx rfl (hb hby at_278) r) ?_
    have f252 := (f250.other W251 ne247)
    refine Go.r (g' := (mkF m 280 #[.val (.int p1), .val (.int p2), .val (.int p3), .val (.int p4), .val (.int (6 : Int32)), .val (.int (2 : Int32)), .val (.ref b11), .unset, .unset, .unset, .unset] [(.int z22), (.int (3 : Int32)), (.ref b243), (.ref b243), (.ref b242), (.ref b242)])) (fun s' T L X eT hZ t r => own_ldC X hx hZ eT f252 (j := (3 : Int32)) ⟨by decide, by decide⟩ (v := (.int z22)) rfl (g := (mkF m 279 #[.val (.int p1), .val (.int p2), .val (.int p3), .val (.int p4), .val (.int (6 : Int32)), .val (.int (2 : Int32)), .val (.ref b11), .unset, .unset, .unset, .unset] [(.int (3 : Int32)), (.ref b11), (.int (3 : Int32)), (.ref b243), (.ref b243), (.ref b242), (.ref b242)])) rfl rfl (hb hby at_279) t r) ?_
    refine Go.w (g' := (mkF m 281 #[.val (.int p1), .val (.int p2), .val (.int p3), .val (.int p4), .val (.int (6 : Int32)), .val (.int (2 : Int32)), .val (.ref b11), .unset, .unset, .unset, .unset] [(.ref b243), (.ref b242), (.ref b242)])) (fun s' T L X eT hZ hown => own_stC X hx hZ eT V251 (j := (3 : Int32)) ⟨by decide, by decide⟩ (g := (mkF m 280 #[.val (.int p1), .val (.int p2), .val (.int p3), .val (.int p4), .val (.int (6 : Int32)), .val (.int (2 : Int32)), .val (.ref b11), .unset, .unset, .unset, .unset] [(.int z22), (.int (3 : Int32)), (.ref b243), (.ref b243), (.ref b242), (.ref b242)])) rfl rfl (hb hby at_280)) (Or.inr sz243) ?_
    intro h253 W253
    have V253 : Arv Z h253 b243 k243 .char (6 : Int32) [(.int z13), (.int z16), (.int (64 : Int32)), (.int z22), (.int (0 : Int32)), (.int (0 : Int32))] (.int (0 : Int32)) := own_set V251 (fits_nar_char _) W253 (congrArg Value.int (own_nar zb22)) 3 rfl (Nat.le_of_ble_eq_true rfl)
    refine Go.sp (g' := (mkF m 282 #[.val (.int p1), .val (.int p2), .val (.int p3), .val (.int p4), .val (.int (6 : Int32)), .val (.int (2 : Int32)), .val (.ref b11), .unset, .unset, .unset, .unset] [(.ref b243), (.ref b243), (.ref b242), (.ref b242)])) (fun T A t r => XS.dup A hx rfl (hb hby at_281) rfl rfl r) ?_
    refine Go.sp (g' := (mkF m 283 #[.val (.int p1), .val (.int p2), .val (.int p3), .val (.int p4), .val (.int (6 : Int32)), .val (.int (2 : Int32)), .val (.ref b11), .unset, .unset, .unset, .unset] [(.int (4 : Int32)), (.ref b243), (.ref b243), (.ref b242), (.ref b242)])) (fun T A t r => XS.iconst A hx rfl (hb hby at_282) r) ?_
    refine Go.sp (g' := (mkF m 285 #[.val (.int p1), .val (.int p2), .val (.int p3), .val (.int p4), .val (.int (6 : Int32)), .val (.int (2 : Int32)), .val (.ref b11), .unset, .unset, .unset, .unset] [(.ref b11), (.int (4 : Int32)), (.ref b243), (.ref b243), (.ref b242), (.ref b242)])) (fun T A t r => XS.aload A hx rfl (hb hby at_283) rfl rfl r) ?_
    refine Go.sp (g' := (mkF m 286 #[.val (.int p1), .val (.int p2), .val (.int p3), .val (.int p4), .val (.int (6 : Int32)), .val (.int (2 : Int32)), .val (.ref b11), .unset, .unset, .unset, .unset] [(.int (4 : Int32)), (.ref b11), (.int (4 : Int32)), (.ref b243), (.ref b243), (.ref b242), (.ref b242)])) (fun T A t r => XS.iconst A hx rfl (hb hby at_285) r) ?_
    have f254 := (f252.other W253 ne247)
    refine Go.r (g' := (mkF m 287 #[.val (.int p1), .val (.int p2), .val (.int p3), .val (.int p4), .val (.int (6 : Int32)), .val (.int (2 : Int32)), .val (.ref b11), .unset, .unset, .unset, .unset] [(.int z25), (.int (4 : Int32)), (.ref b243), (.ref b243), (.ref b242), (.ref b242)])) (fun s' T L X eT hZ t r => own_ldC X hx hZ eT f254 (j := (4 : Int32)) ⟨by decide, by decide⟩ (v := (.int z25)) rfl (g := (mkF m 286 #[.val (.int p1), .val (.int p2), .val (.int p3), .val (.int p4), .val (.int (6 : Int32)), .val (.int (2 : Int32)), .val (.ref b11), .unset, .unset, .unset, .unset] [(.int (4 : Int32)), (.ref b11), (.int (4 : Int32)), (.ref b243), (.ref b243), (.ref b242), (.ref b242)])) rfl rfl (hb hby at_286) t r) ?_
    refine Go.w (g' := (mkF m 288 #[.val (.int p1), .val (.int p2), .val (.int p3), .val (.int p4), .val (.int (6 : Int32)), .val (.int (2 : Int32)), .val (.ref b11), .unset, .unset, .unset, .unset] [(.ref b243), (.ref b242), (.ref b242)])) (fun s' T L X eT hZ hown => own_stC X hx hZ eT V253 (j := (4 : Int32)) ⟨by decide, by decide⟩ (g := (mkF m 287 #[.val (.int p1), .val (.int p2), .val (.int p3), .val (.int p4), .val (.int (6 : Int32)), .val (.int (2 : Int32)), .val (.ref b11), .unset, .unset, .unset, .unset] [(.int z25), (.int (4 : Int32)), (.ref b243), (.ref b243), (.ref b242), (.ref b242)])) rfl rfl (hb hby at_287)) (Or.inr sz243) ?_
    intro h255 W255
    have V255 : Arv Z h255 b243 k243 .char (6 : Int32) [(.int z13), (.int z16), (.int (64 : Int32)), (.int z22), (.int z25), (.int (0 : Int32))] (.int (0 : Int32)) := own_set V253 (fits_nar_char _) W255 (congrArg Value.int (own_nar zb25)) 4 rfl (Nat.le_of_ble_eq_true rfl)
    refine Go.sp (g' := (mkF m 289 #[.val (.int p1), .val (.int p2), .val (.int p3), .val (.int p4), .val (.int (6 : Int32)), .val (.int (2 : Int32)), .val (.ref b11), .unset, .unset, .unset, .unset] [(.ref b243), (.ref b243), (.ref b242), (.ref b242)])) (fun T A t r => XS.dup A hx rfl (hb hby at_288) rfl rfl r) ?_
    refine Go.sp (g' := (mkF m 290 #[.val (.int p1), .val (.int p2), .val (.int p3), .val (.int p4), .val (.int (6 : Int32)), .val (.int (2 : Int32)), .val (.ref b11), .unset, .unset, .unset, .unset] [(.int (5 : Int32)), (.ref b243), (.ref b243), (.ref b242), (.ref b242)])) (fun T A t r => XS.iconst A hx rfl (hb hby at_289) r) ?_
    refine Go.sp (g' := (mkF m 292 #[.val (.int p1), .val (.int p2), .val (.int p3), .val (.int p4), .val (.int (6 : Int32)), .val (.int (2 : Int32)), .val (.ref b11), .unset, .unset, .unset, .unset] [(.ref b11), (.int (5 : Int32)), (.ref b243), (.ref b243), (.ref b242), (.ref b242)])) (fun T A t r => XS.aload A hx rfl (hb hby at_290) rfl rfl r) ?_
    refine Go.sp (g' := (mkF m 293 #[.val (.int p1), .val (.int p2), .val (.int p3), .val (.int p4), .val (.int (6 : Int32)), .val (.int (2 : Int32)), .val (.ref b11), .unset, .unset, .unset, .unset] [(.int (5 : Int32)), (.ref b11), (.int (5 : Int32)), (.ref b243), (.ref b243), (.ref b242), (.ref b242)])) (fun T A t r => XS.iconst A hx rfl (hb hby at_292) r) ?_
    have f256 := (f254.other W255 ne247)
    refine Go.r (g' := (mkF m 294 #[.val (.int p1), .val (.int p2), .val (.int p3), .val (.int p4), .val (.int (6 : Int32)), .val (.int (2 : Int32)), .val (.ref b11), .unset, .unset, .unset, .unset] [(.int z28), (.int (5 : Int32)), (.ref b243), (.ref b243), (.ref b242), (.ref b242)])) (fun s' T L X eT hZ t r => own_ldC X hx hZ eT f256 (j := (5 : Int32)) ⟨by decide, by decide⟩ (v := (.int z28)) rfl (g := (mkF m 293 #[.val (.int p1), .val (.int p2), .val (.int p3), .val (.int p4), .val (.int (6 : Int32)), .val (.int (2 : Int32)), .val (.ref b11), .unset, .unset, .unset, .unset] [(.int (5 : Int32)), (.ref b11), (.int (5 : Int32)), (.ref b243), (.ref b243), (.ref b242), (.ref b242)])) rfl rfl (hb hby at_293) t r) ?_
    refine Go.w (g' := (mkF m 295 #[.val (.int p1), .val (.int p2), .val (.int p3), .val (.int p4), .val (.int (6 : Int32)), .val (.int (2 : Int32)), .val (.ref b11), .unset, .unset, .unset, .unset] [(.ref b243), (.ref b242), (.ref b242)])) (fun s' T L X eT hZ hown => own_stC X hx hZ eT V255 (j := (5 : Int32)) ⟨by decide, by decide⟩ (g := (mkF m 294 #[.val (.int p1), .val (.int p2), .val (.int p3), .val (.int p4), .val (.int (6 : Int32)), .val (.int (2 : Int32)), .val (.ref b11), .unset, .unset, .unset, .unset] [(.int z28), (.int (5 : Int32)), (.ref b243), (.ref b243), (.ref b242), (.ref b242)])) rfl rfl (hb hby at_294)) (Or.inr sz243) ?_
    intro h257 W257
    have V257 : Arv Z h257 b243 k243 .char (6 : Int32) [(.int z13), (.int z16), (.int (64 : Int32)), (.int z22), (.int z25), (.int z28)] (.int (0 : Int32)) := own_set V255 (fits_nar_char _) W257 (congrArg Value.int (own_nar zb28)) 5 rfl (Nat.le_of_ble_eq_true rfl)
    have f258 := (((((((A242.ext E243).wr W245).wr W249).wr W251).wr W253).wr W255).wr W257)
    have ne259 : b242 ≠ b243 := Nat.ne_of_lt (Nat.lt_of_lt_of_le A242.lt (Nat.le_of_eq g243.symm))
    have f260 := (((((((F242_value.ext E243).other W245 (Or.inl ne259)).other W249 (Or.inl ne259)).other W251 (Or.inl ne259)).other W253 (Or.inl ne259)).other W255 (Or.inl ne259)).other W257 (Or.inl ne259))
    have f261 := (((((((F242_coder.ext E243).other W245 (Or.inl ne259)).other W249 (Or.inl ne259)).other W251 (Or.inl ne259)).other W253 (Or.inl ne259)).other W255 (Or.inl ne259)).other W257 (Or.inl ne259))
    refine Go.old fun O262 => ?_
    have lat263 : ∀ c ∈ [z13, z16, (64 : Int32), z22, z25, z28], ¬ c < 0 ∧ ¬ (255 : Int32) < c := own_allc zb13 (own_allc zb16 (own_allc (by decide) (own_allc zb22 (own_allc zb25 (own_allc zb28 (own_allc0))))))
    refine Go.callC (a := b242) (ws' := [b242]) (W := 1) (y := (⟨"java/lang/String", "<init>", "([C)V"⟩ : MethodName)) (argsL := [(.ref b243)]) (rest := [(.ref b242)]) (pc' := 298) (k' := 4) (n' := 22) (hb hby at_295) rfl (own_w hw 9 rfl) (own_w hw 10 rfl) (own_w hw 11 rfl) (by decide) (fun s' hZ => own_str hw (own_w hw 7 rfl) hZ (cs := [z13, z16, (64 : Int32), z22, z25, z28]) (n := 6) (Nat.le_trans (Old.le O0) sz242) O262 f258 f260 f261 V257 S0 P0 rfl rfl (by decide) (by decide) lat263 (by decide) (by decide)) (by rw [hml]; rfl) (lenOf pd_15 rfl) rfl (Nat.le_of_ble_eq_true rfl) rfl rfl rfl (by decide) (by decide) (allS (Or.inr sz242) all0) ?_
    rintro v264 h264 K264 ⟨rfl, E264, C264, t264, kb264, ge264, V264, B264⟩
    refine Go.cast (g' := (mkF m 298 #[.val (.int p1), .val (.int p2), .val (.int p3), .val (.int p4), .val (.int (6 : Int32)), .val (.int (2 : Int32)), .val (.ref b11), .unset, .unset, .unset, .unset] [(.ref b242)])) rfl ?_
    refine Go.sp (g' := (mkF m 300 #[.val (.int p1), .val (.int p2), .val (.int p3), .val (.int p4), .val (.int (6 : Int32)), .val (.int (2 : Int32)), .val (.ref b11), .val (.ref b242), .unset, .unset, .unset] [])) (fun T A t r => XS.astore A hx rfl (hb hby at_298) rfl rfl (l' := #[.val (.int p1), .val (.int p2), .val (.int p3), .val (.int p4), .val (.int (6 : Int32)), .val (.int (2 : Int32)), .val (.ref b11), .val (.ref b242), .unset, .unset, .unset]) rfl r) ?_
    refine Go.sp (g' := (mkF m 302 #[.val (.int p1), .val (.int p2), .val (.int p3), .val (.int p4), .val (.int (6 : Int32)), .val (.int (2 : Int32)), .val (.ref b11), .val (.ref b242), .unset, .unset, .unset] [(.ref b242)])) (fun T A t r => XS.aload A hx rfl (hb hby at_300) rfl rfl r) ?_
    refine Go.old fun O265 => ?_
    refine Go.callS (ws' := []) (W := 0) (y := (⟨"com/example/slow_digest/slowdigest/rules/MailAddress", "domain", "(Ljava/lang/String;)Ljava/lang/String;"⟩ : MethodName)) (argsL := [(.ref b242)]) (rest := []) (pc' := 305) (k' := 6) (n' := 34) (hb hby at_302) (own_w hw 35 rfl) (own_w hw 36 rfl) (own_w hw 37 rfl) (own_w hw 38 rfl) (by decide) (fun s' hZ => Ct.bk (rmD l Z a0 hw [] b242 t264 kb264 [z13, z16, (64 : Int32), z22, z25, z28] 2 zS fm h264 n0 O265 E264 C264 V264 B264 lat263 (Nat.le_of_ble_eq_true rfl) (Nat.le_of_ble_eq_true rfl) rfl (own_lt2 zn13 zn16) (Nat.le_of_ble_eq_true rfl) S0 P0 SF RF) hZ (own_w hw 38 rfl) (own_w hw 37 rfl) (by decide) (by decide)) (by rw [hml]; rfl) (lenOf pd_16 rfl) rfl (Nat.le_of_ble_eq_true rfl) rfl rfl rfl (by decide) (by decide) all0 ?_
    rintro v266 h266 K266 ⟨a266, t266, kb266, rfl, E266, C266, V266, B266⟩
    refine Go.cast (g' := (mkF m 305 #[.val (.int p1), .val (.int p2), .val (.int p3), .val (.int p4), .val (.int (6 : Int32)), .val (.int (2 : Int32)), .val (.ref b11), .val (.ref b242), .unset, .unset, .unset] [(.ref a266)])) rfl ?_
    have D266 : Arv Z h266 t266 kb266 .byte (3 : Int32) (([z22, z25, z28].map fun c => c.toInt8.toInt32).map Value.int) (.int 0) := B266
    have lat267 : ∀ c ∈ [z22, z25, z28], ¬ c < 0 ∧ ¬ (255 : Int32) < c := own_allc zb22 (own_allc zb25 (own_allc zb28 (own_allc0)))
    refine Go.sp (g' := (mkF m 307 #[.val (.int p1), .val (.int p2), .val (.int p3), .val (.int p4), .val (.int (6 : Int32)), .val (.int (2 : Int32)), .val (.ref b11), .val (.ref b242), .val (.ref a266), .unset, .unset] [])) (fun T A t r => XS.astore A hx rfl (hb hby at_305) rfl rfl (l' := #[.val (.int p1), .val (.int p2), .val (.int p3), .val (.int p4), .val (.int (6 : Int32)), .val (.int (2 : Int32)), .val (.ref b11), .val (.ref b242), .val (.ref a266), .unset, .unset]) rfl r) ?_
    refine Go.sp (g' := (mkF m 309 #[.val (.int p1), .val (.int p2), .val (.int p3), .val (.int p4), .val (.int (6 : Int32)), .val (.int (2 : Int32)), .val (.ref b11), .val (.ref b242), .val (.ref a266), .unset, .unset] [(.int (6 : Int32))])) (fun T A t r => XS.iload A hx rfl (hb hby at_307) rfl r) ?_
    refine Go.sp (g' := (mkF m 311 #[.val (.int p1), .val (.int p2), .val (.int p3), .val (.int p4), .val (.int (6 : Int32)), .val (.int (2 : Int32)), .val (.ref b11), .val (.ref b242), .val (.ref a266), .unset, .unset] [(.int (2 : Int32)), (.int (6 : Int32))])) (fun T A t r => XS.iload A hx rfl (hb hby at_309) rfl r) ?_
    refine Go.sp (g' := (mkF m 312 #[.val (.int p1), .val (.int p2), .val (.int p3), .val (.int p4), .val (.int (6 : Int32)), .val (.int (2 : Int32)), .val (.ref b11), .val (.ref b242), .val (.ref a266), .unset, .unset] [(.int (4 : Int32))])) (fun T A t r => XS.isub A hx rfl (hb hby at_311) rfl r) ?_
    refine Go.sp (g' := (mkF m 313 #[.val (.int p1), .val (.int p2), .val (.int p3), .val (.int p4), .val (.int (6 : Int32)), .val (.int (2 : Int32)), .val (.ref b11), .val (.ref b242), .val (.ref a266), .unset, .unset] [(.int (1 : Int32)), (.int (4 : Int32))])) (fun T A t r => XS.iconst A hx rfl (hb hby at_312) r) ?_
    refine Go.sp (g' := (mkF m 314 #[.val (.int p1), .val (.int p2), .val (.int p3), .val (.int p4), .val (.int (6 : Int32)), .val (.int (2 : Int32)), .val (.ref b11), .val (.ref b242), .val (.ref a266), .unset, .unset] [(.int (3 : Int32))])) (fun T A t r => XS.isub A hx rfl (hb hby at_313) rfl r) ?_
    refine Go.sp (g' := (mkF m 316 #[.val (.int p1), .val (.int p2), .val (.int p3), .val (.int p4), .val (.int (6 : Int32)), .val (.int (2 : Int32)), .val (.ref b11), .val (.ref b242), .val (.ref a266), .val (.int (3 : Int32)), .unset] [])) (fun T A t r => XS.istore A hx rfl (hb hby at_314) rfl (l' := #[.val (.int p1), .val (.int p2), .val (.int p3), .val (.int p4), .val (.int (6 : Int32)), .val (.int (2 : Int32)), .val (.ref b11), .val (.ref b242), .val (.ref a266), .val (.int (3 : Int32)), .unset]) rfl r) ?_
    refine Go.sp (g' := (mkF m 318 #[.val (.int p1), .val (.int p2), .val (.int p3), .val (.int p4), .val (.int (6 : Int32)), .val (.int (2 : Int32)), .val (.ref b11), .val (.ref b242), .val (.ref a266), .val (.int (3 : Int32)), .unset] [(.ref a266)])) (fun T A t r => XS.aload A hx rfl (hb hby at_316) rfl rfl r) ?_
    refine Go.old fun O268 => ?_
    refine Go.callVP (a := a266) (z := (⟨"java/lang/String", "length", "()I"⟩ : MethodName)) (W := 0) (y := (⟨"java/lang/String", "length", "()I"⟩ : MethodName)) (argsL := []) (rest := []) (pc' := 321) (hb hby at_318) (own_w hw 121 rfl) (own_w hw 55 rfl) (fun s' hZ => notFace_of_selects (args := #[]) (mvT hZ (own_w hw 57 rfl))) (own_w hw 57 rfl) (own_w hw 56 rfl) (by decide) (fun s' hZ => Bk.pure (StrChars.Road.lenW (kI := 4) (cs := [z22, z25, z28]) hZ (own_lenw hw) (own_w hw 7 rfl) E266 V266 C266 D266 (own_cod rfl lat267) (own_up lat267) (S0.ext O268.2) P0 (by show 3 ≤ 4000; decide) (by decide) (by decide))) E266 (by rw [hml]; rfl) (lenOf pd_4 rfl) rfl (Nat.le_of_ble_eq_true rfl) rfl (by decide) (by decide) ?_
    rintro v269 rfl
    refine Go.cast (g' := (mkF m 321 #[.val (.int p1), .val (.int p2), .val (.int p3), .val (.int p4), .val (.int (6 : Int32)), .val (.int (2 : Int32)), .val (.ref b11), .val (.ref b242), .val (.ref a266), .val (.int (3 : Int32)), .unset] [(.int (3 : Int32))])) rfl ?_
    refine Go.sp (g' := (mkF m 323 #[.val (.int p1), .val (.int p2), .val (.int p3), .val (.int p4), .val (.int (6 : Int32)), .val (.int (2 : Int32)), .val (.ref b11), .val (.ref b242), .val (.ref a266), .val (.int (3 : Int32)), .unset] [(.int (3 : Int32)), (.int (3 : Int32))])) (fun T A t r => XS.iload A hx rfl (hb hby at_321) rfl r) ?_
    refine Go.sp (g' := (mkF m 328 #[.val (.int p1), .val (.int p2), .val (.int p3), .val (.int p4), .val (.int (6 : Int32)), .val (.int (2 : Int32)), .val (.ref b11), .val (.ref b242), .val (.ref a266), .val (.int (3 : Int32)), .unset] [])) (fun T A t r => XS.icmpYes A hx rfl (pc0 := 323) (pc' := 328) rfl (hb hby at_323) rfl (teq (by decide : ((3 : Int32) = (3 : Int32)))).1 (by decide) (by decide) r) ?_
    refine Go.sp (g' := (mkF m 329 #[.val (.int p1), .val (.int p2), .val (.int p3), .val (.int p4), .val (.int (6 : Int32)), .val (.int (2 : Int32)), .val (.ref b11), .val (.ref b242), .val (.ref a266), .val (.int (3 : Int32)), .unset] [(.int (1 : Int32))])) (fun T A t r => XS.iconst A hx rfl (hb hby at_328) r) ?_
    refine Go.sp (g' := (mkF m 331 #[.val (.int p1), .val (.int p2), .val (.int p3), .val (.int p4), .val (.int (6 : Int32)), .val (.int (2 : Int32)), .val (.ref b11), .val (.ref b242), .val (.ref a266), .val (.int (3 : Int32)), .val (.int (1 : Int32))] [])) (fun T A t r => XS.istore A hx rfl (hb hby at_329) rfl (l' := #[.val (.int p1), .val (.int p2), .val (.int p3), .val (.int p4), .val (.int (6 : Int32)), .val (.int (2 : Int32)), .val (.ref b11), .val (.ref b242), .val (.ref a266), .val (.int (3 : Int32)), .val (.int (1 : Int32))]) rfl r) ?_
    refine Go.sp (g' := (mkF m 332 #[.val (.int p1), .val (.int p2), .val (.int p3), .val (.int p4), .val (.int (6 : Int32)), .val (.int (2 : Int32)), .val (.ref b11), .val (.ref b242), .val (.ref a266), .val (.int (3 : Int32)), .val (.int (1 : Int32))] [(.int (0 : Int32))])) (fun T A t r => XS.iconst A hx rfl (hb hby at_331) r) ?_
    refine Go.sp (g' := (mkF m 334 #[.val (.int p1), .val (.int p2), .val (.int p3), .val (.int p4), .val (.int (6 : Int32)), .val (.int (2 : Int32)), .val (.ref b11), .val (.ref b242), .val (.ref a266), .val (.int (3 : Int32)), .val (.int (1 : Int32))] [(.int (3 : Int32)), (.int (0 : Int32))])) (fun T A t r => XS.iload A hx rfl (hb hby at_332) rfl r) ?_
    refine Go.sp (g' := (mkF m 337 #[.val (.int p1), .val (.int p2), .val (.int p3), .val (.int p4), .val (.int (6 : Int32)), .val (.int (2 : Int32)), .val (.ref b11), .val (.ref b242), .val (.ref a266), .val (.int (3 : Int32)), .val (.int (1 : Int32))] [])) (fun T A t r => XS.icmpNo A hx rfl (hb hby at_334) rfl (tlt (by decide : ((0 : Int32) < (3 : Int32)))).2.1 r) ?_
    refine Go.sp (g' := (mkF m 339 #[.val (.int p1), .val (.int p2), .val (.int p3), .val (.int p4), .val (.int (6 : Int32)), .val (.int (2 : Int32)), .val (.ref b11), .val (.ref b242), .val (.ref a266), .val (.int (3 : Int32)), .val (.int (1 : Int32))] [(.int (1 : Int32))])) (fun T A t r => XS.iload A hx rfl (hb hby at_337) rfl r) ?_
    refine Go.sp (g' := (mkF m 342 #[.val (.int p1), .val (.int p2), .val (.int p3), .val (.int p4), .val (.int (6 : Int32)), .val (.int (2 : Int32)), .val (.ref b11), .val (.ref b242), .val (.ref a266), .val (.int (3 : Int32)), .val (.int (1 : Int32))] [])) (fun T A t r => XS.ifNo A hx rfl (hb hby at_339) rfl ((if0 _ _).trans (feq (by decide : ¬ ((1 : Int32) = (0 : Int32)))).1) r) ?_
    refine Go.sp (g' := (mkF m 344 #[.val (.int p1), .val (.int p2), .val (.int p3), .val (.int p4), .val (.int (6 : Int32)), .val (.int (2 : Int32)), .val (.ref b11), .val (.ref b242), .val (.ref a266), .val (.int (3 : Int32)), .val (.int (1 : Int32))] [(.ref a266)])) (fun T A t r => XS.aload A hx rfl (hb hby at_342) rfl rfl r) ?_
    refine Go.sp (g' := (mkF m 345 #[.val (.int p1), .val (.int p2), .val (.int p3), .val (.int p4), .val (.int (6 : Int32)), .val (.int (2 : Int32)), .val (.ref b11), .val (.ref b242), .val (.ref a266), .val (.int (3 : Int32)), .val (.int (1 : Int32))] [(.int (0 : Int32)), (.ref a266)])) (fun T A t r => XS.iconst A hx rfl (hb hby at_344) r) ?_
    refine Go.callVP (a := a266) (z := (⟨"java/lang/String", "charAt", "(I)C"⟩ : MethodName)) (W := 0) (y := (⟨"java/lang/String", "charAt", "(I)C"⟩ : MethodName)) (argsL := [(.int (0 : Int32))]) (rest := []) (pc' := 348) (hb hby at_345) (own_w hw 122 rfl) (own_w hw 123 rfl) (fun s' hZ => notFace_of_selects (args := #[]) (mvT hZ (own_w hw 125 rfl))) (own_w hw 125 rfl) (own_w hw 124 rfl) (by decide) (fun s' hZ => Bk.pure (StrChars.Road.chN (kI := 4) (cs := [z22, z25, z28]) (i := 0) hZ (own_chwd hw) (own_w hw 7 rfl) E266 V266 C266 D266 (own_cod rfl lat267) (own_up lat267) (S0.ext O268.2) P0 (SF.ext O268.2) RF (by show 3 ≤ 4000; decide) (by show 0 < 3; decide) rfl (by decide) (by decide))) E266 (by rw [hml]; rfl) (lenOf pd_14 rfl) rfl (Nat.le_of_ble_eq_true rfl) rfl (by decide) (by decide) ?_
    rintro v270 rfl
    refine Go.cast (g' := (mkF m 348 #[.val (.int p1), .val (.int p2), .val (.int p3), .val (.int p4), .val (.int (6 : Int32)), .val (.int (2 : Int32)), .val (.ref b11), .val (.ref b242), .val (.ref a266), .val (.int (3 : Int32)), .val (.int (1 : Int32))] [(.int z22)])) rfl ?_
    refine Go.sp (g' := (mkF m 350 #[.val (.int p1), .val (.int p2), .val (.int p3), .val (.int p4), .val (.int (6 : Int32)), .val (.int (2 : Int32)), .val (.ref b11), .val (.ref b242), .val (.ref a266), .val (.int (3 : Int32)), .val (.int (1 : Int32))] [(.ref b11), (.int z22)])) (fun T A t r => XS.aload A hx rfl (hb hby at_348) rfl rfl r) ?_
    refine Go.sp (g' := (mkF m 352 #[.val (.int p1), .val (.int p2), .val (.int p3), .val (.int p4), .val (.int (6 : Int32)), .val (.int (2 : Int32)), .val (.ref b11), .val (.ref b242), .val (.ref a266), .val (.int (3 : Int32)), .val (.int (1 : Int32))] [(.int (2 : Int32)), (.ref b11), (.int z22)])) (fun T A t r => XS.iload A hx rfl (hb hby at_350) rfl r) ?_
    refine Go.sp (g' := (mkF m 353 #[.val (.int p1), .val (.int p2), .val (.int p3), .val (.int p4), .val (.int (6 : Int32)), .val (.int (2 : Int32)), .val (.ref b11), .val (.ref b242), .val (.ref a266), .val (.int (3 : Int32)), .val (.int (1 : Int32))] [(.int (1 : Int32)), (.int (2 : Int32)), (.ref b11), (.int z22)])) (fun T A t r => XS.iconst A hx rfl (hb hby at_352) r) ?_
    refine Go.sp (g' := (mkF m 354 #[.val (.int p1), .val (.int p2), .val (.int p3), .val (.int p4), .val (.int (6 : Int32)), .val (.int (2 : Int32)), .val (.ref b11), .val (.ref b242), .val (.ref a266), .val (.int (3 : Int32)), .val (.int (1 : Int32))] [(.int (3 : Int32)), (.ref b11), (.int z22)])) (fun T A t r => XS.iadd A hx rfl (hb hby at_353) rfl r) ?_
    have ne271 : b11 ≠ b242 := Nat.ne_of_lt (Nat.lt_of_lt_of_le V241.lt (Nat.le_of_eq g242.symm))
    have f272 := (((f256.other W257 ne247).keep K264 (ninS ne271 nin0)).keep K266 nin0)
    refine Go.r (g' := (mkF m 355 #[.val (.int p1), .val (.int p2), .val (.int p3), .val (.int p4), .val (.int (6 : Int32)), .val (.int (2 : Int32)), .val (.ref b11), .val (.ref b242), .val (.ref a266), .val (.int (3 : Int32)), .val (.int (1 : Int32))] [(.int z22), (.int z22)])) (fun s' T L X eT hZ t r => own_ldC X hx hZ eT f272 (j := (3 : Int32)) ⟨by decide, by decide⟩ (v := (.int z22)) rfl (g := (mkF m 354 #[.val (.int p1), .val (.int p2), .val (.int p3), .val (.int p4), .val (.int (6 : Int32)), .val (.int (2 : Int32)), .val (.ref b11), .val (.ref b242), .val (.ref a266), .val (.int (3 : Int32)), .val (.int (1 : Int32))] [(.int (3 : Int32)), (.ref b11), (.int z22)])) rfl rfl (hb hby at_354) t r) ?_
    refine Go.sp (g' := (mkF m 358 #[.val (.int p1), .val (.int p2), .val (.int p3), .val (.int p4), .val (.int (6 : Int32)), .val (.int (2 : Int32)), .val (.ref b11), .val (.ref b242), .val (.ref a266), .val (.int (3 : Int32)), .val (.int (1 : Int32))] [])) (fun T A t r => XS.icmpNo A hx rfl (hb hby at_355) rfl (teq (rfl : z22 = z22)).2 r) ?_
    refine Go.sp (g' := (mkF m 359 #[.val (.int p1), .val (.int p2), .val (.int p3), .val (.int p4), .val (.int (6 : Int32)), .val (.int (2 : Int32)), .val (.ref b11), .val (.ref b242), .val (.ref a266), .val (.int (3 : Int32)), .val (.int (1 : Int32))] [(.int (1 : Int32))])) (fun T A t r => XS.iconst A hx rfl (hb hby at_358) r) ?_
    refine Go.sp (g' := (mkF m 363 #[.val (.int p1), .val (.int p2), .val (.int p3), .val (.int p4), .val (.int (6 : Int32)), .val (.int (2 : Int32)), .val (.ref b11), .val (.ref b242), .val (.ref a266), .val (.int (3 : Int32)), .val (.int (1 : Int32))] [(.int (1 : Int32))])) (fun T A t r => XS.goto A hx rfl (pc0 := 359) (pc' := 363) rfl (hb hby at_359) (by decide) (by decide) r) ?_
    refine Go.sp (g' := (mkF m 365 #[.val (.int p1), .val (.int p2), .val (.int p3), .val (.int p4), .val (.int (6 : Int32)), .val (.int (2 : Int32)), .val (.ref b11), .val (.ref b242), .val (.ref a266), .val (.int (3 : Int32)), .val (.int (1 : Int32))] [])) (fun T A t r => XS.istore A hx rfl (hb hby at_363) rfl (l' := #[.val (.int p1), .val (.int p2), .val (.int p3), .val (.int p4), .val (.int (6 : Int32)), .val (.int (2 : Int32)), .val (.ref b11), .val (.ref b242), .val (.ref a266), .val (.int (3 : Int32)), .val (.int (1 : Int32))]) rfl r) ?_
    refine Go.sp (g' := (mkF m 366 #[.val (.int p1), .val (.int p2), .val (.int p3), .val (.int p4), .val (.int (6 : Int32)), .val (.int (2 : Int32)), .val (.ref b11), .val (.ref b242), .val (.ref a266), .val (.int (3 : Int32)), .val (.int (1 : Int32))] [(.int (1 : Int32))])) (fun T A t r => XS.iconst A hx rfl (hb hby at_365) r) ?_
    refine Go.sp (g' := (mkF m 368 #[.val (.int p1), .val (.int p2), .val (.int p3), .val (.int p4), .val (.int (6 : Int32)), .val (.int (2 : Int32)), .val (.ref b11), .val (.ref b242), .val (.ref a266), .val (.int (3 : Int32)), .val (.int (1 : Int32))] [(.int (3 : Int32)), (.int (1 : Int32))])) (fun T A t r => XS.iload A hx rfl (hb hby at_366) rfl r) ?_
    refine Go.sp (g' := (mkF m 371 #[.val (.int p1), .val (.int p2), .val (.int p3), .val (.int p4), .val (.int (6 : Int32)), .val (.int (2 : Int32)), .val (.ref b11), .val (.ref b242), .val (.ref a266), .val (.int (3 : Int32)), .val (.int (1 : Int32))] [])) (fun T A t r => XS.icmpNo A hx rfl (hb hby at_368) rfl (tlt (by decide : ((1 : Int32) < (3 : Int32)))).2.1 r) ?_
    refine Go.sp (g' := (mkF m 373 #[.val (.int p1), .val (.int p2), .val (.int p3), .val (.int p4), .val (.int (6 : Int32)), .val (.int (2 : Int32)), .val (.ref b11), .val (.ref b242), .val (.ref a266), .val (.int (3 : Int32)), .val (.int (1 : Int32))] [(.int (1 : Int32))])) (fun T A t r => XS.iload A hx rfl (hb hby at_371) rfl r) ?_
    refine Go.sp (g' := (mkF m 376 #[.val (.int p1), .val (.int p2), .val (.int p3), .val (.int p4), .val (.int (6 : Int32)), .val (.int (2 : Int32)), .val (.ref b11), .val (.ref b242), .val (.ref a266), .val (.int (3 : Int32)), .val (.int (1 : Int32))] [])) (fun T A t r => XS.ifNo A hx rfl (hb hby at_373) rfl ((if0 _ _).trans (feq (by decide : ¬ ((1 : Int32) = (0 : Int32)))).1) r) ?_
    refine Go.sp (g' := (mkF m 378 #[.val (.int p1), .val (.int p2), .val (.int p3), .val (.int p4), .val (.int (6 : Int32)), .val (.int (2 : Int32)), .val (.ref b11), .val (.ref b242), .val (.ref a266), .val (.int (3 : Int32)), .val (.int (1 : Int32))] [(.ref a266)])) (fun T A t r => XS.aload A hx rfl (hb hby at_376) rfl rfl r) ?_
    refine Go.sp (g' := (mkF m 379 #[.val (.int p1), .val (.int p2), .val (.int p3), .val (.int p4), .val (.int (6 : Int32)), .val (.int (2 : Int32)), .val (.ref b11), .val (.ref b242), .val (.ref a266), .val (.int (3 : Int32)), .val (.int (1 : Int32))] [(.int (1 : Int32)), (.ref a266)])) (fun T A t r => XS.iconst A hx rfl (hb hby at_378) r) ?_
    refine Go.callVP (a := a266) (z := (⟨"java/lang/String", "charAt", "(I)C"⟩ : MethodName)) (W := 0) (y := (⟨"java/lang/String", "charAt", "(I)C"⟩ : MethodName)) (argsL := [(.int (1 : Int32))]) (rest := []) (pc' := 382) (hb hby at_379) (own_w hw 122 rfl) (own_w hw 123 rfl) (fun s' hZ => notFace_of_selects (args := #[]) (mvT hZ (own_w hw 125 rfl))) (own_w hw 125 rfl) (own_w hw 124 rfl) (by decide) (fun s' hZ => Bk.pure (StrChars.Road.chN (kI := 4) (cs := [z22, z25, z28]) (i := 1) hZ (own_chwd hw) (own_w hw 7 rfl) E266 V266 C266 D266 (own_cod rfl lat267) (own_up lat267) (S0.ext O268.2) P0 (SF.ext O268.2) RF (by show 3 ≤ 4000; decide) (by show 1 < 3; decide) rfl (by decide) (by decide))) E266 (by rw [hml]; rfl) (lenOf pd_14 rfl) rfl (Nat.le_of_ble_eq_true rfl) rfl (by decide) (by decide) ?_
    rintro v273 rfl
    refine Go.cast (g' := (mkF m 382 #[.val (.int p1), .val (.int p2), .val (.int p3), .val (.int p4), .val (.int (6 : Int32)), .val (.int (2 : Int32)), .val (.ref b11), .val (.ref b242), .val (.ref a266), .val (.int (3 : Int32)), .val (.int (1 : Int32))] [(.int z25)])) rfl ?_
    refine Go.sp (g' := (mkF m 384 #[.val (.int p1), .val (.int p2), .val (.int p3), .val (.int p4), .val (.int (6 : Int32)), .val (.int (2 : Int32)), .val (.ref b11), .val (.ref b242), .val (.ref a266), .val (.int (3 : Int32)), .val (.int (1 : Int32))] [(.ref b11), (.int z25)])) (fun T A t r => XS.aload A hx rfl (hb hby at_382) rfl rfl r) ?_
    refine Go.sp (g' := (mkF m 386 #[.val (.int p1), .val (.int p2), .val (.int p3), .val (.int p4), .val (.int (6 : Int32)), .val (.int (2 : Int32)), .val (.ref b11), .val (.ref b242), .val (.ref a266), .val (.int (3 : Int32)), .val (.int (1 : Int32))] [(.int (2 : Int32)), (.ref b11), (.int z25)])) (fun T A t r => XS.iload A hx rfl (hb hby at_384) rfl r) ?_
    refine Go.sp (g' := (mkF m 387 #[.val (.int p1), .val (.int p2), .val (.int p3), .val (.int p4), .val (.int (6 : Int32)), .val (.int (2 : Int32)), .val (.ref b11), .val (.ref b242), .val (.ref a266), .val (.int (3 : Int32)), .val (.int (1 : Int32))] [(.int (2 : Int32)), (.int (2 : Int32)), (.ref b11), (.int z25)])) (fun T A t r => XS.iconst A hx rfl (hb hby at_386) r) ?_
    refine Go.sp (g' := (mkF m 388 #[.val (.int p1), .val (.int p2), .val (.int p3), .val (.int p4), .val (.int (6 : Int32)), .val (.int (2 : Int32)), .val (.ref b11), .val (.ref b242), .val (.ref a266), .val (.int (3 : Int32)), .val (.int (1 : Int32))] [(.int (4 : Int32)), (.ref b11), (.int z25)])) (fun T A t r => XS.iadd A hx rfl (hb hby at_387) rfl r) ?_
    refine Go.r (g' := (mkF m 389 #[.val (.int p1), .val (.int p2), .val (.int p3), .val (.int p4), .val (.int (6 : Int32)), .val (.int (2 : Int32)), .val (.ref b11), .val (.ref b242), .val (.ref a266), .val (.int (3 : Int32)), .val (.int (1 : Int32))] [(.int z25), (.int z25)])) (fun s' T L X eT hZ t r => own_ldC X hx hZ eT f272 (j := (4 : Int32)) ⟨by decide, by decide⟩ (v := (.int z25)) rfl (g := (mkF m 388 #[.val (.int p1), .val (.int p2), .val (.int p3), .val (.int p4), .val (.int (6 : Int32)), .val (.int (2 : Int32)), .val (.ref b11), .val (.ref b242), .val (.ref a266), .val (.int (3 : Int32)), .val (.int (1 : Int32))] [(.int (4 : Int32)), (.ref b11), (.int z25)])) rfl rfl (hb hby at_388) t r) ?_
    refine Go.sp (g' := (mkF m 392 #[.val (.int p1), .val (.int p2), .val (.int p3), .val (.int p4), .val (.int (6 : Int32)), .val (.int (2 : Int32)), .val (.ref b11), .val (.ref b242), .val (.ref a266), .val (.int (3 : Int32)), .val (.int (1 : Int32))] [])) (fun T A t r => XS.icmpNo A hx rfl (hb hby at_389) rfl (teq (rfl : z25 = z25)).2 r) ?_
    refine Go.sp (g' := (mkF m 393 #[.val (.int p1), .val (.int p2), .val (.int p3), .val (.int p4), .val (.int (6 : Int32)), .val (.int (2 : Int32)), .val (.ref b11), .val (.ref b242), .val (.ref a266), .val (.int (3 : Int32)), .val (.int (1 : Int32))] [(.int (1 : Int32))])) (fun T A t r => XS.iconst A hx rfl (hb hby at_392) r) ?_
    refine Go.sp (g' := (mkF m 397 #[.val (.int p1), .val (.int p2), .val (.int p3), .val (.int p4), .val (.int (6 : Int32)), .val (.int (2 : Int32)), .val (.ref b11), .val (.ref b242), .val (.ref a266), .val (.int (3 : Int32)), .val (.int (1 : Int32))] [(.int (1 : Int32))])) (fun T A t r => XS.goto A hx rfl (pc0 := 393) (pc' := 397) rfl (hb hby at_393) (by decide) (by decide) r) ?_
    refine Go.sp (g' := (mkF m 399 #[.val (.int p1), .val (.int p2), .val (.int p3), .val (.int p4), .val (.int (6 : Int32)), .val (.int (2 : Int32)), .val (.ref b11), .val (.ref b242), .val (.ref a266), .val (.int (3 : Int32)), .val (.int (1 : Int32))] [])) (fun T A t r => XS.istore A hx rfl (hb hby at_397) rfl (l' := #[.val (.int p1), .val (.int p2), .val (.int p3), .val (.int p4), .val (.int (6 : Int32)), .val (.int (2 : Int32)), .val (.ref b11), .val (.ref b242), .val (.ref a266), .val (.int (3 : Int32)), .val (.int (1 : Int32))]) rfl r) ?_
    refine Go.sp (g' := (mkF m 400 #[.val (.int p1), .val (.int p2), .val (.int p3), .val (.int p4), .val (.int (6 : Int32)), .val (.int (2 : Int32)), .val (.ref b11), .val (.ref b242), .val (.ref a266), .val (.int (3 : Int32)), .val (.int (1 : Int32))] [(.int (2 : Int32))])) (fun T A t r => XS.iconst A hx rfl (hb hby at_399) r) ?_
    refine Go.sp (g' := (mkF m 402 #[.val (.int p1), .val (.int p2), .val (.int p3), .val (.int p4), .val (.int (6 : Int32)), .val (.int (2 : Int32)), .val (.ref b11), .val (.ref b242), .val (.ref a266), .val (.int (3 : Int32)), .val (.int (1 : Int32))] [(.int (3 : Int32)), (.int (2 : Int32))])) (fun T A t r => XS.iload A hx rfl (hb hby at_400) rfl r) ?_
    refine Go.sp (g' := (mkF m 405 #[.val (.int p1), .val (.int p2), .val (.int p3), .val (.int p4), .val (.int (6 : Int32)), .val (.int (2 : Int32)), .val (.ref b11), .val (.ref b242), .val (.ref a266), .val (.int (3 : Int32)), .val (.int (1 : Int32))] [])) (fun T A t r => XS.icmpNo A hx rfl (hb hby at_402) rfl (tlt (by decide : ((2 : Int32) < (3 : Int32)))).2.1 r) ?_
    refine Go.sp (g' := (mkF m 407 #[.val (.int p1), .val (.int p2), .val (.int p3), .val (.int p4), .val (.int (6 : Int32)), .val (.int (2 : Int32)), .val (.ref b11), .val (.ref b242), .val (.ref a266), .val (.int (3 : Int32)), .val (.int (1 : Int32))] [(.int (1 : Int32))])) (fun T A t r => XS.iload A hx rfl (hb hby at_405) rfl r) ?_
    refine Go.sp (g' := (mkF m 410 #[.val (.int p1), .val (.int p2), .val (.int p3), .val (.int p4), .val (.int (6 : Int32)), .val (.int (2 : Int32)), .val (.ref b11), .val (.ref b242), .val (.ref a266), .val (.int (3 : Int32)), .val (.int (1 : Int32))] [])) (fun T A t r => XS.ifNo A hx rfl (hb hby at_407) rfl ((if0 _ _).trans (feq (by decide : ¬ ((1 : Int32) = (0 : Int32)))).1) r) ?_
    refine Go.sp (g' := (mkF m 412 #[.val (.int p1), .val (.int p2), .val (.int p3), .val (.int p4), .val (.int (6 : Int32)), .val (.int (2 : Int32)), .val (.ref b11), .val (.ref b242), .val (.ref a266), .val (.int (3 : Int32)), .val (.int (1 : Int32))] [(.ref a266)])) (fun T A t r => XS.aload A hx rfl (hb hby at_410) rfl rfl r) ?_
    refine Go.sp (g' := (mkF m 413 #[.val (.int p1), .val (.int p2), .val (.int p3), .val (.int p4), .val (.int (6 : Int32)), .val (.int (2 : Int32)), .val (.ref b11), .val (.ref b242), .val (.ref a266), .val (.int (3 : Int32)), .val (.int (1 : Int32))] [(.int (2 : Int32)), (.ref a266)])) (fun T A t r => XS.iconst A hx rfl (hb hby at_412) r) ?_
    refine Go.callVP (a := a266) (z := (⟨"java/lang/String", "charAt", "(I)C"⟩ : MethodName)) (W := 0) (y := (⟨"java/lang/String", "charAt", "(I)C"⟩ : MethodName)) (argsL := [(.int (2 : Int32))]) (rest := []) (pc' := 416) (hb hby at_413) (own_w hw 122 rfl) (own_w hw 123 rfl) (fun s' hZ => notFace_of_selects (args := #[]) (mvT hZ (own_w hw 125 rfl))) (own_w hw 125 rfl) (own_w hw 124 rfl) (by decide) (fun s' hZ => Bk.pure (StrChars.Road.chN (kI := 4) (cs := [z22, z25, z28]) (i := 2) hZ (own_chwd hw) (own_w hw 7 rfl) E266 V266 C266 D266 (own_cod rfl lat267) (own_up lat267) (S0.ext O268.2) P0 (SF.ext O268.2) RF (by show 3 ≤ 4000; decide) (by show 2 < 3; decide) rfl (by decide) (by decide))) E266 (by rw [hml]; rfl) (lenOf pd_14 rfl) rfl (Nat.le_of_ble_eq_true rfl) rfl (by decide) (by decide) ?_
    rintro v274 rfl
    refine Go.cast (g' := (mkF m 416 #[.val (.int p1), .val (.int p2), .val (.int p3), .val (.int p4), .val (.int (6 : Int32)), .val (.int (2 : Int32)), .val (.ref b11), .val (.ref b242), .val (.ref a266), .val (.int (3 : Int32)), .val (.int (1 : Int32))] [(.int z28)])) rfl ?_
    refine Go.sp (g' := (mkF m 418 #[.val (.int p1), .val (.int p2), .val (.int p3), .val (.int p4), .val (.int (6 : Int32)), .val (.int (2 : Int32)), .val (.ref b11), .val (.ref b242), .val (.ref a266), .val (.int (3 : Int32)), .val (.int (1 : Int32))] [(.ref b11), (.int z28)])) (fun T A t r => XS.aload A hx rfl (hb hby at_416) rfl rfl r) ?_
    refine Go.sp (g' := (mkF m 420 #[.val (.int p1), .val (.int p2), .val (.int p3), .val (.int p4), .val (.int (6 : Int32)), .val (.int (2 : Int32)), .val (.ref b11), .val (.ref b242), .val (.ref a266), .val (.int (3 : Int32)), .val (.int (1 : Int32))] [(.int (2 : Int32)), (.ref b11), (.int z28)])) (fun T A t r => XS.iload A hx rfl (hb hby at_418) rfl r) ?_
    refine Go.sp (g' := (mkF m 421 #[.val (.int p1), .val (.int p2), .val (.int p3), .val (.int p4), .val (.int (6 : Int32)), .val (.int (2 : Int32)), .val (.ref b11), .val (.ref b242), .val (.ref a266), .val (.int (3 : Int32)), .val (.int (1 : Int32))] [(.int (3 : Int32)), (.int (2 : Int32)), (.ref b11), (.int z28)])) (fun T A t r => XS.iconst A hx rfl (hb hby at_420) r) ?_
    refine Go.sp (g' := (mkF m 422 #[.val (.int p1), .val (.int p2), .val (.int p3), .val (.int p4), .val (.int (6 : Int32)), .val (.int (2 : Int32)), .val (.ref b11), .val (.ref b242), .val (.ref a266), .val (.int (3 : Int32)), .val (.int (1 : Int32))] [(.int (5 : Int32)), (.ref b11), (.int z28)])) (fun T A t r => XS.iadd A hx rfl (hb hby at_421) rfl r) ?_
    refine Go.r (g' := (mkF m 423 #[.val (.int p1), .val (.int p2), .val (.int p3), .val (.int p4), .val (.int (6 : Int32)), .val (.int (2 : Int32)), .val (.ref b11), .val (.ref b242), .val (.ref a266), .val (.int (3 : Int32)), .val (.int (1 : Int32))] [(.int z28), (.int z28)])) (fun s' T L X eT hZ t r => own_ldC X hx hZ eT f272 (j := (5 : Int32)) ⟨by decide, by decide⟩ (v := (.int z28)) rfl (g := (mkF m 422 #[.val (.int p1), .val (.int p2), .val (.int p3), .val (.int p4), .val (.int (6 : Int32)), .val (.int (2 : Int32)), .val (.ref b11), .val (.ref b242), .val (.ref a266), .val (.int (3 : Int32)), .val (.int (1 : Int32))] [(.int (5 : Int32)), (.ref b11), (.int z28)])) rfl rfl (hb hby at_422) t r) ?_
    refine Go.sp (g' := (mkF m 426 #[.val (.int p1), .val (.int p2), .val (.int p3), .val (.int p4), .val (.int (6 : Int32)), .val (.int (2 : Int32)), .val (.ref b11), .val (.ref b242), .val (.ref a266), .val (.int (3 : Int32)), .val (.int (1 : Int32))] [])) (fun T A t r => XS.icmpNo A hx rfl (hb hby at_423) rfl (teq (rfl : z28 = z28)).2 r) ?_
    refine Go.sp (g' := (mkF m 427 #[.val (.int p1), .val (.int p2), .val (.int p3), .val (.int p4), .val (.int (6 : Int32)), .val (.int (2 : Int32)), .val (.ref b11), .val (.ref b242), .val (.ref a266), .val (.int (3 : Int32)), .val (.int (1 : Int32))] [(.int (1 : Int32))])) (fun T A t r => XS.iconst A hx rfl (hb hby at_426) r) ?_
    refine Go.sp (g' := (mkF m 431 #[.val (.int p1), .val (.int p2), .val (.int p3), .val (.int p4), .val (.int (6 : Int32)), .val (.int (2 : Int32)), .val (.ref b11), .val (.ref b242), .val (.ref a266), .val (.int (3 : Int32)), .val (.int (1 : Int32))] [(.int (1 : Int32))])) (fun T A t r => XS.goto A hx rfl (pc0 := 427) (pc' := 431) rfl (hb hby at_427) (by decide) (by decide) r) ?_
    refine Go.sp (g' := (mkF m 433 #[.val (.int p1), .val (.int p2), .val (.int p3), .val (.int p4), .val (.int (6 : Int32)), .val (.int (2 : Int32)), .val (.ref b11), .val (.ref b242), .val (.ref a266), .val (.int (3 : Int32)), .val (.int (1 : Int32))] [])) (fun T A t r => XS.istore A hx rfl (hb hby at_431) rfl (l' := #[.val (.int p1), .val (.int p2), .val (.int p3), .val (.int p4), .val (.int (6 : Int32)), .val (.int (2 : Int32)), .val (.ref b11), .val (.ref b242), .val (.ref a266), .val (.int (3 : Int32)), .val (.int (1 : Int32))]) rfl r) ?_
    refine Go.sp (g' := (mkF m 434 #[.val (.int p1), .val (.int p2), .val (.int p3), .val (.int p4), .val (.int (6 : Int32)), .val (.int (2 : Int32)), .val (.ref b11), .val (.ref b242), .val (.ref a266), .val (.int (3 : Int32)), .val (.int (1 : Int32))] [(.int (3 : Int32))])) (fun T A t r => XS.iconst A hx rfl (hb hby at_433) r) ?_
    refine Go.sp (g' := (mkF m 436 #[.val (.int p1), .val (.int p2), .val (.int p3), .val (.int p4), .val (.int (6 : Int32)), .val (.int (2 : Int32)), .val (.ref b11), .val (.ref b242), .val (.ref a266), .val (.int (3 : Int32)), .val (.int (1 : Int32))] [(.int (3 : Int32)), (.int (3 : Int32))])) (fun T A t r => XS.iload A hx rfl (hb hby at_434) rfl r) ?_
    refine Go.sp (g' := (mkF m 467 #[.val (.int p1), .val (.int p2), .val (.int p3), .val (.int p4), .val (.int (6 : Int32)), .val (.int (2 : Int32)), .val (.ref b11), .val (.ref b242), .val (.ref a266), .val (.int (3 : Int32)), .val (.int (1 : Int32))] [])) (fun T A t r => XS.icmpYes A hx rfl (pc0 := 436) (pc' := 467) rfl (hb hby at_436) rfl (flt (by decide : ¬ ((3 : Int32) < (3 : Int32)))).2.1 (by decide) (by decide) r) ?_
    refine Go.sp (g' := (mkF m 469 #[.val (.int p1), .val (.int p2), .val (.int p3), .val (.int p4), .val (.int (6 : Int32)), .val (.int (2 : Int32)), .val (.ref b11), .val (.ref b242), .val (.ref a266), .val (.int (3 : Int32)), .val (.int (1 : Int32))] [(.int (1 : Int32))])) (fun T A t r => XS.iload A hx rfl (hb hby at_467) rfl r) ?_
    exact Go.ret (v := (some (.int (nar .boolean (1 : Int32))))) (fun s' T L fs X hr => retN X hx (t := .boolean) hret (by simp) (hb hby at_469) hr) (fun h => by rw [hret] at h; cases h) (by decide) (by decide) rfl
  · skip
    refine Go.cast (g' := (mkF m 91 #[.val (.int p1), .val (.int p2), .val (.int p3), .val (.int p4), .val (.int (6 : Int32)), .val (.int (3 : Int32)), .val (.ref b11), .unset, .unset, .unset, .unset] [])) (by rw [ha, hn]) ?_
    refine Go.sp (g' := (mkF m 93 #[.val (.int p1), .val (.int p2), .val (.int p3), .val (.int p4), .val (.int (6 : Int32)), .val (.int (3 : Int32)), .val (.ref b11), .unset, .unset, .unset, .unset] [(.ref b11)])) (fun T A t r => XS.aload A hx rfl (hb hby at_91) rfl rfl r) ?_
    refine Go.sp (g' := (mkF m 95 #[.val (.int p1), .val (.int p2), .val (.int p3), .val (.int p4), .val (.int (6 : Int32)), .val (.int (3 : Int32)), .val (.ref b11), .unset, .unset, .unset, .unset] [(.int (3 : Int32)), (.ref b11)])) (fun T A t r => XS.iload A hx rfl (hb hby at_93) rfl r) ?_
    refine Go.sp (g' := (mkF m 97 #[.val (.int p1), .val (.int p2), .val (.int p3), .val (.int p4), .val (.int (6 : Int32)), .val (.int (3 : Int32)), .val (.ref b11), .unset, .unset, .unset, .unset] [(.int (64 : Int32)), (.int (3 : Int32)), (.ref b11)])) (fun T A t r => XS.bipush A hx rfl (hb hby at_95) r) ?_
    refine Go.w (g' := (mkF m 98 #[.val (.int p1), .val (.int p2), .val (.int p3), .val (.int p4), .val (.int (6 : Int32)), .val (.int (3 : Int32)), .val (.ref b11), .unset, .unset, .unset, .unset] [])) (fun s' T L X eT hZ hown => own_stC X hx hZ eT V29 (j := (3 : Int32)) ⟨by decide, by decide⟩ (g := (mkF m 97 #[.val (.int p1), .val (.int p2), .val (.int p3), .val (.int p4), .val (.int (6 : Int32)), .val (.int (3 : Int32)), .val (.ref b11), .unset, .unset, .unset, .unset] [(.int (64 : Int32)), (.int (3 : Int32)), (.ref b11)])) rfl rfl (hb hby at_97)) (Or.inr sz11) ?_
    intro h275 W275
    have V275 : Arv Z h275 b11 k11 .char (6 : Int32) [(.int z13), (.int z16), (.int z19), (.int (64 : Int32)), (.int z25), (.int z28)] (.int (0 : Int32)) := own_set V29 (fits_nar_char _) W275 rfl 3 rfl (Nat.le_of_ble_eq_true rfl)
    refine Go.sp (g' := (mkF m 100 #[.val (.int p1), .val (.int p2), .val (.int p3), .val (.int p4), .val (.int (6 : Int32)), .val (.int (3 : Int32)), .val (.ref b11), .unset, .unset, .unset, .unset] [(.int (6 : Int32))])) (fun T A t r => XS.iload A hx rfl (hb hby at_98) rfl r) ?_
    refine Go.sp (g' := (mkF m 101 #[.val (.int p1), .val (.int p2), .val (.int p3), .val (.int p4), .val (.int (6 : Int32)), .val (.int (3 : Int32)), .val (.ref b11), .unset, .unset, .unset, .unset] [(.int (3 : Int32)), (.int (6 : Int32))])) (fun T A t r => XS.iconst A hx rfl (hb hby at_100) r) ?_
    refine Go.sp (g' := (mkF m 140 #[.val (.int p1), .val (.int p2), .val (.int p3), .val (.int p4), .val (.int (6 : Int32)), .val (.int (3 : Int32)), .val (.ref b11), .unset, .unset, .unset, .unset] [])) (fun T A t r => XS.icmpYes A hx rfl (pc0 := 101) (pc' := 140) rfl (hb hby at_101) rfl (feq (by decide : ¬ ((6 : Int32) = (3 : Int32)))).2 (by decide) (by decide) r) ?_
    refine Go.sp (g' := (mkF m 142 #[.val (.int p1), .val (.int p2), .val (.int p3), .val (.int p4), .val (.int (6 : Int32)), .val (.int (3 : Int32)), .val (.ref b11), .unset, .unset, .unset, .unset] [(.int (6 : Int32))])) (fun T A t r => XS.iload A hx rfl (hb hby at_140) rfl r) ?_
    refine Go.sp (g' := (mkF m 143 #[.val (.int p1), .val (.int p2), .val (.int p3), .val (.int p4), .val (.int (6 : Int32)), .val (.int (3 : Int32)), .val (.ref b11), .unset, .unset, .unset, .unset] [(.int (4 : Int32)), (.int (6 : Int32))])) (fun T A t r => XS.iconst A hx rfl (hb hby at_142) r) ?_
    refine Go.sp (g' := (mkF m 189 #[.val (.int p1), .val (.int p2), .val (.int p3), .val (.int p4), .val (.int (6 : Int32)), .val (.int (3 : Int32)), .val (.ref b11), .unset, .unset, .unset, .unset] [])) (fun T A t r => XS.icmpYes A hx rfl (pc0 := 143) (pc' := 189) rfl (hb hby at_143) rfl (feq (by decide : ¬ ((6 : Int32) = (4 : Int32)))).2 (by decide) (by decide) r) ?_
    refine Go.sp (g' := (mkF m 191 #[.val (.int p1), .val (.int p2), .val (.int p3), .val (.int p4), .val (.int (6 : Int32)), .val (.int (3 : Int32)), .val (.ref b11), .unset, .unset, .unset, .unset] [(.int (6 : Int32))])) (fun T A t r => XS.iload A hx rfl (hb hby at_189) rfl r) ?_
    refine Go.sp (g' := (mkF m 192 #[.val (.int p1), .val (.int p2), .val (.int p3), .val (.int p4), .val (.int (6 : Int32)), .val (.int (3 : Int32)), .val (.ref b11), .unset, .unset, .unset, .unset] [(.int (5 : Int32)), (.int (6 : Int32))])) (fun T A t r => XS.iconst A hx rfl (hb hby at_191) r) ?_
    refine Go.sp (g' := (mkF m 245 #[.val (.int p1), .val (.int p2), .val (.int p3), .val (.int p4), .val (.int (6 : Int32)), .val (.int (3 : Int32)), .val (.ref b11), .unset, .unset, .unset, .unset] [])) (fun T A t r => XS.icmpYes A hx rfl (pc0 := 192) (pc' := 245) rfl (hb hby at_192) rfl (feq (by decide : ¬ ((6 : Int32) = (5 : Int32)))).2 (by decide) (by decide) r) ?_
    refine Go.newO (k' := 2) (n' := 10) (pc' := 248) (hb hby at_245) (own_w hw 6 rfl) (own_w hw 7 rfl) (own_w hw 8 rfl) rfl rfl rfl (by decide) (by decide) ?_
    intro b276 h276 g276 sz276 E276 A276 D276
    have F276_coder : Fld Z h276 b276 "java/lang/String" "coder" "B" (.int (0 : Int32)) := D276 (Or.inr (own_w hw 32 rfl)) (ty := .byte) (by decide)
    have F276_value : Fld Z h276 b276 "java/lang/String" "value" "[B" .null := D276 (Or.inr (own_w hw 34 rfl)) (ty := (.array .byte)) (by decide)
    refine Go.sp (g' := (mkF m 249 #[.val (.int p1), .val (.int p2), .val (.int p3), .val (.int p4), .val (.int (6 : Int32)), .val (.int (3 : Int32)), .val (.ref b11), .unset, .unset, .unset, .unset] [(.ref b276), (.ref b276)])) (fun T A t r => XS.dup A hx rfl (hb hby at_248) rfl rfl r) ?_
    refine Go.sp (g' := (mkF m 251 #[.val (.int p1), .val (.int p2), .val (.int p3), .val (.int p4), .val (.int (6 : Int32)), .val (.int (3 : Int32)), .val (.ref b11), .unset, .unset, .unset, .unset] [(.int (6 : Int32)), (.ref b276), (.ref b276)])) (fun T A t r => XS.bipush A hx rfl (hb hby at_249) r) ?_
    refine Go.newP (ty := .char) (dv := (.int (0 : Int32))) (cap := 6) (k' := 3) (n' := 16) (pc' := 253) (hb hby at_251) rfl rfl (own_w hw 0 rfl) (by decide) (by decide) (by decide) rfl rfl rfl (by decide) (by decide) ?_
    intro b277 h277 k277 g277 sz277 E277 A277
    have V277 : Arv Z h277 b277 k277 .char (6 : Int32) [(.int (0 : Int32)), (.int (0 : Int32)), (.int (0 : Int32)), (.int (0 : Int32)), (.int (0 : Int32)), (.int (0 : Int32))] (.int (0 : Int32)) := A277.pad (pad_rep [] (.int (0 : Int32)) 6)
    refine Go.sp (g' := (mkF m 254 #[.val (.int p1), .val (.int p2), .val (.int p3), .val (.int p4), .val (.int (6 : Int32)), .val (.int (3 : Int32)), .val (.ref b11), .unset, .unset, .unset, .unset] [(.ref b277), (.ref b277), (.ref b276), (.ref b276)])) (fun T A t r => XS.dup A hx rfl (hb hby at_253) rfl rfl r) ?_
    refine Go.sp (g' := (mkF m 255 #[.val (.int p1), .val (.int p2), .val (.int p3), .val (.int p4), .val (.int (6 : Int32)), .val (.int (3 : Int32)), .val (.ref b11), .unset, .unset, .unset, .unset] [(.int (0 : Int32)), (.ref b277), (.ref b277), (.ref b276), (.ref b276)])) (fun T A t r => XS.iconst A hx rfl (hb hby at_254) r) ?_
    refine Go.sp (g' := (mkF m 257 #[.val (.int p1), .val (.int p2), .val (.int p3), .val (.int p4), .val (.int (6 : Int32)), .val (.int (3 : Int32)), .val (.ref b11), .unset, .unset, .unset, .unset] [(.ref b11), (.int (0 : Int32)), (.ref b277), (.ref b277), (.ref b276), (.ref b276)])) (fun T A t r => XS.aload A hx rfl (hb hby at_255) rfl rfl r) ?_
    refine Go.sp (g' := (mkF m 258 #[.val (.int p1), .val (.int p2), .val (.int p3), .val (.int p4), .val (.int (6 : Int32)), .val (.int (3 : Int32)), .val (.ref b11), .unset, .unset, .unset, .unset] [(.int (0 : Int32)), (.ref b11), (.int (0 : Int32)), (.ref b277), (.ref b277), (.ref b276), (.ref b276)])) (fun T A t r => XS.iconst A hx rfl (hb hby at_257) r) ?_
    have f278 := ((V275.ext E276).ext E277)
    refine Go.r (g' := (mkF m 259 #[.val (.int p1), .val (.int p2), .val (.int p3), .val (.int p4), .val (.int (6 : Int32)), .val (.int (3 : Int32)), .val (.ref b11), .unset, .unset, .unset, .unset] [(.int z13), (.int (0 : Int32)), (.ref b277), (.ref b277), (.ref b276), (.ref b276)])) (fun s' T L X eT hZ t r => own_ldC X hx hZ eT f278 (j := (0 : Int32)) ⟨by decide, by decide⟩ (v := (.int z13)) rfl (g := (mkF m 258 #[.val (.int p1), .val (.int p2), .val (.int p3), .val (.int p4), .val (.int (6 : Int32)), .val (.int (3 : Int32)), .val (.ref b11), .unset, .unset, .unset, .unset] [(.int (0 : Int32)), (.ref b11), (.int (0 : Int32)), (.ref b277), (.ref b277), (.ref b276), (.ref b276)])) rfl rfl (hb hby at_258) t r) ?_
    refine Go.w (g' := (mkF m 260 #[.val (.int p1), .val (.int p2), .val (.int p3), .val (.int p4), .val (.int (6 : Int32)), .val (.int (3 : Int32)), .val (.ref b11), .unset, .unset, .unset, .unset] [(.ref b277), (.ref b276), (.ref b276)])) (fun s' T L X eT hZ hown => own_stC X hx hZ eT V277 (j := (0 : Int32)) ⟨by decide, by decide⟩ (g := (mkF m 259 #[.val (.int p1), .val (.int p2), .val (.int p3), .val (.int p4), .val (.int (6 : Int32)), .val (.int (3 : Int32)), .val (.ref b11), .unset, .unset, .unset, .unset] [(.int z13), (.int (0 : Int32)), (.ref b277), (.ref b277), (.ref b276), (.ref b276)])) rfl rfl (hb hby at_259)) (Or.inr sz277) ?_
    intro h279 W279
    have V279 : Arv Z h279 b277 k277 .char (6 : Int32) [(.int z13), (.int (0 : Int32)), (.int (0 : Int32)), (.int (0 : Int32)), (.int (0 : Int32)), (.int (0 : Int32))] (.int (0 : Int32)) := own_set V277 (fits_nar_char _) W279 (congrArg Value.int (own_nar zb13)) 0 rfl (Nat.le_of_ble_eq_true rfl)
    refine Go.sp (g' := (mkF m 261 #[.val (.int p1), .val (.int p2), .val (.int p3), .val (.int p4), .val (.int (6 : Int32)), .val (.int (3 : Int32)), .val (.ref b11), .unset, .unset, .unset, .unset] [(.ref b277), (.ref b277), (.ref b276), (.ref b276)])) (fun T A t r => XS.dup A hx rfl (hb hby at_260) rfl rfl r) ?_
    refine Go.sp (g' := (mkF m 262 #[.val (.int p1), .val (.int p2), .val (.int p3), .val (.int p4), .val (.int (6 : Int32)), .val (.int (3 : Int32)), .val (.ref b11), .unset, .unset, .unset, .unset] [(.int (1 : Int32)), (.ref b277), (.ref b277), (.ref b276), (.ref b276)])) (fun T A t r => XS.iconst A hx rfl (hb hby at_261) r) ?_
    refine Go.sp (g' := (mkF m 264 #[.val (.int p1), .val (.int p2), .val (.int p3), .val (.int p4), .val (.int (6 : Int32)), .val (.int (3 : Int32)), .val (.ref b11), .unset, .unset, .unset, .unset] [(.ref b11), (.int (1 : Int32)), (.ref b277), (.ref b277), (.ref b276), (.ref b276)])) (fun T A t r => XS.aload A hx rfl (hb hby at_262) rfl rfl r) ?_
    refine Go.sp (g' := (mkF m 265 #[.val (.int p1), .val (.int p2), .val (.int p3), .val (.int p4), .val (.int (6 : Int32)), .val (.int (3 : Int32)), .val (.ref b11), .unset, .unset, .unset, .unset] [(.int (1 : Int32)), (.ref b11), (.int (1 : Int32)), (.ref b277), (.ref b277), (.ref b276), (.ref b276)])) (fun T A t r => XS.iconst A hx rfl (hb hby at_264) r) ?_
    have f280 := (V275.ext E276)
    have ne281 : b11 ≠ b277 := Nat.ne_of_lt (Nat.lt_of_lt_of_le f280.lt (Nat.le_of_eq g277.symm))
    have f282 := (f278.other W279 ne281)
    refine Go.r (g' := (mkF m 266 #[.val (.int p1), .val (.int p2), .val (.int p3), .val (.int p4), .val (.int (6 : Int32)), .val (.int (3 : Int32)), .val (.ref b11), .unset, .unset, .unset, .unset] [(.int z16), (.int (1 : Int32)), (.ref b277), (.ref b277), (.ref b276), (.ref b276)])) (fun s' T L X eT hZ t r => own_ldC X hx hZ eT f282 (j := (1 : Int32)) ⟨by decide, by decide⟩ (v := (.int z16)) rfl (g := (mkF m 265 #[.val (.int p1), .val (.int p2), .val (.int p3), .val (.int p4), .val (.int (6 : Int32)), .val (.int (3 : Int32)), .val (.ref b11), .unset, .unset, .unset, .unset] [(.int (1 : Int32)), (.ref b11), (.int (1 : Int32)), (.ref b277), (.ref b277), (.ref b276), (.ref b276)])) rfl rfl (hb hby at_265) t r) ?_
    refine Go.w (g' := (mkF m 267 #[.val (.int p1), .val (.int p2), .val (.int p3), .val (.int p4), .val (.int (6 : Int32)), .val (.int (3 : Int32)), .val (.ref b11), .unset, .unset, .unset, .unset] [(.ref b277), (.ref b276), (.ref b276)])) (fun s' T L X eT hZ hown => own_stC X hx hZ eT V279 (j := (1 : Int32)) ⟨by decide, by decide⟩ (g := (mkF m 266 #[.val (.int p1), .val (.int p2), .val (.int p3), .val (.int p4), .val (.int (6 : Int32)), .val (.int (3 : Int32)), .val (.ref b11), .unset, .unset, .unset, .unset] [(.int z16), (.int (1 : Int32)), (.ref b277), (.ref b277), (.ref b276), (.ref b276)])) rfl rfl (hb hby at_266)) (Or.inr sz277) ?_
    intro h283 W283
    have V283 : Arv Z h283 b277 k277 .char (6 : Int32) [(.int z13), (.int z16), (.int (0 : Int32)), (.int (0 : Int32)), (.int (0 : Int32)), (.int (0 : Int32))] (.int (0 : Int32)) := own_set V279 (fits_nar_char _) W283 (congrArg Value.int (own_nar zb16)) 1 rfl (Nat.le_of_ble_eq_true rfl)
    refine Go.sp (g' := (mkF m 268 #[.val (.int p1), .val (.int p2), .val (.int p3), .val (.int p4), .val (.int (6 : Int32)), .val (.int (3 : Int32)), .val (.ref b11), .unset, .unset, .unset, .unset] [(.ref b277), (.ref b277), (.ref b276), (.ref b276)])) (fun T A t r => XS.dup A hx rfl (hb hby at_267) rfl rfl r) ?_
    refine Go.sp (g' := (mkF m 269 #[.val (.int p1), .val (.int p2), .val (.int p3), .val (.int p4), .val (.int (6 : Int32)), .val (.int (3 : Int32)), .val (.ref b11), .unset, .unset, .unset, .unset] [(.int (2 : Int32)), (.ref b277), (.ref b277), (.ref b276), (.ref b276)])) (fun T A t r => XS.iconst A hx rfl (hb hby at_268) r) ?_
    refine Go.sp (g' := (mkF m 271 #[.val (.int p1), .val (.int p2), .val (.int p3), .val (.int p4), .val (.int (6 : Int32)), .val (.int (3 : Int32)), .val (.ref b11), .unset, .unset, .unset, .unset] [(.ref b11), (.int (2 : Int32)), (.ref b277), (.ref b277), (.ref b276), (.ref b276)])) (fun T A t r => XS.aload A hx rfl (hb hby at_269) rfl rfl r) ?_
    refine Go.sp (g' := (mkF m 272 #[.val (.int p1), .val (.int p2), .val (.int p3), .val (.int p4), .val (.int (6 : Int32)), .val (.int (3 : Int32)), .val (.ref b11), .unset, .unset, .unset, .unset] [(.int (2 : Int32)), (.ref b11), (.int (2 : Int32)), (.ref b277), (.ref b277), (.ref b276), (.ref b276)])) (fun T A t r => XS.iconst A hx rfl (hb hby at_271) r) ?_
    have f284 := (f282.other W283 ne281)
    refine Go.r (g' := (mkF m 273 #[.val (.int p1), .val (.int p2), .val (.int p3), .val (.int p4), .val (.int (6 : Int32)), .val (.int (3 : Int32)), .val (.ref b11), .unset, .unset, .unset, .unset] [(.int z19), (.int (2 : Int32)), (.ref b277), (.ref b277), (.ref b276), (.ref b276)])) (fun s' T L X eT hZ t r => own_ldC X hx hZ eT f284 (j := (2 : Int32)) ⟨by decide, by decide⟩ (v := (.int z19)) rfl (g := (mkF m 272 #[.val (.int p1), .val (.int p2), .val (.int p3), .val (.int p4), .val (.int (6 : Int32)), .val (.int (3 : Int32)), .val (.ref b11), .unset, .unset, .unset, .unset] [(.int (2 : Int32)), (.ref b11), (.int (2 : Int32)), (.ref b277), (.ref b277), (.ref b276), (.ref b276)])) rfl rfl (hb hby at_272) t r) ?_
    refine Go.w (g' := (mkF m 274 #[.val (.int p1), .val (.int p2), .val (.int p3), .val (.int p4), .val (.int (6 : Int32)), .val (.int (3 : Int32)), .val (.ref b11), .unset, .unset, .unset, .unset] [(.ref b277), (.ref b276), (.ref b276)])) (fun s' T L X eT hZ hown => own_stC X hx hZ eT V283 (j := (2 : Int32)) ⟨by decide, by decide⟩ (g := (mkF m 273 #[.val (.int p1), .val (.int p2), .val (.int p3), .val (.int p4), .val (.int (6 : Int32)), .val (.int (3 : Int32)), .val (.ref b11), .unset, .unset, .unset, .unset] [(.int z19), (.int (2 : Int32)), (.ref b277), (.ref b277), (.ref b276), (.ref b276)])) rfl rfl (hb hby at_273)) (Or.inr sz277) ?_
    intro h285 W285
    have V285 : Arv Z h285 b277 k277 .char (6 : Int32) [(.int z13), (.int z16), (.int z19), (.int (0 : Int32)), (.int (0 : Int32)), (.int (0 : Int32))] (.int (0 : Int32)) := own_set V283 (fits_nar_char _) W285 (congrArg Value.int (own_nar zb19)) 2 rfl (Nat.le_of_ble_eq_true rfl)
    refine Go.sp (g' := (mkF m 275 #[.val (.int p1), .val (.int p2), .val (.int p3), .val (.int p4), .val (.int (6 : Int32)), .val (.int (3 : Int32)), .val (.ref b11), .unset, .unset, .unset, .unset] [(.ref b277), (.ref b277), (.ref b276), (.ref b276)])) (fun T A t r => XS.dup A hx rfl (hb hby at_274) rfl rfl r) ?_
    refine Go.sp (g' := (mkF m 276 #[.val (.int p1), .val (.int p2), .val (.int p3), .val (.int p4), .val (.int (6 : Int32)), .val (.int (3 : Int32)), .val (.ref b11), .unset, .unset, .unset, .unset] [(.int (3 : Int32)), (.ref b277), (.ref b277), (.ref b276), (.ref b276)])) (fun T A t r => XS.iconst A hx rfl (hb hby at_275) r) ?_
    refine Go.sp (g' := (mkF m 278 #[.val (.int p1), .val (.int p2), .val (.int p3), .val (.int p4), .val (.int (6 : Int32)), .val (.int (3 : Int32)), .val (.ref b11), .unset, .unset, .unset, .unset] [(.ref b11), (.int (3 : Int32)), (.ref b277), (.ref b277), (.ref b276), (.ref b276)])) (fun T A t r => XS.aload A hx rfl (hb hby at_276) rfl rfl r) ?_
    refine Go.sp (g' := (mkF m 279 #[.val (.int p1), .val (.int p2), .val (.int p3), .val (.int p4), .val (.int (6 : Int32)), .val (.int (3 : Int32)), .val (.ref b11), .unset, .unset, .unset, .unset] [(.int (3 : Int32)), (.ref b11), (.int (3 : Int32)), (.ref b277), (.ref b277), (.ref b276), (.ref b276)])) (fun T A t r => XS.iconst A hx rfl (hb hby at_278) r) ?_
    have f286 := (f284.other W285 ne281)
    refine Go.r (g' := (mkF m 280 #[.val (.int p1), .val (.int p2), .val (.int p3), .val (.int p4), .val (.int (6 : Int32)), .val (.int (3 : Int32)), .val (.ref b11), .unset, .unset, .unset, .unset] [(.int (64 : Int32)), (.int (3 : Int32)), (.ref b277), (.ref b277), (.ref b276), (.ref b276)])) (fun s' T L X eT hZ t r => own_ldC X hx hZ eT f286 (j := (3 : Int32)) ⟨by decide, by decide⟩ (v := (.int (64 : Int32))) rfl (g := (mkF m 279 #[.val (.int p1), .val (.int p2), .val (.int p3), .val (.int p4), .val (.int (6 : Int32)), .val (.int (3 : Int32)), .val (.ref b11), .unset, .unset, .unset, .unset] [(.int (3 : Int32)), (.ref b11), (.int (3 : Int32)), (.ref b277), (.ref b277), (.ref b276), (.ref b276)])) rfl rfl (hb hby at_279) t r) ?_
    refine Go.w (g' := (mkF m 281 #[.val (.int p1), .val (.int p2), .val (.int p3), .val (.int p4), .val (.int (6 : Int32)), .val (.int (3 : Int32)), .val (.ref b11), .unset, .unset, .unset, .unset] [(.ref b277), (.ref b276), (.ref b276)])) (fun s' T L X eT hZ hown => own_stC X hx hZ eT V285 (j := (3 : Int32)) ⟨by decide, by decide⟩ (g := (mkF m 280 #[.val (.int p1), .val (.int p2), .val (.int p3), .val (.int p4), .val (.int (6 : Int32)), .val (.int (3 : Int32)), .val (.ref b11), .unset, .unset, .unset, .unset] [(.int (64 : Int32)), (.int (3 : Int32)), (.ref b277), (.ref b277), (.ref b276), (.ref b276)])) rfl rfl (hb hby at_280)) (Or.inr sz277) ?_
    intro h287 W287
    have V287 : Arv Z h287 b277 k277 .char (6 : Int32) [(.int z13), (.int z16), (.int z19), (.int (64 : Int32)), (.int (0 : Int32)), (.int (0 : Int32))] (.int (0 : Int32)) := own_set V285 (fits_nar_char _) W287 rfl 3 rfl (Nat.le_of_ble_eq_true rfl)
    refine Go.sp (g' := (mkF m 282 #[.val (.int p1), .val (.int p2), .val (.int p3), .val (.int p4), .val (.int (6 : Int32)), .val (.int (3 : Int32)), .val (.ref b11), .unset, .unset, .unset, .unset] [(.ref b277), (.ref b277), (.ref b276), (.ref b276)])) (fun T A t r => XS.dup A hx rfl (hb hby at_281) rfl rfl r) ?_
    refine Go.sp (g' := (mkF m 283 #[.val (.int p1), .val (.int p2), .val (.int p3), .val (.int p4), .val (.int (6 : Int32)), .val (.int (3 : Int32)), .val (.ref b11), .unset, .unset, .unset, .unset] [(.int (4 : Int32)), (.ref b277), (.ref b277), (.ref b276), (.ref b276)])) (fun T A t r => XS.iconst A hx rfl (hb hby at_282) r) ?_
    refine Go.sp (g' := (mkF m 285 #[.val (.int p1), .val (.int p2), .val (.int p3), .val (.int p4), .val (.int (6 : Int32)), .val (.int (3 : Int32)), .val (.ref b11), .unset, .unset, .unset, .unset] [(.ref b11), (.int (4 : Int32)), (.ref b277), (.ref b277), (.ref b276), (.ref b276)])) (fun T A t r => XS.aload A hx rfl (hb hby at_283) rfl rfl r) ?_
    refine Go.sp (g' := (mkF m 286 #[.val (.int p1), .val (.int p2), .val (.int p3), .val (.int p4), .val (.int (6 : Int32)), .val (.int (3 : Int32)), .val (.ref b11), .unset, .unset, .unset, .unset] [(.int (4 : Int32)), (.ref b11), (.int (4 : Int32)), (.ref b277), (.ref b277), (.ref b276), (.ref b276)])) (fun T A t r => XS.iconst A hx rfl (hb hby at_285) r) ?_
    have f288 := (f286.other W287 ne281)
    refine Go.r (g' := (mkF m 287 #[.val (.int p1), .val (.int p2), .val (.int p3), .val (.int p4), .val (.int (6 : Int32)), .val (.int (3 : Int32)), .val (.ref b11), .unset, .unset, .unset, .unset] [(.int z25), (.int (4 : Int32)), (.ref b277), (.ref b277), (.ref b276), (.ref b276)])) (fun s' T L X eT hZ t r => own_ldC X hx hZ eT f288 (j := (4 : Int32)) ⟨by decide, by decide⟩ (v := (.int z25)) rfl (g := (mkF m 286 #[.val (.int p1), .val (.int p2), .val (.int p3), .val (.int p4), .val (.int (6 : Int32)), .val (.int (3 : Int32)), .val (.ref b11), .unset, .unset, .unset, .unset] [(.int (4 : Int32)), (.ref b11), (.int (4 : Int32)), (.ref b277), (.ref b277), (.ref b276), (.ref b276)])) rfl rfl (hb hby at_286) t r) ?_
    refine Go.w (g' := (mkF m 288 #[.val (.int p1), .val (.int p2), .val (.int p3), .val (.int p4), .val (.int (6 : Int32)), .val (.int (3 : Int32)), .val (.ref b11), .unset, .unset, .unset, .unset] [(.ref b277), (.ref b276), (.ref b276)])) (fun s' T L X eT hZ hown => own_stC X hx hZ eT V287 (j := (4 : Int32)) ⟨by decide, by decide⟩ (g := (mkF m 287 #[.val (.int p1), .val (.int p2), .val (.int p3), .val (.int p4), .val (.int (6 : Int32)), .val (.int (3 : Int32)), .val (.ref b11), .unset, .unset, .unset, .unset] [(.int z25), (.int (4 : Int32)), (.ref b277), (.ref b277), (.ref b276), (.ref b276)])) rfl rfl (hb hby at_287)) (Or.inr sz277) ?_
    intro h289 W289
    have V289 : Arv Z h289 b277 k277 .char (6 : Int32) [(.int z13), (.int z16), (.int z19), (.int (64 : Int32)), (.int z25), (.int (0 : Int32))] (.int (0 : Int32)) := own_set V287 (fits_nar_char _) W289 (congrArg Value.int (own_nar zb25)) 4 rfl (Nat.le_of_ble_eq_true rfl)
    refine Go.sp (g' := (mkF m 289 #[.val (.int p1), .val (.int p2), .val (.int p3), .val (.int p4), .val (.int (6 : Int32)), .val (.int (3 : Int32)), .val (.ref b11), .unset, .unset, .unset, .unset] [(.ref b277), (.ref b277), (.ref b276), (.ref b276)])) (fun T A t r => XS.dup A hx rfl (hb hby at_288) rfl rfl r) ?_
    refine Go.sp (g' := (mkF m 290 #[.val (.int p1), .val (.int p2), .val (.int p3), .val (.int p4), .val (.int (6 : Int32)), .val (.int (3 : Int32)), .val (.ref b11), .unset, .unset, .unset, .unset] [(.int (5 : Int32)), (.ref b277), (.ref b277), (.ref b276), (.ref b276)])) (fun T A t r => XS.iconst A hx rfl (hb hby at_289) r) ?_
    refine Go.sp (g' := (mkF m 292 #[.val (.int p1), .val (.int p2), .val (.int p3), .val (.int p4), .val (.int (6 : Int32)), .val (.int (3 : Int32)), .val (.ref b11), .unset, .unset, .unset, .unset] [(.ref b11), (.int (5 : Int32)), (.ref b277), (.ref b277), (.ref b276), (.ref b276)])) (fun T A t r => XS.aload A hx rfl (hb hby at_290) rfl rfl r) ?_
    refine Go.sp (g' := (mkF m 293 #[.val (.int p1), .val (.int p2), .val (.int p3), .val (.int p4), .val (.int (6 : Int32)), .val (.int (3 : Int32)), .val (.ref b11), .unset, .unset, .unset, .unset] [(.int (5 : Int32)), (.ref b11), (.int (5 : Int32)), (.ref b277), (.ref b277), (.ref b276), (.ref b276)])) (fun T A t r => XS.iconst A hx rfl (hb hby at_292) r) ?_
    have f290 := (f288.other W289 ne281)
    refine Go.r (g' := (mkF m 294 #[.val (.int p1), .val (.int p2), .val (.int p3), .val (.int p4), .val (.int (6 : Int32)), .val (.int (3 : Int32)), .val (.ref b11), .unset, .unset, .unset, .unset] [(.int z28), (.int (5 : Int32)), (.ref b277), (.ref b277), (.ref b276), (.ref b276)])) (fun s' T L X eT hZ t r => own_ldC X hx hZ eT f290 (j := (5 : Int32)) ⟨by decide, by decide⟩ (v := (.int z28)) rfl (g := (mkF m 293 #[.val (.int p1), .val (.int p2), .val (.int p3), .val (.int p4), .val (.int (6 : Int32)), .val (.int (3 : Int32)), .val (.ref b11), .unset, .unset, .unset, .unset] [(.int (5 : Int32)), (.ref b11), (.int (5 : Int32)), (.ref b277), (.ref b277), (.ref b276), (.ref b276)])) rfl rfl (hb hby at_293) t r) ?_
    refine Go.w (g' := (mkF m 295 #[.val (.int p1), .val (.int p2), .val (.int p3), .val (.int p4), .val (.int (6 : Int32)), .val (.int (3 : Int32)), .val (.ref b11), .unset, .unset, .unset, .unset] [(.ref b277), (.ref b276), (.ref b276)])) (fun s' T L X eT hZ hown => own_stC X hx hZ eT V289 (j := (5 : Int32)) ⟨by decide, by decide⟩ (g := (mkF m 294 #[.val (.int p1), .val (.int p2), .val (.int p3), .val (.int p4), .val (.int (6 : Int32)), .val (.int (3 : Int32)), .val (.ref b11), .unset, .unset, .unset, .unset] [(.int z28), (.int (5 : Int32)), (.ref b277), (.ref b277), (.ref b276), (.ref b276)])) rfl rfl (hb hby at_294)) (Or.inr sz277) ?_
    intro h291 W291
    have V291 : Arv Z h291 b277 k277 .char (6 : Int32) [(.int z13), (.int z16), (.int z19), (.int (64 : Int32)), (.int z25), (.int z28)] (.int (0 : Int32)) := own_set V289 (fits_nar_char _) W291 (congrArg Value.int (own_nar zb28)) 5 rfl (Nat.le_of_ble_eq_true rfl)
    have f292 := (((((((A276.ext E277).wr W279).wr W283).wr W285).wr W287).wr W289).wr W291)
    have ne293 : b276 ≠ b277 := Nat.ne_of_lt (Nat.lt_of_lt_of_le A276.lt (Nat.le_of_eq g277.symm))
    have f294 := (((((((F276_value.ext E277).other W279 (Or.inl ne293)).other W283 (Or.inl ne293)).other W285 (Or.inl ne293)).other W287 (Or.inl ne293)).other W289 (Or.inl ne293)).other W291 (Or.inl ne293))
    have f295 := (((((((F276_coder.ext E277).other W279 (Or.inl ne293)).other W283 (Or.inl ne293)).other W285 (Or.inl ne293)).other W287 (Or.inl ne293)).other W289 (Or.inl ne293)).other W291 (Or.inl ne293))
    refine Go.old fun O296 => ?_
    have lat297 : ∀ c ∈ [z13, z16, z19, (64 : Int32), z25, z28], ¬ c < 0 ∧ ¬ (255 : Int32) < c := own_allc zb13 (own_allc zb16 (own_allc zb19 (own_allc (by decide) (own_allc zb25 (own_allc zb28 (own_allc0))))))
    refine Go.callC (a := b276) (ws' := [b276]) (W := 1) (y := (⟨"java/lang/String", "<init>", "([C)V"⟩ : MethodName)) (argsL := [(.ref b277)]) (rest := [(.ref b276)]) (pc' := 298) (k' := 4) (n' := 22) (hb hby at_295) rfl (own_w hw 9 rfl) (own_w hw 10 rfl) (own_w hw 11 rfl) (by decide) (fun s' hZ => own_str hw (own_w hw 7 rfl) hZ (cs := [z13, z16, z19, (64 : Int32), z25, z28]) (n := 6) (Nat.le_trans (Old.le O0) sz276) O296 f292 f294 f295 V291 S0 P0 rfl rfl (by decide) (by decide) lat297 (by decide) (by decide)) (by rw [hml]; rfl) (lenOf pd_15 rfl) rfl (Nat.le_of_ble_eq_true rfl) rfl rfl rfl (by decide) (by decide) (allS (Or.inr sz276) all0) ?_
    rintro v298 h298 K298 ⟨rfl, E298, C298, t298, kb298, ge298, V298, B298⟩
    refine Go.cast (g' := (mkF m 298 #[.val (.int p1), .val (.int p2), .val (.int p3), .val (.int p4), .val (.int (6 : Int32)), .val (.int (3 : Int32)), .val (.ref b11), .unset, .unset, .unset, .unset] [(.ref b276)])) rfl ?_
    refine Go.sp (g' := (mkF m 300 #[.val (.int p1), .val (.int p2), .val (.int p3), .val (.int p4), .val (.int (6 : Int32)), .val (.int (3 : Int32)), .val (.ref b11), .val (.ref b276), .unset, .unset, .unset] [])) (fun T A t r => XS.astore A hx rfl (hb hby at_298) rfl rfl (l' := #[.val (.int p1), .val (.int p2), .val (.int p3), .val (.int p4), .val (.int (6 : Int32)), .val (.int (3 : Int32)), .val (.ref b11), .val (.ref b276), .unset, .unset, .unset]) rfl r) ?_
    refine Go.sp (g' := (mkF m 302 #[.val (.int p1), .val (.int p2), .val (.int p3), .val (.int p4), .val (.int (6 : Int32)), .val (.int (3 : Int32)), .val (.ref b11), .val (.ref b276), .unset, .unset, .unset] [(.ref b276)])) (fun T A t r => XS.aload A hx rfl (hb hby at_300) rfl rfl r) ?_
    refine Go.old fun O299 => ?_
    refine Go.callS (ws' := []) (W := 0) (y := (⟨"com/example/slow_digest/slowdigest/rules/MailAddress", "domain", "(Ljava/lang/String;)Ljava/lang/String;"⟩ : MethodName)) (argsL := [(.ref b276)]) (rest := []) (pc' := 305) (k' := 6) (n' := 34) (hb hby at_302) (own_w hw 35 rfl) (own_w hw 36 rfl) (own_w hw 37 rfl) (own_w hw 38 rfl) (by decide) (fun s' hZ => Ct.bk (rmD l Z a0 hw [] b276 t298 kb298 [z13, z16, z19, (64 : Int32), z25, z28] 3 zS fm h298 n0 O299 E298 C298 V298 B298 lat297 (Nat.le_of_ble_eq_true rfl) (Nat.le_of_ble_eq_true rfl) rfl (own_lt3 zn13 zn16 zn19) (Nat.le_of_ble_eq_true rfl) S0 P0 SF RF) hZ (own_w hw 38 rfl) (own_w hw 37 rfl) (by decide) (by decide)) (by rw [hml]; rfl) (lenOf pd_16 rfl) rfl (Nat.le_of_ble_eq_true rfl) rfl rfl rfl (by decide) (by decide) all0 ?_
    rintro v300 h300 K300 ⟨a300, t300, kb300, rfl, E300, C300, V300, B300⟩
    refine Go.cast (g' := (mkF m 305 #[.val (.int p1), .val (.int p2), .val (.int p3), .val (.int p4), .val (.int (6 : Int32)), .val (.int (3 : Int32)), .val (.ref b11), .val (.ref b276), .unset, .unset, .unset] [(.ref a300)])) rfl ?_
    have D300 : Arv Z h300 t300 kb300 .byte (2 : Int32) (([z25, z28].map fun c => c.toInt8.toInt32).map Value.int) (.int 0) := B300
    have lat301 : ∀ c ∈ [z25, z28], ¬ c < 0 ∧ ¬ (255 : Int32) < c := own_allc zb25 (own_allc zb28 (own_allc0))
    refine Go.sp (g' := (mkF m 307 #[.val (.int p1), .val (.int p2), .val (.int p3), .val (.int p4), .val (.int (6 : Int32)), .val (.int (3 : Int32)), .val (.ref b11), .val (.ref b276), .val (.ref a300), .unset, .unset] [])) (fun T A t r => XS.astore A hx rfl (hb hby at_305) rfl rfl (l' := #[.val (.int p1), .val (.int p2), .val (.int p3), .val (.int p4), .val (.int (6 : Int32)), .val (.int (3 : Int32)), .val (.ref b11), .val (.ref b276), .val (.ref a300), .unset, .unset]) rfl r) ?_
    refine Go.sp (g' := (mkF m 309 #[.val (.int p1), .val (.int p2), .val (.int p3), .val (.int p4), .val (.int (6 : Int32)), .val (.int (3 : Int32)), .val (.ref b11), .val (.ref b276), .val (.ref a300), .unset, .unset] [(.int (6 : Int32))])) (fun T A t r => XS.iload A hx rfl (hb hby at_307) rfl r) ?_
    refine Go.sp (g' := (mkF m 311 #[.val (.int p1), .val (.int p2), .val (.int p3), .val (.int p4), .val (.int (6 : Int32)), .val (.int (3 : Int32)), .val (.ref b11), .val (.ref b276), .val (.ref a300), .unset, .unset] [(.int (3 : Int32)), (.int (6 : Int32))])) (fun T A t r => XS.iload A hx rfl (hb hby at_309) rfl r) ?_
    refine Go.sp (g' := (mkF m 312 #[.val (.int p1), .val (.int p2), .val (.int p3), .val (.int p4), .val (.int (6 : Int32)), .val (.int (3 : Int32)), .val (.ref b11), .val (.ref b276), .val (.ref a300), .unset, .unset] [(.int (3 : Int32))])) (fun T A t r => XS.isub A hx rfl (hb hby at_311) rfl r) ?_
    refine Go.sp (g' := (mkF m 313 #[.val (.int p1), .val (.int p2), .val (.int p3), .val (.int p4), .val (.int (6 : Int32)), .val (.int (3 : Int32)), .val (.ref b11), .val (.ref b276), .val (.ref a300), .unset, .unset] [(.int (1 : Int32)), (.int (3 : Int32))])) (fun T A t r => XS.iconst A hx rfl (hb hby at_312) r) ?_
    refine Go.sp (g' := (mkF m 314 #[.val (.int p1), .val (.int p2), .val (.int p3), .val (.int p4), .val (.int (6 : Int32)), .val (.int (3 : Int32)), .val (.ref b11), .val (.ref b276), .val (.ref a300), .unset, .unset] [(.int (2 : Int32))])) (fun T A t r => XS.isub A hx rfl (hb hby at_313) rfl r) ?_
    refine Go.sp (g' := (mkF m 316 #[.val (.int p1), .val (.int p2), .val (.int p3), .val (.int p4), .val (.int (6 : Int32)), .val (.int (3 : Int32)), .val (.ref b11), .val (.ref b276), .val (.ref a300), .val (.int (2 : Int32)), .unset] [])) (fun T A t r => XS.istore A hx rfl (hb hby at_314) rfl (l' := #[.val (.int p1), .val (.int p2), .val (.int p3), .val (.int p4), .val (.int (6 : Int32)), .val (.int (3 : Int32)), .val (.ref b11), .val (.ref b276), .val (.ref a300), .val (.int (2 : Int32)), .unset]) rfl r) ?_
    refine Go.sp (g' := (mkF m 318 #[.val (.int p1), .val (.int p2), .val (.int p3), .val (.int p4), .val (.int (6 : Int32)), .val (.int (3 : Int32)), .val (.ref b11), .val (.ref b276), .val (.ref a300), .val (.int (2 : Int32)), .unset] [(.ref a300)])) (fun T A t r => XS.aload A hx rfl (hb hby at_316) rfl rfl r) ?_
    refine Go.old fun O302 => ?_
    refine Go.callVP (a := a300) (z := (⟨"java/lang/String", "length", "()I"⟩ : MethodName)) (W := 0) (y := (⟨"java/lang/String", "length", "()I"⟩ : MethodName)) (argsL := []) (rest := []) (pc' := 321) (hb hby at_318) (own_w hw 121 rfl) (own_w hw 55 rfl) (fun s' hZ => notFace_of_selects (args := #[]) (mvT hZ (own_w hw 57 rfl))) (own_w hw 57 rfl) (own_w hw 56 rfl) (by decide) (fun s' hZ => Bk.pure (StrChars.Road.lenW (kI := 4) (cs := [z25, z28]) hZ (own_lenw hw) (own_w hw 7 rfl) E300 V300 C300 D300 (own_cod rfl lat301) (own_up lat301) (S0.ext O302.2) P0 (by show 2 ≤ 4000; decide) (by decide) (by decide))) E300 (by rw [hml]; rfl) (lenOf pd_4 rfl) rfl (Nat.le_of_ble_eq_true rfl) rfl (by decide) (by decide) ?_
    rintro v303 rfl
    refine Go.cast (g' := (mkF m 321 #[.val (.int p1), .val (.int p2), .val (.int p3), .val (.int p4), .val (.int (6 : Int32)), .val (.int (3 : Int32)), .val (.ref b11), .val (.ref b276), .val (.ref a300), .val (.int (2 : Int32)), .unset] [(.int (2 : Int32))])) rfl ?_
    refine Go.sp (g' := (mkF m 323 #[.val (.int p1), .val (.int p2), .val (.int p3), .val (.int p4), .val (.int (6 : Int32)), .val (.int (3 : Int32)), .val (.ref b11), .val (.ref b276), .val (.ref a300), .val (.int (2 : Int32)), .unset] [(.int (2 : Int32)), (.int (2 : Int32))])) (fun T A t r => XS.iload A hx rfl (hb hby at_321) rfl r) ?_
    refine Go.sp (g' := (mkF m 328 #[.val (.int p1), .val (.int p2), .val (.int p3), .val (.int p4), .val (.int (6 : Int32)), .val (.int (3 : Int32)), .val (.ref b11), .val (.ref b276), .val (.ref a300), .val (.int (2 : Int32)), .unset] [])) (fun T A t r => XS.icmpYes A hx rfl (pc0 := 323) (pc' := 328) rfl (hb hby at_323) rfl (teq (by decide : ((2 : Int32) = (2 : Int32)))).1 (by decide) (by decide) r) ?_
    refine Go.sp (g' := (mkF m 329 #[.val (.int p1), .val (.int p2), .val (.int p3), .val (.int p4), .val (.int (6 : Int32)), .val (.int (3 : Int32)), .val (.ref b11), .val (.ref b276), .val (.ref a300), .val (.int (2 : Int32)), .unset] [(.int (1 : Int32))])) (fun T A t r => XS.iconst A hx rfl (hb hby at_328) r) ?_
    refine Go.sp (g' := (mkF m 331 #[.val (.int p1), .val (.int p2), .val (.int p3), .val (.int p4), .val (.int (6 : Int32)), .val (.int (3 : Int32)), .val (.ref b11), .val (.ref b276), .val (.ref a300), .val (.int (2 : Int32)), .val (.int (1 : Int32))] [])) (fun T A t r => XS.istore A hx rfl (hb hby at_329) rfl (l' := #[.val (.int p1), .val (.int p2), .val (.int p3), .val (.int p4), .val (.int (6 : Int32)), .val (.int (3 : Int32)), .val (.ref b11), .val (.ref b276), .val (.ref a300), .val (.int (2 : Int32)), .val (.int (1 : Int32))]) rfl r) ?_
    refine Go.sp (g' := (mkF m 332 #[.val (.int p1), .val (.int p2), .val (.int p3), .val (.int p4), .val (.int (6 : Int32)), .val (.int (3 : Int32)), .val (.ref b11), .val (.ref b276), .val (.ref a300), .val (.int (2 : Int32)), .val (.int (1 : Int32))] [(.int (0 : Int32))])) (fun T A t r => XS.iconst A hx rfl (hb hby at_331) r) ?_
    refine Go.sp (g' := (mkF m 334 #[.val (.int p1), .val (.int p2), .val (.int p3), .val (.int p4), .val (.int (6 : Int32)), .val (.int (3 : Int32)), .val (.ref b11), .val (.ref b276), .val (.ref a300), .val (.int (2 : Int32)), .val (.int (1 : Int32))] [(.int (2 : Int32)), (.int (0 : Int32))])) (fun T A t r => XS.iload A hx rfl (hb hby at_332) rfl r) ?_
    refine Go.sp (g' := (mkF m 337 #[.val (.int p1), .val (.int p2), .val (.int p3), .val (.int p4), .val (.int (6 : Int32)), .val (.int (3 : Int32)), .val (.ref b11), .val (.ref b276), .val (.ref a300), .val (.int (2 : Int32)), .val (.int (1 : Int32))] [])) (fun T A t r => XS.icmpNo A hx rfl (hb hby at_334) rfl (tlt (by decide : ((0 : Int32) < (2 : Int32)))).2.1 r) ?_
    refine Go.sp (g' := (mkF m 339 #[.val (.int p1), .val (.int p2), .val (.int p3), .val (.int p4), .val (.int (6 : Int32)), .val (.int (3 : Int32)), .val (.ref b11), .val (.ref b276), .val (.ref a300), .val (.int (2 : Int32)), .val (.int (1 : Int32))] [(.int (1 : Int32))])) (fun T A t r => XS.iload A hx rfl (hb hby at_337) rfl r) ?_
    refine Go.sp (g' := (mkF m 342 #[.val (.int p1), .val (.int p2), .val (.int p3), .val (.int p4), .val (.int (6 : Int32)), .val (.int (3 : Int32)), .val (.ref b11), .val (.ref b276), .val (.ref a300), .val (.int (2 : Int32)), .val (.int (1 : Int32))] [])) (fun T A t r => XS.ifNo A hx rfl (hb hby at_339) rfl ((if0 _ _).trans (feq (by decide : ¬ ((1 : Int32) = (0 : Int32)))).1) r) ?_
    refine Go.sp (g' := (mkF m 344 #[.val (.int p1), .val (.int p2), .val (.int p3), .val (.int p4), .val (.int (6 : Int32)), .val (.int (3 : Int32)), .val (.ref b11), .val (.ref b276), .val (.ref a300), .val (.int (2 : Int32)), .val (.int (1 : Int32))] [(.ref a300)])) (fun T A t r => XS.aload A hx rfl (hb hby at_342) rfl rfl r) ?_
    refine Go.sp (g' := (mkF m 345 #[.val (.int p1), .val (.int p2), .val (.int p3), .val (.int p4), .val (.int (6 : Int32)), .val (.int (3 : Int32)), .val (.ref b11), .val (.ref b276), .val (.ref a300), .val (.int (2 : Int32)), .val (.int (1 : Int32))] [(.int (0 : Int32)), (.ref a300)])) (fun T A t r => XS.iconst A hx rfl (hb hby at_344) r) ?_
    refine Go.callVP (a := a300) (z := (⟨"java/lang/String", "charAt", "(I)C"⟩ : MethodName)) (W := 0) (y := (⟨"java/lang/String", "charAt", "(I)C"⟩ : MethodName)) (argsL := [(.int (0 : Int32))]) (rest := []) (pc' := 348) (hb hby at_345) (own_w hw 122 rfl) (own_w hw 123 rfl) (fun s' hZ => notFace_of_selects (args := #[]) (mvT hZ (own_w hw 125 rfl))) (own_w hw 125 rfl) (own_w hw 124 rfl) (by decide) (fun s' hZ => Bk.pure (StrChars.Road.chN (kI := 4) (cs := [z25, z28]) (i := 0) hZ (own_chwd hw) (own_w hw 7 rfl) E300 V300 C300 D300 (own_cod rfl lat301) (own_up lat301) (S0.ext O302.2) P0 (SF.ext O302.2) RF (by show 2 ≤ 4000; decide) (by show 0 < 2; decide) rfl (by decide) (by decide))) E300 (by rw [hml]; rfl) (lenOf pd_14 rfl) rfl (Nat.le_of_ble_eq_true rfl) rfl (by decide) (by decide) ?_
    rintro v304 rfl
    refine Go.cast (g' := (mkF m 348 #[.val (.int p1), .val (.int p2), .val (.int p3), .val (.int p4), .val (.int (6 : Int32)), .val (.int (3 : Int32)), .val (.ref b11), .val (.ref b276), .val (.ref a300), .val (.int (2 : Int32)), .val (.int (1 : Int32))] [(.int z25)])) rfl ?_
    refine Go.sp (g' := (mkF m 350 #[.val (.int p1), .val (.int p2), .val (.int p3), .val (.int p4), .val (.int (6 : Int32)), .val (.int (3 : Int32)), .val (.ref b11), .val (.ref b276), .val (.ref a300), .val (.int (2 : Int32)), .val (.int (1 : Int32))] [(.ref b11), (.int z25)])) (fun T A t r => XS.aload A hx rfl (hb hby at_348) rfl rfl r) ?_
    refine Go.sp (g' := (mkF m 352 #[.val (.int p1), .val (.int p2), .val (.int p3), .val (.int p4), .val (.int (6 : Int32)), .val (.int (3 : Int32)), .val (.ref b11), .val (.ref b276), .val (.ref a300), .val (.int (2 : Int32)), .val (.int (1 : Int32))] [(.int (3 : Int32)), (.ref b11), (.int z25)])) (fun T A t r => XS.iload A hx rfl (hb hby at_350) rfl r) ?_
    refine Go.sp (g' := (mkF m 353 #[.val (.int p1), .val (.int p2), .val (.int p3), .val (.int p4), .val (.int (6 : Int32)), .val (.int (3 : Int32)), .val (.ref b11), .val (.ref b276), .val (.ref a300), .val (.int (2 : Int32)), .val (.int (1 : Int32))] [(.int (1 : Int32)), (.int (3 : Int32)), (.ref b11), (.int z25)])) (fun T A t r => XS.iconst A hx rfl (hb hby at_352) r) ?_
    refine Go.sp (g' := (mkF m 354 #[.val (.int p1), .val (.int p2), .val (.int p3), .val (.int p4), .val (.int (6 : Int32)), .val (.int (3 : Int32)), .val (.ref b11), .val (.ref b276), .val (.ref a300), .val (.int (2 : Int32)), .val (.int (1 : Int32))] [(.int (4 : Int32)), (.ref b11), (.int z25)])) (fun T A t r => XS.iadd A hx rfl (hb hby at_353) rfl r) ?_
    have ne305 : b11 ≠ b276 := Nat.ne_of_lt (Nat.lt_of_lt_of_le V275.lt (Nat.le_of_eq g276.symm))
    have f306 := (((f290.other W291 ne281).keep K298 (ninS ne305 nin0)).keep K300 nin0)
    refine Go.r (g' := (mkF m 355 #[.val (.int p1), .val (.int p2), .val (.int p3), .val (.int p4), .val (.int (6 : Int32)), .val (.int (3 : Int32)), .val (.ref b11), .val (.ref b276), .val (.ref a300), .val (.int (2 : Int32)), .val (.int (1 : Int32))] [(.int z25), (.int z25)])) (fun s' T L X eT hZ t r => own_ldC X hx hZ eT f306 (j := (4 : Int32)) ⟨by decide, by decide⟩ (v := (.int z25)) rfl (g := (mkF m 354 #[.val (.int p1), .val (.int p2), .val (.int p3), .val (.int p4), .val (.int (6 : Int32)), .val (.int (3 : Int32)), .val (.ref b11), .val (.ref b276), .val (.ref a300), .val (.int (2 : Int32)), .val (.int (1 : Int32))] [(.int (4 : Int32)), (.ref b11), (.int z25)])) rfl rfl (hb hby at_354) t r) ?_
    refine Go.sp (g' := (mkF m 358 #[.val (.int p1), .val (.int p2), .val (.int p3), .val (.int p4), .val (.int (6 : Int32)), .val (.int (3 : Int32)), .val (.ref b11), .val (.ref b276), .val (.ref a300), .val (.int (2 : Int32)), .val (.int (1 : Int32))] [])) (fun T A t r => XS.icmpNo A hx rfl (hb hby at_355) rfl (teq (rfl : z25 = z25)).2 r) ?_
    refine Go.sp (g' := (mkF m 359 #[.val (.int p1), .val (.int p2), .val (.int p3), .val (.int p4), .val (.int (6 : Int32)), .val (.int (3 : Int32)), .val (.ref b11), .val (.ref b276), .val (.ref a300), .val (.int (2 : Int32)), .val (.int (1 : Int32))] [(.int (1 : Int32))])) (fun T A t r => XS.iconst A hx rfl (hb hby at_358) r) ?_
    refine Go.sp (g' := (mkF m 363 #[.val (.int p1), .val (.int p2), .val (.int p3), .val (.int p4), .val (.int (6 : Int32)), .val (.int (3 : Int32)), .val (.ref b11), .val (.ref b276), .val (.ref a300), .val (.int (2 : Int32)), .val (.int (1 : Int32))] [(.int (1 : Int32))])) (fun T A t r => XS.goto A hx rfl (pc0 := 359) (pc' := 363) rfl (hb hby at_359) (by decide) (by decide) r) ?_
    refine Go.sp (g' := (mkF m 365 #[.val (.int p1), .val (.int p2), .val (.int p3), .val (.int p4), .val (.int (6 : Int32)), .val (.int (3 : Int32)), .val (.ref b11), .val (.ref b276), .val (.ref a300), .val (.int (2 : Int32)), .val (.int (1 : Int32))] [])) (fun T A t r => XS.istore A hx rfl (hb hby at_363) rfl (l' := #[.val (.int p1), .val (.int p2), .val (.int p3), .val (.int p4), .val (.int (6 : Int32)), .val (.int (3 : Int32)), .val (.ref b11), .val (.ref b276), .val (.ref a300), .val (.int (2 : Int32)), .val (.int (1 : Int32))]) rfl r) ?_
    refine Go.sp (g' := (mkF m 366 #[.val (.int p1), .val (.int p2), .val (.int p3), .val (.int p4), .val (.int (6 : Int32)), .val (.int (3 : Int32)), .val (.ref b11), .val (.ref b276), .val (.ref a300), .val (.int (2 : Int32)), .val (.int (1 : Int32))] [(.int (1 : Int32))])) (fun T A t r => XS.iconst A hx rfl (hb hby at_365) r) ?_
    refine Go.sp (g' := (mkF m 368 #[.val (.int p1), .val (.int p2), .val (.int p3), .val (.int p4), .val (.int (6 : Int32)), .val (.int (3 : Int32)), .val (.ref b11), .val (.ref b276), .val (.ref a300), .val (.int (2 : Int32)), .val (.int (1 : Int32))] [(.int (2 : Int32)), (.int (1 : Int32))])) (fun T A t r => XS.iload A hx rfl (hb hby at_366) rfl r) ?_
    refine Go.sp (g' := (mkF m 371 #[.val (.int p1), .val (.int p2), .val (.int p3), .val (.int p4), .val (.int (6 : Int32)), .val (.int (3 : Int32)), .val (.ref b11), .val (.ref b276), .val (.ref a300), .val (.int (2 : Int32)), .val (.int (1 : Int32))] [])) (fun T A t r => XS.icmpNo A hx rfl (hb hby at_368) rfl (tlt (by decide : ((1 : Int32) < (2 : Int32)))).2.1 r) ?_
    refine Go.sp (g' := (mkF m 373 #[.val (.int p1), .val (.int p2), .val (.int p3), .val (.int p4), .val (.int (6 : Int32)), .val (.int (3 : Int32)), .val (.ref b11), .val (.ref b276), .val (.ref a300), .val (.int (2 : Int32)), .val (.int (1 : Int32))] [(.int (1 : Int32))])) (fun T A t r => XS.iload A hx rfl (hb hby at_371) rfl r) ?_
    refine Go.sp (g' := (mkF m 376 #[.val (.int p1), .val (.int p2), .val (.int p3), .val (.int p4), .val (.int (6 : Int32)), .val (.int (3 : Int32)), .val (.ref b11), .val (.ref b276), .val (.ref a300), .val (.int (2 : Int32)), .val (.int (1 : Int32))] [])) (fun T A t r => XS.ifNo A hx rfl (hb hby at_373) rfl ((if0 _ _).trans (feq (by decide : ¬ ((1 : Int32) = (0 : Int32)))).1) r) ?_
    refine Go.sp (g' := (mkF m 378 #[.val (.int p1), .val (.int p2), .val (.int p3), .val (.int p4), .val (.int (6 : Int32)), .val (.int (3 : Int32)), .val (.ref b11), .val (.ref b276), .val (.ref a300), .val (.int (2 : Int32)), .val (.int (1 : Int32))] [(.ref a300)])) (fun T A t r => XS.aload A hx rfl (hb hby at_376) rfl rfl r) ?_
    refine Go.sp (g' := (mkF m 379 #[.val (.int p1), .val (.int p2), .val (.int p3), .val (.int p4), .val (.int (6 : Int32)), .val (.int (3 : Int32)), .val (.ref b11), .val (.ref b276), .val (.ref a300), .val (.int (2 : Int32)), .val (.int (1 : Int32))] [(.int (1 : Int32)), (.ref a300)])) (fun T A t r => XS.iconst A hx rfl (hb hby at_378) r) ?_
    refine Go.callVP (a := a300) (z := (⟨"java/lang/String", "charAt", "(I)C"⟩ : MethodName)) (W := 0) (y := (⟨"java/lang/String", "charAt", "(I)C"⟩ : MethodName)) (argsL := [(.int (1 : Int32))]) (rest := []) (pc' := 382) (hb hby at_379) (own_w hw 122 rfl) (own_w hw 123 rfl) (fun s' hZ => notFace_of_selects (args := #[]) (mvT hZ (own_w hw 125 rfl))) (own_w hw 125 rfl) (own_w hw 124 rfl) (by decide) (fun s' hZ => Bk.pure (StrChars.Road.chN (kI := 4) (cs := [z25, z28]) (i := 1) hZ (own_chwd hw) (own_w hw 7 rfl) E300 V300 C300 D300 (own_cod rfl lat301) (own_up lat301) (S0.ext O302.2) P0 (SF.ext O302.2) RF (by show 2 ≤ 4000; decide) (by show 1 < 2; decide) rfl (by decide) (by decide))) E300 (by rw [hml]; rfl) (lenOf pd_14 rfl) rfl (Nat.le_of_ble_eq_true rfl) rfl (by decide) (by decide) ?_
    rintro v307 rfl
    refine Go.cast (g' := (mkF m 382 #[.val (.int p1), .val (.int p2), .val (.int p3), .val (.int p4), .val (.int (6 : Int32)), .val (.int (3 : Int32)), .val (.ref b11), .val (.ref b276), .val (.ref a300), .val (.int (2 : Int32)), .val (.int (1 : Int32))] [(.int z28)])) rfl ?_
    refine Go.sp (g' := (mkF m 384 #[.val (.int p1), .val (.int p2), .val (.int p3), .val (.int p4), .val (.int (6 : Int32)), .val (.int (3 : Int32)), .val (.ref b11), .val (.ref b276), .val (.ref a300), .val (.int (2 : Int32)), .val (.int (1 : Int32))] [(.ref b11), (.int z28)])) (fun T A t r => XS.aload A hx rfl (hb hby at_382) rfl rfl r) ?_
    refine Go.sp (g' := (mkF m 386 #[.val (.int p1), .val (.int p2), .val (.int p3), .val (.int p4), .val (.int (6 : Int32)), .val (.int (3 : Int32)), .val (.ref b11), .val (.ref b276), .val (.ref a300), .val (.int (2 : Int32)), .val (.int (1 : Int32))] [(.int (3 : Int32)), (.ref b11), (.int z28)])) (fun T A t r => XS.iload A hx rfl (hb hby at_384) rfl r) ?_
    refine Go.sp (g' := (mkF m 387 #[.val (.int p1), .val (.int p2), .val (.int p3), .val (.int p4), .val (.int (6 : Int32)), .val (.int (3 : Int32)), .val (.ref b11), .val (.ref b276), .val (.ref a300), .val (.int (2 : Int32)), .val (.int (1 : Int32))] [(.int (2 : Int32)), (.int (3 : Int32)), (.ref b11), (.int z28)])) (fun T A t r => XS.iconst A hx rfl (hb hby at_386) r) ?_
    refine Go.sp (g' := (mkF m 388 #[.val (.int p1), .val (.int p2), .val (.int p3), .val (.int p4), .val (.int (6 : Int32)), .val (.int (3 : Int32)), .val (.ref b11), .val (.ref b276), .val (.ref a300), .val (.int (2 : Int32)), .val (.int (1 : Int32))] [(.int (5 : Int32)), (.ref b11), (.int z28)])) (fun T A t r => XS.iadd A hx rfl (hb hby at_387) rfl r) ?_
    refine Go.r (g' := (mkF m 389 #[.val (.int p1), .val (.int p2), .val (.int p3), .val (.int p4), .val (.int (6 : Int32)), .val (.int (3 : Int32)), .val (.ref b11), .val (.ref b276), .val (.ref a300), .val (.int (2 : Int32)), .val (.int (1 : Int32))] [(.int z28), (.int z28)])) (fun s' T L X eT hZ t r => own_ldC X hx hZ eT f306 (j := (5 : Int32)) ⟨by decide, by decide⟩ (v := (.int z28)) rfl (g := (mkF m 388 #[.val (.int p1), .val (.int p2), .val (.int p3), .val (.int p4), .val (.int (6 : Int32)), .val (.int (3 : Int32)), .val (.ref b11), .val (.ref b276), .val (.ref a300), .val (.int (2 : Int32)), .val (.int (1 : Int32))] [(.int (5 : Int32)), (.ref b11), (.int z28)])) rfl rfl (hb hby at_388) t r) ?_
    refine Go.sp (g' := (mkF m 392 #[.val (.int p1), .val (.int p2), .val (.int p3), .val (.int p4), .val (.int (6 : Int32)), .val (.int (3 : Int32)), .val (.ref b11), .val (.ref b276), .val (.ref a300), .val (.int (2 : Int32)), .val (.int (1 : Int32))] [])) (fun T A t r => XS.icmpNo A hx rfl (hb hby at_389) rfl (teq (rfl : z28 = z28)).2 r) ?_
    refine Go.sp (g' := (mkF m 393 #[.val (.int p1), .val (.int p2), .val (.int p3), .val (.int p4), .val (.int (6 : Int32)), .val (.int (3 : Int32)), .val (.ref b11), .val (.ref b276), .val (.ref a300), .val (.int (2 : Int32)), .val (.int (1 : Int32))] [(.int (1 : Int32))])) (fun T A t r => XS.iconst A hx rfl (hb hby at_392) r) ?_
    refine Go.sp (g' := (mkF m 397 #[.val (.int p1), .val (.int p2), .val (.int p3), .val (.int p4), .val (.int (6 : Int32)), .val (.int (3 : Int32)), .val (.ref b11), .val (.ref b276), .val (.ref a300), .val (.int (2 : Int32)), .val (.int (1 : Int32))] [(.int (1 : Int32))])) (fun T A t r => XS.goto A hx rfl (pc0 := 393) (pc' := 397) rfl (hb hby at_393) (by decide) (by decide) r) ?_
    refine Go.sp (g' := (mkF m 399 #[.val (.int p1), .val (.int p2), .val (.int p3), .val (.int p4), .val (.int (6 : Int32)), .val (.int (3 : Int32)), .val (.ref b11), .val (.ref b276), .val (.ref a300), .val (.int (2 : Int32)), .val (.int (1 : Int32))] [])) (fun T A t r => XS.istore A hx rfl (hb hby at_397) rfl (l' := #[.val (.int p1), .val (.int p2), .val (.int p3), .val (.int p4), .val (.int (6 : Int32)), .val (.int (3 : Int32)), .val (.ref b11), .val (.ref b276), .val (.ref a300), .val (.int (2 : Int32)), .val (.int (1 : Int32))]) rfl r) ?_
    refine Go.sp (g' := (mkF m 400 #[.val (.int p1), .val (.int p2), .val (.int p3), .val (.int p4), .val (.int (6 : Int32)), .val (.int (3 : Int32)), .val (.ref b11), .val (.ref b276), .val (.ref a300), .val (.int (2 : Int32)), .val (.int (1 : Int32))] [(.int (2 : Int32))])) (fun T A t r => XS.iconst A hx rfl (hb hby at_399) r) ?_
    refine Go.sp (g' := (mkF m 402 #[.val (.int p1), .val (.int p2), .val (.int p3), .val (.int p4), .val (.int (6 : Int32)), .val (.int (3 : Int32)), .val (.ref b11), .val (.ref b276), .val (.ref a300), .val (.int (2 : Int32)), .val (.int (1 : Int32))] [(.int (2 : Int32)), (.int (2 : Int32))])) (fun T A t r => XS.iload A hx rfl (hb hby at_400) rfl r) ?_
    refine Go.sp (g' := (mkF m 433 #[.val (.int p1), .val (.int p2), .val (.int p3), .val (.int p4), .val (.int (6 : Int32)), .val (.int (3 : Int32)), .val (.ref b11), .val (.ref b276), .val (.ref a300), .val (.int (2 : Int32)), .val (.int (1 : Int32))] [])) (fun T A t r => XS.icmpYes A hx rfl (pc0 := 402) (pc' := 433) rfl (hb hby at_402) rfl (flt (by decide : ¬ ((2 : Int32) < (2 : Int32)))).2.1 (by decide) (by decide) r) ?_
    refine Go.sp (g' := (mkF m 434 #[.val (.int p1), .val (.int p2), .val (.int p3), .val (.int p4), .val (.int (6 : Int32)), .val (.int (3 : Int32)), .val (.ref b11), .val (.ref b276), .val (.ref a300), .val (.int (2 : Int32)), .val (.int (1 : Int32))] [(.int (3 : Int32))])) (fun T A t r => XS.iconst A hx rfl (hb hby at_433) r) ?_
    refine Go.sp (g' := (mkF m 436 #[.val (.int p1), .val (.int p2), .val (.int p3), .val (.int p4), .val (.int (6 : Int32)), .val (.int (3 : Int32)), .val (.ref b11), .val (.ref b276), .val (.ref a300), .val (.int (2 : Int32)), .val (.int (1 : Int32))] [(.int (2 : Int32)), (.int (3 : Int32))])) (fun T A t r => XS.iload A hx rfl (hb hby at_434) rfl r) ?_
    refine Go.sp (g' := (mkF m 467 #[.val (.int p1), .val (.int p2), .val (.int p3), .val (.int p4), .val (.int (6 : Int32)), .val (.int (3 : Int32)), .val (.ref b11), .val (.ref b276), .val (.ref a300), .val (.int (2 : Int32)), .val (.int (1 : Int32))] [])) (fun T A t r => XS.icmpYes A hx rfl (pc0 := 436) (pc' := 467) rfl (hb hby at_436) rfl (flt (by decide : ¬ ((3 : Int32) < (2 : Int32)))).2.1 (by decide) (by decide) r) ?_
    refine Go.sp (g' := (mkF m 469 #[.val (.int p1), .val (.int p2), .val (.int p3), .val (.int p4), .val (.int (6 : Int32)), .val (.int (3 : Int32)), .val (.ref b11), .val (.ref b276), .val (.ref a300), .val (.int (2 : Int32)), .val (.int (1 : Int32))] [(.int (1 : Int32))])) (fun T A t r => XS.iload A hx rfl (hb hby at_467) rfl r) ?_
    exact Go.ret (v := (some (.int (nar .boolean (1 : Int32))))) (fun s' T L fs X hr => retN X hx (t := .boolean) hret (by simp) (hb hby at_469) hr) (fun h => by rw [hret] at h; cases h) (by decide) (by decide) rfl
  · skip
    refine Go.cast (g' := (mkF m 91 #[.val (.int p1), .val (.int p2), .val (.int p3), .val (.int p4), .val (.int (6 : Int32)), .val (.int (4 : Int32)), .val (.ref b11), .unset, .unset, .unset, .unset] [])) (by rw [ha, hn]) ?_
    refine Go.sp (g' := (mkF m 93 #[.val (.int p1), .val (.int p2), .val (.int p3), .val (.int p4), .val (.int (6 : Int32)), .val (.int (4 : Int32)), .val (.ref b11), .unset, .unset, .unset, .unset] [(.ref b11)])) (fun T A t r => XS.aload A hx rfl (hb hby at_91) rfl rfl r) ?_
    refine Go.sp (g' := (mkF m 95 #[.val (.int p1), .val (.int p2), .val (.int p3), .val (.int p4), .val (.int (6 : Int32)), .val (.int (4 : Int32)), .val (.ref b11), .unset, .unset, .unset, .unset] [(.int (4 : Int32)), (.ref b11)])) (fun T A t r => XS.iload A hx rfl (hb hby at_93) rfl r) ?_
    refine Go.sp (g' := (mkF m 97 #[.val (.int p1), .val (.int p2), .val (.int p3), .val (.int p4), .val (.int (6 : Int32)), .val (.int (4 : Int32)), .val (.ref b11), .unset, .unset, .unset, .unset] [(.int (64 : Int32)), (.int (4 : Int32)), (.ref b11)])) (fun T A t r => XS.bipush A hx rfl (hb hby at_95) r) ?_
    refine Go.w (g' := (mkF m 98 #[.val (.int p1), .val (.int p2), .val (.int p3), .val (.int p4), .val (.int (6 : Int32)), .val (.int (4 : Int32)), .val (.ref b11), .unset, .unset, .unset, .unset] [])) (fun s' T L X eT hZ hown => own_stC X hx hZ eT V29 (j := (4 : Int32)) ⟨by decide, by decide⟩ (g := (mkF m 97 #[.val (.int p1), .val (.int p2), .val (.int p3), .val (.int p4), .val (.int (6 : Int32)), .val (.int (4 : Int32)), .val (.ref b11), .unset, .unset, .unset, .unset] [(.int (64 : Int32)), (.int (4 : Int32)), (.ref b11)])) rfl rfl (hb hby at_97)) (Or.inr sz11) ?_
    intro h308 W308
    have V308 : Arv Z h308 b11 k11 .char (6 : Int32) [(.int z13), (.int z16), (.int z19), (.int z22), (.int (64 : Int32)), (.int z28)] (.int (0 : Int32)) := own_set V29 (fits_nar_char _) W308 rfl 4 rfl (Nat.le_of_ble_eq_true rfl)
    refine Go.sp (g' := (mkF m 100 #[.val (.int p1), .val (.int p2), .val (.int p3), .val (.int p4), .val (.int (6 : Int32)), .val (.int (4 : Int32)), .val (.ref b11), .unset, .unset, .unset, .unset] [(.int (6 : Int32))])) (fun T A t r => XS.iload A hx rfl (hb hby at_98) rfl r) ?_
    refine Go.sp (g' := (mkF m 101 #[.val (.int p1), .val (.int p2), .val (.int p3), .val (.int p4), .val (.int (6 : Int32)), .val (.int (4 : Int32)), .val (.ref b11), .unset, .unset, .unset, .unset] [(.int (3 : Int32)), (.int (6 : Int32))])) (fun T A t r => XS.iconst A hx rfl (hb hby at_100) r) ?_
    refine Go.sp (g' := (mkF m 140 #[.val (.int p1), .val (.int p2), .val (.int p3), .val (.int p4), .val (.int (6 : Int32)), .val (.int (4 : Int32)), .val (.ref b11), .unset, .unset, .unset, .unset] [])) (fun T A t r => XS.icmpYes A hx rfl (pc0 := 101) (pc' := 140) rfl (hb hby at_101) rfl (feq (by decide : ¬ ((6 : Int32) = (3 : Int32)))).2 (by decide) (by decide) r) ?_
    refine Go.sp (g' := (mkF m 142 #[.val (.int p1), .val (.int p2), .val (.int p3), .val (.int p4), .val (.int (6 : Int32)), .val (.int (4 : Int32)), .val (.ref b11), .unset, .unset, .unset, .unset] [(.int (6 : Int32))])) (fun T A t r => XS.iload A hx rfl (hb hby at_140) rfl r) ?_
    refine Go.sp (g' := (mkF m 143 #[.val (.int p1), .val (.int p2), .val (.int p3), .val (.int p4), .val (.int (6 : Int32)), .val (.int (4 : Int32)), .val (.ref b11), .unset, .unset, .unset, .unset] [(.int (4 : Int32)), (.int (6 : Int32))])) (fun T A t r => XS.iconst A hx rfl (hb hby at_142) r) ?_
    refine Go.sp (g' := (mkF m 189 #[.val (.int p1), .val (.int p2), .val (.int p3), .val (.int p4), .val (.int (6 : Int32)), .val (.int (4 : Int32)), .val (.ref b11), .unset, .unset, .unset, .unset] [])) (fun T A t r => XS.icmpYes A hx rfl (pc0 := 143) (pc' := 189) rfl (hb hby at_143) rfl (feq (by decide : ¬ ((6 : Int32) = (4 : Int32)))).2 (by decide) (by decide) r) ?_
    refine Go.sp (g' := (mkF m 191 #[.val (.int p1), .val (.int p2), .val (.int p3), .val (.int p4), .val (.int (6 : Int32)), .val (.int (4 : Int32)), .val (.ref b11), .unset, .unset, .unset, .unset] [(.int (6 : Int32))])) (fun T A t r => XS.iload A hx rfl (hb hby at_189) rfl r) ?_
    refine Go.sp (g' := (mkF m 192 #[.val (.int p1), .val (.int p2), .val (.int p3), .val (.int p4), .val (.int (6 : Int32)), .val (.int (4 : Int32)), .val (.ref b11), .unset, .unset, .unset, .unset] [(.int (5 : Int32)), (.int (6 : Int32))])) (fun T A t r => XS.iconst A hx rfl (hb hby at_191) r) ?_
    refine Go.sp (g' := (mkF m 245 #[.val (.int p1), .val (.int p2), .val (.int p3), .val (.int p4), .val (.int (6 : Int32)), .val (.int (4 : Int32)), .val (.ref b11), .unset, .unset, .unset, .unset] [])) (fun T A t r => XS.icmpYes A hx rfl (pc0 := 192) (pc' := 245) rfl (hb hby at_192) rfl (feq (by decide : ¬ ((6 : Int32) = (5 : Int32)))).2 (by decide) (by decide) r) ?_
    refine Go.newO (k' := 2) (n' := 10) (pc' := 248) (hb hby at_245) (own_w hw 6 rfl) (own_w hw 7 rfl) (own_w hw 8 rfl) rfl rfl rfl (by decide) (by decide) ?_
    intro b309 h309 g309 sz309 E309 A309 D309
    have F309_coder : Fld Z h309 b309 "java/lang/String" "coder" "B" (.int (0 : Int32)) := D309 (Or.inr (own_w hw 32 rfl)) (ty := .byte) (by decide)
    have F309_value : Fld Z h309 b309 "java/lang/String" "value" "[B" .null := D309 (Or.inr (own_w hw 34 rfl)) (ty := (.array .byte)) (by decide)
    refine Go.sp (g' := (mkF m 249 #[.val (.int p1), .val (.int p2), .val (.int p3), .val (.int p4), .val (.int (6 : Int32)), .val (.int (4 : Int32)), .val (.ref b11), .unset, .unset, .unset, .unset] [(.ref b309), (.ref b309)])) (fun T A t r => XS.dup A hx rfl (hb hby at_248) rfl rfl r) ?_
    refine Go.sp (g' := (mkF m 251 #[.val (.int p1), .val (.int p2), .val (.int p3), .val (.int p4), .val (.int (6 : Int32)), .val (.int (4 : Int32)), .val (.ref b11), .unset, .unset, .unset, .unset] [(.int (6 : Int32)), (.ref b309), (.ref b309)])) (fun T A t r => XS.bipush A hx rfl (hb hby at_249) r) ?_
    refine Go.newP (ty := .char) (dv := (.int (0 : Int32))) (cap := 6) (k' := 3) (n' := 16) (pc' := 253) (hb hby at_251) rfl rfl (own_w hw 0 rfl) (by decide) (by decide) (by decide) rfl rfl rfl (by decide) (by decide) ?_
    intro b310 h310 k310 g310 sz310 E310 A310
    have V310 : Arv Z h310 b310 k310 .char (6 : Int32) [(.int (0 : Int32)), (.int (0 : Int32)), (.int (0 : Int32)), (.int (0 : Int32)), (.int (0 : Int32)), (.int (0 : Int32))] (.int (0 : Int32)) := A310.pad (pad_rep [] (.int (0 : Int32)) 6)
    refine Go.sp (g' := (mkF m 254 #[.val (.int p1), .val (.int p2), .val (.int p3), .val (.int p4), .val (.int (6 : Int32)), .val (.int (4 : Int32)), .val (.ref b11), .unset, .unset, .unset, .unset] [(.ref b310), (.ref b310), (.ref b309), (.ref b309)])) (fun T A t r => XS.dup A hx rfl (hb hby at_253) rfl rfl r) ?_
    refine Go.sp (g' := (mkF m 255 #[.val (.int p1), .val (.int p2), .val (.int p3), .val (.int p4), .val (.int (6 : Int32)), .val (.int (4 : Int32)), .val (.ref b11), .unset, .unset, .unset, .unset] [(.int (0 : Int32)), (.ref b310), (.ref b310), (.ref b309), (.ref b309)])) (fun T A t r => XS.iconst A hx rfl (hb hby at_254) r) ?_
    refine Go.sp (g' := (mkF m 257 #[.val (.int p1), .val (.int p2), .val (.int p3), .val (.int p4), .val (.int (6 : Int32)), .val (.int (4 : Int32)), .val (.ref b11), .unset, .unset, .unset, .unset] [(.ref b11), (.int (0 : Int32)), (.ref b310), (.ref b310), (.ref b309), (.ref b309)])) (fun T A t r => XS.aload A hx rfl (hb hby at_255) rfl rfl r) ?_
    refine Go.sp (g' := (mkF m 258 #[.val (.int p1), .val (.int p2), .val (.int p3), .val (.int p4), .val (.int (6 : Int32)), .val (.int (4 : Int32)), .val (.ref b11), .unset, .unset, .unset, .unset] [(.int (0 : Int32)), (.ref b11), (.int (0 : Int32)), (.ref b310), (.ref b310), (.ref b309), (.ref b309)])) (fun T A t r => XS.iconst A hx rfl (hb hby at_257) r) ?_
    have f311 := ((V308.ext E309).ext E310)
    refine Go.r (g' := (mkF m 259 #[.val (.int p1), .val (.int p2), .val (.int p3), .val (.int p4), .val (.int (6 : Int32)), .val (.int (4 : Int32)), .val (.ref b11), .unset, .unset, .unset, .unset] [(.int z13), (.int (0 : Int32)), (.ref b310), (.ref b310), (.ref b309), (.ref b309)])) (fun s' T L X eT hZ t r => own_ldC X hx hZ eT f311 (j := (0 : Int32)) ⟨by decide, by decide⟩ (v := (.int z13)) rfl (g := (mkF m 258 #[.val (.int p1), .val (.int p2), .val (.int p3), .val (.int p4), .val (.int (6 : Int32)), .val (.int (4 : Int32)), .val (.ref b11), .unset, .unset, .unset, .unset] [(.int (0 : Int32)), (.ref b11), (.int (0 : Int32)), (.ref b310), (.ref b310), (.ref b309), (.ref b309)])) rfl rfl (hb hby at_258) t r) ?_
    refine Go.w (g' := (mkF m 260 #[.val (.int p1), .val (.int p2), .val (.int p3), .val (.int p4), .val (.int (6 : Int32)), .val (.int (4 : Int32)), .val (.ref b11), .unset, .unset, .unset, .unset] [(.ref b310), (.ref b309), (.ref b309)])) (fun s' T L X eT hZ hown => own_stC X hx hZ eT V310 (j := (0 : Int32)) ⟨by decide, by decide⟩ (g := (mkF m 259 #[.val (.int p1), .val (.int p2), .val (.int p3), .val (.int p4), .val (.int (6 : Int32)), .val (.int (4 : Int32)), .val (.ref b11), .unset, .unset, .unset, .unset] [(.int z13), (.int (0 : Int32)), (.ref b310), (.ref b310), (.ref b309), (.ref b309)])) rfl rfl (hb hby at_259)) (Or.inr sz310) ?_
    intro h312 W312
    have V312 : Arv Z h312 b310 k310 .char (6 : Int32) [(.int z13), (.int (0 : Int32)), (.int (0 : Int32)), (.int (0 : Int32)), (.int (0 : Int32)), (.int (0 : Int32))] (.int (0 : Int32)) := own_set V310 (fits_nar_char _) W312 (congrArg Value.int (own_nar zb13)) 0 rfl (Nat.le_of_ble_eq_true rfl)
    refine Go.sp (g' := (mkF m 261 #[.val (.int p1), .val (.int p2), .val (.int p3), .val (.int p4), .val (.int (6 : Int32)), .val (.int (4 : Int32)), .val (.ref b11), .unset, .unset, .unset, .unset] [(.ref b310), (.ref b310), (.ref b309), (.ref b309)])) (fun T A t r => XS.dup A hx rfl (hb hby at_260) rfl rfl r) ?_
    refine Go.sp (g' := (mkF m 262 #[.val (.int p1), .val (.int p2), .val (.int p3), .val (.int p4), .val (.int (6 : Int32)), .val (.int (4 : Int32)), .val (.ref b11), .unset, .unset, .unset, .unset] [(.int (1 : Int32)), (.ref b310), (.ref b310), (.ref b309), (.ref b309)])) (fun T A t r => XS.iconst A hx rfl (hb hby at_261) r) ?_
    refine Go.sp (g' := (mkF m 264 #[.val (.int p1), .val (.int p2), .val (.int p3), .val (.int p4), .val (.int (6 : Int32)), .val (.int (4 : Int32)), .val (.ref b11), .unset, .unset, .unset, .unset] [(.ref b11), (.int (1 : Int32)), (.ref b310), (.ref b310), (.ref b309), (.ref b309)])) (fun T A t r => XS.aload A hx rfl (hb hby at_262) rfl rfl r) ?_
    refine Go.sp (g' := (mkF m 265 #[.val (.int p1), .val (.int p2), .val (.int p3), .val (.int p4), .val (.int (6 : Int32)), .val (.int (4 : Int32)), .val (.ref b11), .unset, .unset, .unset, .unset] [(.int (1 : Int32)), (.ref b11), (.int (1 : Int32)), (.ref b310), (.ref b310), (.ref b309), (.ref b309)])) (fun T A t r => XS.iconst A hx rfl (hb hby at_264) r) ?_
    have f313 := (V308.ext E309)
    have ne314 : b11 ≠ b310 := Nat.ne_of_lt (Nat.lt_of_lt_of_le f313.lt (Nat.le_of_eq g310.symm))
    have f315 := (f311.other W312 ne314)
    refine Go.r (g' := (mkF m 266 #[.val (.int p1), .val (.int p2), .val (.int p3), .val (.int p4), .val (.int (6 : Int32)), .val (.int (4 : Int32)), .val (.ref b11), .unset, .unset, .unset, .unset] [(.int z16), (.int (1 : Int32)), (.ref b310), (.ref b310), (.ref b309), (.ref b309)])) (fun s' T L X eT hZ t r => own_ldC X hx hZ eT f315 (j := (1 : Int32)) ⟨by decide, by decide⟩ (v := (.int z16)) rfl (g := (mkF m 265 #[.val (.int p1), .val (.int p2), .val (.int p3), .val (.int p4), .val (.int (6 : Int32)), .val (.int (4 : Int32)), .val (.ref b11), .unset, .unset, .unset, .unset] [(.int (1 : Int32)), (.ref b11), (.int (1 : Int32)), (.ref b310), (.ref b310), (.ref b309), (.ref b309)])) rfl rfl (hb hby at_265) t r) ?_
    refine Go.w (g' := (mkF m 267 #[.val (.int p1), .val (.int p2), .val (.int p3), .val (.int p4), .val (.int (6 : Int32)), .val (.int (4 : Int32)), .val (.ref b11), .unset, .unset, .unset, .unset] [(.ref b310), (.ref b309), (.ref b309)])) (fun s' T L X eT hZ hown => own_stC X hx hZ eT V312 (j := (1 : Int32)) ⟨by decide, by decide⟩ (g := (mkF m 266 #[.val (.int p1), .val (.int p2), .val (.int p3), .val (.int p4), .val (.int (6 : Int32)), .val (.int (4 : Int32)), .val (.ref b11), .unset, .unset, .unset, .unset] [(.int z16), (.int (1 : Int32)), (.ref b310), (.ref b310), (.ref b309), (.ref b309)])) rfl rfl (hb hby at_266)) (Or.inr sz310) ?_
    intro h316 W316
    have V316 : Arv Z h316 b310 k310 .char (6 : Int32) [(.int z13), (.int z16), (.int (0 : Int32)), (.int (0 : Int32)), (.int (0 : Int32)), (.int (0 : Int32))] (.int (0 : Int32)) := own_set V312 (fits_nar_char _) W316 (congrArg Value.int (own_nar zb16)) 1 rfl (Nat.le_of_ble_eq_true rfl)
    refine Go.sp (g' := (mkF m 268 #[.val (.int p1), .val (.int p2), .val (.int p3), .val (.int p4), .val (.int (6 : Int32)), .val (.int (4 : Int32)), .val (.ref b11), .unset, .unset, .unset, .unset] [(.ref b310), (.ref b310), (.ref b309), (.ref b309)])) (fun T A t r => XS.dup A hx rfl (hb hby at_267) rfl rfl r) ?_
    refine Go.sp (g' := (mkF m 269 #[.val (.int p1), .val (.int p2), .val (.int p3), .val (.int p4), .val (.int (6 : Int32)), .val (.int (4 : Int32)), .val (.ref b11), .unset, .unset, .unset, .unset] [(.int (2 : Int32)), (.ref b310), (.ref b310), (.ref b309), (.ref b309)])) (fun T A t r => XS.iconst A hx rfl (hb hby at_268) r) ?_
    refine Go.sp (g' := (mkF m 271 #[.val (.int p1), .val (.int p2), .val (.int p3), .val (.int p4), .val (.int (6 : Int32)), .val (.int (4 : Int32)), .val (.ref b11), .unset, .unset, .unset, .unset] [(.ref b11), (.int (2 : Int32)), (.ref b310), (.ref b310), (.ref b309), (.ref b309)])) (fun T A t r => XS.aload A hx rfl (hb hby at_269) rfl rfl r) ?_
    refine Go.sp (g' := (mkF m 272 #[.val (.int p1), .val (.int p2), .val (.int p3), .val (.int p4), .val (.int (6 : Int32)), .val (.int (4 : Int32)), .val (.ref b11), .unset, .unset, .unset, .unset] [(.int (2 : Int32)), (.ref b11), (.int (2 : Int32)), (.ref b310), (.ref b310), (.ref b309), (.ref b309)])) (fun T A t r => XS.iconst A hx rfl (hb hby at_271) r) ?_
    have f317 := (f315.other W316 ne314)
    refine Go.r (g' := (mkF m 273 #[.val (.int p1), .val (.int p2), .val (.int p3), .val (.int p4), .val (.int (6 : Int32)), .val (.int (4 : Int32)), .val (.ref b11), .unset, .unset, .unset, .unset] [(.int z19), (.int (2 : Int32)), (.ref b310), (.ref b310), (.ref b309), (.ref b309)])) (fun s' T L X eT hZ t r => own_ldC X hx hZ eT f317 (j := (2 : Int32)) ⟨by decide, by decide⟩ (v := (.int z19)) rfl (g := (mkF m 272 #[.val (.int p1), .val (.int p2), .val (.int p3), .val (.int p4), .val (.int (6 : Int32)), .val (.int (4 : Int32)), .val (.ref b11), .unset, .unset, .unset, .unset] [(.int (2 : Int32)), (.ref b11), (.int (2 : Int32)), (.ref b310), (.ref b310), (.ref b309), (.ref b309)])) rfl rfl (hb hby at_272) t r) ?_
    refine Go.w (g' := (mkF m 274 #[.val (.int p1), .val (.int p2), .val (.int p3), .val (.int p4), .val (.int (6 : Int32)), .val (.int (4 : Int32)), .val (.ref b11), .unset, .unset, .unset, .unset] [(.ref b310), (.ref b309), (.ref b309)])) (fun s' T L X eT hZ hown => own_stC X hx hZ eT V316 (j := (2 : Int32)) ⟨by decide, by decide⟩ (g := (mkF m 273 #[.val (.int p1), .val (.int p2), .val (.int p3), .val (.int p4), .val (.int (6 : Int32)), .val (.int (4 : Int32)), .val (.ref b11), .unset, .unset, .unset, .unset] [(.int z19), (.int (2 : Int32)), (.ref b310), (.ref b310), (.ref b309), (.ref b309)])) rfl rfl (hb hby at_273)) (Or.inr sz310) ?_
    intro h318 W318
    have V318 : Arv Z h318 b310 k310 .char (6 : Int32) [(.int z13), (.int z16), (.int z19), (.int (0 : Int32)), (.int (0 : Int32)), (.int (0 : Int32))] (.int (0 : Int32)) := own_set V316 (fits_nar_char _) W318 (congrArg Value.int (own_nar zb19)) 2 rfl (Nat.le_of_ble_eq_true rfl)
    refine Go.sp (g' := (mkF m 275 #[.val (.int p1), .val (.int p2), .val (.int p3), .val (.int p4), .val (.int (6 : Int32)), .val (.int (4 : Int32)), .val (.ref b11), .unset, .unset, .unset, .unset] [(.ref b310), (.ref b310), (.ref b309), (.ref b309)])) (fun T A t r => XS.dup A hx rfl (hb hby at_274) rfl rfl r) ?_
    refine Go.sp (g' := (mkF m 276 #[.val (.int p1), .val (.int p2), .val (.int p3), .val (.int p4), .val (.int (6 : Int32)), .val (.int (4 : Int32)), .val (.ref b11), .unset, .unset, .unset, .unset] [(.int (3 : Int32)), (.ref b310), (.ref b310), (.ref b309), (.ref b309)])) (fun T A t r => XS.iconst A hx rfl (hb hby at_275) r) ?_
    refine Go.sp (g' := (mkF m 278 #[.val (.int p1), .val (.int p2), .val (.int p3), .val (.int p4), .val (.int (6 : Int32)), .val (.int (4 : Int32)), .val (.ref b11), .unset, .unset, .unset, .unset] [(.ref b11), (.int (3 : Int32)), (.ref b310), (.ref b310), (.ref b309), (.ref b309)])) (fun T A t r => XS.aload A hx rfl (hb hby at_276) rfl rfl r) ?_
    refine Go.sp (g' := (mkF m 279 #[.val (.int p1), .val (.int p2), .val (.int p3), .val (.int p4), .val (.int (6 : Int32)), .val (.int (4 : Int32)), .val (.ref b11), .unset, .unset, .unset, .unset] [(.int (3 : Int32)), (.ref b11), (.int (3 : Int32)), (.ref b310), (.ref b310), (.ref b309), (.ref b309)])) (fun T A t r => XS.iconst A hx rfl (hb hby at_278) r) ?_
    have f319 := (f317.other W318 ne314)
    refine Go.r (g' := (mkF m 280 #[.val (.int p1), .val (.int p2), .val (.int p3), .val (.int p4), .val (.int (6 : Int32)), .val (.int (4 : Int32)), .val (.ref b11), .unset, .unset, .unset, .unset] [(.int z22), (.int (3 : Int32)), (.ref b310), (.ref b310), (.ref b309), (.ref b309)])) (fun s' T L X eT hZ t r => own_ldC X hx hZ eT f319 (j := (3 : Int32)) ⟨by decide, by decide⟩ (v := (.int z22)) rfl (g := (mkF m 279 #[.val (.int p1), .val (.int p2), .val (.int p3), .val (.int p4), .val (.int (6 : Int32)), .val (.int (4 : Int32)), .val (.ref b11), .unset, .unset, .unset, .unset] [(.int (3 : Int32)), (.ref b11), (.int (3 : Int32)), (.ref b310), (.ref b310), (.ref b309), (.ref b309)])) rfl rfl (hb hby at_279) t r) ?_
    refine Go.w (g' := (mkF m 281 #[.val (.int p1), .val (.int p2), .val (.int p3), .val (.int p4), .val (.int (6 : Int32)), .val (.int (4 : Int32)), .val (.ref b11), .unset, .unset, .unset, .unset] [(.ref b310), (.ref b309), (.ref b309)])) (fun s' T L X eT hZ hown => own_stC X hx hZ eT V318 (j := (3 : Int32)) ⟨by decide, by decide⟩ (g := (mkF m 280 #[.val (.int p1), .val (.int p2), .val (.int p3), .val (.int p4), .val (.int (6 : Int32)), .val (.int (4 : Int32)), .val (.ref b11), .unset, .unset, .unset, .unset] [(.int z22), (.int (3 : Int32)), (.ref b310), (.ref b310), (.ref b309), (.ref b309)])) rfl rfl (hb hby at_280)) (Or.inr sz310) ?_
    intro h320 W320
    have V320 : Arv Z h320 b310 k310 .char (6 : Int32) [(.int z13), (.int z16), (.int z19), (.int z22), (.int (0 : Int32)), (.int (0 : Int32))] (.int (0 : Int32)) := own_set V318 (fits_nar_char _) W320 (congrArg Value.int (own_nar zb22)) 3 rfl (Nat.le_of_ble_eq_true rfl)
    refine Go.sp (g' := (mkF m 282 #[.val (.int p1), .val (.int p2), .val (.int p3), .val (.int p4), .val (.int (6 : Int32)), .val (.int (4 : Int32)), .val (.ref b11), .unset, .unset, .unset, .unset] [(.ref b310), (.ref b310), (.ref b309), (.ref b309)])) (fun T A t r => XS.dup A hx rfl (hb hby at_281) rfl rfl r) ?_
    refine Go.sp (g' := (mkF m 283 #[.val (.int p1), .val (.int p2), .val (.int p3), .val (.int p4), .val (.int (6 : Int32)), .val (.int (4 : Int32)), .val (.ref b11), .unset, .unset, .unset, .unset] [(.int (4 : Int32)), (.ref b310), (.ref b310), (.ref b309), (.ref b309)])) (fun T A t r => XS.iconst A hx rfl (hb hby at_282) r) ?_
    refine Go.sp (g' := (mkF m 285 #[.val (.int p1), .val (.int p2), .val (.int p3), .val (.int p4), .val (.int (6 : Int32)), .val (.int (4 : Int32)), .val (.ref b11), .unset, .unset, .unset, .unset] [(.ref b11), (.int (4 : Int32)), (.ref b310), (.ref b310), (.ref b309), (.ref b309)])) (fun T A t r => XS.aload A hx rfl (hb hby at_283) rfl rfl r) ?_
    refine Go.sp (g' := (mkF m 286 #[.val (.int p1), .val (.int p2), .val (.int p3), .val (.int p4), .val (.int (6 : Int32)), .val (.int (4 : Int32)), .val (.ref b11), .unset, .unset, .unset, .unset] [(.int (4 : Int32)), (.ref b11), (.int (4 : Int32)), (.ref b310), (.ref b310), (.ref b309), (.ref b309)])) (fun T A t r => XS.iconst A hx rfl (hb hby at_285) r) ?_
    have f321 := (f319.other W320 ne314)
    refine Go.r (g' := (mkF m 287 #[.val (.int p1), .val (.int p2), .val (.int p3), .val (.int p4), .val (.int (6 : Int32)), .val (.int (4 : Int32)), .val (.ref b11), .unset, .unset, .unset, .unset] [(.int (64 : Int32)), (.int (4 : Int32)), (.ref b310), (.ref b310), (.ref b309), (.ref b309)])) (fun s' T L X eT hZ t r => own_ldC X hx hZ eT f321 (j := (4 : Int32)) ⟨by decide, by decide⟩ (v := (.int (64 : Int32))) rfl (g := (mkF m 286 #[.val (.int p1), .val (.int p2), .val (.int p3), .val (.int p4), .val (.int (6 : Int32)), .val (.int (4 : Int32)), .val (.ref b11), .unset, .unset, .unset, .unset] [(.int (4 : Int32)), (.ref b11), (.int (4 : Int32)), (.ref b310), (.ref b310), (.ref b309), (.ref b309)])) rfl rfl (hb hby at_286) t r) ?_
    refine Go.w (g' := (mkF m 288 #[.val (.int p1), .val (.int p2), .val (.int p3), .val (.int p4), .val (.int (6 : Int32)), .val (.int (4 : Int32)), .val (.ref b11), .unset, .unset, .unset, .unset] [(.ref b310), (.ref b309), (.ref b309)])) (fun s' T L X eT hZ hown => own_stC X hx hZ eT V320 (j := (4 : Int32)) ⟨by decide, by decide⟩ (g := (mkF m 287 #[.val (.int p1), .val (.int p2), .val (.int p3), .val (.int p4), .val (.int (6 : Int32)), .val (.int (4 : Int32)), .val (.ref b11), .unset, .unset, .unset, .unset] [(.int (64 : Int32)), (.int (4 : Int32)), (.ref b310), (.ref b310), (.ref b309), (.ref b309)])) rfl rfl (hb hby at_287)) (Or.inr sz310) ?_
    intro h322 W322
    have V322 : Arv Z h322 b310 k310 .char (6 : Int32) [(.int z13), (.int z16), (.int z19), (.int z22), (.int (64 : Int32)), (.int (0 : Int32))] (.int (0 : Int32)) := own_set V320 (fits_nar_char _) W322 rfl 4 rfl (Nat.le_of_ble_eq_true rfl)
    refine Go.sp (g' := (mkF m 289 #[.val (.int p1), .val (.int p2), .val (.int p3), .val (.int p4), .val (.int (6 : Int32)), .val (.int (4 : Int32)), .val (.ref b11), .unset, .unset, .unset, .unset] [(.ref b310), (.ref b310), (.ref b309), (.ref b309)])) (fun T A t r => XS.dup A hx rfl (hb hby at_288) rfl rfl r) ?_
    refine Go.sp (g' := (mkF m 290 #[.val (.int p1), .val (.int p2), .val (.int p3), .val (.int p4), .val (.int (6 : Int32)), .val (.int (4 : Int32)), .val (.ref b11), .unset, .unset, .unset, .unset] [(.int (5 : Int32)), (.ref b310), (.ref b310), (.ref b309), (.ref b309)])) (fun T A t r => XS.iconst A hx rfl (hb hby at_289) r) ?_
    refine Go.sp (g' := (mkF m 292 #[.val (.int p1), .val (.int p2), .val (.int p3), .val (.int p4), .val (.int (6 : Int32)), .val (.int (4 : Int32)), .val (.ref b11), .unset, .unset, .unset, .unset] [(.ref b11), (.int (5 : Int32)), (.ref b310), (.ref b310), (.ref b309), (.ref b309)])) (fun T A t r => XS.aload A hx rfl (hb hby at_290) rfl rfl r) ?_
    refine Go.sp (g' := (mkF m 293 #[.val (.int p1), .val (.int p2), .val (.int p3), .val (.int p4), .val (.int (6 : Int32)), .val (.int (4 : Int32)), .val (.ref b11), .unset, .unset, .unset, .unset] [(.int (5 : Int32)), (.ref b11), (.int (5 : Int32)), (.ref b310), (.ref b310), (.ref b309), (.ref b309)])) (fun T A t r => XS.iconst A hx rfl (hb hby at_292) r) ?_
    have f323 := (f321.other W322 ne314)
    refine Go.r (g' := (mkF m 294 #[.val (.int p1), .val (.int p2), .val (.int p3), .val (.int p4), .val (.int (6 : Int32)), .val (.int (4 : Int32)), .val (.ref b11), .unset, .unset, .unset, .unset] [(.int z28), (.int (5 : Int32)), (.ref b310), (.ref b310), (.ref b309), (.ref b309)])) (fun s' T L X eT hZ t r => own_ldC X hx hZ eT f323 (j := (5 : Int32)) ⟨by decide, by decide⟩ (v := (.int z28)) rfl (g := (mkF m 293 #[.val (.int p1), .val (.int p2), .val (.int p3), .val (.int p4), .val (.int (6 : Int32)), .val (.int (4 : Int32)), .val (.ref b11), .unset, .unset, .unset, .unset] [(.int (5 : Int32)), (.ref b11), (.int (5 : Int32)), (.ref b310), (.ref b310), (.ref b309), (.ref b309)])) rfl rfl (hb hby at_293) t r) ?_
    refine Go.w (g' := (mkF m 295 #[.val (.int p1), .val (.int p2), .val (.int p3), .val (.int p4), .val (.int (6 : Int32)), .val (.int (4 : Int32)), .val (.ref b11), .unset, .unset, .unset, .unset] [(.ref b310), (.ref b309), (.ref b309)])) (fun s' T L X eT hZ hown => own_stC X hx hZ eT V322 (j := (5 : Int32)) ⟨by decide, by decide⟩ (g := (mkF m 294 #[.val (.int p1), .val (.int p2), .val (.int p3), .val (.int p4), .val (.int (6 : Int32)), .val (.int (4 : Int32)), .val (.ref b11), .unset, .unset, .unset, .unset] [(.int z28), (.int (5 : Int32)), (.ref b310), (.ref b310), (.ref b309), (.ref b309)])) rfl rfl (hb hby at_294)) (Or.inr sz310) ?_
    intro h324 W324
    have V324 : Arv Z h324 b310 k310 .char (6 : Int32) [(.int z13), (.int z16), (.int z19), (.int z22), (.int (64 : Int32)), (.int z28)] (.int (0 : Int32)) := own_set V322 (fits_nar_char _) W324 (congrArg Value.int (own_nar zb28)) 5 rfl (Nat.le_of_ble_eq_true rfl)
    have f325 := (((((((A309.ext E310).wr W312).wr W316).wr W318).wr W320).wr W322).wr W324)
    have ne326 : b309 ≠ b310 := Nat.ne_of_lt (Nat.lt_of_lt_of_le A309.lt (Nat.le_of_eq g310.symm))
    have f327 := (((((((F309_value.ext E310).other W312 (Or.inl ne326)).other W316 (Or.inl ne326)).other W318 (Or.inl ne326)).other W320 (Or.inl ne326)).other W322 (Or.inl ne326)).other W324 (Or.inl ne326))
    have f328 := (((((((F309_coder.ext E310).other W312 (Or.inl ne326)).other W316 (Or.inl ne326)).other W318 (Or.inl ne326)).other W320 (Or.inl ne326)).other W322 (Or.inl ne326)).other W324 (Or.inl ne326))
    refine Go.old fun O329 => ?_
    have lat330 : ∀ c ∈ [z13, z16, z19, z22, (64 : Int32), z28], ¬ c < 0 ∧ ¬ (255 : Int32) < c := own_allc zb13 (own_allc zb16 (own_allc zb19 (own_allc zb22 (own_allc (by decide) (own_allc zb28 (own_allc0))))))
    refine Go.callC (a := b309) (ws' := [b309]) (W := 1) (y := (⟨"java/lang/String", "<init>", "([C)V"⟩ : MethodName)) (argsL := [(.ref b310)]) (rest := [(.ref b309)]) (pc' := 298) (k' := 4) (n' := 22) (hb hby at_295) rfl (own_w hw 9 rfl) (own_w hw 10 rfl) (own_w hw 11 rfl) (by decide) (fun s' hZ => own_str hw (own_w hw 7 rfl) hZ (cs := [z13, z16, z19, z22, (64 : Int32), z28]) (n := 6) (Nat.le_trans (Old.le O0) sz309) O329 f325 f327 f328 V324 S0 P0 rfl rfl (by decide) (by decide) lat330 (by decide) (by decide)) (by rw [hml]; rfl) (lenOf pd_15 rfl) rfl (Nat.le_of_ble_eq_true rfl) rfl rfl rfl (by decide) (by decide) (allS (Or.inr sz309) all0) ?_
    rintro v331 h331 K331 ⟨rfl, E331, C331, t331, kb331, ge331, V331, B331⟩
    refine Go.cast (g' := (mkF m 298 #[.val (.int p1), .val (.int p2), .val (.int p3), .val (.int p4), .val (.int (6 : Int32)), .val (.int (4 : Int32)), .val (.ref b11), .unset, .unset, .unset, .unset] [(.ref b309)])) rfl ?_
    refine Go.sp (g' := (mkF m 300 #[.val (.int p1), .val (.int p2), .val (.int p3), .val (.int p4), .val (.int (6 : Int32)), .val (.int (4 : Int32)), .val (.ref b11), .val (.ref b309), .unset, .unset, .unset] [])) (fun T A t r => XS.astore A hx rfl (hb hby at_298) rfl rfl (l' := #[.val (.int p1), .val (.int p2), .val (.int p3), .val (.int p4), .val (.int (6 : Int32)), .val (.int (4 : Int32)), .val (.ref b11), .val (.ref b309), .unset, .unset, .unset]) rfl r) ?_
    refine Go.sp (g' := (mkF m 302 #[.val (.int p1), .val (.int p2), .val (.int p3), .val (.int p4), .val (.int (6 : Int32)), .val (.int (4 : Int32)), .val (.ref b11), .val (.ref b309), .unset, .unset, .unset] [(.ref b309)])) (fun T A t r => XS.aload A hx rfl (hb hby at_300) rfl rfl r) ?_
    refine Go.old fun O332 => ?_
    refine Go.callS (ws' := []) (W := 0) (y := (⟨"com/example/slow_digest/slowdigest/rules/MailAddress", "domain", "(Ljava/lang/String;)Ljava/lang/String;"⟩ : MethodName)) (argsL := [(.ref b309)]) (rest := []) (pc' := 305) (k' := 6) (n' := 34) (hb hby at_302) (own_w hw 35 rfl) (own_w hw 36 rfl) (own_w hw 37 rfl) (own_w hw 38 rfl) (by decide) (fun s' hZ => Ct.bk (rmD l Z a0 hw [] b309 t331 kb331 [z13, z16, z19, z22, (64 : Int32), z28] 4 zS fm h331 n0 O332 E331 C331 V331 B331 lat330 (Nat.le_of_ble_eq_true rfl) (Nat.le_of_ble_eq_true rfl) rfl (own_lt4 zn13 zn16 zn19 zn22) (Nat.le_of_ble_eq_true rfl) S0 P0 SF RF) hZ (own_w hw 38 rfl) (own_w hw 37 rfl) (by decide) (by decide)) (by rw [hml]; rfl) (lenOf pd_16 rfl) rfl (Nat.le_of_ble_eq_true rfl) rfl rfl rfl (by decide) (by decide) all0 ?_
    rintro v333 h333 K333 ⟨a333, t333, kb333, rfl, E333, C333, V333, B333⟩
    refine Go.cast (g' := (mkF m 305 #[.val (.int p1), .val (.int p2), .val (.int p3), .val (.int p4), .val (.int (6 : Int32)), .val (.int (4 : Int32)), .val (.ref b11), .val (.ref b309), .unset, .unset, .unset] [(.ref a333)])) rfl ?_
    have D333 : Arv Z h333 t333 kb333 .byte (1 : Int32) (([z28].map fun c => c.toInt8.toInt32).map Value.int) (.int 0) := B333
    have lat334 : ∀ c ∈ [z28], ¬ c < 0 ∧ ¬ (255 : Int32) < c := own_allc zb28 (own_allc0)
    refine Go.sp (g' := (mkF m 307 #[.val (.int p1), .val (.int p2), .val (.int p3), .val (.int p4), .val (.int (6 : Int32)), .val (.int (4 : Int32)), .val (.ref b11), .val (.ref b309), .val (.ref a333), .unset, .unset] [])) (fun T A t r => XS.astore A hx rfl (hb hby at_305) rfl rfl (l' := #[.val (.int p1), .val (.int p2), .val (.int p3), .val (.int p4), .val (.int (6 : Int32)), .val (.int (4 : Int32)), .val (.ref b11), .val (.ref b309), .val (.ref a333), .unset, .unset]) rfl r) ?_
    refine Go.sp (g' := (mkF m 309 #[.val (.int p1), .val (.int p2), .val (.int p3), .val (.int p4), .val (.int (6 : Int32)), .val (.int (4 : Int32)), .val (.ref b11), .val (.ref b309), .val (.ref a333), .unset, .unset] [(.int (6 : Int32))])) (fun T A t r => XS.iload A hx rfl (hb hby at_307) rfl r) ?_
    refine Go.sp (g' := (mkF m 311 #[.val (.int p1), .val (.int p2), .val (.int p3), .val (.int p4), .val (.int (6 : Int32)), .val (.int (4 : Int32)), .val (.ref b11), .val (.ref b309), .val (.ref a333), .unset, .unset] [(.int (4 : Int32)), (.int (6 : Int32))])) (fun T A t r => XS.iload A hx rfl (hb hby at_309) rfl r) ?_
    refine Go.sp (g' := (mkF m 312 #[.val (.int p1), .val (.int p2), .val (.int p3), .val (.int p4), .val (.int (6 : Int32)), .val (.int (4 : Int32)), .val (.ref b11), .val (.ref b309), .val (.ref a333), .unset, .unset] [(.int (2 : Int32))])) (fun T A t r => XS.isub A hx rfl (hb hby at_311) rfl r) ?_
    refine Go.sp (g' := (mkF m 313 #[.val (.int p1), .val (.int p2), .val (.int p3), .val (.int p4), .val (.int (6 : Int32)), .val (.int (4 : Int32)), .val (.ref b11), .val (.ref b309), .val (.ref a333), .unset, .unset] [(.int (1 : Int32)), (.int (2 : Int32))])) (fun T A t r => XS.iconst A hx rfl (hb hby at_312) r) ?_
    refine Go.sp (g' := (mkF m 314 #[.val (.int p1), .val (.int p2), .val (.int p3), .val (.int p4), .val (.int (6 : Int32)), .val (.int (4 : Int32)), .val (.ref b11), .val (.ref b309), .val (.ref a333), .unset, .unset] [(.int (1 : Int32))])) (fun T A t r => XS.isub A hx rfl (hb hby at_313) rfl r) ?_
    refine Go.sp (g' := (mkF m 316 #[.val (.int p1), .val (.int p2), .val (.int p3), .val (.int p4), .val (.int (6 : Int32)), .val (.int (4 : Int32)), .val (.ref b11), .val (.ref b309), .val (.ref a333), .val (.int (1 : Int32)), .unset] [])) (fun T A t r => XS.istore A hx rfl (hb hby at_314) rfl (l' := #[.val (.int p1), .val (.int p2), .val (.int p3), .val (.int p4), .val (.int (6 : Int32)), .val (.int (4 : Int32)), .val (.ref b11), .val (.ref b309), .val (.ref a333), .val (.int (1 : Int32)), .unset]) rfl r) ?_
    refine Go.sp (g' := (mkF m 318 #[.val (.int p1), .val (.int p2), .val (.int p3), .val (.int p4), .val (.int (6 : Int32)), .val (.int (4 : Int32)), .val (.ref b11), .val (.ref b309), .val (.ref a333), .val (.int (1 : Int32)), .unset] [(.ref a333)])) (fun T A t r => XS.aload A hx rfl (hb hby at_316) rfl rfl r) ?_
    refine Go.old fun O335 => ?_
    refine Go.callVP (a := a333) (z := (⟨"java/lang/String", "length", "()I"⟩ : MethodName)) (W := 0) (y := (⟨"java/lang/String", "length", "()I"⟩ : MethodName)) (argsL := []) (rest := []) (pc' := 321) (hb hby at_318) (own_w hw 121 rfl) (own_w hw 55 rfl) (fun s' hZ => notFace_of_selects (args := #[]) (mvT hZ (own_w hw 57 rfl))) (own_w hw 57 rfl) (own_w hw 56 rfl) (by decide) (fun s' hZ => Bk.pure (StrChars.Road.lenW (kI := 4) (cs := [z28]) hZ (own_lenw hw) (own_w hw 7 rfl) E333 V333 C333 D333 (own_cod rfl lat334) (own_up lat334) (S0.ext O335.2) P0 (by show 1 ≤ 4000; decide) (by decide) (by decide))) E333 (by rw [hml]; rfl) (lenOf pd_4 rfl) rfl (Nat.le_of_ble_eq_true rfl) rfl (by decide) (by decide) ?_
    rintro v336 rfl
    refine Go.cast (g' := (mkF m 321 #[.val (.int p1), .val (.int p2), .val (.int p3), .val (.int p4), .val (.int (6 : Int32)), .val (.int (4 : Int32)), .val (.ref b11), .val (.ref b309), .val (.ref a333), .val (.int (1 : Int32)), .unset] [(.int (1 : Int32))])) rfl ?_
    refine Go.sp (g' := (mkF m 323 #[.val (.int p1), .val (.int p2), .val (.int p3), .val (.int p4), .val (.int (6 : Int32)), .val (.int (4 : Int32)), .val (.ref b11), .val (.ref b309), .val (.ref a333), .val (.int (1 : Int32)), .unset] [(.int (1 : Int32)), (.int (1 : Int32))])) (fun T A t r => XS.iload A hx rfl (hb hby at_321) rfl r) ?_
    refine Go.sp (g' := (mkF m 328 #[.val (.int p1), .val (.int p2), .val (.int p3), .val (.int p4), .val (.int (6 : Int32)), .val (.int (4 : Int32)), .val (.ref b11), .val (.ref b309), .val (.ref a333), .val (.int (1 : Int32)), .unset] [])) (fun T A t r => XS.icmpYes A hx rfl (pc0 := 323) (pc' := 328) rfl (hb hby at_323) rfl (teq (by decide : ((1 : Int32) = (1 : Int32)))).1 (by decide) (by decide) r) ?_
    refine Go.sp (g' := (mkF m 329 #[.val (.int p1), .val (.int p2), .val (.int p3), .val (.int p4), .val (.int (6 : Int32)), .val (.int (4 : Int32)), .val (.ref b11), .val (.ref b309), .val (.ref a333), .val (.int (1 : Int32)), .unset] [(.int (1 : Int32))])) (fun T A t r => XS.iconst A hx rfl (hb hby at_328) r) ?_
    refine Go.sp (g' := (mkF m 331 #[.val (.int p1), .val (.int p2), .val (.int p3), .val (.int p4), .val (.int (6 : Int32)), .val (.int (4 : Int32)), .val (.ref b11), .val (.ref b309), .val (.ref a333), .val (.int (1 : Int32)), .val (.int (1 : Int32))] [])) (fun T A t r => XS.istore A hx rfl (hb hby at_329) rfl (l' := #[.val (.int p1), .val (.int p2), .val (.int p3), .val (.int p4), .val (.int (6 : Int32)), .val (.int (4 : Int32)), .val (.ref b11), .val (.ref b309), .val (.ref a333), .val (.int (1 : Int32)), .val (.int (1 : Int32))]) rfl r) ?_
    refine Go.sp (g' := (mkF m 332 #[.val (.int p1), .val (.int p2), .val (.int p3), .val (.int p4), .val (.int (6 : Int32)), .val (.int (4 : Int32)), .val (.ref b11), .val (.ref b309), .val (.ref a333), .val (.int (1 : Int32)), .val (.int (1 : Int32))] [(.int (0 : Int32))])) (fun T A t r => XS.iconst A hx rfl (hb hby at_331) r) ?_
    refine Go.sp (g' := (mkF m 334 #[.val (.int p1), .val (.int p2), .val (.int p3), .val (.int p4), .val (.int (6 : Int32)), .val (.int (4 : Int32)), .val (.ref b11), .val (.ref b309), .val (.ref a333), .val (.int (1 : Int32)), .val (.int (1 : Int32))] [(.int (1 : Int32)), (.int (0 : Int32))])) (fun T A t r => XS.iload A hx rfl (hb hby at_332) rfl r) ?_
    refine Go.sp (g' := (mkF m 337 #[.val (.int p1), .val (.int p2), .val (.int p3), .val (.int p4), .val (.int (6 : Int32)), .val (.int (4 : Int32)), .val (.ref b11), .val (.ref b309), .val (.ref a333), .val (.int (1 : Int32)), .val (.int (1 : Int32))] [])) (fun T A t r => XS.icmpNo A hx rfl (hb hby at_334) rfl (tlt (by decide : ((0 : Int32) < (1 : Int32)))).2.1 r) ?_
    refine Go.sp (g' := (mkF m 339 #[.val (.int p1), .val (.int p2), .val (.int p3), .val (.int p4), .val (.int (6 : Int32)), .val (.int (4 : Int32)), .val (.ref b11), .val (.ref b309), .val (.ref a333), .val (.int (1 : Int32)), .val (.int (1 : Int32))] [(.int (1 : Int32))])) (fun T A t r => XS.iload A hx rfl (hb hby at_337) rfl r) ?_
    refine Go.sp (g' := (mkF m 342 #[.val (.int p1), .val (.int p2), .val (.int p3), .val (.int p4), .val (.int (6 : Int32)), .val (.int (4 : Int32)), .val (.ref b11), .val (.ref b309), .val (.ref a333), .val (.int (1 : Int32)), .val (.int (1 : Int32))] [])) (fun T A t r => XS.ifNo A hx rfl (hb hby at_339) rfl ((if0 _ _).trans (feq (by decide : ¬ ((1 : Int32) = (0 : Int32)))).1) r) ?_
    refine Go.sp (g' := (mkF m 344 #[.val (.int p1), .val (.int p2), .val (.int p3), .val (.int p4), .val (.int (6 : Int32)), .val (.int (4 : Int32)), .val (.ref b11), .val (.ref b309), .val (.ref a333), .val (.int (1 : Int32)), .val (.int (1 : Int32))] [(.ref a333)])) (fun T A t r => XS.aload A hx rfl (hb hby at_342) rfl rfl r) ?_
    refine Go.sp (g' := (mkF m 345 #[.val (.int p1), .val (.int p2), .val (.int p3), .val (.int p4), .val (.int (6 : Int32)), .val (.int (4 : Int32)), .val (.ref b11), .val (.ref b309), .val (.ref a333), .val (.int (1 : Int32)), .val (.int (1 : Int32))] [(.int (0 : Int32)), (.ref a333)])) (fun T A t r => XS.iconst A hx rfl (hb hby at_344) r) ?_
    refine Go.callVP (a := a333) (z := (⟨"java/lang/String", "charAt", "(I)C"⟩ : MethodName)) (W := 0) (y := (⟨"java/lang/String", "charAt", "(I)C"⟩ : MethodName)) (argsL := [(.int (0 : Int32))]) (rest := []) (pc' := 348) (hb hby at_345) (own_w hw 122 rfl) (own_w hw 123 rfl) (fun s' hZ => notFace_of_selects (args := #[]) (mvT hZ (own_w hw 125 rfl))) (own_w hw 125 rfl) (own_w hw 124 rfl) (by decide) (fun s' hZ => Bk.pure (StrChars.Road.chN (kI := 4) (cs := [z28]) (i := 0) hZ (own_chwd hw) (own_w hw 7 rfl) E333 V333 C333 D333 (own_cod rfl lat334) (own_up lat334) (S0.ext O335.2) P0 (SF.ext O335.2) RF (by show 1 ≤ 4000; decide) (by show 0 < 1; decide) rfl (by decide) (by decide))) E333 (by rw [hml]; rfl) (lenOf pd_14 rfl) rfl (Nat.le_of_ble_eq_true rfl) rfl (by decide) (by decide) ?_
    rintro v337 rfl
    refine Go.cast (g' := (mkF m 348 #[.val (.int p1), .val (.int p2), .val (.int p3), .val (.int p4), .val (.int (6 : Int32)), .val (.int (4 : Int32)), .val (.ref b11), .val (.ref b309), .val (.ref a333), .val (.int (1 : Int32)), .val (.int (1 : Int32))] [(.int z28)])) rfl ?_
    refine Go.sp (g' := (mkF m 350 #[.val (.int p1), .val (.int p2), .val (.int p3), .val (.int p4), .val (.int (6 : Int32)), .val (.int (4 : Int32)), .val (.ref b11), .val (.ref b309), .val (.ref a333), .val (.int (1 : Int32)), .val (.int (1 : Int32))] [(.ref b11), (.int z28)])) (fun T A t r => XS.aload A hx rfl (hb hby at_348) rfl rfl r) ?_
    refine Go.sp (g' := (mkF m 352 #[.val (.int p1), .val (.int p2), .val (.int p3), .val (.int p4), .val (.int (6 : Int32)), .val (.int (4 : Int32)), .val (.ref b11), .val (.ref b309), .val (.ref a333), .val (.int (1 : Int32)), .val (.int (1 : Int32))] [(.int (4 : Int32)), (.ref b11), (.int z28)])) (fun T A t r => XS.iload A hx rfl (hb hby at_350) rfl r) ?_
    refine Go.sp (g' := (mkF m 353 #[.val (.int p1), .val (.int p2), .val (.int p3), .val (.int p4), .val (.int (6 : Int32)), .val (.int (4 : Int32)), .val (.ref b11), .val (.ref b309), .val (.ref a333), .val (.int (1 : Int32)), .val (.int (1 : Int32))] [(.int (1 : Int32)), (.int (4 : Int32)), (.ref b11), (.int z28)])) (fun T A t r => XS.iconst A hx rfl (hb hby at_352) r) ?_
    refine Go.sp (g' := (mkF m 354 #[.val (.int p1), .val (.int p2), .val (.int p3), .val (.int p4), .val (.int (6 : Int32)), .val (.int (4 : Int32)), .val (.ref b11), .val (.ref b309), .val (.ref a333), .val (.int (1 : Int32)), .val (.int (1 : Int32))] [(.int (5 : Int32)), (.ref b11), (.int z28)])) (fun T A t r => XS.iadd A hx rfl (hb hby at_353) rfl r) ?_
    have ne338 : b11 ≠ b309 := Nat.ne_of_lt (Nat.lt_of_lt_of_le V308.lt (Nat.le_of_eq g309.symm))
    have f339 := (((f323.other W324 ne314).keep K331 (ninS ne338 nin0)).keep K333 nin0)
    refine Go.r (g' := (mkF m 355 #[.val (.int p1), .val (.int p2), .val (.int p3), .val (.int p4), .val (.int (6 : Int32)), .val (.int (4 : Int32)), .val (.ref b11), .val (.ref b309), .val (.ref a333), .val (.int (1 : Int32)), .val (.int (1 : Int32))] [(.int z28), (.int z28)])) (fun s' T L X eT hZ t r => own_ldC X hx hZ eT f339 (j := (5 : Int32)) ⟨by decide, by decide⟩ (v := (.int z28)) rfl (g := (mkF m 354 #[.val (.int p1), .val (.int p2), .val (.int p3), .val (.int p4), .val (.int (6 : Int32)), .val (.int (4 : Int32)), .val (.ref b11), .val (.ref b309), .val (.ref a333), .val (.int (1 : Int32)), .val (.int (1 : Int32))] [(.int (5 : Int32)), (.ref b11), (.int z28)])) rfl rfl (hb hby at_354) t r) ?_
    refine Go.sp (g' := (mkF m 358 #[.val (.int p1), .val (.int p2), .val (.int p3), .val (.int p4), .val (.int (6 : Int32)), .val (.int (4 : Int32)), .val (.ref b11), .val (.ref b309), .val (.ref a333), .val (.int (1 : Int32)), .val (.int (1 : Int32))] [])) (fun T A t r => XS.icmpNo A hx rfl (hb hby at_355) rfl (teq (rfl : z28 = z28)).2 r) ?_
    refine Go.sp (g' := (mkF m 359 #[.val (.int p1), .val (.int p2), .val (.int p3), .val (.int p4), .val (.int (6 : Int32)), .val (.int (4 : Int32)), .val (.ref b11), .val (.ref b309), .val (.ref a333), .val (.int (1 : Int32)), .val (.int (1 : Int32))] [(.int (1 : Int32))])) (fun T A t r => XS.iconst A hx rfl (hb hby at_358) r) ?_
    refine Go.sp (g' := (mkF m 363 #[.val (.int p1), .val (.int p2), .val (.int p3), .val (.int p4), .val (.int (6 : Int32)), .val (.int (4 : Int32)), .val (.ref b11), .val (.ref b309), .val (.ref a333), .val (.int (1 : Int32)), .val (.int (1 : Int32))] [(.int (1 : Int32))])) (fun T A t r => XS.goto A hx rfl (pc0 := 359) (pc' := 363) rfl (hb hby at_359) (by decide) (by decide) r) ?_
    refine Go.sp (g' := (mkF m 365 #[.val (.int p1), .val (.int p2), .val (.int p3), .val (.int p4), .val (.int (6 : Int32)), .val (.int (4 : Int32)), .val (.ref b11), .val (.ref b309), .val (.ref a333), .val (.int (1 : Int32)), .val (.int (1 : Int32))] [])) (fun T A t r => XS.istore A hx rfl (hb hby at_363) rfl (l' := #[.val (.int p1), .val (.int p2), .val (.int p3), .val (.int p4), .val (.int (6 : Int32)), .val (.int (4 : Int32)), .val (.ref b11), .val (.ref b309), .val (.ref a333), .val (.int (1 : Int32)), .val (.int (1 : Int32))]) rfl r) ?_
    refine Go.sp (g' := (mkF m 366 #[.val (.int p1), .val (.int p2), .val (.int p3), .val (.int p4), .val (.int (6 : Int32)), .val (.int (4 : Int32)), .val (.ref b11), .val (.ref b309), .val (.ref a333), .val (.int (1 : Int32)), .val (.int (1 : Int32))] [(.int (1 : Int32))])) (fun T A t r => XS.iconst A hx rfl (hb hby at_365) r) ?_
    refine Go.sp (g' := (mkF m 368 #[.val (.int p1), .val (.int p2), .val (.int p3), .val (.int p4), .val (.int (6 : Int32)), .val (.int (4 : Int32)), .val (.ref b11), .val (.ref b309), .val (.ref a333), .val (.int (1 : Int32)), .val (.int (1 : Int32))] [(.int (1 : Int32)), (.int (1 : Int32))])) (fun T A t r => XS.iload A hx rfl (hb hby at_366) rfl r) ?_
    refine Go.sp (g' := (mkF m 399 #[.val (.int p1), .val (.int p2), .val (.int p3), .val (.int p4), .val (.int (6 : Int32)), .val (.int (4 : Int32)), .val (.ref b11), .val (.ref b309), .val (.ref a333), .val (.int (1 : Int32)), .val (.int (1 : Int32))] [])) (fun T A t r => XS.icmpYes A hx rfl (pc0 := 368) (pc' := 399) rfl (hb hby at_368) rfl (flt (by decide : ¬ ((1 : Int32) < (1 : Int32)))).2.1 (by decide) (by decide) r) ?_
    refine Go.sp (g' := (mkF m 400 #[.val (.int p1), .val (.int p2), .val (.int p3), .val (.int p4), .val (.int (6 : Int32)), .val (.int (4 : Int32)), .val (.ref b11), .val (.ref b309), .val (.ref a333), .val (.int (1 : Int32)), .val (.int (1 : Int32))] [(.int (2 : Int32))])) (fun T A t r => XS.iconst A hx rfl (hb hby at_399) r) ?_
    refine Go.sp (g' := (mkF m 402 #[.val (.int p1), .val (.int p2), .val (.int p3), .val (.int p4), .val (.int (6 : Int32)), .val (.int (4 : Int32)), .val (.ref b11), .val (.ref b309), .val (.ref a333), .val (.int (1 : Int32)), .val (.int (1 : Int32))] [(.int (1 : Int32)), (.int (2 : Int32))])) (fun T A t r => XS.iload A hx rfl (hb hby at_400) rfl r) ?_
    refine Go.sp (g' := (mkF m 433 #[.val (.int p1), .val (.int p2), .val (.int p3), .val (.int p4), .val (.int (6 : Int32)), .val (.int (4 : Int32)), .val (.ref b11), .val (.ref b309), .val (.ref a333), .val (.int (1 : Int32)), .val (.int (1 : Int32))] [])) (fun T A t r => XS.icmpYes A hx rfl (pc0 := 402) (pc' := 433) rfl (hb hby at_402) rfl (flt (by decide : ¬ ((2 : Int32) < (1 : Int32)))).2.1 (by decide) (by decide) r) ?_
    refine Go.sp (g' := (mkF m 434 #[.val (.int p1), .val (.int p2), .val (.int p3), .val (.int p4), .val (.int (6 : Int32)), .val (.int (4 : Int32)), .val (.ref b11), .val (.ref b309), .val (.ref a333), .val (.int (1 : Int32)), .val (.int (1 : Int32))] [(.int (3 : Int32))])) (fun T A t r => XS.iconst A hx rfl (hb hby at_433) r) ?_
    refine Go.sp (g' := (mkF m 436 #[.val (.int p1), .val (.int p2), .val (.int p3), .val (.int p4), .val (.int (6 : Int32)), .val (.int (4 : Int32)), .val (.ref b11), .val (.ref b309), .val (.ref a333), .val (.int (1 : Int32)), .val (.int (1 : Int32))] [(.int (1 : Int32)), (.int (3 : Int32))])) (fun T A t r => XS.iload A hx rfl (hb hby at_434) rfl r) ?_
    refine Go.sp (g' := (mkF m 467 #[.val (.int p1), .val (.int p2), .val (.int p3), .val (.int p4), .val (.int (6 : Int32)), .val (.int (4 : Int32)), .val (.ref b11), .val (.ref b309), .val (.ref a333), .val (.int (1 : Int32)), .val (.int (1 : Int32))] [])) (fun T A t r => XS.icmpYes A hx rfl (pc0 := 436) (pc' := 467) rfl (hb hby at_436) rfl (flt (by decide : ¬ ((3 : Int32) < (1 : Int32)))).2.1 (by decide) (by decide) r) ?_
    refine Go.sp (g' := (mkF m 469 #[.val (.int p1), .val (.int p2), .val (.int p3), .val (.int p4), .val (.int (6 : Int32)), .val (.int (4 : Int32)), .val (.ref b11), .val (.ref b309), .val (.ref a333), .val (.int (1 : Int32)), .val (.int (1 : Int32))] [(.int (1 : Int32))])) (fun T A t r => XS.iload A hx rfl (hb hby at_467) rfl r) ?_
    exact Go.ret (v := (some (.int (nar .boolean (1 : Int32))))) (fun s' T L fs X hr => retN X hx (t := .boolean) hret (by simp) (hb hby at_469) hr) (fun h => by rw [hret] at h; cases h) (by decide) (by decide) rfl
set_option maxRecDepth 65536 in
set_option maxHeartbeats 40000000 in
theorem comes_1 {Post : Tables → Env → Array Value → State → Outcome → State → Prop} (hpost : ∀ tb e args s v u, (limb_1_1.after args s (.returned v) u = true ∧ limb_1_2.after args s (.returned v) u = true ∧ True) → FrameEnd s (.returned v) u (Jvm.fieldLocs frame_1_writes args s ++ Jvm.arrayLocs frame_1_arrays args s ++ Jvm.staticLocs frame_1_statics s) 24 128 → Post tb e args s (.returned v) u) :
    ArmFor flags0 classFile x code maxLocals ret World_1 tables_1 room_1 Calls_1 rest_1 Pre_1 Post := by
  intro l hfl _ _ p e ha hc hk s m args below hf hA hF happ hP
  obtain ⟨hcalls, hrest, hpre⟩ := hP
  obtain ⟨-, -, -, hnamed, -, -, -, hat⟩ := (Spec.applies_iff hf).mp happ
  obtain ⟨hg, hn⟩ := and_e (Cond.before_iff.mp (show (Jvm.Cond.and given_1 narrow_1).before args s = true from hpre))
  obtain ⟨gc, q0⟩ := and_e hg
  obtain ⟨ga0, q1⟩ := and_e q0
  obtain ⟨ga1, q2⟩ := and_e q1
  obtain ⟨ga2, q3⟩ := and_e q2
  obtain ⟨w0, w1, w2, w3, rfl⟩ : ∃ w0 w1 w2 w3 : Value, args = #[w0, w1, w2, w3] := by
    have hs : args.size = 4 := by simpa [Cond.value, given_1] using gc
    obtain ⟨L⟩ := args
    match L, hs with
    | [w0, w1, w2, w3], _ => exact ⟨w0, w1, w2, w3, rfl⟩
  have hw := fun d (hd : d ∈ tables_1) => atoms_spec (ws := Jvm.Cond.code x code maxLocals ret :: tables_1) hat d (List.mem_cons_of_mem _ hd)
  have hfit : Fit s := fun {y c} hc i hi => by
    obtain ⟨ha, rfl⟩ := Array.getElem?_eq_some_iff.mp hc
    have q := List.all_eq_true.mp ((Array.all_eq_true_iff_forall_mem.mp hF) _ (Array.getElem_mem ha)) i (List.mem_range.mpr hi)
    simpa [Array.getElem?_eq_getElem hi] using q
  obtain ⟨hsets, hown0⟩ := atoms_of _ (rest_1_c_eq ▸ (show rest_1_c.before _ s = true from hrest))
  have hr0 := Cond.before_iff.mp hown0
  obtain ⟨i0, ei0⟩ := is_v ga0
  obtain rfl : w0 = (.int i0) := Option.some.inj ei0
  obtain ⟨i1, ei1⟩ := is_v ga1
  obtain rfl : w1 = (.int i1) := Option.some.inj ei1
  obtain ⟨i2, ei2⟩ := is_v ga2
  obtain rfl : w2 = (.int i2) := Option.some.inj ei2
  obtain ⟨i3, ei3⟩ := is_v q3
  obtain rfl : w3 = (.int i3) := Option.some.inj ei3
  have nS := not_v (Cond.before_iff.mp (hsets _ (List.mem_of_getElem? (i := 2) rfl)))
  obtain ⟨zS, eS⟩ := is_v (Cond.before_iff.mp (hsets _ (List.mem_of_getElem? (i := 1) rfl)))
  have S0 : Sta s s.heap "java/lang/String" "COMPACT_STRINGS" "Z" (.int zS) := Sta.start eS (Or.inl (hsets _ (List.mem_of_getElem? (i := 0) rfl)))
  have P0 : ¬ (zS = (0 : Int32)) := gotF (Cond.eq_ints eS (Term.int_eval (0))) nS
  obtain ⟨fm, eF, RF⟩ := isR_v (Cond.before_iff.mp (hsets _ (List.mem_of_getElem? (i := 8) rfl)))
  have SF : Sta s s.heap "jdk/internal/util/Preconditions" "SIOOBE_FORMATTER" "Ljava/util/function/BiFunction;" fm := Sta.start eF (Or.inl (hsets _ (List.mem_of_getElem? (i := 7) rfl)))
  obtain ⟨n, o, h1, h2, h3, _, L, rfl, ⟨N, -, rfl⟩, hq⟩ := rm0 l s _ hw tables_1 i0 i1 i2 i3 zS fm s.heap s.heap.size (Old.start s) S0 P0 SF RF p e ha hc hk s m _ below hf ((Spec.applies_iff_loose hf).mp happ).1 ⟨rfl, State.Warmed39.refl s, rfl⟩ trivial
  refine ⟨n, _, h1, h2, h3, hpost _ _ _ _ _ _ ⟨Cond.after_iff.mpr rfl, Cond.after_iff.mpr (eq_i res_at (Term.int_eval (1)) rfl), trivial⟩ ⟨hq.1, hq.2.1, (hq.2.2.sift fun y hy => Or.inr (N y hy)).mono (by decide) (by decide)⟩⟩
theorem main_1_1 : Claimed_1_1 := comes_1 fun _ _ _ _ _ _ h hF => ⟨h.1, hF⟩
theorem main_1_2 : Claimed_1_2 := comes_1 fun _ _ _ _ _ _ h hF => ⟨h.2.1, hF⟩
end Jvm.Pilot.@@N@@
namespace Jvm.Pilot.@@N@@
open Jvm Jvm.ClassFile Sem Op Lib Jvm.Free Jvm.Stand Jvm.Pilot.@@N@@.Jvm.D
/-! MADE BY PROGRAM (witnessworld.py) out of the Statement's table words and the real class files: 23 classes; the members and pool entries that the words name. The judged class is class 1, her method 2. -/
namespace start1
open Jvm.ClassFile
def u (s : String) : CpInfo := .utf8 (stringToUtf16 s)
/-- a pool by its gaps: so many unusable entries, then the entry; so many at the end -/
def gap : Nat → List CpInfo → List CpInfo
  | 0, r => r
  | n + 1, r => .unusable :: gap n r
def poolList (es : List (Nat × CpInfo)) (last : Nat) : List CpInfo := es.foldr (fun e r => gap e.1 (e.2 :: r)) (gap last [])
def pool (es : List (Nat × CpInfo)) (last : Nat) : Array CpInfo := ⟨poolList es last⟩
def fileOf (pool : Array CpInfo) (this : Nat) (attrs : Array Attribute := #[]) (ms : Array MethodInfo := #[]) (fl : Nat := 33) (sup : Nat := 0) (ifs : Array Nat := #[]) (fds : Array FieldInfo := #[]) : ClassFile where
  minorVersion := 0
  majorVersion := 65
  constantPool := pool
  accessFlags := fl
  thisClass := this
  superClass := sup
  interfaces := ifs
  fields := fds
  methods := ms
  attributes := attrs
def plain (name : String) (sup : Option ClassId) : Class where
  name := name
  kind := .ordinary
  loader := none
  accessFlags := 33
  super := sup
  interfaces := #[]
  cf := none
  fields := #[]
  methods := #[]
  instanceTypes := #[]
  staticTypes := #[]
  resolved := #[]
  callSites := []
  init := .initialized
  statics := none
  mirror := none

def pool0 : Array CpInfo := pool [(5, u "<init>"), (0, u "()V"), (1, .class_ 10), (1, u "java/lang/Object")] 113

def k0c0 : Code := { maxStack := 0, maxLocals := 1, code := object_method_1_code, exceptionTable := #[], attributes := #[] }
def k0m0 : Method := { name := "<init>", desc := "()V", sig := { parameters := [], returnType := none }, accessFlags := 1, code := some k0c0 }
/-- java/lang/Object -/
def k0 : Class := { plain "java/lang/Object" none with
  accessFlags := 33
  interfaces := #[]
  cf := some (fileOf pool0 8 #[] #[{ accessFlags := 1, nameIndex := 5, descriptorIndex := 6, attributes := #[] }] 33 0 #[] #[])
  fields := #[]
  methods := #[k0m0]
  instanceTypes := #[]
  staticTypes := #[]
  resolved := Array.replicate 124 none
  statics := none }

def pool1 : Array CpInfo := pool [(2, .class_ 4), (1, u "java/lang/Object"), (0, u "<init>"), (0, u "()V"), (0, .integer 65535), (0, .methodref 9 10), (0, .class_ 11), (0, .nameAndType 12 13), (0, u "com/example/slow_digest/slowdigest/rules/MailAddressDomainPinLaw"), (0, u "ch"), (0, u "(I)C"), (0, .class_ 15), (0, u "java/lang/String"), (0, .methodref 14 17), (0, .nameAndType 5 18), (0, u "([C)V"), (0, .methodref 20 21), (0, .class_ 22), (0, .nameAndType 23 24), (0, u "com/example/slow_digest/slowdigest/rules/MailAddress"), (0, u "domain"), (0, u "(Ljava/lang/String;)Ljava/lang/String;"), (0, .methodref 14 26), (0, .nameAndType 27 28), (0, u "length"), (0, u "()I"), (0, .methodref 14 30), (0, .nameAndType 31 13), (0, u "charAt"), (3, u "law"), (0, u "(IIII)Z")] 4

def k1m0 : Method := { name := "<init>", desc := "()V", sig := { parameters := [], returnType := none }, accessFlags := 1, code := none }
def k1c1 : Code := { maxStack := 3, maxLocals := 2, code := method_2_code, exceptionTable := #[], attributes := #[] }
def k1m1 : Method := { name := "ch", desc := "(I)C", sig := { parameters := [.int], returnType := some .char }, accessFlags := 10, code := some k1c1 }
def k1c2 : Code := { maxStack := 7, maxLocals := 11, code := code, exceptionTable := #[], attributes := #[] }
def k1m2 : Method := { name := "law", desc := "(IIII)Z", sig := { parameters := [.int, .int, .int, .int], returnType := some .boolean }, accessFlags := 9, code := some k1c2 }
/-- com/example/slow_digest/slowdigest/rules/MailAddressDomainPinLaw -/
def k1 : Class := { plain "com/example/slow_digest/slowdigest/rules/MailAddressDomainPinLaw" (some 0) with
  accessFlags := 49
  interfaces := #[]
  cf := some (fileOf pool1 9 #[] #[{ accessFlags := 1, nameIndex := 5, descriptorIndex := 6, attributes := #[] }, { accessFlags := 10, nameIndex := 12, descriptorIndex := 13, attributes := #[] }, { accessFlags := 9, nameIndex := 35, descriptorIndex := 36, attributes := #[] }] 49 2 #[] #[])
  fields := #[]
  methods := #[k1m0, k1m1, k1m2]
  instanceTypes := #[]
  staticTypes := #[]
  resolved := Array.replicate 41 none
  statics := none }

def pool2 : Array CpInfo := pool [(1, .class_ 2), (0, u "java/io/Serializable"), (0, .class_ 4), (0, u "java/lang/Object")] 2

/-- java/io/Serializable -/
def k2 : Class := { plain "java/io/Serializable" (some 0) with
  accessFlags := 1537
  interfaces := #[]
  cf := some (fileOf pool2 1 #[] #[] 1537 3 #[] #[])
  fields := #[]
  methods := #[]
  instanceTypes := #[]
  staticTypes := #[]
  resolved := Array.replicate 7 none
  statics := none }

def pool3 : Array CpInfo := pool [(1, .class_ 2), (0, u "java/lang/Comparable"), (0, .class_ 4), (0, u "java/lang/Object")] 7

/-- java/lang/Comparable -/
def k3 : Class := { plain "java/lang/Comparable" (some 0) with
  accessFlags := 1537
  interfaces := #[]
  cf := some (fileOf pool3 1 #[] #[] 1537 3 #[] #[])
  fields := #[]
  methods := #[]
  instanceTypes := #[]
  staticTypes := #[]
  resolved := Array.replicate 12 none
  statics := none }

def pool4 : Array CpInfo := pool [(2, .class_ 4), (1, u "java/lang/CharSequence"), (42, .class_ 48), (0, u "java/lang/CharSequence$1CodePointIterator"), (10, .class_ 60), (0, u "java/lang/CharSequence$1CharIterator"), (5, .class_ 67), (0, u "java/lang/Object")] 63

/-- java/lang/CharSequence -/
def k4 : Class := { plain "java/lang/CharSequence" (some 0) with
  accessFlags := 1537
  interfaces := #[]
  cf := some (fileOf pool4 2 #[.nestMembers #[47, 59]] #[] 1537 66 #[] #[])
  fields := #[]
  methods := #[]
  instanceTypes := #[]
  staticTypes := #[]
  resolved := Array.replicate 131 none
  statics := none }

def pool5 : Array CpInfo := pool [(1, .class_ 2), (0, u "java/lang/constant/Constable"), (0, .class_ 4), (0, u "java/lang/Object")] 6

/-- java/lang/constant/Constable -/
def k5 : Class := { plain "java/lang/constant/Constable" (some 0) with
  accessFlags := 1537
  interfaces := #[]
  cf := some (fileOf pool5 1 #[] #[] 1537 3 #[] #[])
  fields := #[]
  methods := #[]
  instanceTypes := #[]
  staticTypes := #[]
  resolved := Array.replicate 11 none
  statics := none }

def pool6 : Array CpInfo := pool [(1, .class_ 2), (0, u "java/lang/constant/ConstantDesc"), (0, .class_ 4), (0, u "java/lang/Object")] 32

/-- java/lang/constant/ConstantDesc -/
def k6 : Class := { plain "java/lang/constant/ConstantDesc" (some 0) with
  accessFlags := 1537
  interfaces := #[]
  cf := some (fileOf pool6 1 #[] #[] 1537 3 #[] #[])
  fields := #[]
  methods := #[]
  instanceTypes := #[]
  staticTypes := #[]
  resolved := Array.replicate 37 none
  statics := none }

def pool7 : Array CpInfo := pool [(1, .methodref 2 3), (0, .class_ 4), (0, .nameAndType 5 6), (0, u "java/lang/Object"), (0, u "<init>"), (0, u "()V"), (2, .fieldref 10 11), (0, .class_ 12), (0, .nameAndType 13 14), (0, u "java/lang/String"), (0, u "value"), (0, u "[B"), (0, .fieldref 10 16), (0, .nameAndType 17 18), (0, u "coder"), (0, u "B"), (2, u "hash"), (0, u "I"), (2, u "hashIsZero"), (0, u "Z"), (0, .methodref 10 28), (0, .nameAndType 5 29), (0, u "([CIILjava/lang/Void;)V"), (8, .fieldref 10 39), (0, .nameAndType 40 26), (0, u "COMPACT_STRINGS"), (1, .class_ 44), (1, u "java/lang/StringUTF16"), (0, u "compress"), (1, .methodref 42 48), (0, .nameAndType 49 50), (0, u "coderFromArrayLen"), (0, u "([BI)B"), (56, .class_ 109), (1, u "java/lang/StringLatin1"), (32, u "()Z"), (34, .methodref 42 178), (0, .nameAndType 45 179), (0, u "([CII)[B"), (31, u "([BB)V"), (122, u "()I"), (0, .methodref 10 336), (0, .nameAndType 17 337), (0, u "()B"), (25, u "([BI)C"), (27, u "(II)V"), (35, u "(I)C"), (64, .methodref 10 493), (0, .nameAndType 494 142), (0, u "isLatin1"), (0, .methodref 107 496), (0, .nameAndType 497 363), (0, u "charAt"), (3, u "checkIndex"), (3, .methodref 10 506), (0, .nameAndType 507 334), (0, u "length"), (5, u "checkFromToIndex"), (7, .methodref 10 522), (0, .nameAndType 523 524), (0, u "checkBoundsBeginEnd"), (0, u "(III)V"), (50, .class_ 576), (0, u "java/lang/CharSequence"), (22, u "CASE_INSENSITIVE_ORDER"), (0, u "Ljava/util/Comparator;"), (32, .methodref 10 634), (0, .nameAndType 635 636), (0, u "indexOf"), (0, u "(II)I"), (0, .methodref 107 638), (0, .nameAndType 635 639), (0, u "([BIII)I"), (41, .methodref 10 682), (0, .nameAndType 683 684), (0, u "substring"), (0, u "(II)Ljava/lang/String;"), (0, .methodref 107 686), (0, .nameAndType 687 688), (0, u "newString"), (0, u "([BII)Ljava/lang/String;"), (76, u "(I)I"), (126, u "(I)Ljava/lang/String;"), (117, u "([C)V"), (42, .fieldref 1054 1055), (0, .class_ 1056), (0, .nameAndType 1057 1058), (0, u "jdk/internal/util/Preconditions"), (0, u "SIOOBE_FORMATTER"), (0, u "Ljava/util/function/BiFunction;"), (0, .methodref 1054 1060), (0, .nameAndType 501 1061), (0, u "(IILjava/util/function/BiFunction;)I"), (0, .methodref 1054 1063), (0, .nameAndType 513 1064), (0, u "(IIILjava/util/function/BiFunction;)I"), (36, u "serialPersistentFields"), (0, u "[Ljava/io/ObjectStreamField;"), (0, .class_ 1104), (0, u "java/lang/String$CaseInsensitiveComparator"), (1, .class_ 1107), (0, u "java/io/Serializable"), (0, .class_ 1109), (0, u "java/lang/Comparable"), (0, .class_ 1111), (0, u "java/lang/constant/Constable"), (0, .class_ 1113), (0, u "java/lang/constant/ConstantDesc"), (2, u "serialVersionUID"), (0, u "J"), (3, u "REPL"), (0, u "C"), (2, u "LATIN1"), (1, u "UTF16")] 323

def k7m0 : Method := { name := "<init>", desc := "()V", sig := { parameters := [], returnType := none }, accessFlags := 1, code := none }
def k7c1 : Code := { maxStack := 5, maxLocals := 2, code := jdk_42_method_3_code, exceptionTable := #[], attributes := #[] }
def k7m1 : Method := { name := "<init>", desc := "([C)V", sig := { parameters := [(.array .char)], returnType := none }, accessFlags := 1, code := some k7c1 }
def k7c2 : Code := { maxStack := 2, maxLocals := 1, code := jdk_42_method_54_code, exceptionTable := #[], attributes := #[] }
def k7m2 : Method := { name := "length", desc := "()I", sig := { parameters := [], returnType := some .int }, accessFlags := 1, code := some k7c2 }
def k7c3 : Code := { maxStack := 2, maxLocals := 2, code := jdk_42_method_56_code, exceptionTable := #[], attributes := #[] }
def k7m3 : Method := { name := "charAt", desc := "(I)C", sig := { parameters := [.int], returnType := some .char }, accessFlags := 1, code := some k7c3 }
def k7c4 : Code := { maxStack := 3, maxLocals := 2, code := jdk_42_method_79_code, exceptionTable := #[], attributes := #[] }
def k7m4 : Method := { name := "indexOf", desc := "(I)I", sig := { parameters := [.int], returnType := some .int }, accessFlags := 1, code := some k7c4 }
def k7c5 : Code := { maxStack := 4, maxLocals := 3, code := jdk_42_method_80_code, exceptionTable := #[], attributes := #[] }
def k7m5 : Method := { name := "indexOf", desc := "(II)I", sig := { parameters := [.int, .int], returnType := some .int }, accessFlags := 1, code := some k7c5 }
def k7c6 : Code := { maxStack := 3, maxLocals := 2, code := jdk_42_method_91_code, exceptionTable := #[], attributes := #[] }
def k7m6 : Method := { name := "substring", desc := "(I)Ljava/lang/String;", sig := { parameters := [.int], returnType := some (.object "java/lang/String") }, accessFlags := 1, code := some k7c6 }
def k7c7 : Code := { maxStack := 3, maxLocals := 5, code := jdk_42_method_92_code, exceptionTable := #[], attributes := #[] }
def k7m7 : Method := { name := "substring", desc := "(II)Ljava/lang/String;", sig := { parameters := [.int, .int], returnType := some (.object "java/lang/String") }, accessFlags := 1, code := some k7c7 }
def k7c8 : Code := { maxStack := 4, maxLocals := 6, code := jdk_42_method_149_code, exceptionTable := #[], attributes := #[] }
def k7m8 : Method := { name := "<init>", desc := "([CIILjava/lang/Void;)V", sig := { parameters := [(.array .char), .int, .int, (.object "java/lang/Void")], returnType := none }, accessFlags := 2, code := some k7c8 }
def k7c9 : Code := { maxStack := 2, maxLocals := 3, code := jdk_42_method_151_code, exceptionTable := #[], attributes := #[] }
def k7m9 : Method := { name := "<init>", desc := "([BB)V", sig := { parameters := [(.array .byte), .byte], returnType := none }, accessFlags := 0, code := some k7c9 }
def k7c10 : Code := { maxStack := 1, maxLocals := 1, code := jdk_42_method_152_code, exceptionTable := #[], attributes := #[] }
def k7m10 : Method := { name := "coder", desc := "()B", sig := { parameters := [], returnType := some .byte }, accessFlags := 0, code := some k7c10 }
def k7c11 : Code := { maxStack := 1, maxLocals := 1, code := jdk_42_method_154_code, exceptionTable := #[], attributes := #[] }
def k7m11 : Method := { name := "isLatin1", desc := "()Z", sig := { parameters := [], returnType := some .boolean }, accessFlags := 0, code := some k7c11 }
def k7c12 : Code := { maxStack := 3, maxLocals := 2, code := jdk_42_method_155_code, exceptionTable := #[], attributes := #[] }
def k7m12 : Method := { name := "checkIndex", desc := "(II)V", sig := { parameters := [.int, .int], returnType := none }, accessFlags := 8, code := some k7c12 }
def k7c13 : Code := { maxStack := 4, maxLocals := 3, code := jdk_42_method_158_code, exceptionTable := #[], attributes := #[] }
def k7m13 : Method := { name := "checkBoundsBeginEnd", desc := "(III)V", sig := { parameters := [.int, .int, .int], returnType := none }, accessFlags := 8, code := some k7c13 }
/-- java/lang/String -/
def k7 : Class := { plain "java/lang/String" (some 0) with
  accessFlags := 49
  interfaces := #[2, 3, 4, 5, 6]
  cf := some (fileOf pool7 10 #[.nestMembers #[1103]] #[{ accessFlags := 1, nameIndex := 5, descriptorIndex := 6, attributes := #[] }, { accessFlags := 1, nameIndex := 5, descriptorIndex := 1010, attributes := #[] }, { accessFlags := 1, nameIndex := 507, descriptorIndex := 334, attributes := #[] }, { accessFlags := 1, nameIndex := 497, descriptorIndex := 427, attributes := #[] }, { accessFlags := 1, nameIndex := 635, descriptorIndex := 765, attributes := #[] }, { accessFlags := 1, nameIndex := 635, descriptorIndex := 636, attributes := #[] }, { accessFlags := 1, nameIndex := 683, descriptorIndex := 892, attributes := #[] }, { accessFlags := 1, nameIndex := 683, descriptorIndex := 684, attributes := #[] }, { accessFlags := 2, nameIndex := 5, descriptorIndex := 29, attributes := #[] }, { accessFlags := 0, nameIndex := 5, descriptorIndex := 211, attributes := #[] }, { accessFlags := 0, nameIndex := 17, descriptorIndex := 337, attributes := #[] }, { accessFlags := 0, nameIndex := 494, descriptorIndex := 142, attributes := #[] }, { accessFlags := 8, nameIndex := 501, descriptorIndex := 391, attributes := #[] }, { accessFlags := 8, nameIndex := 523, descriptorIndex := 524, attributes := #[] }] 49 2 #[1106, 1108, 575, 1110, 1112] #[{ accessFlags := 18, nameIndex := 13, descriptorIndex := 14, attributes := #[] }, { accessFlags := 18, nameIndex := 17, descriptorIndex := 18, attributes := #[] }, { accessFlags := 2, nameIndex := 21, descriptorIndex := 22, attributes := #[] }, { accessFlags := 2, nameIndex := 25, descriptorIndex := 26, attributes := #[] }, { accessFlags := 26, nameIndex := 1116, descriptorIndex := 1117, attributes := #[] }, { accessFlags := 24, nameIndex := 40, descriptorIndex := 26, attributes := #[] }, { accessFlags := 26, nameIndex := 1101, descriptorIndex := 1102, attributes := #[] }, { accessFlags := 26, nameIndex := 1121, descriptorIndex := 1122, attributes := #[] }, { accessFlags := 25, nameIndex := 599, descriptorIndex := 600, attributes := #[] }, { accessFlags := 24, nameIndex := 1125, descriptorIndex := 18, attributes := #[] }, { accessFlags := 24, nameIndex := 1127, descriptorIndex := 18, attributes := #[] }])
  fields := #[{ name := "value", type := (.array .byte), accessFlags := 18, slot := 0, constantValue := 0 }, { name := "coder", type := .byte, accessFlags := 18, slot := 1, constantValue := 0 }, { name := "hash", type := .int, accessFlags := 2, slot := 2, constantValue := 0 }, { name := "hashIsZero", type := .boolean, accessFlags := 2, slot := 3, constantValue := 0 }, { name := "serialVersionUID", type := .long, accessFlags := 26, slot := 0, constantValue := 0 }, { name := "COMPACT_STRINGS", type := .boolean, accessFlags := 24, slot := 1, constantValue := 0 }, { name := "serialPersistentFields", type := (.array (.object "java/io/ObjectStreamField")), accessFlags := 26, slot := 2, constantValue := 0 }, { name := "REPL", type := .char, accessFlags := 26, slot := 3, constantValue := 0 }, { name := "CASE_INSENSITIVE_ORDER", type := (.object "java/util/Comparator"), accessFlags := 25, slot := 4, constantValue := 0 }, { name := "LATIN1", type := .byte, accessFlags := 24, slot := 5, constantValue := 0 }, { name := "UTF16", type := .byte, accessFlags := 24, slot := 6, constantValue := 0 }]
  methods := #[k7m0, k7m1, k7m2, k7m3, k7m4, k7m5, k7m6, k7m7, k7m8, k7m9, k7m10, k7m11, k7m12, k7m13]
  instanceTypes := #[(.array .byte), .byte, .int, .boolean]
  staticTypes := #[.long, .boolean, (.array (.object "java/io/ObjectStreamField")), .char, (.object "java/util/Comparator"), .byte, .byte]
  resolved := Array.replicate 1451 none
  statics := some 0 }

def pool8 : Array CpInfo := pool [(6, .class_ 8), (1, u "java/lang/Object"), (0, u "<init>"), (0, u "()V"), (1, .class_ 14), (1, u "java/lang/StringUTF16"), (31, u "$assertionsDisabled"), (0, u "Z"), (13, u "HI_BYTE_SHIFT"), (0, u "I"), (2, u "LO_BYTE_SHIFT"), (49, .methodref 12 116), (0, .nameAndType 117 118), (0, u "compress"), (0, u "([CI[BII)I"), (3, u "([CII)[B"), (138, u "coderFromArrayLen"), (0, u "([BI)B"), (106, .class_ 371), (1, u "java/lang/StringUTF16$LinesSpliterator"), (58, u "MAX_LENGTH"), (196, .class_ 628), (0, u "java/lang/StringUTF16$CodePointsSpliterator"), (0, .class_ 630), (0, u "java/lang/StringUTF16$CharsSpliterator")] 4

def k8m0 : Method := { name := "<init>", desc := "()V", sig := { parameters := [], returnType := none }, accessFlags := 0, code := none }
def k8c1 : Code := { maxStack := 2, maxLocals := 2, code := jdk_52_method_15_code, exceptionTable := #[], attributes := #[] }
def k8m1 : Method := { name := "coderFromArrayLen", desc := "([BI)B", sig := { parameters := [(.array .byte), .int], returnType := some .byte }, accessFlags := 8, code := some k8c1 }
def k8c2 : Code := { maxStack := 5, maxLocals := 6, code := jdk_52_method_16_code, exceptionTable := #[], attributes := #[] }
def k8m2 : Method := { name := "compress", desc := "([CII)[B", sig := { parameters := [(.array .char), .int, .int], returnType := some (.array .byte) }, accessFlags := 9, code := some k8c2 }
def k8c3 : Code := { maxStack := 3, maxLocals := 7, code := jdk_52_method_21_code, exceptionTable := #[], attributes := #[] }
def k8m3 : Method := { name := "compress", desc := "([CI[BII)I", sig := { parameters := [(.array .char), .int, (.array .byte), .int, .int], returnType := some .int }, accessFlags := 9, code := some k8c3 }
/-- java/lang/StringUTF16 -/
def k8 : Class := { plain "java/lang/StringUTF16" (some 0) with
  accessFlags := 48
  interfaces := #[]
  cf := some (fileOf pool8 12 #[.nestMembers #[627, 629, 369]] #[{ accessFlags := 0, nameIndex := 9, descriptorIndex := 10, attributes := #[] }, { accessFlags := 8, nameIndex := 261, descriptorIndex := 262, attributes := #[] }, { accessFlags := 9, nameIndex := 117, descriptorIndex := 122, attributes := #[] }, { accessFlags := 9, nameIndex := 117, descriptorIndex := 118, attributes := #[] }] 48 6 #[] #[{ accessFlags := 26, nameIndex := 61, descriptorIndex := 62, attributes := #[] }, { accessFlags := 26, nameIndex := 65, descriptorIndex := 62, attributes := #[] }, { accessFlags := 24, nameIndex := 430, descriptorIndex := 62, attributes := #[] }, { accessFlags := 4120, nameIndex := 46, descriptorIndex := 47, attributes := #[] }])
  fields := #[{ name := "HI_BYTE_SHIFT", type := .int, accessFlags := 26, slot := 0, constantValue := 0 }, { name := "LO_BYTE_SHIFT", type := .int, accessFlags := 26, slot := 1, constantValue := 0 }, { name := "MAX_LENGTH", type := .int, accessFlags := 24, slot := 2, constantValue := 0 }, { name := "$assertionsDisabled", type := .boolean, accessFlags := 4120, slot := 3, constantValue := 0 }]
  methods := #[k8m0, k8m1, k8m2, k8m3]
  instanceTypes := #[]
  staticTypes := #[.int, .int, .int, .boolean]
  resolved := Array.replicate 635 none
  statics := none }

def pool9 : Array CpInfo := pool [(2, .class_ 4), (1, u "java/lang/Object"), (0, u "<init>"), (0, u "()V"), (1, .class_ 10), (1, u "java/lang/String"), (2, .class_ 14), (0, u "com/example/slow_digest/slowdigest/rules/MailAddress"), (0, .methodref 8 16), (0, .nameAndType 17 18), (0, u "indexOf"), (0, u "(I)I"), (18, .methodref 8 38), (0, .nameAndType 39 40), (0, u "substring"), (0, u "(I)Ljava/lang/String;"), (0, u "MAX_LENGTH"), (0, u "I"), (2, u "SPECIALS"), (0, u "Ljava/lang/String;"), (4, u "domain"), (0, u "(Ljava/lang/String;)Ljava/lang/String;")] 17

def k9m0 : Method := { name := "<init>", desc := "()V", sig := { parameters := [], returnType := none }, accessFlags := 2, code := none }
def k9c1 : Code := { maxStack := 3, maxLocals := 1, code := prog_21_method_3_code, exceptionTable := #[], attributes := #[] }
def k9m1 : Method := { name := "domain", desc := "(Ljava/lang/String;)Ljava/lang/String;", sig := { parameters := [(.object "java/lang/String")], returnType := some (.object "java/lang/String") }, accessFlags := 9, code := some k9c1 }
/-- com/example/slow_digest/slowdigest/rules/MailAddress -/
def k9 : Class := { plain "com/example/slow_digest/slowdigest/rules/MailAddress" (some 0) with
  accessFlags := 33
  interfaces := #[]
  cf := some (fileOf pool9 13 #[] #[{ accessFlags := 2, nameIndex := 5, descriptorIndex := 6, attributes := #[] }, { accessFlags := 9, nameIndex := 51, descriptorIndex := 52, attributes := #[] }] 33 2 #[] #[{ accessFlags := 26, nameIndex := 41, descriptorIndex := 42, attributes := #[] }, { accessFlags := 26, nameIndex := 45, descriptorIndex := 46, attributes := #[] }])
  fields := #[{ name := "MAX_LENGTH", type := .int, accessFlags := 26, slot := 0, constantValue := 0 }, { name := "SPECIALS", type := (.object "java/lang/String"), accessFlags := 26, slot := 1, constantValue := 0 }]
  methods := #[k9m0, k9m1]
  instanceTypes := #[]
  staticTypes := #[.int, (.object "java/lang/String")]
  resolved := Array.replicate 70 none
  statics := none }

def pool10 : Array CpInfo := pool [(1, .class_ 2), (0, u "java/lang/String"), (1, .class_ 6), (1, u "java/lang/Object"), (0, u "<init>"), (0, u "()V"), (0, .methodref 1 10), (0, .nameAndType 11 12), (0, u "checkIndex"), (0, u "(II)V"), (1, .class_ 16), (1, u "java/lang/StringLatin1"), (21, .methodref 39 40), (0, .class_ 41), (0, .nameAndType 42 43), (0, u "java/lang/Math"), (0, u "min"), (0, u "(II)I"), (9, u "([BI)C"), (34, .methodref 14 89), (0, .nameAndType 90 91), (0, u "canEncode"), (0, u "(I)Z"), (0, .methodref 39 93), (0, .nameAndType 94 43), (0, u "max"), (0, .methodref 14 96), (0, .nameAndType 97 98), (0, u "indexOfChar"), (0, u "([BIII)I"), (2, u "indexOf"), (10, .methodref 1 113), (0, .nameAndType 7 114), (0, u "([BB)V"), (6, u "$assertionsDisabled"), (0, u "Z"), (8, .class_ 133), (1, u "java/util/Arrays"), (62, u "newString"), (0, u "([BII)Ljava/lang/String;"), (23, .class_ 223), (1, u "java/lang/StringLatin1$LinesSpliterator"), (8, .methodref 131 233), (0, .nameAndType 234 235), (0, u "copyOfRange"), (0, u "([BII)[B"), (16, u "charAt"), (137, .class_ 391), (0, u "java/lang/StringLatin1$CharsSpliterator")] 3

def k10m0 : Method := { name := "<init>", desc := "()V", sig := { parameters := [], returnType := none }, accessFlags := 0, code := none }
def k10c1 : Code := { maxStack := 2, maxLocals := 2, code := jdk_43_method_2_code, exceptionTable := #[], attributes := #[] }
def k10m1 : Method := { name := "charAt", desc := "([BI)C", sig := { parameters := [(.array .byte), .int], returnType := some .char }, accessFlags := 9, code := some k10c1 }
def k10c2 : Code := { maxStack := 2, maxLocals := 1, code := jdk_43_method_4_code, exceptionTable := #[], attributes := #[] }
def k10m2 : Method := { name := "canEncode", desc := "(I)Z", sig := { parameters := [.int], returnType := some .boolean }, accessFlags := 9, code := some k10c2 }
def k10c3 : Code := { maxStack := 4, maxLocals := 4, code := jdk_43_method_22_code, exceptionTable := #[], attributes := #[] }
def k10m3 : Method := { name := "indexOf", desc := "([BIII)I", sig := { parameters := [(.array .byte), .int, .int, .int], returnType := some .int }, accessFlags := 9, code := some k10c3 }
def k10c4 : Code := { maxStack := 2, maxLocals := 6, code := jdk_43_method_23_code, exceptionTable := #[], attributes := #[] }
def k10m4 : Method := { name := "indexOfChar", desc := "([BIII)I", sig := { parameters := [(.array .byte), .int, .int, .int], returnType := some .int }, accessFlags := 10, code := some k10c4 }
def k10c5 : Code := { maxStack := 6, maxLocals := 3, code := jdk_43_method_47_code, exceptionTable := #[], attributes := #[] }
def k10m5 : Method := { name := "newString", desc := "([BII)Ljava/lang/String;", sig := { parameters := [(.array .byte), .int, .int], returnType := some (.object "java/lang/String") }, accessFlags := 9, code := some k10c5 }
/-- java/lang/StringLatin1 -/
def k10 : Class := { plain "java/lang/StringLatin1" (some 0) with
  accessFlags := 48
  interfaces := #[]
  cf := some (fileOf pool10 14 #[.nestMembers #[390, 221]] #[{ accessFlags := 0, nameIndex := 7, descriptorIndex := 8, attributes := #[] }, { accessFlags := 9, nameIndex := 252, descriptorIndex := 53, attributes := #[] }, { accessFlags := 9, nameIndex := 90, descriptorIndex := 91, attributes := #[] }, { accessFlags := 9, nameIndex := 101, descriptorIndex := 98, attributes := #[] }, { accessFlags := 10, nameIndex := 97, descriptorIndex := 98, attributes := #[] }, { accessFlags := 9, nameIndex := 196, descriptorIndex := 197, attributes := #[] }] 48 4 #[] #[{ accessFlags := 4120, nameIndex := 121, descriptorIndex := 122, attributes := #[] }])
  fields := #[{ name := "$assertionsDisabled", type := .boolean, accessFlags := 4120, slot := 0, constantValue := 0 }]
  methods := #[k10m0, k10m1, k10m2, k10m3, k10m4, k10m5]
  instanceTypes := #[]
  staticTypes := #[.boolean]
  resolved := Array.replicate 395 none
  statics := none }

def pool11 : Array CpInfo := pool [(1, .class_ 2), (0, u "java/lang/Math"), (1, .class_ 6), (1, u "java/lang/Object"), (0, u "<init>"), (0, u "()V"), (89, .class_ 100), (1, u "java/lang/Math$RandomNumberGeneratorHolder"), (71, u "negativeZeroFloatBits"), (0, u "J"), (2, u "negativeZeroDoubleBits"), (21, u "max"), (2, u "min"), (43, u "$assertionsDisabled"), (0, u "Z"), (88, u "(II)I"), (2, u "twoToTheDoubleScaleDown"), (0, u "D"), (4, u "twoToTheDoubleScaleUp"), (9, u "E"), (3, u "PI"), (2, u "TAU"), (2, u "DEGREES_TO_RADIANS"), (0, u "RADIANS_TO_DEGREES")] 94

def k11m0 : Method := { name := "<init>", desc := "()V", sig := { parameters := [], returnType := none }, accessFlags := 2, code := none }
def k11c1 : Code := { maxStack := 2, maxLocals := 2, code := jdk_29_method_65_code, exceptionTable := #[], attributes := #[] }
def k11m1 : Method := { name := "max", desc := "(II)I", sig := { parameters := [.int, .int], returnType := some .int }, accessFlags := 9, code := some k11c1 }
def k11c2 : Code := { maxStack := 2, maxLocals := 2, code := jdk_29_method_69_code, exceptionTable := #[], attributes := #[] }
def k11m2 : Method := { name := "min", desc := "(II)I", sig := { parameters := [.int, .int], returnType := some .int }, accessFlags := 9, code := some k11c2 }
/-- java/lang/Math -/
def k11 : Class := { plain "java/lang/Math" (some 0) with
  accessFlags := 49
  interfaces := #[]
  cf := some (fileOf pool11 1 #[.nestMembers #[98]] #[{ accessFlags := 2, nameIndex := 7, descriptorIndex := 8, attributes := #[] }, { accessFlags := 9, nameIndex := 198, descriptorIndex := 335, attributes := #[] }, { accessFlags := 9, nameIndex := 201, descriptorIndex := 335, attributes := #[] }] 49 4 #[] #[{ accessFlags := 25, nameIndex := 354, descriptorIndex := 339, attributes := #[] }, { accessFlags := 25, nameIndex := 358, descriptorIndex := 339, attributes := #[] }, { accessFlags := 25, nameIndex := 361, descriptorIndex := 339, attributes := #[] }, { accessFlags := 26, nameIndex := 364, descriptorIndex := 339, attributes := #[] }, { accessFlags := 26, nameIndex := 365, descriptorIndex := 339, attributes := #[] }, { accessFlags := 26, nameIndex := 172, descriptorIndex := 173, attributes := #[] }, { accessFlags := 26, nameIndex := 176, descriptorIndex := 173, attributes := #[] }, { accessFlags := 8, nameIndex := 344, descriptorIndex := 339, attributes := #[] }, { accessFlags := 8, nameIndex := 338, descriptorIndex := 339, attributes := #[] }, { accessFlags := 4120, nameIndex := 245, descriptorIndex := 246, attributes := #[] }])
  fields := #[{ name := "E", type := .double, accessFlags := 25, slot := 0, constantValue := 0 }, { name := "PI", type := .double, accessFlags := 25, slot := 1, constantValue := 0 }, { name := "TAU", type := .double, accessFlags := 25, slot := 2, constantValue := 0 }, { name := "DEGREES_TO_RADIANS", type := .double, accessFlags := 26, slot := 3, constantValue := 0 }, { name := "RADIANS_TO_DEGREES", type := .double, accessFlags := 26, slot := 4, constantValue := 0 }, { name := "negativeZeroFloatBits", type := .long, accessFlags := 26, slot := 5, constantValue := 0 }, { name := "negativeZeroDoubleBits", type := .long, accessFlags := 26, slot := 6, constantValue := 0 }, { name := "twoToTheDoubleScaleUp", type := .double, accessFlags := 8, slot := 7, constantValue := 0 }, { name := "twoToTheDoubleScaleDown", type := .double, accessFlags := 8, slot := 8, constantValue := 0 }, { name := "$assertionsDisabled", type := .boolean, accessFlags := 4120, slot := 9, constantValue := 0 }]
  methods := #[k11m0, k11m1, k11m2]
  instanceTypes := #[]
  staticTypes := #[.double, .double, .double, .double, .double, .long, .long, .double, .double, .boolean]
  resolved := Array.replicate 460 none
  statics := none }

def pool12 : Array CpInfo := pool [(2, .class_ 4), (1, u "java/lang/Object"), (0, u "<init>"), (0, u "()V"), (17, .class_ 26), (1, u "jdk/internal/util/Preconditions"), (6, u "checkIndex"), (13, u "checkFromToIndex"), (7, .class_ 56), (0, u "jdk/internal/util/Preconditions$4"), (57, .class_ 115), (0, u "jdk/internal/util/Preconditions$1"), (7, u "SIOOBE_FORMATTER"), (0, u "Ljava/util/function/BiFunction;"), (0, .class_ 126), (0, u "jdk/internal/util/Preconditions$2"), (3, u "AIOOBE_FORMATTER"), (0, .class_ 132), (0, u "jdk/internal/util/Preconditions$3"), (3, u "IOOBE_FORMATTER"), (41, u "(IILjava/util/function/BiFunction;)I"), (4, u "(IIILjava/util/function/BiFunction;)I")] 10

def k12m0 : Method := { name := "<init>", desc := "()V", sig := { parameters := [], returnType := none }, accessFlags := 1, code := none }
def k12c1 : Code := { maxStack := 3, maxLocals := 3, code := jdk_41_method_11_code, exceptionTable := #[], attributes := #[] }
def k12m1 : Method := { name := "checkIndex", desc := "(IILjava/util/function/BiFunction;)I", sig := { parameters := [.int, .int, (.object "java/util/function/BiFunction")], returnType := some .int }, accessFlags := 9, code := some k12c1 }
def k12c2 : Code := { maxStack := 4, maxLocals := 4, code := jdk_41_method_12_code, exceptionTable := #[], attributes := #[] }
def k12m2 : Method := { name := "checkFromToIndex", desc := "(IIILjava/util/function/BiFunction;)I", sig := { parameters := [.int, .int, .int, (.object "java/util/function/BiFunction")], returnType := some .int }, accessFlags := 9, code := some k12c2 }
/-- jdk/internal/util/Preconditions -/
def k12 : Class := { plain "jdk/internal/util/Preconditions" (some 0) with
  accessFlags := 33
  interfaces := #[]
  cf := some (fileOf pool12 24 #[.nestMembers #[55, 131, 125, 114]] #[{ accessFlags := 1, nameIndex := 5, descriptorIndex := 6, attributes := #[] }, { accessFlags := 9, nameIndex := 33, descriptorIndex := 178, attributes := #[] }, { accessFlags := 9, nameIndex := 47, descriptorIndex := 183, attributes := #[] }] 33 2 #[] #[{ accessFlags := 25, nameIndex := 123, descriptorIndex := 124, attributes := #[] }, { accessFlags := 25, nameIndex := 130, descriptorIndex := 124, attributes := #[] }, { accessFlags := 25, nameIndex := 136, descriptorIndex := 124, attributes := #[] }])
  fields := #[{ name := "SIOOBE_FORMATTER", type := (.object "java/util/function/BiFunction"), accessFlags := 25, slot := 0, constantValue := 0 }, { name := "AIOOBE_FORMATTER", type := (.object "java/util/function/BiFunction"), accessFlags := 25, slot := 1, constantValue := 0 }, { name := "IOOBE_FORMATTER", type := (.object "java/util/function/BiFunction"), accessFlags := 25, slot := 2, constantValue := 0 }]
  methods := #[k12m0, k12m1, k12m2]
  instanceTypes := #[]
  staticTypes := #[(.object "java/util/function/BiFunction"), (.object "java/util/function/BiFunction"), (.object "java/util/function/BiFunction")]
  resolved := Array.replicate 194 none
  statics := some 1 }

def pool13 : Array CpInfo := pool [(2, .class_ 4), (1, u "java/lang/Object"), (0, u "<init>"), (0, u "()V"), (7, .class_ 16), (1, u "java/util/Arrays"), (57, .class_ 76), (1, u "java/util/Arrays$NaturalOrder"), (36, .class_ 115), (1, u "java/util/Arrays$LegacyMergeSort"), (1, u "Z"), (21, u "copyOfRange"), (10, .methodref 151 152), (0, .class_ 153), (0, .nameAndType 154 155), (0, u "java/lang/System"), (0, u "arraycopy"), (0, u "(Ljava/lang/Object;ILjava/lang/Object;II)V"), (148, .methodref 305 306), (0, .class_ 307), (0, .nameAndType 308 309), (0, u "java/lang/Math"), (0, u "min"), (0, u "(II)I"), (29, .methodref 14 340), (0, .nameAndType 341 342), (0, u "copyOfRangeByte"), (0, u "([BII)[B"), (0, .methodref 14 344), (0, .nameAndType 345 346), (0, u "checkLength"), (0, u "(II)V"), (28, .class_ 376), (0, u "java/util/Arrays$ArrayList"), (68, u "$assertionsDisabled"), (269, u "MIN_ARRAY_SORT_GRAN"), (0, u "I"), (2, u "INSERTIONSORT_THRESHOLD"), (255, .class_ 976), (0, u "java/util/Arrays$ArrayItr")] 52

def k13m0 : Method := { name := "<init>", desc := "()V", sig := { parameters := [], returnType := none }, accessFlags := 2, code := none }
def k13c1 : Code := { maxStack := 4, maxLocals := 2, code := jdk_65_method_131_code, exceptionTable := #[], attributes := #[] }
def k13m1 : Method := { name := "checkLength", desc := "(II)V", sig := { parameters := [.int, .int], returnType := none }, accessFlags := 10, code := some k13c1 }
def k13c2 : Code := { maxStack := 3, maxLocals := 3, code := jdk_65_method_132_code, exceptionTable := #[], attributes := #[] }
def k13m2 : Method := { name := "copyOfRange", desc := "([BII)[B", sig := { parameters := [(.array .byte), .int, .int], returnType := some (.array .byte) }, accessFlags := 9, code := some k13c2 }
def k13c3 : Code := { maxStack := 6, maxLocals := 5, code := jdk_65_method_133_code, exceptionTable := #[], attributes := #[] }
def k13m3 : Method := { name := "copyOfRangeByte", desc := "([BII)[B", sig := { parameters := [(.array .byte), .int, .int], returnType := some (.array .byte) }, accessFlags := 10, code := some k13c3 }
/-- java/util/Arrays -/
def k13 : Class := { plain "java/util/Arrays" (some 0) with
  accessFlags := 49
  interfaces := #[]
  cf := some (fileOf pool13 14 #[.nestMembers #[975, 375, 113, 74]] #[{ accessFlags := 2, nameIndex := 5, descriptorIndex := 6, attributes := #[] }, { accessFlags := 10, nameIndex := 345, descriptorIndex := 346, attributes := #[] }, { accessFlags := 9, nameIndex := 139, descriptorIndex := 342, attributes := #[] }, { accessFlags := 10, nameIndex := 341, descriptorIndex := 342, attributes := #[] }] 49 2 #[] #[{ accessFlags := 26, nameIndex := 715, descriptorIndex := 716, attributes := #[] }, { accessFlags := 26, nameIndex := 719, descriptorIndex := 716, attributes := #[] }, { accessFlags := 4120, nameIndex := 445, descriptorIndex := 117, attributes := #[] }])
  fields := #[{ name := "MIN_ARRAY_SORT_GRAN", type := .int, accessFlags := 26, slot := 0, constantValue := 0 }, { name := "INSERTIONSORT_THRESHOLD", type := .int, accessFlags := 26, slot := 1, constantValue := 0 }, { name := "$assertionsDisabled", type := .boolean, accessFlags := 4120, slot := 2, constantValue := 0 }]
  methods := #[k13m0, k13m1, k13m2, k13m3]
  instanceTypes := #[]
  staticTypes := #[.int, .int, .boolean]
  resolved := Array.replicate 1029 none
  statics := none }

def pool14 : Array CpInfo := pool [(2, .class_ 4), (1, u "java/lang/Object"), (0, u "<init>"), (0, u "()V"), (1, .class_ 10), (1, u "java/lang/System"), (0, u "allowSecurityManager"), (0, u "I"), (16, u "cons"), (0, u "Ljava/io/Console;"), (77, .class_ 110), (1, u "java/lang/System$CallersHolder"), (43, u "initialErrStream"), (0, u "Ljava/io/PrintStream;"), (19, u "security"), (0, u "Ljava/lang/SecurityManager;"), (31, .class_ 209), (0, u "java/lang/System$1"), (7, u "props"), (0, u "Ljava/util/Properties;"), (2, u "lineSeparator"), (0, u "Ljava/lang/String;"), (96, .class_ 321), (1, u "java/lang/System$LoggerFinder"), (5, .class_ 328), (0, u "java/lang/System$Logger"), (67, u "err"), (2, u "out"), (91, u "notSupportedJnuEncoding"), (15, u "in"), (17, u "initialIn"), (0, u "Ljava/io/InputStream;"), (35, u "bootLayer"), (0, u "Ljava/lang/ModuleLayer;"), (99, .class_ 664), (0, u "java/lang/System$2"), (9, u "NEVER"), (2, u "MAYBE"), (49, u "arraycopy"), (0, u "(Ljava/lang/Object;ILjava/lang/Object;II)V"), (72, .class_ 802), (0, u "java/lang/System$Logger$Level")] 31

def k14m0 : Method := { name := "<init>", desc := "()V", sig := { parameters := [], returnType := none }, accessFlags := 2, code := none }
def k14m1 : Method := { name := "arraycopy", desc := "(Ljava/lang/Object;ILjava/lang/Object;II)V", sig := { parameters := [(.object "java/lang/Object"), .int, (.object "java/lang/Object"), .int, .int], returnType := none }, accessFlags := 265, code := none }
/-- java/lang/System -/
def k14 : Class := { plain "java/lang/System" (some 0) with
  accessFlags := 49
  interfaces := #[]
  cf := some (fileOf pool14 8 #[.nestMembers #[319, 327, 801, 108, 663, 208]] #[{ accessFlags := 2, nameIndex := 5, descriptorIndex := 6, attributes := #[] }, { accessFlags := 265, nameIndex := 727, descriptorIndex := 728, attributes := #[] }] 49 2 #[] #[{ accessFlags := 25, nameIndex := 507, descriptorIndex := 526, attributes := #[] }, { accessFlags := 25, nameIndex := 399, descriptorIndex := 155, attributes := #[] }, { accessFlags := 25, nameIndex := 396, descriptorIndex := 155, attributes := #[] }, { accessFlags := 10, nameIndex := 525, descriptorIndex := 526, attributes := #[] }, { accessFlags := 26, nameIndex := 674, descriptorIndex := 12, attributes := #[] }, { accessFlags := 26, nameIndex := 677, descriptorIndex := 12, attributes := #[] }, { accessFlags := 10, nameIndex := 11, descriptorIndex := 12, attributes := #[] }, { accessFlags := 74, nameIndex := 175, descriptorIndex := 176, attributes := #[] }, { accessFlags := 10, nameIndex := 491, descriptorIndex := 222, attributes := #[] }, { accessFlags := 74, nameIndex := 29, descriptorIndex := 30, attributes := #[] }, { accessFlags := 74, nameIndex := 154, descriptorIndex := 155, attributes := #[] }, { accessFlags := 10, nameIndex := 217, descriptorIndex := 218, attributes := #[] }, { accessFlags := 10, nameIndex := 221, descriptorIndex := 222, attributes := #[] }, { accessFlags := 8, nameIndex := 562, descriptorIndex := 563, attributes := #[] }])
  fields := #[{ name := "in", type := (.object "java/io/InputStream"), accessFlags := 25, slot := 0, constantValue := 0 }, { name := "out", type := (.object "java/io/PrintStream"), accessFlags := 25, slot := 1, constantValue := 0 }, { name := "err", type := (.object "java/io/PrintStream"), accessFlags := 25, slot := 2, constantValue := 0 }, { name := "initialIn", type := (.object "java/io/InputStream"), accessFlags := 10, slot := 3, constantValue := 0 }, { name := "NEVER", type := .int, accessFlags := 26, slot := 4, constantValue := 0 }, { name := "MAYBE", type := .int, accessFlags := 26, slot := 5, constantValue := 0 }, { name := "allowSecurityManager", type := .int, accessFlags := 10, slot := 6, constantValue := 0 }, { name := "security", type := (.object "java/lang/SecurityManager"), accessFlags := 74, slot := 7, constantValue := 0 }, { name := "notSupportedJnuEncoding", type := (.object "java/lang/String"), accessFlags := 10, slot := 8, constantValue := 0 }, { name := "cons", type := (.object "java/io/Console"), accessFlags := 74, slot := 9, constantValue := 0 }, { name := "initialErrStream", type := (.object "java/io/PrintStream"), accessFlags := 74, slot := 10, constantValue := 0 }, { name := "props", type := (.object "java/util/Properties"), accessFlags := 10, slot := 11, constantValue := 0 }, { name := "lineSeparator", type := (.object "java/lang/String"), accessFlags := 10, slot := 12, constantValue := 0 }, { name := "bootLayer", type := (.object "java/lang/ModuleLayer"), accessFlags := 8, slot := 13, constantValue := 0 }]
  methods := #[k14m0, k14m1]
  instanceTypes := #[]
  staticTypes := #[(.object "java/io/InputStream"), (.object "java/io/PrintStream"), (.object "java/io/PrintStream"), (.object "java/io/InputStream"), .int, .int, .int, (.object "java/lang/SecurityManager"), (.object "java/lang/String"), (.object "java/io/Console"), (.object "java/io/PrintStream"), (.object "java/util/Properties"), (.object "java/lang/String"), (.object "java/lang/ModuleLayer")]
  resolved := Array.replicate 834 none
  statics := none }

def pool15 : Array CpInfo := pool [(9, u "<init>"), (6, .class_ 18), (1, u "java/lang/Object"), (0, u "()V"), (1, .class_ 23), (1, u "jdk/internal/util/ArraysSupport"), (0, u "LOG2_ARRAY_LONG_INDEX_SCALE"), (0, u "I"), (2, u "U"), (0, u "Ljdk/internal/misc/Unsafe;"), (8, u "BIG_ENDIAN"), (0, u "Z"), (8, u "LOG2_BYTE_BIT_SIZE"), (4, u "LOG2_ARRAY_INT_INDEX_SCALE"), (54, u "JLA"), (0, u "Ljdk/internal/access/JavaLangAccess;"), (11, u "LOG2_ARRAY_BOOLEAN_INDEX_SCALE"), (9, u "LOG2_ARRAY_BYTE_INDEX_SCALE"), (5, u "LOG2_ARRAY_CHAR_INDEX_SCALE"), (5, u "LOG2_ARRAY_SHORT_INDEX_SCALE"), (18, u "LOG2_ARRAY_FLOAT_INDEX_SCALE"), (24, u "LOG2_ARRAY_DOUBLE_INDEX_SCALE"), (89, u "T_BOOLEAN"), (2, u "T_CHAR"), (1, u "T_FLOAT"), (1, u "T_DOUBLE"), (1, u "T_BYTE"), (1, u "T_SHORT"), (1, u "T_INT"), (1, u "T_LONG"), (1, u "SOFT_MAX_ARRAY_LENGTH")] 83

def k15m0 : Method := { name := "<init>", desc := "()V", sig := { parameters := [], returnType := none }, accessFlags := 2, code := none }
/-- jdk/internal/util/ArraysSupport -/
def k15 : Class := { plain "jdk/internal/util/ArraysSupport" (some 0) with
  accessFlags := 33
  interfaces := #[]
  cf := some (fileOf pool15 21 #[] #[{ accessFlags := 2, nameIndex := 9, descriptorIndex := 19, attributes := #[] }] 33 16 #[] #[{ accessFlags := 24, nameIndex := 28, descriptorIndex := 29, attributes := #[] }, { accessFlags := 26, nameIndex := 38, descriptorIndex := 39, attributes := #[] }, { accessFlags := 25, nameIndex := 121, descriptorIndex := 25, attributes := #[] }, { accessFlags := 25, nameIndex := 131, descriptorIndex := 25, attributes := #[] }, { accessFlags := 25, nameIndex := 137, descriptorIndex := 25, attributes := #[] }, { accessFlags := 25, nameIndex := 143, descriptorIndex := 25, attributes := #[] }, { accessFlags := 25, nameIndex := 53, descriptorIndex := 25, attributes := #[] }, { accessFlags := 25, nameIndex := 24, descriptorIndex := 25, attributes := #[] }, { accessFlags := 25, nameIndex := 162, descriptorIndex := 25, attributes := #[] }, { accessFlags := 25, nameIndex := 187, descriptorIndex := 25, attributes := #[] }, { accessFlags := 26, nameIndex := 48, descriptorIndex := 25, attributes := #[] }, { accessFlags := 25, nameIndex := 277, descriptorIndex := 25, attributes := #[] }, { accessFlags := 25, nameIndex := 280, descriptorIndex := 25, attributes := #[] }, { accessFlags := 25, nameIndex := 282, descriptorIndex := 25, attributes := #[] }, { accessFlags := 25, nameIndex := 284, descriptorIndex := 25, attributes := #[] }, { accessFlags := 25, nameIndex := 286, descriptorIndex := 25, attributes := #[] }, { accessFlags := 25, nameIndex := 288, descriptorIndex := 25, attributes := #[] }, { accessFlags := 25, nameIndex := 290, descriptorIndex := 25, attributes := #[] }, { accessFlags := 25, nameIndex := 292, descriptorIndex := 25, attributes := #[] }, { accessFlags := 26, nameIndex := 108, descriptorIndex := 109, attributes := #[] }, { accessFlags := 25, nameIndex := 294, descriptorIndex := 25, attributes := #[] }])
  fields := #[{ name := "U", type := (.object "jdk/internal/misc/Unsafe"), accessFlags := 24, slot := 0, constantValue := 0 }, { name := "BIG_ENDIAN", type := .boolean, accessFlags := 26, slot := 1, constantValue := 0 }, { name := "LOG2_ARRAY_BOOLEAN_INDEX_SCALE", type := .int, accessFlags := 25, slot := 2, constantValue := 0 }, { name := "LOG2_ARRAY_BYTE_INDEX_SCALE", type := .int, accessFlags := 25, slot := 3, constantValue := 0 }, { name := "LOG2_ARRAY_CHAR_INDEX_SCALE", type := .int, accessFlags := 25, slot := 4, constantValue := 0 }, { name := "LOG2_ARRAY_SHORT_INDEX_SCALE", type := .int, accessFlags := 25, slot := 5, constantValue := 0 }, { name := "LOG2_ARRAY_INT_INDEX_SCALE", type := .int, accessFlags := 25, slot := 6, constantValue := 0 }, { name := "LOG2_ARRAY_LONG_INDEX_SCALE", type := .int, accessFlags := 25, slot := 7, constantValue := 0 }, { name := "LOG2_ARRAY_FLOAT_INDEX_SCALE", type := .int, accessFlags := 25, slot := 8, constantValue := 0 }, { name := "LOG2_ARRAY_DOUBLE_INDEX_SCALE", type := .int, accessFlags := 25, slot := 9, constantValue := 0 }, { name := "LOG2_BYTE_BIT_SIZE", type := .int, accessFlags := 26, slot := 10, constantValue := 0 }, { name := "T_BOOLEAN", type := .int, accessFlags := 25, slot := 11, constantValue := 0 }, { name := "T_CHAR", type := .int, accessFlags := 25, slot := 12, constantValue := 0 }, { name := "T_FLOAT", type := .int, accessFlags := 25, slot := 13, constantValue := 0 }, { name := "T_DOUBLE", type := .int, accessFlags := 25, slot := 14, constantValue := 0 }, { name := "T_BYTE", type := .int, accessFlags := 25, slot := 15, constantValue := 0 }, { name := "T_SHORT", type := .int, accessFlags := 25, slot := 16, constantValue := 0 }, { name := "T_INT", type := .int, accessFlags := 25, slot := 17, constantValue := 0 }, { name := "T_LONG", type := .int, accessFlags := 25, slot := 18, constantValue := 0 }, { name := "JLA", type := (.object "jdk/internal/access/JavaLangAccess"), accessFlags := 26, slot := 19, constantValue := 0 }, { name := "SOFT_MAX_ARRAY_LENGTH", type := .int, accessFlags := 25, slot := 20, constantValue := 0 }]
  methods := #[k15m0]
  instanceTypes := #[]
  staticTypes := #[(.object "jdk/internal/misc/Unsafe"), .boolean, .int, .int, .int, .int, .int, .int, .int, .int, .int, .int, .int, .int, .int, .int, .int, .int, .int, (.object "jdk/internal/access/JavaLangAccess"), .int]
  resolved := Array.replicate 378 none
  statics := none }

def pool16 : Array CpInfo := pool [(1, u "java/lang/Cloneable"), (0, .class_ 1), (0, u "java/lang/Object"), (0, .class_ 3)] 3

/-- java/lang/Cloneable -/
def k16 : Class := { plain "java/lang/Cloneable" (some 0) with
  accessFlags := 1537
  interfaces := #[]
  cf := some (fileOf pool16 2 #[] #[] 1537 4 #[] #[])
  fields := #[]
  methods := #[]
  instanceTypes := #[]
  staticTypes := #[]
  resolved := Array.replicate 8 none
  statics := none }

/-- the primitive byte -/
def k17 : Class := { plain "byte" none with kind := .primitive 'B', accessFlags := 0x411 }
/-- [B -/
def k18 : Class := { plain "[B" (some 0) with kind := .array 17 .byte, interfaces := #[16, 2], accessFlags := 1041 }

/-- the primitive char -/
def k19 : Class := { plain "char" none with kind := .primitive 'C', accessFlags := 0x411 }
/-- [C -/
def k20 : Class := { plain "[C" (some 0) with kind := .array 19 .char, interfaces := #[16, 2], accessFlags := 1041 }

/-- the primitive int -/
def k21 : Class := { plain "int" none with kind := .primitive 'I', accessFlags := 0x411 }
/-- [I -/
def k22 : Class := { plain "[I" (some 0) with kind := .array 21 .int, interfaces := #[16, 2], accessFlags := 1041 }

def heap : Heap := #[{ cls := 7, slots := #[.long 0, .int 1, .null, .int 0, .null, .int 0, .int 0], vm := .statics 7 },
  { cls := 12, slots := #[.null, .null, .null], vm := .statics 12 }]
def classes : Array Class := #[k0, k1, k2, k3, k4, k5, k6, k7, k8, k9, k10, k11, k12, k13, k14, k15, k16, k17, k18, k19, k20, k21, k22]
def interned : List (Array UInt16 × Addr) := []
def slotsUsed : Nat := 10
def theMethod : MethodId := ⟨1, 2⟩
def args0 : Array Value := #[.int 3, .int 5, .int 1, .int 7]
def aboutOver (below : List Frame) : State where
  vm := { classes := classes, interned := interned.toArray }
  heap := heap
  slotsUsed := slotsUsed
  threads := #[{ frames := .invoking theMethod args0 :: below }]
def below0 : List Frame := [.native { method := ⟨0, 0⟩, args := #[] }]
def about1 : State := aboutOver below0
def p0 : Program := .bare "" "" ""
def e0 : Env := launch0.env 0 0 0
theorem w_frames : about1.frames = Frame.invoking theMethod args0 :: below0 := rfl
set_option maxRecDepth 65536 in
theorem w_args : argsFit about1.vm theMethod args0 = true := by decide +kernel
set_option maxRecDepth 65536 in
theorem w_heap : heapFits about1 = true := by decide +kernel
set_option maxRecDepth 65536 in
theorem w_runnable : about1.curStatus? = some .runnable := by decide +kernel
set_option maxRecDepth 65536 in
theorem w_alone : about1.alone = true := by decide +kernel
set_option maxRecDepth 65536 in
theorem w_named : about1.methodNamed? x = some theMethod := by decide +kernel
set_option maxRecDepth 65536 in
theorem w_hears : about1.hears theMethod below0 = true := by decide +kernel
set_option maxRecDepth 65536 in
theorem w_ripe : about1.ripe theMethod args0 below0 = true := by decide +kernel
theorem w_running : about1.status = .running := rfl
set_option maxRecDepth 65536 in
theorem w_room : about1.hasRoom e0.platform room_1 = true :=
  launch0.hasRoom_least _ room_1 (by decide +kernel) (by decide +kernel) (by decide +kernel) (by decide +kernel) (by decide +kernel) (by decide +kernel)
theorem allAtoms_all (ts : List Jvm.Cond) (a : Array Jvm.Value) (st : Jvm.State) : (allAtoms ts).before a st = ts.all (fun c => c.before a st) := by
  induction ts with
  | nil => rfl
  | cons c t ih =>
    show (Jvm.Cond.and c (allAtoms t)).before a st = _
    rw [Jvm.Cond.before_and, ih, List.all_cons]
def words1 : List Jvm.Cond := Jvm.Cond.code x code maxLocals ret :: tables_1
/-- a 'code' word, met by the world's own term for the bytes: nothing is compared byte by byte -/
theorem code_word {y : MethodName} {bytes : ByteArray} {mx : Nat} {rt : Option FieldType} {a : Array Value} {s : State} {m : MethodId} {meth : Method} {c : Code} (h1 : s.methodNamed? y = some m) (h2 : s.vm.method? m = some meth) (h3 : meth.code = some c) (h4 : c.code = bytes)
    (h5 : (c.maxLocals == mx && c.exceptionTable.isEmpty && decide (c.maxStack ≤ mostOperands) && decide (meth.sig.returnType = rt) && !meth.locks && decide (parseMethodDescriptor y.desc = some meth.sig)) = true) : (Jvm.Cond.code y bytes mx rt).before a s = true := by
  simp only [Bool.and_eq_true, beq_iff_eq, Bool.not_eq_true', decide_eq_true_eq] at h5
  obtain ⟨⟨⟨⟨⟨g1, g2⟩, g3⟩, g4⟩, g5⟩, g6⟩ := h5
  simp [Cond.before, Cond.holds, Cond.value, h1, h2, h3, h4, g1, g2, g3, g4, g5, g6]
def isCode : Jvm.Cond → Bool
  | .code _ _ _ _ => true
  | _ => false
theorem all_split {L : List Jvm.Cond} {P : Jvm.Cond → Bool} (h1 : L.all (fun c => isCode c || P c) = true) (h2 : ∀ c ∈ L.filter isCode, P c = true) : L.all P = true := by
  refine List.all_eq_true.mpr fun c hc => ?_
  have h := List.all_eq_true.mp h1 c hc
  rcases Bool.eq_false_or_eq_true (isCode c) with hi | hi
  · exact h2 c (List.mem_filter.mpr ⟨hc, hi⟩)
  · simpa [hi] using h
set_option maxRecDepth 65536 in
theorem w_c0 : (Jvm.Cond.code x code maxLocals ret).before args0 about1 = true := code_word (m := ⟨1, 2⟩) (meth := k1m2) (c := k1c2) (by decide +kernel) rfl rfl rfl (by decide +kernel)
set_option maxRecDepth 65536 in
theorem w_c1 : (Jvm.Cond.code ({ cls := "com/example/slow_digest/slowdigest/rules/MailAddressDomainPinLaw", name := "ch", desc := "(I)C" } : Jvm.MethodName) method_2_code (2 : Nat) (Option.some Jvm.ClassFile.FieldType.char)).before args0 about1 = true := code_word (m := ⟨1, 1⟩) (meth := k1m1) (c := k1c1) (by decide +kernel) rfl rfl rfl (by decide +kernel)
set_option maxRecDepth 65536 in
theorem w_c2 : (Jvm.Cond.code ({ cls := "java/lang/String", name := "<init>", desc := "([C)V" } : Jvm.MethodName) jdk_42_method_3_code (2 : Nat) (Option.none : Option Jvm.ClassFile.FieldType)).before args0 about1 = true := code_word (m := ⟨7, 1⟩) (meth := k7m1) (c := k7c1) (by decide +kernel) rfl rfl rfl (by decide +kernel)
set_option maxRecDepth 65536 in
theorem w_c3 : (Jvm.Cond.code ({ cls := "java/lang/String", name := "<init>", desc := "([CIILjava/lang/Void;)V" } : Jvm.MethodName) jdk_42_method_149_code (6 : Nat) (Option.none : Option Jvm.ClassFile.FieldType)).before args0 about1 = true := code_word (m := ⟨7, 8⟩) (meth := k7m8) (c := k7c8) (by decide +kernel) rfl rfl rfl (by decide +kernel)
set_option maxRecDepth 65536 in
theorem w_c4 : (Jvm.Cond.code ({ cls := "java/lang/Object", name := "<init>", desc := "()V" } : Jvm.MethodName) object_method_1_code (1 : Nat) (Option.none : Option Jvm.ClassFile.FieldType)).before args0 about1 = true := code_word (m := ⟨0, 0⟩) (meth := k0m0) (c := k0c0) (by decide +kernel) rfl rfl rfl (by decide +kernel)
set_option maxRecDepth 65536 in
theorem w_c5 : (Jvm.Cond.code ({ cls := "java/lang/StringUTF16", name := "compress", desc := "([CII)[B" } : Jvm.MethodName) jdk_52_method_16_code (6 : Nat) (Option.some (Jvm.ClassFile.FieldType.array Jvm.ClassFile.FieldType.byte))).before args0 about1 = true := code_word (m := ⟨8, 2⟩) (meth := k8m2) (c := k8c2) (by decide +kernel) rfl rfl rfl (by decide +kernel)
set_option maxRecDepth 65536 in
theorem w_c6 : (Jvm.Cond.code ({ cls := "java/lang/StringUTF16", name := "compress", desc := "([CI[BII)I" } : Jvm.MethodName) jdk_52_method_21_code (7 : Nat) (Option.some Jvm.ClassFile.FieldType.int)).before args0 about1 = true := code_word (m := ⟨8, 3⟩) (meth := k8m3) (c := k8c3) (by decide +kernel) rfl rfl rfl (by decide +kernel)
set_option maxRecDepth 65536 in
theorem w_c7 : (Jvm.Cond.code ({ cls := "java/lang/StringUTF16", name := "coderFromArrayLen", desc := "([BI)B" } : Jvm.MethodName) jdk_52_method_15_code (2 : Nat) (Option.some Jvm.ClassFile.FieldType.byte)).before args0 about1 = true := code_word (m := ⟨8, 1⟩) (meth := k8m1) (c := k8c1) (by decide +kernel) rfl rfl rfl (by decide +kernel)
set_option maxRecDepth 65536 in
theorem w_c8 : (Jvm.Cond.code ({ cls := "com/example/slow_digest/slowdigest/rules/MailAddress", name := "domain", desc := "(Ljava/lang/String;)Ljava/lang/String;" } : Jvm.MethodName) prog_21_method_3_code (1 : Nat) (Option.some (Jvm.ClassFile.FieldType.object "java/lang/String"))).before args0 about1 = true := code_word (m := ⟨9, 1⟩) (meth := k9m1) (c := k9c1) (by decide +kernel) rfl rfl rfl (by decide +kernel)
set_option maxRecDepth 65536 in
theorem w_c9 : (Jvm.Cond.code ({ cls := "java/lang/String", name := "indexOf", desc := "(I)I" } : Jvm.MethodName) jdk_42_method_79_code (2 : Nat) (Option.some Jvm.ClassFile.FieldType.int)).before args0 about1 = true := code_word (m := ⟨7, 4⟩) (meth := k7m4) (c := k7c4) (by decide +kernel) rfl rfl rfl (by decide +kernel)
set_option maxRecDepth 65536 in
theorem w_c10 : (Jvm.Cond.code ({ cls := "java/lang/String", name := "indexOf", desc := "(II)I" } : Jvm.MethodName) jdk_42_method_80_code (3 : Nat) (Option.some Jvm.ClassFile.FieldType.int)).before args0 about1 = true := code_word (m := ⟨7, 5⟩) (meth := k7m5) (c := k7c5) (by decide +kernel) rfl rfl rfl (by decide +kernel)
set_option maxRecDepth 65536 in
theorem w_c11 : (Jvm.Cond.code ({ cls := "java/lang/String", name := "isLatin1", desc := "()Z" } : Jvm.MethodName) jdk_42_method_154_code (1 : Nat) (Option.some Jvm.ClassFile.FieldType.boolean)).before args0 about1 = true := code_word (m := ⟨7, 11⟩) (meth := k7m11) (c := k7c11) (by decide +kernel) rfl rfl rfl (by decide +kernel)
set_option maxRecDepth 65536 in
theorem w_c12 : (Jvm.Cond.code ({ cls := "java/lang/String", name := "length", desc := "()I" } : Jvm.MethodName) jdk_42_method_54_code (1 : Nat) (Option.some Jvm.ClassFile.FieldType.int)).before args0 about1 = true := code_word (m := ⟨7, 2⟩) (meth := k7m2) (c := k7c2) (by decide +kernel) rfl rfl rfl (by decide +kernel)
set_option maxRecDepth 65536 in
theorem w_c13 : (Jvm.Cond.code ({ cls := "java/lang/String", name := "coder", desc := "()B" } : Jvm.MethodName) jdk_42_method_152_code (1 : Nat) (Option.some Jvm.ClassFile.FieldType.byte)).before args0 about1 = true := code_word (m := ⟨7, 10⟩) (meth := k7m10) (c := k7c10) (by decide +kernel) rfl rfl rfl (by decide +kernel)
set_option maxRecDepth 65536 in
theorem w_c14 : (Jvm.Cond.code ({ cls := "java/lang/StringLatin1", name := "indexOf", desc := "([BIII)I" } : Jvm.MethodName) jdk_43_method_22_code (4 : Nat) (Option.some Jvm.ClassFile.FieldType.int)).before args0 about1 = true := code_word (m := ⟨10, 3⟩) (meth := k10m3) (c := k10c3) (by decide +kernel) rfl rfl rfl (by decide +kernel)
set_option maxRecDepth 65536 in
theorem w_c15 : (Jvm.Cond.code ({ cls := "java/lang/StringLatin1", name := "canEncode", desc := "(I)Z" } : Jvm.MethodName) jdk_43_method_4_code (1 : Nat) (Option.some Jvm.ClassFile.FieldType.boolean)).before args0 about1 = true := code_word (m := ⟨10, 2⟩) (meth := k10m2) (c := k10c2) (by decide +kernel) rfl rfl rfl (by decide +kernel)
set_option maxRecDepth 65536 in
theorem w_c16 : (Jvm.Cond.code ({ cls := "java/lang/Math", name := "max", desc := "(II)I" } : Jvm.MethodName) jdk_29_method_65_code (2 : Nat) (Option.some Jvm.ClassFile.FieldType.int)).before args0 about1 = true := code_word (m := ⟨11, 1⟩) (meth := k11m1) (c := k11c1) (by decide +kernel) rfl rfl rfl (by decide +kernel)
set_option maxRecDepth 65536 in
theorem w_c17 : (Jvm.Cond.code ({ cls := "java/lang/Math", name := "min", desc := "(II)I" } : Jvm.MethodName) jdk_29_method_69_code (2 : Nat) (Option.some Jvm.ClassFile.FieldType.int)).before args0 about1 = true := code_word (m := ⟨11, 2⟩) (meth := k11m2) (c := k11c2) (by decide +kernel) rfl rfl rfl (by decide +kernel)
set_option maxRecDepth 65536 in
theorem w_c18 : (Jvm.Cond.code ({ cls := "java/lang/StringLatin1", name := "indexOfChar", desc := "([BIII)I" } : Jvm.MethodName) jdk_43_method_23_code (6 : Nat) (Option.some Jvm.ClassFile.FieldType.int)).before args0 about1 = true := code_word (m := ⟨10, 4⟩) (meth := k10m4) (c := k10c4) (by decide +kernel) rfl rfl rfl (by decide +kernel)
set_option maxRecDepth 65536 in
theorem w_c19 : (Jvm.Cond.code ({ cls := "java/lang/String", name := "substring", desc := "(I)Ljava/lang/String;" } : Jvm.MethodName) jdk_42_method_91_code (2 : Nat) (Option.some (Jvm.ClassFile.FieldType.object "java/lang/String"))).before args0 about1 = true := code_word (m := ⟨7, 6⟩) (meth := k7m6) (c := k7c6) (by decide +kernel) rfl rfl rfl (by decide +kernel)
set_option maxRecDepth 65536 in
theorem w_c20 : (Jvm.Cond.code ({ cls := "java/lang/String", name := "substring", desc := "(II)Ljava/lang/String;" } : Jvm.MethodName) jdk_42_method_92_code (5 : Nat) (Option.some (Jvm.ClassFile.FieldType.object "java/lang/String"))).before args0 about1 = true := code_word (m := ⟨7, 7⟩) (meth := k7m7) (c := k7c7) (by decide +kernel) rfl rfl rfl (by decide +kernel)
set_option maxRecDepth 65536 in
theorem w_c21 : (Jvm.Cond.code ({ cls := "java/lang/String", name := "checkBoundsBeginEnd", desc := "(III)V" } : Jvm.MethodName) jdk_42_method_158_code (3 : Nat) (Option.none : Option Jvm.ClassFile.FieldType)).before args0 about1 = true := code_word (m := ⟨7, 13⟩) (meth := k7m13) (c := k7c13) (by decide +kernel) rfl rfl rfl (by decide +kernel)
set_option maxRecDepth 65536 in
theorem w_c22 : (Jvm.Cond.code ({ cls := "jdk/internal/util/Preconditions", name := "checkFromToIndex", desc := "(IIILjava/util/function/BiFunction;)I" } : Jvm.MethodName) jdk_41_method_12_code (4 : Nat) (Option.some Jvm.ClassFile.FieldType.int)).before args0 about1 = true := code_word (m := ⟨12, 2⟩) (meth := k12m2) (c := k12c2) (by decide +kernel) rfl rfl rfl (by decide +kernel)
set_option maxRecDepth 65536 in
theorem w_c23 : (Jvm.Cond.code ({ cls := "java/lang/StringLatin1", name := "newString", desc := "([BII)Ljava/lang/String;" } : Jvm.MethodName) jdk_43_method_47_code (3 : Nat) (Option.some (Jvm.ClassFile.FieldType.object "java/lang/String"))).before args0 about1 = true := code_word (m := ⟨10, 5⟩) (meth := k10m5) (c := k10c5) (by decide +kernel) rfl rfl rfl (by decide +kernel)
set_option maxRecDepth 65536 in
theorem w_c24 : (Jvm.Cond.code ({ cls := "java/util/Arrays", name := "copyOfRange", desc := "([BII)[B" } : Jvm.MethodName) jdk_65_method_132_code (3 : Nat) (Option.some (Jvm.ClassFile.FieldType.array Jvm.ClassFile.FieldType.byte))).before args0 about1 = true := code_word (m := ⟨13, 2⟩) (meth := k13m2) (c := k13c2) (by decide +kernel) rfl rfl rfl (by decide +kernel)
set_option maxRecDepth 65536 in
theorem w_c25 : (Jvm.Cond.code ({ cls := "java/util/Arrays", name := "copyOfRangeByte", desc := "([BII)[B" } : Jvm.MethodName) jdk_65_method_133_code (5 : Nat) (Option.some (Jvm.ClassFile.FieldType.array Jvm.ClassFile.FieldType.byte))).before args0 about1 = true := code_word (m := ⟨13, 3⟩) (meth := k13m3) (c := k13c3) (by decide +kernel) rfl rfl rfl (by decide +kernel)
set_option maxRecDepth 65536 in
theorem w_c26 : (Jvm.Cond.code ({ cls := "java/util/Arrays", name := "checkLength", desc := "(II)V" } : Jvm.MethodName) jdk_65_method_131_code (2 : Nat) (Option.none : Option Jvm.ClassFile.FieldType)).before args0 about1 = true := code_word (m := ⟨13, 1⟩) (meth := k13m1) (c := k13c1) (by decide +kernel) rfl rfl rfl (by decide +kernel)
set_option maxRecDepth 65536 in
theorem w_c27 : (Jvm.Cond.code ({ cls := "java/lang/String", name := "<init>", desc := "([BB)V" } : Jvm.MethodName) jdk_42_method_151_code (3 : Nat) (Option.none : Option Jvm.ClassFile.FieldType)).before args0 about1 = true := code_word (m := ⟨7, 9⟩) (meth := k7m9) (c := k7c9) (by decide +kernel) rfl rfl rfl (by decide +kernel)
set_option maxRecDepth 65536 in
theorem w_c28 : (Jvm.Cond.code ({ cls := "java/lang/String", name := "charAt", desc := "(I)C" } : Jvm.MethodName) jdk_42_method_56_code (2 : Nat) (Option.some Jvm.ClassFile.FieldType.char)).before args0 about1 = true := code_word (m := ⟨7, 3⟩) (meth := k7m3) (c := k7c3) (by decide +kernel) rfl rfl rfl (by decide +kernel)
set_option maxRecDepth 65536 in
theorem w_c29 : (Jvm.Cond.code ({ cls := "java/lang/StringLatin1", name := "charAt", desc := "([BI)C" } : Jvm.MethodName) jdk_43_method_2_code (2 : Nat) (Option.some Jvm.ClassFile.FieldType.char)).before args0 about1 = true := code_word (m := ⟨10, 1⟩) (meth := k10m1) (c := k10c1) (by decide +kernel) rfl rfl rfl (by decide +kernel)
set_option maxRecDepth 65536 in
theorem w_c30 : (Jvm.Cond.code ({ cls := "java/lang/String", name := "checkIndex", desc := "(II)V" } : Jvm.MethodName) jdk_42_method_155_code (2 : Nat) (Option.none : Option Jvm.ClassFile.FieldType)).before args0 about1 = true := code_word (m := ⟨7, 12⟩) (meth := k7m12) (c := k7c12) (by decide +kernel) rfl rfl rfl (by decide +kernel)
set_option maxRecDepth 65536 in
theorem w_c31 : (Jvm.Cond.code ({ cls := "jdk/internal/util/Preconditions", name := "checkIndex", desc := "(IILjava/util/function/BiFunction;)I" } : Jvm.MethodName) jdk_41_method_11_code (3 : Nat) (Option.some Jvm.ClassFile.FieldType.int)).before args0 about1 = true := code_word (m := ⟨12, 1⟩) (meth := k12m1) (c := k12c1) (by decide +kernel) rfl rfl rfl (by decide +kernel)
def codes1 : List Jvm.Cond := [Jvm.Cond.code x code maxLocals ret, Jvm.Cond.code ({ cls := "com/example/slow_digest/slowdigest/rules/MailAddressDomainPinLaw", name := "ch", desc := "(I)C" } : Jvm.MethodName) method_2_code (2 : Nat) (Option.some Jvm.ClassFile.FieldType.char), Jvm.Cond.code ({ cls := "java/lang/String", name := "<init>", desc := "([C)V" } : Jvm.MethodName) jdk_42_method_3_code (2 : Nat) (Option.none : Option Jvm.ClassFile.FieldType), Jvm.Cond.code ({ cls := "java/lang/String", name := "<init>", desc := "([CIILjava/lang/Void;)V" } : Jvm.MethodName) jdk_42_method_149_code (6 : Nat) (Option.none : Option Jvm.ClassFile.FieldType), Jvm.Cond.code ({ cls := "java/lang/Object", name := "<init>", desc := "()V" } : Jvm.MethodName) object_method_1_code (1 : Nat) (Option.none : Option Jvm.ClassFile.FieldType), Jvm.Cond.code ({ cls := "java/lang/StringUTF16", name := "compress", desc := "([CII)[B" } : Jvm.MethodName) jdk_52_method_16_code (6 : Nat) (Option.some (Jvm.ClassFile.FieldType.array Jvm.ClassFile.FieldType.byte)), Jvm.Cond.code ({ cls := "java/lang/StringUTF16", name := "compress", desc := "([CI[BII)I" } : Jvm.MethodName) jdk_52_method_21_code (7 : Nat) (Option.some Jvm.ClassFile.FieldType.int), Jvm.Cond.code ({ cls := "java/lang/StringUTF16", name := "coderFromArrayLen", desc := "([BI)B" } : Jvm.MethodName) jdk_52_method_15_code (2 : Nat) (Option.some Jvm.ClassFile.FieldType.byte), Jvm.Cond.code ({ cls := "com/example/slow_digest/slowdigest/rules/MailAddress", name := "domain", desc := "(Ljava/lang/String;)Ljava/lang/String;" } : Jvm.MethodName) prog_21_method_3_code (1 : Nat) (Option.some (Jvm.ClassFile.FieldType.object "java/lang/String")), Jvm.Cond.code ({ cls := "java/lang/String", name := "indexOf", desc := "(I)I" } : Jvm.MethodName) jdk_42_method_79_code (2 : Nat) (Option.some Jvm.ClassFile.FieldType.int), Jvm.Cond.code ({ cls := "java/lang/String", name := "indexOf", desc := "(II)I" } : Jvm.MethodName) jdk_42_method_80_code (3 : Nat) (Option.some Jvm.ClassFile.FieldType.int), Jvm.Cond.code ({ cls := "java/lang/String", name := "isLatin1", desc := "()Z" } : Jvm.MethodName) jdk_42_method_154_code (1 : Nat) (Option.some Jvm.ClassFile.FieldType.boolean), Jvm.Cond.code ({ cls := "java/lang/String", name := "length", desc := "()I" } : Jvm.MethodName) jdk_42_method_54_code (1 : Nat) (Option.some Jvm.ClassFile.FieldType.int), Jvm.Cond.code ({ cls := "java/lang/String", name := "coder", desc := "()B" } : Jvm.MethodName) jdk_42_method_152_code (1 : Nat) (Option.some Jvm.ClassFile.FieldType.byte), Jvm.Cond.code ({ cls := "java/lang/StringLatin1", name := "indexOf", desc := "([BIII)I" } : Jvm.MethodName) jdk_43_method_22_code (4 : Nat) (Option.some Jvm.ClassFile.FieldType.int), Jvm.Cond.code ({ cls := "java/lang/StringLatin1", name := "canEncode", desc := "(I)Z" } : Jvm.MethodName) jdk_43_method_4_code (1 : Nat) (Option.some Jvm.ClassFile.FieldType.boolean), Jvm.Cond.code ({ cls := "java/lang/Math", name := "max", desc := "(II)I" } : Jvm.MethodName) jdk_29_method_65_code (2 : Nat) (Option.some Jvm.ClassFile.FieldType.int), Jvm.Cond.code ({ cls := "java/lang/Math", name := "min", desc := "(II)I" } : Jvm.MethodName) jdk_29_method_69_code (2 : Nat) (Option.some Jvm.ClassFile.FieldType.int), Jvm.Cond.code ({ cls := "java/lang/StringLatin1", name := "indexOfChar", desc := "([BIII)I" } : Jvm.MethodName) jdk_43_method_23_code (6 : Nat) (Option.some Jvm.ClassFile.FieldType.int), Jvm.Cond.code ({ cls := "java/lang/String", name := "substring", desc := "(I)Ljava/lang/String;" } : Jvm.MethodName) jdk_42_method_91_code (2 : Nat) (Option.some (Jvm.ClassFile.FieldType.object "java/lang/String")), Jvm.Cond.code ({ cls := "java/lang/String", name := "substring", desc := "(II)Ljava/lang/String;" } : Jvm.MethodName) jdk_42_method_92_code (5 : Nat) (Option.some (Jvm.ClassFile.FieldType.object "java/lang/String")), Jvm.Cond.code ({ cls := "java/lang/String", name := "checkBoundsBeginEnd", desc := "(III)V" } : Jvm.MethodName) jdk_42_method_158_code (3 : Nat) (Option.none : Option Jvm.ClassFile.FieldType), Jvm.Cond.code ({ cls := "jdk/internal/util/Preconditions", name := "checkFromToIndex", desc := "(IIILjava/util/function/BiFunction;)I" } : Jvm.MethodName) jdk_41_method_12_code (4 : Nat) (Option.some Jvm.ClassFile.FieldType.int), Jvm.Cond.code ({ cls := "java/lang/StringLatin1", name := "newString", desc := "([BII)Ljava/lang/String;" } : Jvm.MethodName) jdk_43_method_47_code (3 : Nat) (Option.some (Jvm.ClassFile.FieldType.object "java/lang/String")), Jvm.Cond.code ({ cls := "java/util/Arrays", name := "copyOfRange", desc := "([BII)[B" } : Jvm.MethodName) jdk_65_method_132_code (3 : Nat) (Option.some (Jvm.ClassFile.FieldType.array Jvm.ClassFile.FieldType.byte)), Jvm.Cond.code ({ cls := "java/util/Arrays", name := "copyOfRangeByte", desc := "([BII)[B" } : Jvm.MethodName) jdk_65_method_133_code (5 : Nat) (Option.some (Jvm.ClassFile.FieldType.array Jvm.ClassFile.FieldType.byte)), Jvm.Cond.code ({ cls := "java/util/Arrays", name := "checkLength", desc := "(II)V" } : Jvm.MethodName) jdk_65_method_131_code (2 : Nat) (Option.none : Option Jvm.ClassFile.FieldType), Jvm.Cond.code ({ cls := "java/lang/String", name := "<init>", desc := "([BB)V" } : Jvm.MethodName) jdk_42_method_151_code (3 : Nat) (Option.none : Option Jvm.ClassFile.FieldType), Jvm.Cond.code ({ cls := "java/lang/String", name := "charAt", desc := "(I)C" } : Jvm.MethodName) jdk_42_method_56_code (2 : Nat) (Option.some Jvm.ClassFile.FieldType.char), Jvm.Cond.code ({ cls := "java/lang/StringLatin1", name := "charAt", desc := "([BI)C" } : Jvm.MethodName) jdk_43_method_2_code (2 : Nat) (Option.some Jvm.ClassFile.FieldType.char), Jvm.Cond.code ({ cls := "java/lang/String", name := "checkIndex", desc := "(II)V" } : Jvm.MethodName) jdk_42_method_155_code (2 : Nat) (Option.none : Option Jvm.ClassFile.FieldType), Jvm.Cond.code ({ cls := "jdk/internal/util/Preconditions", name := "checkIndex", desc := "(IILjava/util/function/BiFunction;)I" } : Jvm.MethodName) jdk_41_method_11_code (3 : Nat) (Option.some Jvm.ClassFile.FieldType.int)]
set_option maxRecDepth 65536 in
theorem codes_eq : words1.filter isCode = codes1 := rfl
theorem w_codes : ∀ c ∈ words1.filter isCode, c.before args0 about1 = true := by
  rw [codes_eq]
  intro c hc
  simp only [codes1, List.mem_cons, List.not_mem_nil, or_false] at hc
  rcases hc with rfl | rfl | rfl | rfl | rfl | rfl | rfl | rfl | rfl | rfl | rfl | rfl | rfl | rfl | rfl | rfl | rfl | rfl | rfl | rfl | rfl | rfl | rfl | rfl | rfl | rfl | rfl | rfl | rfl | rfl | rfl | rfl
  · exact w_c0
  · exact w_c1
  · exact w_c2
  · exact w_c3
  · exact w_c4
  · exact w_c5
  · exact w_c6
  · exact w_c7
  · exact w_c8
  · exact w_c9
  · exact w_c10
  · exact w_c11
  · exact w_c12
  · exact w_c13
  · exact w_c14
  · exact w_c15
  · exact w_c16
  · exact w_c17
  · exact w_c18
  · exact w_c19
  · exact w_c20
  · exact w_c21
  · exact w_c22
  · exact w_c23
  · exact w_c24
  · exact w_c25
  · exact w_c26
  · exact w_c27
  · exact w_c28
  · exact w_c29
  · exact w_c30
  · exact w_c31
set_option maxRecDepth 65536 in
theorem w_t1 : (words1.take 24).all (fun c => isCode c || c.before args0 about1) = true := by decide +kernel
set_option maxRecDepth 65536 in
theorem w_t2 : ((words1.drop 24).take 24).all (fun c => isCode c || c.before args0 about1) = true := by decide +kernel
set_option maxRecDepth 65536 in
theorem w_t3 : (((words1.drop 24).drop 24).take 24).all (fun c => isCode c || c.before args0 about1) = true := by decide +kernel
set_option maxRecDepth 65536 in
theorem w_t4 : ((((words1.drop 24).drop 24).drop 24).take 24).all (fun c => isCode c || c.before args0 about1) = true := by decide +kernel
set_option maxRecDepth 65536 in
theorem w_t5 : (((((words1.drop 24).drop 24).drop 24).drop 24).take 24).all (fun c => isCode c || c.before args0 about1) = true := by decide +kernel
set_option maxRecDepth 65536 in
theorem w_t6 : (((((words1.drop 24).drop 24).drop 24).drop 24).drop 24).all (fun c => isCode c || c.before args0 about1) = true := by decide +kernel
theorem w_tables : (allAtoms (Jvm.Cond.code x code maxLocals ret :: tables_1)).before args0 about1 = true := by
  rw [allAtoms_all]
  show words1.all (fun c => c.before args0 about1) = true
  refine all_split ?_ w_codes
  rw [← List.take_append_drop 24 words1, List.all_append, w_t1, ← List.take_append_drop 24 (words1.drop 24), List.all_append, w_t2, ← List.take_append_drop 24 ((words1.drop 24).drop 24), List.all_append, w_t3, ← List.take_append_drop 24 (((words1.drop 24).drop 24).drop 24), List.all_append, w_t4, ← List.take_append_drop 24 ((((words1.drop 24).drop 24).drop 24).drop 24), List.all_append, w_t5, w_t6]
  rfl
set_option maxRecDepth 65536 in
theorem w_rest : rest_1_c.before args0 about1 = true := by decide +kernel
set_option maxRecDepth 65536 in
theorem w_case : (Jvm.Cond.and given_1 narrow_1).before args0 about1 = true := by decide +kernel
theorem w_applies : (headSpec (Jvm.Cond.code x code maxLocals ret :: tables_1) room_1).applies x e0.platform about1 = true :=
  (Spec.applies_iff w_frames).mpr ⟨w_running, w_runnable, w_alone, w_named, w_hears, w_ripe, w_room, w_tables⟩
theorem atStart : AtStart classFile x code maxLocals ret World_1 tables_1 room_1 Calls_1 rest_1 Pre_1 launch0 p0 e0 about1 theMethod args0 below0 :=
  ⟨lists_1, trivial, launch0.admits_env _ _ _, launch0.least_env, fairChoices_fair.cas, fairChoices_fair.clock, w_frames, w_args, w_heap, w_applies, trivial, w_rest, w_case⟩
end start1
theorem witness_1 : WitnessClaimed_1 := ⟨start1.p0, start1.e0, start1.about1, start1.theMethod, start1.args0, start1.below0, start1.atStart⟩
end Jvm.Pilot.@@N@@
