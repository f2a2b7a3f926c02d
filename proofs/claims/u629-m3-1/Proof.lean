import JvmDerived
import JvmDerived.Pilot.@@N@@Statement
import JvmDerived.Pilot.@@N@@Code
set_option linter.unusedVariables false
set_option linter.unusedSimpArgs false
namespace Jvm.RoadKit
open Sem ClassFile Op Lib Jvm.Stand Jvm.Free Jvm.LawKit
section New
variable {p : Program} {l : Launch} {e : Env} {R : Room} {s : State} {m : MethodId} {args : Array Value} {below : List Frame} {meth : Method} {c : Code} {T : State} {locs : List Loc} {cells slots : Nat}
theorem retI (X : Stand p l e R s m args below meth c T locs cells slots) (hx : p.tables.exec = Jvm.exec) {pc : Nat} {Ls : Array Slot} {z : Int32} {rest : List Value} (hret : meth.sig.returnType = some .int) (hd : decode c.code pc = .ok (.ireturn, 1)) {fs : List Frame}
    (hl : ∀ (f : JFrame) (acts : List Action), f.method = m → f.locked = none → f.entered = [] → (doReturn e (T.setTop f) acts (some (.int z))).1 = T.setFrames fs) : Steps p.tables e below (T.setTop (mkF m pc Ls (.int z :: rest))) (T.setFrames fs) := by
  have hm' : T.vm.method? m = some meth := X.method'
  have hn : narrow .int (.int z) = .int z := rfl
  show Steps p.tables e below (T.setTop { method := m, pc := pc, locals := Ls, stack := _ :: rest, locked := none }) _
  jvm_step X.here [X.here.top, hx, hd, hm', hret, hn]
  first | (intro acts; rw [hl _ acts rfl rfl rfl]) | rw [hl _ _ rfl rfl rfl]
  exact Steps.refl _
end New
end Jvm.RoadKit
namespace Jvm.Pilot.@@N@@.Own
open Jvm Jvm.ClassFile Sem Op Lib Jvm.Free Jvm.Stand Jvm.LawKit Jvm.RoadKit Bundle
section Layer
variable {p : Program} {l : Launch} {e : Env} {R : Room} {s : State} {m : MethodId} {args : Array Value} {below : List Frame} {meth : Method} {c : Code} {Z : State} {a0 : Array Value} {own : String} {n0 : Nat} {h0 h : Heap} {ws ws' : List Addr} {Q Q' : Option Value → Heap → Prop} {k n k' n' : Nat} {g g' : JFrame}
/-- the walk's end: it returns, writes at n0 and above alone, keeps h0 but for ws, and Q holds -/
def Fin (p : Program) (e : Env) (below : List Frame) (s : State) (R : Room) (n0 : Nat) (h0 : Heap) (ws : List Addr) (Q : Option Value → Heap → Prop) (G : State) : Prop :=
  ∃ U o, Steps p.tables e below G U ∧ U.status = .running ∧ Ended U below o ∧ ∃ v L, o = .returned v ∧ (Fr n0 L ∧ Keep h0 U.heap ws ∧ Q v U.heap) ∧ FrameEnd s o U L R.cells R.slots
theorem Fin.step {G G' : State} (st : ∀ t, Steps p.tables e below G' t → Steps p.tables e below G t) (q : Fin p e below s R n0 h0 ws Q G') : Fin p e below s R n0 h0 ws Q G := by
  obtain ⟨U, o, h1, r⟩ := q
  exact ⟨U, o, st _ h1, r⟩
def Cx (own : String) (p : Program) (s : State) (m : MethodId) (meth : Method) (Z : State) (n0 : Nat) (h0 : Heap) (ws : List Addr) : Prop :=
  p.tables.exec = Jvm.exec ∧ Z.Warmed39 s.vm ∧ s.vm.findClass own = some m.cls ∧ meth.locks = false ∧ Old Z n0 h0 ∧ ∀ x ∈ ws, n0 ≤ x
/-- from the heap h and the frame g, k cells and n slots made, the walk ends well -/
def Go (own : String) (p : Program) (l : Launch) (e : Env) (R : Room) (s : State) (m : MethodId) (args : Array Value) (below : List Frame) (meth : Method) (c : Code) (Z : State) (n0 : Nat) (h0 : Heap) (ws : List Addr) (Q : Option Value → Heap → Prop) (k n : Nat) (h : Heap) (g : JFrame) : Prop :=
  Cx own p s m meth Z n0 h0 ws → ∀ (T : State) (L : List Loc), Stand p l e R s m args below meth c T L k n → T.heap = h → Fr n0 L → Keep h0 h ws → Fin p e below s R n0 h0 ws Q (T.setTop g)
theorem Go.cast (q : g = g') (r : Go own p l e R s m args below meth c Z n0 h0 ws Q k n h g') : Go own p l e R s m args below meth c Z n0 h0 ws Q k n h g := q ▸ r
theorem Go.keep (r : Keep h0 h ws → Go own p l e R s m args below meth c Z n0 h0 ws Q k n h g) : Go own p l e R s m args below meth c Z n0 h0 ws Q k n h g := fun hC T L X eT N K => r K hC T L X eT N K
theorem Old.le {Z : State} {n0 : Nat} {h : Heap} (O : Old Z n0 h) : n0 ≤ h.size := O.1 ▸ O.2.1
theorem Go.old (r : Old Z n0 h → Go own p l e R s m args below meth c Z n0 h0 ws Q k n h g) : Go own p l e R s m args below meth c Z n0 h0 ws Q k n h g := fun hC T L X eT N K => r (hC.2.2.2.2.1.keep K hC.2.2.2.2.2) hC T L X eT N K
/-- a step that changes the frame alone -/
theorem Go.sp (st : ∀ T : State, At T m c below → ∀ t, Steps p.tables e below (T.setTop g') t → Steps p.tables e below (T.setTop g) t) (q : Go own p l e R s m args below meth c Z n0 h0 ws Q k n h g') : Go own p l e R s m args below meth c Z n0 h0 ws Q k n h g :=
  fun hC T L X eT N K => (q hC T L X eT N K).step (st T X.here)
/-- a step that reads the heap -/
theorem Go.r (st : ∀ (s' T : State) (L : List Loc), Stand p l e R s' m args below meth c T L k n → T.heap = h → Z.Warmed39 s'.vm → ∀ t, Steps p.tables e below (T.setTop g') t → Steps p.tables e below (T.setTop g) t) (q : Go own p l e R s m args below meth c Z n0 h0 ws Q k n h g') : Go own p l e R s m args below meth c Z n0 h0 ws Q k n h g :=
  fun hC T L X eT N K => (q hC T L X eT N K).step (st s T L X eT hC.2.1)
/-- a step that may warm the tables -/
theorem Go.v (st : ∀ (s' T : State) (L : List Loc), Stand p l e R s' m args below meth c T L k n → T.heap = h → Z.Warmed39 s'.vm → s'.vm.findClass own = some m.cls → ∃ T' : State, Stand p l e R s' m args below meth c T' L k n ∧ T'.heap = h ∧ ∀ t, Steps p.tables e below (T'.setTop g') t → Steps p.tables e below (T.setTop g) t)
    (q : Go own p l e R s m args below meth c Z n0 h0 ws Q k n h g') : Go own p l e R s m args below meth c Z n0 h0 ws Q k n h g := fun hC T L X eT N K => by
  obtain ⟨T', X', e', st'⟩ := st s T L X eT hC.2.1 hC.2.2.1
  exact (q hC T' L X' e' N K).step st'
theorem Cx.ok {a : Addr} (hC : Cx own p s m meth Z n0 h0 ws) (ob : a ∈ ws ∨ h0.size ≤ a) : n0 ≤ a := ob.elim (hC.2.2.2.2.2 a) (Nat.le_trans (Old.le hC.2.2.2.2.1))
/-- a step that writes one place -/
theorem Go.w {a : Addr} {sl : Nat} {v : Value} (st : ∀ (s' T : State) (L : List Loc), Stand p l e R s' m args below meth c T L k n → T.heap = h → Z.Warmed39 s'.vm → s'.vm.findClass own = some m.cls → ∃ (T' : State) (h' : Heap), Stand p l e R s' m args below meth c T' (L ++ [⟨a, sl⟩]) k n ∧ T'.heap = h' ∧ Wr h h' a sl v ∧ ∀ t, Steps p.tables e below (T'.setTop g') t → Steps p.tables e below (T.setTop g) t)
    (ob : a ∈ ws ∨ h0.size ≤ a) (q : ∀ h' : Heap, Wr h h' a sl v → Go own p l e R s m args below meth c Z n0 h0 ws Q k n h' g') : Go own p l e R s m args below meth c Z n0 h0 ws Q k n h g := fun hC T L X eT N K => by
  obtain ⟨T', h', X', e', W, st'⟩ := st s T L X eT hC.2.1 hC.2.2.1
  exact (q h' W hC T' _ X' e' (Fr.snoc X' N (hC.ok ob)) (K.wr W ob)).step st'
/-- a step that makes cells -/
theorem Go.x {P : Heap → Prop} (st : ∀ (s' T : State) (L : List Loc), Stand p l e R s' m args below meth c T L k n → T.heap = h → Z.Warmed39 s'.vm → s'.vm.findClass own = some m.cls → ∃ (T' : State) (h' : Heap), Stand p l e R s' m args below meth c T' L k' n' ∧ T'.heap = h' ∧ Ext h h' ∧ P h' ∧ ∀ t, Steps p.tables e below (T'.setTop g') t → Steps p.tables e below (T.setTop g) t)
    (q : ∀ h' : Heap, Ext h h' → P h' → Go own p l e R s m args below meth c Z n0 h0 ws Q k' n' h' g') : Go own p l e R s m args below meth c Z n0 h0 ws Q k n h g := fun hC T L X eT N K => by
  obtain ⟨T', h', X', e', E, hP, st'⟩ := st s T L X eT hC.2.1 hC.2.2.1
  exact (q h' E hP hC T' L X' e' N (K.ext E)).step st'
/-- a step that writes objects at ws' -/
theorem Go.kp {P : Heap → Prop} (st : ∀ (s' T : State) (L : List Loc), Stand p l e R s' m args below meth c T L k n → T.heap = h → Fr n0 L → Z.Warmed39 s'.vm → s'.vm.findClass own = some m.cls → ∃ (T' : State) (h' : Heap) (L' : List Loc), Stand p l e R s' m args below meth c T' L' k n ∧ T'.heap = h' ∧ Fr n0 L' ∧ Keep h h' ws' ∧ P h' ∧ ∀ t, Steps p.tables e below (T'.setTop g') t → Steps p.tables e below (T.setTop g) t)
    (ob : ∀ x ∈ ws', x ∈ ws ∨ h0.size ≤ x) (q : ∀ h' : Heap, Keep h h' ws' → P h' → Go own p l e R s m args below meth c Z n0 h0 ws Q k n h' g') : Go own p l e R s m args below meth c Z n0 h0 ws Q k n h g := fun hC T L X eT N K => by
  obtain ⟨T', h', L', X', e', N', K', hP, st'⟩ := st s T L X eT N hC.2.1 hC.2.2.1
  exact (q h' K' hP hC T' L' X' e' N' (K.trans K' ob)).step st'
/-- new C -/
theorem Go.newO {C : String} {idx sl pc pc' : Nat} {Ls : Array Slot} {S : List Value} (hd : decode c.code pc = .ok (.new idx, 3)) (w : (Cond.classLink own idx C).before a0 Z = true) (wi : (Cond.instantiable C sl).before a0 Z = true) (wz : (Cond.initialized C).before a0 Z = true)
    (hk : k' = k + 1) (hn : n' = n + sl) (hp : pc' = pc + 3) (hc : k' ≤ R.cells) (hl : n' ≤ R.slots)
    (q : ∀ (a : Addr) (h' : Heap), a = h.size → h0.size ≤ a → Ext h h' → Exa Z h' a C → (∀ {O nm d : String} {ty : FieldType}, Laid Z a0 C O nm d → parseFieldDescriptor d = some ty → Fld Z h' a O nm d (defaultValue ty)) → Go own p l e R s m args below meth c Z n0 h0 ws Q k' n' h' (mkF m pc' Ls (.ref a :: S))) :
    Go own p l e R s m args below meth c Z n0 h0 ws Q k n h (mkF m pc Ls S) := fun hC T L X eT N K => by
  subst hk hn hp
  obtain ⟨T2, h2, X2, e2, E2, A2, D2, -, st2⟩ := RoadKit.newO X hC.1 hC.2.1 hC.2.2.1 w wi wz eT (g := (mkF m pc Ls S)) rfl hd hc hl
  exact (q _ h2 rfl K.1 E2 A2 D2 hC T2 _ X2 e2 N (K.ext E2)).step st2
/-- newarray of a primitive kind -/
theorem Go.newP {aty : ArrayType} {ty : FieldType} {dv : Value} {pc pc' cap : Nat} {z : Int32} {Ls : Array Slot} {S : List Value} (hd : decode c.code pc = .ok (.newarray aty, 2)) (hty : newarray.typeOf aty = ty) (hdv : defaultValue ty = dv) (w : (Cond.arrayClass ty).before a0 Z = true) (hz : ¬ z < 0) (hcap : z.toNatClampNeg ≤ cap) (hb : cap * 8 ≤ 536870912)
    (hk : k' = k + 1) (hn : n' = n + cap) (hp : pc' = pc + 2) (hc : k' ≤ R.cells) (hl : n' ≤ R.slots)
    (q : ∀ (a : Addr) (h' : Heap) (cA : ClassId), a = h.size → h0.size ≤ a → Ext h h' → Arv Z h' a cA ty z [] dv → Go own p l e R s m args below meth c Z n0 h0 ws Q k' n' h' (mkF m pc' Ls (.ref a :: S))) :
    Go own p l e R s m args below meth c Z n0 h0 ws Q k n h (mkF m pc Ls (.int z :: S)) := fun hC T L X eT N K => by
  subst hk hn hp hty hdv
  obtain ⟨T2, h2, k2, X2, e2, E2, A2, st2⟩ := RoadKit.newP X hC.1 hC.2.1 w eT (g := (mkF m pc Ls (.int z :: S))) rfl hd rfl hz hcap hb hc hl
  exact (q _ h2 k2 rfl K.1 E2 (Arv.new A2 hz) hC T2 _ X2 e2 N (K.ext E2)).step st2
/-- the return -/
theorem Go.ret {v : Option Value} (st : ∀ (s' T : State) (L : List Loc) (fs : List Frame), Stand p l e R s' m args below meth c T L k n → (∀ (f : JFrame) (acts : List Action), f.method = m → f.locked = none → f.entered = [] → (doReturn e (T.setTop f) acts v).1 = T.setFrames fs) → Steps p.tables e below (T.setTop g) (T.setFrames fs))
    (hv : meth.sig.returnType = none → v = none) (hc : k ≤ R.cells) (hs : n ≤ R.slots) (q : Q v h) : Go own p l e R s m args below meth c Z n0 h0 ws Q k n h g := fun hC T L X eT N K => by
  obtain ⟨fs, hr, hrun, hended, hW, hsame⟩ := X.leave (v := v) hv hC.2.2.2.1
  refine ⟨_, _, st s T L fs X hr, hrun, hended, _, _, rfl, ⟨N, ?_, ?_⟩, ⟨_, rfl⟩, hW, hsame.mono hc hs⟩
  · show Keep h0 T.heap ws
    rw [eT]; exact K
  · show Q v T.heap
    rw [eT]; exact q
/-- what a call asks and leaves -/
def Bk (l : Launch) (R : Room) (p : Program) (e : Env) (below : List Frame) (s : State) (args : Array Value) (y : MethodName) (len W : Nat) (as' : Array Value) (h : Heap) (rc rs n0 : Nat) (ws' : List Addr) (Q' : Option Value → Heap → Prop) : Prop :=
  Back l R p e below s args y len W (fun A a => a = as' ∧ A.U.heap = h ∧ A.cells + rc ≤ R.cells ∧ A.slots + rs ≤ R.slots)
    (fun A _ v B => ∃ L, (Fr n0 L ∧ Keep h B.U.heap ws' ∧ Q' v B.U.heap) ∧ B.locs = A.locs ++ L ∧ B.cells = A.cells + rc ∧ B.slots = A.slots + rs)
/-- a contract -/
def Ct (l : Launch) (Z : State) (y : MethodName) (bytes : ByteArray) (ml : Nat) (ret : Option FieldType) (wds : List Cond) (R : Room) (as' : Array Value) (n0 : Nat) (h0 : Heap) (ws : List Addr) (Q : Option Value → Heap → Prop) : Prop :=
  MetFree l y (head1 (Cond.code y bytes ml ret :: wds) R) (fun a U => a = as' ∧ Z.Warmed39 U.vm ∧ U.heap = h0) (fun _ _ _ _ _ => True) (fun _ U o U' => ∃ v L, o = .returned v ∧ (Fr n0 L ∧ Keep h0 U'.heap ws ∧ Q v U'.heap) ∧ FrameEnd U o U' L R.cells R.slots)
theorem Ct.of {y : MethodName} {bytes : ByteArray} {ml : Nat} {ret : Option FieldType} {wds : List Cond} {as' : Array Value} (pn : plainName y.cls = true) (hn : Old Z n0 h0) (hws : ∀ x ∈ ws, n0 ≤ x)
    (body : ∀ (p : Program) (e : Env) (s : State) (m : MethodId) (below : List Frame) (meth : Method) (c : Code), p.tables.exec = Jvm.exec → c.code = bytes → c.maxLocals = ml → meth.sig.returnType = ret → meth.name = y.name → Go y.cls p l e R s m as' below meth c Z n0 h0 ws Q 0 0 h0 (entryFrame m as' ml)) :
    Ct l Z y bytes ml ret wds R as' n0 h0 ws Q := by
  refine MetFree.of_bodySF (plainFor_of_name pn) hisR ?_
  intro p e s m args below meth c s₁ Bd hml0 hP hK
  obtain ⟨rfl, hZ, hh⟩ := hP
  have X0 : Stand p l e R s m args below meth c s₁ [] 0 0 := Stand.of_body Bd
  have e0 : s₁.heap = h0 := by rw [← hh, Bd.state]; rfl
  exact body p e s m below meth c Bd.exec Bd.bytes hml0 Bd.returns (name_of_methodNamed Bd.named Bd.method).1 ⟨Bd.exec, hZ, findClass_of_methodNamed Bd.named, Bd.notSynchronized, hn, hws⟩ s₁ [] X0 e0 (Fr.nil n0) (Keep.refl _ _)
theorem Ct.bk {y : MethodName} {bytes : ByteArray} {ml : Nat} {ret : Option FieldType} {rm : Room} {as' : Array Value} {len W : Nat} (hM : Ct l Z y bytes ml ret [] rm as' n0 h ws' Q') (hZ : Z.Warmed39 s.vm) (wc : (Cond.code y bytes ml ret).before a0 Z = true) (wz : (Cond.initialized y.cls).before a0 Z = true) (hf : rm.frames + 1 ≤ R.frames) (hl : W + (ml + 11) + rm.locals ≤ R.locals) :
    Bk l R p e below s args y len W as' h rm.cells rm.slots n0 ws' Q' := RoadKit.backOf (Q := fun v h' L => Fr n0 L ∧ Keep h h' ws' ∧ Q' v h') hM hZ wc wz hf hl
/-- a law of the library that changes nothing -/
theorem Bk.pure {y : MethodName} {as' : Array Value} {len W : Nat} {P : Option Value → Prop} (hB : Back l R p e below s args y len W (fun A a => a = as' ∧ A.U.heap = h ∧ A.cells + 0 ≤ R.cells ∧ A.slots + 0 ≤ R.slots) (fun A _ v B => ∃ L, (P v ∧ L = [] ∧ B.U.heap = h) ∧ B.locs = A.locs ++ L ∧ B.cells = A.cells + 0 ∧ B.slots = A.slots + 0)) :
    Bk l R p e below s args y len W as' h 0 0 n0 [] (fun v h' => P v ∧ h' = h) :=
  Back.mono hB (fun _ _ q => q) fun A a v B _ ⟨L, ⟨q1, q2, q3⟩, q4, q5, q6⟩ => ⟨L, ⟨q2 ▸ Fr.nil n0, q3 ▸ Keep.refl _ _, q1, q3⟩, q4, q5, q6⟩
theorem Bk.mono {y : MethodName} {as' : Array Value} {len W rc rs : Nat} {Q'' : Option Value → Heap → Prop} (hB : Bk l R p e below s args y len W as' h rc rs n0 ws' Q') (f : ∀ v h', Keep h h' ws' → Q' v h' → Q'' v h') : Bk l R p e below s args y len W as' h rc rs n0 ws' Q'' :=
  Back.mono hB (fun _ _ q => q) fun A a v B _ ⟨L, ⟨q1, q2, q3⟩, r⟩ => ⟨L, ⟨q1, q2, f _ _ q2 q3⟩, r⟩
theorem catOf {m : MethodId} {pc : Nat} {Ls : Array Slot} {S : List Value} {x W : Nat} (hW : x ≤ W) : 2 * (mkF m pc Ls S).monitorRoom + x ≤ W := by
  show 2 * 0 + _ ≤ _
  omega
/-- a constructor's call -/
theorem Go.callC {y : MethodName} {bytes : ByteArray} {ml idx W rc rs pc pc' : Nat} {a : Addr} {argsL rest S : List Value} {Ls : Array Slot} (hd : decode c.code pc = .ok (.invokespecial idx, 3)) (hy1 : y.name = "<init>") (w1 : (Cond.methodLink own idx y).before a0 Z = true) (w2 : (Cond.instanceMethod y).before a0 Z = true) (w3 : (Cond.code y bytes ml none).before a0 Z = true)
    (hy : y.cls ≠ "java/lang/invoke/MethodHandle" ∧ y.cls ≠ "java/lang/invoke/VarHandle") (hK : ∀ (s' : State), Z.Warmed39 s'.vm → Bk l R p e below s' args y 3 W (.ref a :: argsL).toArray h rc rs n0 ws' Q')
    (hsz : Ls.size = c.maxLocals) (hlen : ∀ sig, parseMethodDescriptor y.desc = some sig → argsL.length = sig.parameters.length) (hst : S = argsL.reverse ++ .ref a :: rest) (hW : (rest.map fun v => v.category).sum ≤ W)
    (hk : k' = k + rc) (hn : n' = n + rs) (hp : pc' = pc + 3) (hc : k' ≤ R.cells) (hl : n' ≤ R.slots) (ob : ∀ x ∈ ws', x ∈ ws ∨ h0.size ≤ x)
    (q : ∀ (v : Option Value) (h' : Heap), Keep h h' ws' → Q' v h' → Go own p l e R s m args below meth c Z n0 h0 ws Q k' n' h' (mkF m pc' Ls (v.toList ++ rest))) :
    Go own p l e R s m args below meth c Z n0 h0 ws Q k n h (mkF m pc Ls S) := fun hC T L X eT N K => by
  subst hk hn hp
  obtain ⟨v, _, ⟨T1, L1, k1, n1⟩, -, X1, ⟨Lc, hQ, l1, y1, z1⟩, st⟩ := X.specialBack hC.1 (y := y) hy1 hC.2.2.1 (mvT hC.2.1 w1) (mvT hC.2.1 w2) (mvT hC.2.1 w3) hy (hK s hC.2.1) (g := mkF m pc Ls S) rfl hsz (Steps.refl _) (a := a) (argsL := argsL) (rest := rest) hlen hst (catOf hW) hd (fun _ _ => ⟨rfl, eT, hc, hl⟩)
  dsimp only [Pt.U, Pt.locs, Pt.cells, Pt.slots] at X1 l1 y1 z1 st hQ
  subst l1 y1 z1
  obtain ⟨N1, K1, q1⟩ := hQ
  exact (q v T1.heap K1 q1 hC T1 _ X1 rfl (N.app N1) (K.trans K1 ob)).step (fun t r => st.trans r)
/-- an instance method's call -/
theorem Go.callV {y z : MethodName} {C : String} {idx W rc rs pc pc' : Nat} {a : Addr} {argsL rest S : List Value} {Ls : Array Slot} (hd : decode c.code pc = .ok (.invokevirtual idx, 3)) (w1 : (Cond.methodLink own idx y).before a0 Z = true) (w2 : (Cond.declares y).before a0 Z = true) (nf : ∀ s' : State, Z.Warmed39 s'.vm → NotFace s' y) (w3 : (Cond.selects C y z).before a0 Z = true) (w4 : (Cond.instanceMethod z).before a0 Z = true)
    (hy : y.cls ≠ "java/lang/invoke/MethodHandle" ∧ y.cls ≠ "java/lang/invoke/VarHandle") (hK : ∀ (s' : State), Z.Warmed39 s'.vm → Bk l R p e below s' args z 3 W (.ref a :: argsL).toArray h rc rs n0 ws' Q') (E : Exa Z h a C)
    (hsz : Ls.size = c.maxLocals) (hlen : ∀ sig, parseMethodDescriptor y.desc = some sig → argsL.length = sig.parameters.length) (hst : S = argsL.reverse ++ .ref a :: rest) (hW : (rest.map fun v => v.category).sum ≤ W)
    (hk : k' = k + rc) (hn : n' = n + rs) (hp : pc' = pc + 3) (hc : k' ≤ R.cells) (hl : n' ≤ R.slots) (ob : ∀ x ∈ ws', x ∈ ws ∨ h0.size ≤ x)
    (q : ∀ (v : Option Value) (h' : Heap), Keep h h' ws' → Q' v h' → Go own p l e R s m args below meth c Z n0 h0 ws Q k' n' h' (mkF m pc' Ls (v.toList ++ rest))) :
    Go own p l e R s m args below meth c Z n0 h0 ws Q k n h (mkF m pc Ls S) := fun hC T L X eT N K => by
  subst hk hn hp
  obtain ⟨cq, kq, qa, qb, qc⟩ := isOf hC.2.1 eT E
  obtain ⟨v, _, ⟨T1, L1, k1, n1⟩, -, X1, ⟨Lc, hQ, l1, y1, z1⟩, st⟩ := X.virtualBack hC.1 (y := y) (z := z) hC.2.2.1 (mvT hC.2.1 w1) (mvT hC.2.1 w2) (nf s hC.2.1) (mvT hC.2.1 w3) (mvT hC.2.1 w4) hy (hK s hC.2.1) qa qc (g := mkF m pc Ls S) rfl hsz (Steps.refl _) (argsL := argsL) (rest := rest) hlen hst (catOf hW) hd (fun _ _ => ⟨rfl, eT, hc, hl⟩)
  dsimp only [Pt.U, Pt.locs, Pt.cells, Pt.slots] at X1 l1 y1 z1 st hQ
  subst l1 y1 z1
  obtain ⟨N1, K1, q1⟩ := hQ
  exact (q v T1.heap K1 q1 hC T1 _ X1 rfl (N.app N1) (K.trans K1 ob)).step (fun t r => st.trans r)
/-- a static method's call -/
theorem Go.callS {y : MethodName} {bytes : ByteArray} {ml idx W rc rs pc pc' : Nat} {rt : Option FieldType} {argsL rest S : List Value} {Ls : Array Slot} (hd : decode c.code pc = .ok (.invokestatic idx, 3)) (w1 : (Cond.methodLink own idx y).before a0 Z = true) (w2 : (Cond.static y).before a0 Z = true) (w3 : (Cond.initialized y.cls).before a0 Z = true) (w4 : (Cond.code y bytes ml rt).before a0 Z = true)
    (hy : y.cls ≠ "java/lang/invoke/MethodHandle" ∧ y.cls ≠ "java/lang/invoke/VarHandle") (hK : ∀ (s' : State), Z.Warmed39 s'.vm → Bk l R p e below s' args y 3 W argsL.toArray h rc rs n0 ws' Q')
    (hsz : Ls.size = c.maxLocals) (hlen : ∀ sig, parseMethodDescriptor y.desc = some sig → argsL.length = sig.parameters.length) (hst : S = argsL.reverse ++ rest) (hW : (rest.map fun v => v.category).sum ≤ W)
    (hk : k' = k + rc) (hn : n' = n + rs) (hp : pc' = pc + 3) (hc : k' ≤ R.cells) (hl : n' ≤ R.slots) (ob : ∀ x ∈ ws', x ∈ ws ∨ h0.size ≤ x)
    (q : ∀ (v : Option Value) (h' : Heap), Keep h h' ws' → Q' v h' → Go own p l e R s m args below meth c Z n0 h0 ws Q k' n' h' (mkF m pc' Ls (v.toList ++ rest))) :
    Go own p l e R s m args below meth c Z n0 h0 ws Q k n h (mkF m pc Ls S) := fun hC T L X eT N K => by
  subst hk hn hp
  obtain ⟨v, _, ⟨T1, L1, k1, n1⟩, -, X1, ⟨Lc, hQ, l1, y1, z1⟩, st⟩ := Jvm.LawKit.callS X hC.1 (y := y) hC.2.2.1 (mvT hC.2.1 w1) (mvT hC.2.1 w2) (mvT hC.2.1 w3) (mvT hC.2.1 w4) hy (hK s hC.2.1) (g := mkF m pc Ls S) rfl hsz (argsL := argsL) (rest := rest) hlen hst (catOf hW) hd (fun _ _ => ⟨rfl, eT, hc, hl⟩)
  dsimp only [Pt.U, Pt.locs, Pt.cells, Pt.slots] at X1 l1 y1 z1 st hQ
  subst l1 y1 z1
  obtain ⟨N1, K1, q1⟩ := hQ
  exact (q v T1.heap K1 q1 hC T1 _ X1 rfl (N.app N1) (K.trans K1 ob)).step st
/-- calls that change nothing -/
theorem Go.callSP {y : MethodName} {bytes : ByteArray} {ml idx W pc pc' : Nat} {rt : Option FieldType} {argsL rest S : List Value} {Ls : Array Slot} {P : Option Value → Prop} (hd : decode c.code pc = .ok (.invokestatic idx, 3)) (w1 : (Cond.methodLink own idx y).before a0 Z = true) (w2 : (Cond.static y).before a0 Z = true) (w3 : (Cond.initialized y.cls).before a0 Z = true) (w4 : (Cond.code y bytes ml rt).before a0 Z = true)
    (hy : y.cls ≠ "java/lang/invoke/MethodHandle" ∧ y.cls ≠ "java/lang/invoke/VarHandle") (hK : ∀ (s' : State), Z.Warmed39 s'.vm → Bk l R p e below s' args y 3 W argsL.toArray h 0 0 n0 [] (fun v h' => P v ∧ h' = h))
    (hsz : Ls.size = c.maxLocals) (hlen : ∀ sig, parseMethodDescriptor y.desc = some sig → argsL.length = sig.parameters.length) (hst : S = argsL.reverse ++ rest) (hW : (rest.map fun v => v.category).sum ≤ W) (hp : pc' = pc + 3) (hc : k ≤ R.cells) (hl : n ≤ R.slots)
    (q : ∀ v : Option Value, P v → Go own p l e R s m args below meth c Z n0 h0 ws Q k n h (mkF m pc' Ls (v.toList ++ rest))) :
    Go own p l e R s m args below meth c Z n0 h0 ws Q k n h (mkF m pc Ls S) :=
  Go.callS hd w1 w2 w3 w4 hy hK hsz hlen hst hW rfl rfl hp hc hl all0 (fun v h' _ ⟨q1, q2⟩ => q2 ▸ q v q1)
theorem Go.callVP {y z : MethodName} {C : String} {idx W pc pc' : Nat} {a : Addr} {argsL rest S : List Value} {Ls : Array Slot} {P : Option Value → Prop} (hd : decode c.code pc = .ok (.invokevirtual idx, 3)) (w1 : (Cond.methodLink own idx y).before a0 Z = true) (w2 : (Cond.declares y).before a0 Z = true) (nf : ∀ s' : State, Z.Warmed39 s'.vm → NotFace s' y) (w3 : (Cond.selects C y z).before a0 Z = true) (w4 : (Cond.instanceMethod z).before a0 Z = true)
    (hy : y.cls ≠ "java/lang/invoke/MethodHandle" ∧ y.cls ≠ "java/lang/invoke/VarHandle") (hK : ∀ (s' : State), Z.Warmed39 s'.vm → Bk l R p e below s' args z 3 W (.ref a :: argsL).toArray h 0 0 n0 [] (fun v h' => P v ∧ h' = h)) (E : Exa Z h a C)
    (hsz : Ls.size = c.maxLocals) (hlen : ∀ sig, parseMethodDescriptor y.desc = some sig → argsL.length = sig.parameters.length) (hst : S = argsL.reverse ++ .ref a :: rest) (hW : (rest.map fun v => v.category).sum ≤ W) (hp : pc' = pc + 3) (hc : k ≤ R.cells) (hl : n ≤ R.slots)
    (q : ∀ v : Option Value, P v → Go own p l e R s m args below meth c Z n0 h0 ws Q k n h (mkF m pc' Ls (v.toList ++ rest))) :
    Go own p l e R s m args below meth c Z n0 h0 ws Q k n h (mkF m pc Ls S) :=
  Go.callV hd w1 w2 nf w3 w4 hy hK E hsz hlen hst hW rfl rfl hp hc hl all0 (fun v h' _ ⟨q1, q2⟩ => q2 ▸ q v q1)
theorem Go.callCP {y : MethodName} {bytes : ByteArray} {ml idx W pc pc' : Nat} {a : Addr} {argsL rest S : List Value} {Ls : Array Slot} {P : Option Value → Prop} (hd : decode c.code pc = .ok (.invokespecial idx, 3)) (hy1 : y.name = "<init>") (w1 : (Cond.methodLink own idx y).before a0 Z = true) (w2 : (Cond.instanceMethod y).before a0 Z = true) (w3 : (Cond.code y bytes ml none).before a0 Z = true)
    (hy : y.cls ≠ "java/lang/invoke/MethodHandle" ∧ y.cls ≠ "java/lang/invoke/VarHandle") (hK : ∀ (s' : State), Z.Warmed39 s'.vm → Bk l R p e below s' args y 3 W (.ref a :: argsL).toArray h 0 0 n0 [] (fun v h' => P v ∧ h' = h))
    (hsz : Ls.size = c.maxLocals) (hlen : ∀ sig, parseMethodDescriptor y.desc = some sig → argsL.length = sig.parameters.length) (hst : S = argsL.reverse ++ .ref a :: rest) (hW : (rest.map fun v => v.category).sum ≤ W) (hp : pc' = pc + 3) (hc : k ≤ R.cells) (hl : n ≤ R.slots)
    (q : ∀ v : Option Value, P v → Go own p l e R s m args below meth c Z n0 h0 ws Q k n h (mkF m pc' Ls (v.toList ++ rest))) :
    Go own p l e R s m args below meth c Z n0 h0 ws Q k n h (mkF m pc Ls S) :=
  Go.callC hd hy1 w1 w2 w3 hy hK hsz hlen hst hW rfl rfl hp hc hl all0 (fun v h' _ ⟨q1, q2⟩ => q2 ▸ q v q1)
end Layer
theorem nar_ref {C : String} {v : Value} (h : v.isRef = true) : narrow (.object C) v = v := by rcases ref_cases h with rfl | ⟨_, rfl⟩ <;> rfl
theorem fit_ref {C : String} {v : Value} (h : v.isRef = true) : fits (.object C) v = true := by rcases ref_cases h with rfl | ⟨_, rfl⟩ <;> rfl
end Jvm.Pilot.@@N@@.Own
namespace Jvm.Pilot.@@N@@
open Jvm Jvm.ClassFile Sem Op Lib Jvm.Free Jvm.Stand Jvm.LawKit Jvm.RoadKit Bundle
theorem own_w {a0 : Array Value} {Z : State} (hw : ∀ d ∈ tables_1, d.before a0 Z = true) {d : Jvm.Cond} (i : Nat) (h : tables_1[i]? = some d) : d.before a0 Z = true := hw d (List.mem_of_getElem? h)
section Small
variable {p : Program} {l : Launch} {e : Env} {R : Room} {s : State} {m : MethodId} {args : Array Value} {below : List Frame} {meth : Method} {c : Code} {T : State} {locs : List Loc} {cells slots : Nat} {Z : State} {a0 : Array Value} {h h' : Heap} {a : Addr} {k : ClassId} {ty : FieldType} {z j : Int32} {vs : List Value} {dv v : Value} {g : JFrame} {rest : List Value}
theorem own_len (X : Stand p l e R s m args below meth c T locs cells slots) (hx : p.tables.exec = Jvm.exec) (hZ : Z.Warmed39 s.vm) (eT : T.heap = h) (F : Arv Z h a k ty z vs dv) (hg : g.method = m) (hs : g.stack = .ref a :: rest) (hd : decode c.code g.pc = .ok (.arraylength, 1)) (t : State)
    (r : Steps p.tables e below (T.setTop { g with pc := g.pc + 1, stack := .int z :: rest }) t) : Steps p.tables e below (T.setTop g) t := by
  obtain ⟨cl, A, -, S, hz, -, -⟩ := F
  refine X.arraylength hx (by rw [eT]; exact A.1) (State.isArrayOf_alike hZ.alike A.2.1) hg hs hd t ?_
  rw [len_of S hz]; exact r
theorem own_ldC (X : Stand p l e R s m args below meth c T locs cells slots) (hx : p.tables.exec = Jvm.exec) (hZ : Z.Warmed39 s.vm) (eT : T.heap = h) (F : Arv Z h a k .char z vs dv) (hj : ¬ j < 0 ∧ j < z) (hv : vs.getD j.toNatClampNeg dv = v) (hg : g.method = m) (hs : g.stack = .int j :: .ref a :: rest) (hd : decode c.code g.pc = .ok (.caload, 1)) (t : State)
    (r : Steps p.tables e below (T.setTop { g with pc := g.pc + 1, stack := v :: rest }) t) : Steps p.tables e below (T.setTop g) t := by
  obtain ⟨cl, A, -, S, hz, H, -⟩ := F
  exact X.caload hx (by rw [eT]; exact A.1) (State.isArrayOf_alike hZ.alike A.2.1) A.2.2 (inb_of S hj) (H.at (inb_of S hj) hv) hg hs hd t r
theorem own_ldB (X : Stand p l e R s m args below meth c T locs cells slots) (hx : p.tables.exec = Jvm.exec) (hZ : Z.Warmed39 s.vm) (eT : T.heap = h) (F : Arv Z h a k .byte z vs dv) (hj : ¬ j < 0 ∧ j < z) (hv : vs.getD j.toNatClampNeg dv = v) (hg : g.method = m) (hs : g.stack = .int j :: .ref a :: rest) (hd : decode c.code g.pc = .ok (.baload, 1)) (t : State)
    (r : Steps p.tables e below (T.setTop { g with pc := g.pc + 1, stack := v :: rest }) t) : Steps p.tables e below (T.setTop g) t := by
  obtain ⟨cl, A, -, S, hz, H, -⟩ := F
  exact X.baloadBytes hx (by rw [eT]; exact A.1) (State.isArrayOf_alike hZ.alike A.2.1) A.2.2 (inb_of S hj) (H.at (inb_of S hj) hv) hg hs hd t r
theorem own_ldI (X : Stand p l e R s m args below meth c T locs cells slots) (hx : p.tables.exec = Jvm.exec) (hZ : Z.Warmed39 s.vm) (eT : T.heap = h) (F : Arv Z h a k .int z vs dv) (hj : ¬ j < 0 ∧ j < z) (hv : vs.getD j.toNatClampNeg dv = v) (hg : g.method = m) (hs : g.stack = .int j :: .ref a :: rest) (hd : decode c.code g.pc = .ok (.iaload, 1)) (t : State)
    (r : Steps p.tables e below (T.setTop { g with pc := g.pc + 1, stack := v :: rest }) t) : Steps p.tables e below (T.setTop g) t := by
  obtain ⟨cl, A, -, S, hz, H, -⟩ := F
  exact X.iaload hx (by rw [eT]; exact A.1) (State.isArrayOf_alike hZ.alike A.2.1) A.2.2 (inb_of S hj) (H.at (inb_of S hj) hv) hg hs hd t r
theorem own_ldL (X : Stand p l e R s m args below meth c T locs cells slots) (hx : p.tables.exec = Jvm.exec) (hZ : Z.Warmed39 s.vm) (eT : T.heap = h) (F : Arv Z h a k .long z vs dv) (hj : ¬ j < 0 ∧ j < z) (hv : vs.getD j.toNatClampNeg dv = v) (hg : g.method = m) (hs : g.stack = .int j :: .ref a :: rest) (hd : decode c.code g.pc = .ok (.laload, 1)) (t : State)
    (r : Steps p.tables e below (T.setTop { g with pc := g.pc + 1, stack := v :: rest }) t) : Steps p.tables e below (T.setTop g) t := by
  obtain ⟨cl, A, -, S, hz, H, -⟩ := F
  exact X.laload hx (by rw [eT]; exact A.1) (State.isArrayOf_alike hZ.alike A.2.1) A.2.2 (inb_of S hj) (H.at (inb_of S hj) hv) hg hs hd t r
theorem own_ldA {C : String} (X : Stand p l e R s m args below meth c T locs cells slots) (hx : p.tables.exec = Jvm.exec) (hZ : Z.Warmed39 s.vm) (eT : T.heap = h) (F : Arv Z h a k (.object C) z vs dv) (hj : ¬ j < 0 ∧ j < z) (hv : vs.getD j.toNatClampNeg dv = v) (hg : g.method = m) (hs : g.stack = .int j :: .ref a :: rest) (hd : decode c.code g.pc = .ok (.aaload, 1)) (t : State)
    (r : Steps p.tables e below (T.setTop { g with pc := g.pc + 1, stack := v :: rest }) t) : Steps p.tables e below (T.setTop g) t := by
  obtain ⟨cl, A, -, S, hz, H, -⟩ := F
  exact X.aaload hx (by rw [eT]; exact A.1) (State.isArrayOf_alike hZ.alike A.2.1) rfl A.2.2 (inb_of S hj) (H.at (inb_of S hj) hv) hg hs hd t r
theorem own_stC {x : Int32} (X : Stand p l e R s m args below meth c T locs cells slots) (hx : p.tables.exec = Jvm.exec) (hZ : Z.Warmed39 s.vm) (eT : T.heap = h) (F : Arv Z h a k .char z vs dv) (hj : ¬ j < 0 ∧ j < z) (hg : g.method = m) (hs : g.stack = .int x :: .int j :: .ref a :: rest) (hd : decode c.code g.pc = .ok (.castore, 1)) :
    ∃ (T' : State) (h' : Heap), Stand p l e R s m args below meth c T' (locs ++ [⟨a, j.toNatClampNeg⟩]) cells slots ∧ T'.heap = h' ∧ Wr h h' a j.toNatClampNeg (.int (nar .char x)) ∧ ∀ t, Steps p.tables e below (T'.setTop { g with pc := g.pc + 1, stack := rest }) t → Steps p.tables e below (T.setTop g) t := by
  obtain ⟨cl, A, -, S, hz, H, -⟩ := F
  exact stC X hx hZ eT A (inb_of S hj) hg hs hd
theorem own_stB {x : Int32} (X : Stand p l e R s m args below meth c T locs cells slots) (hx : p.tables.exec = Jvm.exec) (hZ : Z.Warmed39 s.vm) (eT : T.heap = h) (F : Arv Z h a k .byte z vs dv) (hj : ¬ j < 0 ∧ j < z) (hg : g.method = m) (hs : g.stack = .int x :: .int j :: .ref a :: rest) (hd : decode c.code g.pc = .ok (.bastore, 1)) :
    ∃ (T' : State) (h' : Heap), Stand p l e R s m args below meth c T' (locs ++ [⟨a, j.toNatClampNeg⟩]) cells slots ∧ T'.heap = h' ∧ Wr h h' a j.toNatClampNeg (.int (nar .byte x)) ∧ ∀ t, Steps p.tables e below (T'.setTop { g with pc := g.pc + 1, stack := rest }) t → Steps p.tables e below (T.setTop g) t := by
  obtain ⟨cl, A, -, S, hz, H, -⟩ := F
  exact stB X hx hZ eT A (inb_of S hj) hg hs hd
theorem own_stI {x : Int32} (X : Stand p l e R s m args below meth c T locs cells slots) (hx : p.tables.exec = Jvm.exec) (hZ : Z.Warmed39 s.vm) (eT : T.heap = h) (F : Arv Z h a k .int z vs dv) (hj : ¬ j < 0 ∧ j < z) (hg : g.method = m) (hs : g.stack = .int x :: .int j :: .ref a :: rest) (hd : decode c.code g.pc = .ok (.iastore, 1)) :
    ∃ (T' : State) (h' : Heap), Stand p l e R s m args below meth c T' (locs ++ [⟨a, j.toNatClampNeg⟩]) cells slots ∧ T'.heap = h' ∧ Wr h h' a j.toNatClampNeg (.int x) ∧ ∀ t, Steps p.tables e below (T'.setTop { g with pc := g.pc + 1, stack := rest }) t → Steps p.tables e below (T.setTop g) t := by
  obtain ⟨cl, A, -, S, hz, H, -⟩ := F
  exact stI X hx hZ eT A (inb_of S hj) hg hs hd
theorem own_stJ {x : Int64} (X : Stand p l e R s m args below meth c T locs cells slots) (hx : p.tables.exec = Jvm.exec) (hZ : Z.Warmed39 s.vm) (eT : T.heap = h) (F : Arv Z h a k .long z vs dv) (hj : ¬ j < 0 ∧ j < z) (hg : g.method = m) (hs : g.stack = .long x :: .int j :: .ref a :: rest) (hd : decode c.code g.pc = .ok (.lastore, 1)) :
    ∃ (T' : State) (h' : Heap), Stand p l e R s m args below meth c T' (locs ++ [⟨a, j.toNatClampNeg⟩]) cells slots ∧ T'.heap = h' ∧ Wr h h' a j.toNatClampNeg (.long x) ∧ ∀ t, Steps p.tables e below (T'.setTop { g with pc := g.pc + 1, stack := rest }) t → Steps p.tables e below (T.setTop g) t := by
  obtain ⟨cl, A, -, S, hz, H, -⟩ := F
  exact stJ X hx hZ eT A (inb_of S hj) hg hs hd
theorem own_set {v' : Value} (F : Arv Z h a k ty z vs dv) (hv : fits ty v = true) (W : Wr h h' a j.toNatClampNeg v) (e : v = v') (i : Nat) (hj : j.toNatClampNeg = i) (hi : i < vs.length) : Arv Z h' a k ty z (vs.set i v') dv := by
  subst e
  obtain ⟨cl, A, q1, S, q3, H, G⟩ := F
  exact Arv.set A q1 S q3 H G hv W i hj hi
theorem own_setx (F : Arv Z h a k ty z vs dv) (hv : fits ty v = true) (W : Wr h h' a j.toNatClampNeg v) (hj : ¬ j < 0 ∧ j < z) : ∃ vs', Arv Z h' a k ty z vs' dv := by
  refine ⟨_, own_set (vs := vs ++ List.replicate (j.toNatClampNeg + 1) dv) (F.pad (pad_rep vs dv _)) hv W rfl j.toNatClampNeg rfl ?_⟩
  simp only [List.length_append, List.length_replicate]
  omega
theorem own_ldcI {own : String} {index : Nat} {x : Int32} (X : Stand p l e R s m args below meth c T locs cells slots) (hx : p.tables.exec = Jvm.exec) (hZ : Z.Warmed39 s.vm) (hown : s.vm.findClass own = some m.cls) (w : (Cond.constant own index x).before a0 Z = true) (eT : T.heap = h) (hg : g.method = m) (hd : decode c.code g.pc = .ok (.ldc index, 2)) :
    ∃ T' : State, Stand p l e R s m args below meth c T' locs cells slots ∧ T'.heap = h ∧ ∀ t, Steps p.tables e below (T'.setTop { g with pc := g.pc + 2, stack := .int x :: g.stack }) t → Steps p.tables e below (T.setTop g) t := ⟨T, X, eT, X.ldcInt hx hown (mv hZ w) hg hd⟩
theorem own_ldcJ {own : String} {index : Nat} {x : Int64} (X : Stand p l e R s m args below meth c T locs cells slots) (hx : p.tables.exec = Jvm.exec) (hZ : Z.Warmed39 s.vm) (hown : s.vm.findClass own = some m.cls) (w : (Cond.constantLong own index x).before a0 Z = true) (eT : T.heap = h) (hg : g.method = m) (hd : decode c.code g.pc = .ok (.ldc2_w index, 3)) :
    ∃ T' : State, Stand p l e R s m args below meth c T' locs cells slots ∧ T'.heap = h ∧ ∀ t, Steps p.tables e below (T'.setTop { g with pc := g.pc + 3, stack := .long x :: g.stack }) t → Steps p.tables e below (T.setTop g) t := ⟨T, X, eT, X.ldc2Long hx hown (mv hZ w) hg hd⟩
theorem own_retJ (X : Stand p l e R s m args below meth c T locs cells slots) (hx : p.tables.exec = Jvm.exec) {pc : Nat} {Ls : Array Slot} {x : Int64} (hret : meth.sig.returnType = some .long) (hd : decode c.code pc = .ok (.lreturn, 1)) {fs : List Frame}
    (hl : ∀ (f : JFrame) (acts : List Action), f.method = m → f.locked = none → f.entered = [] → (doReturn e (T.setTop f) acts (some (.long x))).1 = T.setFrames fs) : Steps p.tables e below (T.setTop (mkF m pc Ls (.long x :: rest))) (T.setFrames fs) :=
  retOut X hx hret rfl (Or.inr (Or.inl ⟨rfl, rfl, _, rfl⟩)) hd hl
theorem own_retR (X : Stand p l e R s m args below meth c T locs cells slots) (hx : p.tables.exec = Jvm.exec) {pc : Nat} {Ls : Array Slot} {x : Value} {t : FieldType} (hret : meth.sig.returnType = some t) (ht : t.isReference = true) (hv : x.isRef = true) (hd : decode c.code pc = .ok (.areturn, 1)) {fs : List Frame}
    (hl : ∀ (f : JFrame) (acts : List Action), f.method = m → f.locked = none → f.entered = [] → (doReturn e (T.setTop f) acts (some x)).1 = T.setFrames fs) : Steps p.tables e below (T.setTop (mkF m pc Ls (x :: rest))) (T.setFrames fs) :=
  retOut X hx hret (by rcases ref_cases hv with rfl | ⟨_, rfl⟩ <;> cases t <;> first | rfl | cases ht) (Or.inr (Or.inr (Or.inr (Or.inr ⟨rfl, ht, hv⟩)))) hd hl
end Small
end Jvm.Pilot.@@N@@
/- laws to paste: Road.backV (cut by pick.py; bodies as the Statement names them) -/
namespace Jvm.Pilot.@@N@@
namespace StrChars
open Jvm Sem ClassFile Op Lib Jvm.Stand Jvm.Free.XT Jvm.Free.ALB Jvm.Free.JM Jvm.Free
open Jvm.Lib.Cold (StaticIs)
/-- a char array whose places are chars -/
def Ch (a : Addr) (A : Cell) (U : State) : Prop := Arr .char a A U ∧ Typed .char A
theorem Ch.mv {a : Addr} {A : Cell} {U U' : State} (h : Ch a A U) (hal : U.vm.Alike U'.vm) (hh : U'.heap = U.heap) : Ch a A U' := ⟨h.1.mv hal hh, h.2⟩
theorem Ch.keep {a : Addr} {A : Cell} {U U' : State} (h : Ch a A U) (hal : U.vm.Alike U'.vm) (hk : U'.heap[a]? = some A) : Ch a A U' := ⟨h.1.keep hal hk, h.2⟩
/-- what place i of a char[]'s cell holds -/
def cv (A : Cell) (i : Nat) : Int32 := match A.slots[i]? with | some (.int x) => x | _ => 0
theorem Ch.get {a : Addr} {A : Cell} {U : State} (h : Ch a A U) {i : Nat} (hi : i < A.slots.size) : A.slots[i]? = some (.int (cv A i)) := by
  have e := Array.getElem?_eq_getElem hi
  have f := h.2 i _ e
  unfold cv; rw [e]
  generalize A.slots[i] = v at f
  cases v <;> simp [fits] at f ⊢
/-- the byte that i2b leaves of a char -/
def lo8 (x : Int32) : Int32 := x.toInt8.toInt32
theorem fits_lo8 (y : Int32) : fits .byte (.int (lo8 y)) = true := by
  have h1 := y.toInt8.le_toInt
  have h2 := y.toInt8.toInt_lt
  simp only [lo8, fits, Bool.and_eq_true, decide_eq_true_eq, Int32.le_iff_toInt_le, Int8.toInt_toInt32, show (-128 : Int32).toInt = -128 from by decide, show (127 : Int32).toInt = 127 from by decide]
  omega
/-- A' is A but that each place j of lo .. hi - 1 holds f j -/
def Laid (A A' : Cell) (lo hi : Nat) (f : Nat → Value) : Prop := A'.cls = A.cls ∧ A'.vm = A.vm ∧ A'.slots.size = A.slots.size ∧ ∀ i, A'.slots[i]? = if lo ≤ i ∧ i < hi then some (f i) else A.slots[i]?
theorem Laid.zero (A : Cell) (lo : Nat) (f : Nat → Value) : Laid A A lo (lo + 0) f := ⟨rfl, rfl, rfl, fun i => by rw [if_neg (by omega)]⟩
theorem Laid.step {A Ak : Cell} {lo k : Nat} {f : Nat → Value} {v : Value} (h : Laid A Ak lo k f) (hlo : lo ≤ k) (hk : k < Ak.slots.size) (hv : v = f k) : Laid A (Ak.setSlot k v) lo (k + 1) f := by
  refine ⟨h.1, h.2.1, by simpa [Cell.setSlot] using h.2.2.1, fun i => ?_⟩
  by_cases e : k = i
  · subst e; rw [Cell.slots_setSlot_self v hk, if_pos (by omega), hv]
  · rw [Cell.slots_setSlot_ne v e, h.2.2.2 i]
    by_cases q : lo ≤ i ∧ i < k
    · rw [if_pos q, if_pos (by omega)]
    · rw [if_neg q, if_neg (by omega)]
def U16 : String := "java/lang/StringUTF16"
namespace Cmp5
def yN : MethodName := ⟨"java/lang/StringUTF16", "compress", "([CI[BII)I"⟩
abbrev yB : ByteArray := jdk_52_method_21_code
theorem d0 : decode yB 0 = .ok (.iconst 0, 1) := by decide +kernel
theorem d1 : decode yB 1 = .ok (.istore 5, 2) := by decide +kernel
theorem d3 : decode yB 3 = .ok (.iload 5, 2) := by decide +kernel
theorem d5 : decode yB 5 = .ok (.iload 4, 2) := by decide +kernel
theorem d7 : decode yB 7 = .ok (.if_icmp (.ge) 37, 3) := by decide +kernel
theorem d10 : decode yB 10 = .ok (.aload_n 0, 1) := by decide +kernel
theorem d11 : decode yB 11 = .ok (.iload_n 1, 1) := by decide +kernel
theorem d12 : decode yB 12 = .ok (.caload, 1) := by decide +kernel
theorem d13 : decode yB 13 = .ok (.istore 6, 2) := by decide +kernel
theorem d15 : decode yB 15 = .ok (.iload 6, 2) := by decide +kernel
theorem d17 : decode yB 17 = .ok (.sipush 255, 3) := by decide +kernel
theorem d20 : decode yB 20 = .ok (.if_icmp (.le) 6, 3) := by decide +kernel
theorem d26 : decode yB 26 = .ok (.aload_n 2, 1) := by decide +kernel
theorem d27 : decode yB 27 = .ok (.iload_n 3, 1) := by decide +kernel
theorem d28 : decode yB 28 = .ok (.iload 6, 2) := by decide +kernel
theorem d30 : decode yB 30 = .ok (.i2b, 1) := by decide +kernel
theorem d31 : decode yB 31 = .ok (.bastore, 1) := by decide +kernel
theorem d32 : decode yB 32 = .ok (.iinc 1 1, 3) := by decide +kernel
theorem d35 : decode yB 35 = .ok (.iinc 3 1, 3) := by decide +kernel
theorem d38 : decode yB 38 = .ok (.iinc 5 1, 3) := by decide +kernel
theorem d41 : decode yB 41 = .ok (.goto (-38), 3) := by decide +kernel
theorem d44 : decode yB 44 = .ok (.iload 4, 2) := by decide +kernel
theorem d46 : decode yB 46 = .ok (.ireturn, 1) := by decide +kernel
def site : List Cond := []
def tab : Cond := tabOf yN yB 7 (some .int) site
def P (b : Addr) (A : Cell) (d : Addr) (B : Cell) (o q len : Nat) (args : Array Value) (s : State) : Prop := args = #[.ref b, .int (Int32.ofNat o), .ref d, .int (Int32.ofNat q), .int (Int32.ofNat len)] ∧ Ch b A s ∧ Arr .byte d B s ∧ b ≠ d ∧ o + len ≤ A.slots.size ∧ q + len ≤ B.slots.size ∧ ∀ i, i < len → ¬ 255 < cv A (o + i)
def E (b : Addr) (A : Cell) (d : Addr) (B : Cell) (o q len : Nat) (r : Option Value) (s u : State) : Prop := r = some (.int (Int32.ofNat len)) ∧ ∃ B', Put d B' s u ∧ Laid B B' q (q + len) (fun j => Value.int (lo8 (cv A (o + (j - q)))))
/-- no char of the range above 255: len; the places written hold each char's low byte -/
theorem law (l : Launch) (b : Addr) (A : Cell) (d : Addr) (B : Cell) (o q len : Nat) : Law l yN 5 5 0 0 yB 7 (some .int) site (P b A d B o q len) (E b A d B o q len) (copyLocs d q len) 0 0 := by
  refine Law.of_walk (plainFor_of_name (by decide +kernel)) (by decide +kernel) (by decide +kernel) (by decide) (fun _ _ h => by rw [h.1]; rfl) (fun _ U U' hal hh h => ⟨h.1, h.2.1.mv hal hh, h.2.2.1.mv hal hh, h.2.2.2⟩) (fun r U U' V V' h1 hal h2 h => ⟨h.1, h.2.elim fun B' q => ⟨B', q.1.mv h1 h2, q.2⟩⟩) ?_
  intro p e s m args below meth c s₁ X0 hexec hbytes hml hret hlk hnm hown hh0 W hP
  obtain ⟨rfl, hA, hB, hne, l1, l2, hp⟩ := hP
  have c1 : Steps p.tables e below (s₁.setTop (entryFrame m #[.ref b, .int (Int32.ofNat o), .ref d, .int (Int32.ofNat q), .int (Int32.ofNat len)] 7)) (s₁.setTop (mkF m 0 #[.val (.ref b), .val (.int (Int32.ofNat o)), .val (.ref d), .val (.int (Int32.ofNat q)), .val (.int (Int32.ofNat len)), .unset, .unset] [])) := entry rfl
  have hA0 := hA.1.mv X0.warmed.alike hh0
  have hB0 := hB.mv X0.warmed.alike hh0
  have a31 := hA.1.2.2.2
  have c2 : Steps p.tables e below (s₁.setTop (entryFrame m #[.ref b, .int (Int32.ofNat o), .ref d, .int (Int32.ofNat q), .int (Int32.ofNat len)] 7)) (s₁.setTop (mkF m 3 #[.val (.ref b), .val (.int (Int32.ofNat o)), .val (.ref d), .val (.int (Int32.ofNat q)), .val (.int (Int32.ofNat len)), .val (.int 0), .unset] [])) := c1.trans (by
    refine iconstV X0.here hexec rfl 0 (hb hbytes d0) (by decide) ?_
    refine XS.istore X0.here hexec rfl (hb hbytes d1) rfl rfl ?_
    exact Steps.refl _)
  have loop : ∀ (r i : Nat), i + r = len → ∀ (z : Slot), (z = .unset ∨ ∃ w, z = .val w ∧ w.category = 1) → ∀ (Tl : State) (Bk : Cell), Stand p l e { frames := 0, locals := 0, cells := 0, slots := 0 } s m #[.ref b, .int (Int32.ofNat o), .ref d, .int (Int32.ofNat q), .int (Int32.ofNat len)] below meth c Tl ([] ++ copyLocs d q i) 0 0 → Put d Bk s₁ Tl → Laid B Bk q (q + i) (fun j => Value.int (lo8 (cv A (o + (j - q))))) →
      Steps p.tables e below (s₁.setTop (entryFrame m #[.ref b, .int (Int32.ofNat o), .ref d, .int (Int32.ofNat q), .int (Int32.ofNat len)] 7)) (Tl.setTop (mkF m 3 #[.val (.ref b), .val (.int (Int32.ofNat (o + i))), .val (.ref d), .val (.int (Int32.ofNat (q + i))), .val (.int (Int32.ofNat len)), .val (.int (Int32.ofNat i)), z] [])) → ∃ (T' : State) (B' : Cell) (z' : Slot), Stand p l e { frames := 0, locals := 0, cells := 0, slots := 0 } s m #[.ref b, .int (Int32.ofNat o), .ref d, .int (Int32.ofNat q), .int (Int32.ofNat len)] below meth c T' ([] ++ copyLocs d q len) 0 0 ∧ Put d B' s₁ T' ∧ Laid B B' q (q + len) (fun j => Value.int (lo8 (cv A (o + (j - q))))) ∧
      Steps p.tables e below (s₁.setTop (entryFrame m #[.ref b, .int (Int32.ofNat o), .ref d, .int (Int32.ofNat q), .int (Int32.ofNat len)] 7)) (T'.setTop (mkF m 3 #[.val (.ref b), .val (.int (Int32.ofNat (o + len))), .val (.ref d), .val (.int (Int32.ofNat (q + len))), .val (.int (Int32.ofNat len)), .val (.int (Int32.ofNat len)), z'] [])) := by
    intro r
    induction r with
    | zero =>
      intro i hi z hz Tl Bk Xl pl fl cl
      have hil : i = len := by omega
      rw [hil] at Xl fl cl
      exact ⟨Tl, Bk, z, Xl, pl, fl, cl⟩
    | succ r ih =>
      intro i hi z hz Tl Bk Xl pl fl cl
      have all := X0.warmed.alike.symm.trans Xl.warmed.alike
      have hAl := hA0.keep all (pl.other hne hA0.1)
      have hBk := hB0.like all pl.1 fl.1 fl.2.1 fl.2.2.1
      have hlt : q + i < Bk.slots.size := by rw [fl.2.2.1]; omega
      have c3 : Steps p.tables e below (s₁.setTop (entryFrame m #[.ref b, .int (Int32.ofNat o), .ref d, .int (Int32.ofNat q), .int (Int32.ofNat len)] 7)) (Tl.setTop (mkF m 12 #[.val (.ref b), .val (.int (Int32.ofNat (o + i))), .val (.ref d), .val (.int (Int32.ofNat (q + i))), .val (.int (Int32.ofNat len)), .val (.int (Int32.ofNat i)), z] [.int (Int32.ofNat (o + i)), .ref b])) := cl.trans (by
        refine XS.iload Xl.here hexec rfl (hb hbytes d3) rfl ?_
        refine XS.iload Xl.here hexec rfl (hb hbytes d5) rfl ?_
        refine XS.icmpNo Xl.here hexec rfl (hb hbytes d7) rfl (ii_ge_f (lt32 (by omega) (by omega))) ?_
        refine XS.aloadN Xl.here hexec rfl (hb hbytes d10) rfl rfl ?_
        refine XS.iloadN Xl.here hexec rfl (hb hbytes d11) rfl ?_
        exact Steps.refl _)
      have c4 : Steps p.tables e below (s₁.setTop (entryFrame m #[.ref b, .int (Int32.ofNat o), .ref d, .int (Int32.ofNat q), .int (Int32.ofNat len)] 7)) (Tl.setTop (mkF m 13 #[.val (.ref b), .val (.int (Int32.ofNat (o + i))), .val (.ref d), .val (.int (Int32.ofNat (q + i))), .val (.int (Int32.ofNat len)), .val (.int (Int32.ofNat i)), z] [.int (cv A (o + i))])) := c3.trans (by
        refine Xl.aget hexec hAl rfl (hA.get (i := o + i) (by omega)) rfl rfl (hb hbytes d12) ?_
        exact Steps.refl _)
      have c5 : Steps p.tables e below (s₁.setTop (entryFrame m #[.ref b, .int (Int32.ofNat o), .ref d, .int (Int32.ofNat q), .int (Int32.ofNat len)] 7)) (Tl.setTop (mkF m 15 #[.val (.ref b), .val (.int (Int32.ofNat (o + i))), .val (.ref d), .val (.int (Int32.ofNat (q + i))), .val (.int (Int32.ofNat len)), .val (.int (Int32.ofNat i)), .val (.int (cv A (o + i)))] [])) := c4.trans (by
        refine XS.istoreS Xl.here hexec rfl (hb hbytes d13) rfl rfl hz ?_
        exact Steps.refl _)
      have c6 : Steps p.tables e below (s₁.setTop (entryFrame m #[.ref b, .int (Int32.ofNat o), .ref d, .int (Int32.ofNat q), .int (Int32.ofNat len)] 7)) (Tl.setTop (mkF m 31 #[.val (.ref b), .val (.int (Int32.ofNat (o + i))), .val (.ref d), .val (.int (Int32.ofNat (q + i))), .val (.int (Int32.ofNat len)), .val (.int (Int32.ofNat i)), .val (.int (cv A (o + i)))] [.int (lo8 (cv A (o + i))), .int (Int32.ofNat (q + i)), .ref d])) := c5.trans (by
        refine XS.iload Xl.here hexec rfl (hb hbytes d15) rfl ?_
        refine sipushV Xl.here hexec rfl 255 (hb hbytes d17) (by decide) ?_
        refine XS.icmpYes Xl.here hexec rfl (pc0 := 20) rfl (hb hbytes d20) rfl (ii_le_t (hp i (by omega))) (by decide) rfl ?_
        refine XS.aloadN Xl.here hexec rfl (hb hbytes d26) rfl rfl ?_
        refine XS.iloadN Xl.here hexec rfl (hb hbytes d27) rfl ?_
        refine XS.iload Xl.here hexec rfl (hb hbytes d28) rfl ?_
        refine i2b Xl.here hexec rfl (hb hbytes d30) rfl ?_
        exact Steps.refl _)
      obtain ⟨T7, X7, p7, st7⟩ := Xl.aput hexec hBk rfl hlt rfl (fits_lo8 (cv A (o + i))) (g := (mkF m 31 #[.val (.ref b), .val (.int (Int32.ofNat (o + i))), .val (.ref d), .val (.int (Int32.ofNat (q + i))), .val (.int (Int32.ofNat len)), .val (.int (Int32.ofNat i)), .val (.int (cv A (o + i)))] [.int (lo8 (cv A (o + i))), .int (Int32.ofNat (q + i)), .ref d])) rfl (rest := []) rfl (hb hbytes d31)
      have c8 : Steps p.tables e below (s₁.setTop (entryFrame m #[.ref b, .int (Int32.ofNat o), .ref d, .int (Int32.ofNat q), .int (Int32.ofNat len)] 7)) (T7.setTop (mkF m 32 #[.val (.ref b), .val (.int (Int32.ofNat (o + i))), .val (.ref d), .val (.int (Int32.ofNat (q + i))), .val (.int (Int32.ofNat len)), .val (.int (Int32.ofNat i)), .val (.int (cv A (o + i)))] [])) := c6.trans (st7 _ (Steps.refl _))
      have c9 : Steps p.tables e below (s₁.setTop (entryFrame m #[.ref b, .int (Int32.ofNat o), .ref d, .int (Int32.ofNat q), .int (Int32.ofNat len)] 7)) (T7.setTop (mkF m 3 #[.val (.ref b), .val (.int (Int32.ofNat (o + i) + 1)), .val (.ref d), .val (.int (Int32.ofNat (q + i) + 1)), .val (.int (Int32.ofNat len)), .val (.int (Int32.ofNat i + 1)), .val (.int (cv A (o + i)))] [])) := c8.trans (by
        refine iincV X7.here hexec rfl 1 (hb hbytes d32) (by decide) rfl rfl ?_
        refine iincV X7.here hexec rfl 1 (hb hbytes d35) (by decide) rfl rfl ?_
        refine iincV X7.here hexec rfl 1 (hb hbytes d38) (by decide) rfl rfl ?_
        refine XS.goto X7.here hexec rfl (pc0 := 41) rfl (hb hbytes d41) (by decide) rfl ?_
        exact Steps.refl _)
      have c10 : Steps p.tables e below (s₁.setTop (entryFrame m #[.ref b, .int (Int32.ofNat o), .ref d, .int (Int32.ofNat q), .int (Int32.ofNat len)] 7)) (T7.setTop (mkF m 3 #[.val (.ref b), .val (.int (Int32.ofNat (o + (i + 1)))), .val (.ref d), .val (.int (Int32.ofNat (q + (i + 1)))), .val (.int (Int32.ofNat len)), .val (.int (Int32.ofNat (i + 1))), .val (.int (cv A (o + i)))] [])) := by
        have := c9
        rw [succ32, succ32, succ32] at this
        exact this
      exact ih (i + 1) (by omega) _ (Or.inr ⟨_, rfl, rfl⟩) T7 _ (by rw [copyLocs_step, ← List.append_assoc]; exact X7) (pl.trans p7) (fl.step (by omega) hlt (by simp)) c10
  obtain ⟨T9, B9, z9, X9, p9, f9, g9⟩ := loop len 0 (by omega) .unset (Or.inl rfl) s₁ B (by simpa [copyLocs] using X0) ⟨hB0.1, fun _ _ => rfl, rfl⟩ (Laid.zero _ _ _) c2
  have c11 : Steps p.tables e below (s₁.setTop (entryFrame m #[.ref b, .int (Int32.ofNat o), .ref d, .int (Int32.ofNat q), .int (Int32.ofNat len)] 7)) (T9.setTop (mkF m 46 #[.val (.ref b), .val (.int (Int32.ofNat (o + len))), .val (.ref d), .val (.int (Int32.ofNat (q + len))), .val (.int (Int32.ofNat len)), .val (.int (Int32.ofNat len)), z9] [.int (Int32.ofNat len)])) := g9.trans (by
    refine XS.iload X9.here hexec rfl (hb hbytes d3) rfl ?_
    refine XS.iload X9.here hexec rfl (hb hbytes d5) rfl ?_
    refine XS.icmpYes X9.here hexec rfl (pc0 := 7) rfl (hb hbytes d7) rfl (ii_ge_t (nlt32 (by omega) (Nat.le_refl _))) (by decide) rfl ?_
    refine XS.iload X9.here hexec rfl (hb hbytes d44) rfl ?_
    exact Steps.refl _)
  exact ⟨T9, some (.int (Int32.ofNat len)), _, _, _, X9, by simp, rfl, rfl, (fun h => by cases h), ⟨rfl, B9, p9.from hh0, f9⟩, fun fs hl => c11.trans (X9.ireturnOut hexec hret rfl (Or.inl rfl) (hb hbytes d46) hl)⟩
end Cmp5
namespace Cmp3
def yN : MethodName := ⟨"java/lang/StringUTF16", "compress", "([CII)[B"⟩
abbrev yB : ByteArray := jdk_52_method_16_code
theorem d0 : decode yB 0 = .ok (.iload_n 2, 1) := by decide +kernel
theorem d1 : decode yB 1 = .ok (.newarray .byte, 2) := by decide +kernel
theorem d3 : decode yB 3 = .ok (.astore_n 3, 1) := by decide +kernel
theorem d4 : decode yB 4 = .ok (.aload_n 0, 1) := by decide +kernel
theorem d5 : decode yB 5 = .ok (.iload_n 1, 1) := by decide +kernel
theorem d6 : decode yB 6 = .ok (.aload_n 3, 1) := by decide +kernel
theorem d7 : decode yB 7 = .ok (.iconst 0, 1) := by decide +kernel
theorem d8 : decode yB 8 = .ok (.iload_n 2, 1) := by decide +kernel
theorem d9 : decode yB 9 = .ok (.invokestatic 115, 3) := by decide +kernel
theorem d12 : decode yB 12 = .ok (.istore 4, 2) := by decide +kernel
theorem d14 : decode yB 14 = .ok (.iload 4, 2) := by decide +kernel
theorem d16 : decode yB 16 = .ok (.iload_n 2, 1) := by decide +kernel
theorem d17 : decode yB 17 = .ok (.if_icmp (.eq) 40, 3) := by decide +kernel
theorem d57 : decode yB 57 = .ok (.aload_n 3, 1) := by decide +kernel
theorem d58 : decode yB 58 = .ok (.areturn, 1) := by decide +kernel
def site : List Cond := [.arrayClass .byte, Cmp5.tab] ++ staticW U16 115 Cmp5.yN
def tab : Cond := tabOf yN yB 6 (some (.array .byte)) site
def P (b : Addr) (A : Cell) (o len : Nat) (args : Array Value) (s : State) : Prop := args = #[.ref b, .int (Int32.ofNat o), .int (Int32.ofNat len)] ∧ Ch b A s ∧ o + len ≤ A.slots.size ∧ len ≤ 536870912 ∧ ∀ i, i < len → ¬ 255 < cv A (o + i)
def E (b : Addr) (A : Cell) (o len : Nat) (r : Option Value) (s u : State) : Prop := NewArr .byte "[B" len (fun j => .int (lo8 (cv A (o + j)))) r s u ∧ u.heap.size = s.heap.size + 1
/-- no char of the range above 255: a new byte[] of their low bytes -/
theorem law (l : Launch) (b : Addr) (A : Cell) (o len : Nat) : Law l yN 3 3 1 18 yB 6 (some (.array .byte)) site (P b A o len) (E b A o len) [] 1 len := by
  refine Law.of_walk (plainFor_of_name (by decide +kernel)) (by decide +kernel) (by decide +kernel) (by decide) (fun _ _ h => by rw [h.1]; rfl) (fun _ U U' hal hh h => ⟨h.1, h.2.1.mv hal hh, h.2.2⟩) (fun r U U' V V' h1 hal h2 h => ⟨NewArr.mv r U U' V V' h1 hal h2 h.1, by rw [h1, h2]; exact h.2⟩) ?_
  intro p e s m args below meth c s₁ X0 hexec hbytes hml hret hlk hnm hown hh0 W hP
  obtain ⟨rfl, hA, l1, l2, hp⟩ := hP
  have a31 := hA.1.2.2.2
  have c1 : Steps p.tables e below (s₁.setTop (entryFrame m #[.ref b, .int (Int32.ofNat o), .int (Int32.ofNat len)] 6)) (s₁.setTop (mkF m 0 #[.val (.ref b), .val (.int (Int32.ofNat o)), .val (.int (Int32.ofNat len)), .unset, .unset, .unset] [])) := entry rfl
  have c2 : Steps p.tables e below (s₁.setTop (entryFrame m #[.ref b, .int (Int32.ofNat o), .int (Int32.ofNat len)] 6)) (s₁.setTop (mkF m 1 #[.val (.ref b), .val (.int (Int32.ofNat o)), .val (.int (Int32.ofNat len)), .unset, .unset, .unset] [.int (Int32.ofNat len)])) := c1.trans (by
    refine XS.iloadN X0.here hexec rfl (hb hbytes d0) rfl ?_
    exact Steps.refl _)
  obtain ⟨T3, B3, X3, ba3, bs3, bv3, bh3, bf3, st3⟩ := X0.anew hexec (atype := .byte) (wk W (.arrayClass .byte)) rfl (by show len * 1 ≤ _; omega) (by omega) (g := (mkF m 1 #[.val (.ref b), .val (.int (Int32.ofNat o)), .val (.int (Int32.ofNat len)), .unset, .unset, .unset] [.int (Int32.ofNat len)])) rfl (hb hbytes d1) (rest := []) rfl (Nat.le_refl _) (by show 0 + len ≤ len; omega)
  rw [hh0] at ba3 st3
  have kp3 : XT.Kept s T3 := (XT.Kept.of_eq hh0).push bh3
  have hA3 := hA.keep X3.warmed.alike (kp3 _ _ hA.1.1)
  have hne : b ≠ s.heap.size := hA.1.ne
  have c4 : Steps p.tables e below (s₁.setTop (entryFrame m #[.ref b, .int (Int32.ofNat o), .int (Int32.ofNat len)] 6)) (T3.setTop (mkF m 3 #[.val (.ref b), .val (.int (Int32.ofNat o)), .val (.int (Int32.ofNat len)), .unset, .unset, .unset] [.ref s.heap.size])) := c2.trans (st3 _ (Steps.refl _))
  have c5 : Steps p.tables e below (s₁.setTop (entryFrame m #[.ref b, .int (Int32.ofNat o), .int (Int32.ofNat len)] 6)) (T3.setTop (mkF m 9 #[.val (.ref b), .val (.int (Int32.ofNat o)), .val (.int (Int32.ofNat len)), .val (.ref s.heap.size), .unset, .unset] [.int (Int32.ofNat len), .int 0, .ref s.heap.size, .int (Int32.ofNat o), .ref b])) := c4.trans (by
    refine XS.astoreN X3.here hexec rfl (hb hbytes d3) rfl rfl rfl ?_
    refine XS.aloadN X3.here hexec rfl (hb hbytes d4) rfl rfl ?_
    refine XS.iloadN X3.here hexec rfl (hb hbytes d5) rfl ?_
    refine XS.aloadN X3.here hexec rfl (hb hbytes d6) rfl rfl ?_
    refine iconstV X3.here hexec rfl 0 (hb hbytes d7) (by decide) ?_
    refine XS.iloadN X3.here hexec rfl (hb hbytes d8) rfl ?_
    exact Steps.refl _)
  obtain ⟨v6, T6, X6, E6, g6⟩ := X3.callS hexec (Cmp5.law l b A s.heap.size B3 o 0 len) hown (wks W (staticW U16 115 Cmp5.yN)) (wk W Cmp5.tab) (W := 0) (Nat.le_of_ble_eq_true rfl) (Nat.le_of_ble_eq_true rfl) (Nat.le_refl _) (by show 0 + len + 0 ≤ len; omega) (g := (mkF m 9 #[.val (.ref b), .val (.int (Int32.ofNat o)), .val (.int (Int32.ofNat len)), .val (.ref s.heap.size), .unset, .unset] [.int (Int32.ofNat len), .int (Int32.ofNat 0), .ref s.heap.size, .int (Int32.ofNat o), .ref b])) rfl (by rw [hml]; rfl) c5 (argsL := [.ref b, .int (Int32.ofNat o), .ref s.heap.size, .int (Int32.ofNat 0), .int (Int32.ofNat len)]) (rest := []) rfl rfl (by show 2 * 0 + 0 ≤ _; decide) (hb hbytes d9) (⟨rfl, hA3, ba3, hne, l1, by rw [bs3]; simp, hp⟩)
  obtain ⟨rfl, B6, p6, f6⟩ := E6
  have c7 : Steps p.tables e below (s₁.setTop (entryFrame m #[.ref b, .int (Int32.ofNat o), .int (Int32.ofNat len)] 6)) (T6.setTop (mkF m 12 #[.val (.ref b), .val (.int (Int32.ofNat o)), .val (.int (Int32.ofNat len)), .val (.ref s.heap.size), .unset, .unset] [.int (Int32.ofNat len)])) := g6
  have c8 : Steps p.tables e below (s₁.setTop (entryFrame m #[.ref b, .int (Int32.ofNat o), .int (Int32.ofNat len)] 6)) (T6.setTop (mkF m 58 #[.val (.ref b), .val (.int (Int32.ofNat o)), .val (.int (Int32.ofNat len)), .val (.ref s.heap.size), .val (.int (Int32.ofNat len)), .unset] [.ref s.heap.size])) := c7.trans (by
    refine XS.istore X6.here hexec rfl (hb hbytes d12) rfl rfl ?_
    refine XS.iload X6.here hexec rfl (hb hbytes d14) rfl ?_
    refine XS.iloadN X6.here hexec rfl (hb hbytes d16) rfl ?_
    refine XS.icmpYes X6.here hexec rfl (pc0 := 17) rfl (hb hbytes d17) rfl (ii_eq_t rfl) (by decide) rfl ?_
    refine XS.aloadN X6.here hexec rfl (hb hbytes d57) rfl rfl ?_
    exact Steps.refl _)
  have X8 := X6.wide (L' := []) (cells' := 1) (slots' := len) (fun x hx hlt => by
    simp only [List.nil_append, copyLocs, List.mem_map, List.mem_range] at hx
    obtain ⟨i, -, rfl⟩ := hx
    exact absurd hlt (Nat.lt_irrefl _)) (Nat.le_refl _) (by omega)
  exact ⟨T6, some (.ref s.heap.size), _, _, _, X8, rfl, rfl, rfl, (fun h => by cases h), ⟨⟨rfl, B6, ba3.like (X3.warmed.alike.symm.trans X6.warmed.alike) p6.1 f6.1 f6.2.1 f6.2.2.1, f6.2.1.trans bv3, by rw [X6.warmed.alike.findClass, f6.1]; exact bf3, by rw [f6.2.2.1, bs3]; simp, fun j hj => by rw [f6.2.2.2 j, if_pos (by omega)]; rfl, kp3.put p6 (Nat.le_refl _)⟩, by rw [p6.2.2, bh3, hh0]; simp⟩, fun fs hl => c8.trans (X8.areturnOut hexec rfl hret rfl (hb hbytes d58) hl)⟩
end Cmp3
namespace CodL
def yN : MethodName := ⟨"java/lang/StringUTF16", "coderFromArrayLen", "([BI)B"⟩
abbrev yB : ByteArray := jdk_52_method_15_code
theorem d0 : decode yB 0 = .ok (.iload_n 1, 1) := by decide +kernel
theorem d1 : decode yB 1 = .ok (.aload_n 0, 1) := by decide +kernel
theorem d2 : decode yB 2 = .ok (.arraylength, 1) := by decide +kernel
theorem d3 : decode yB 3 = .ok (.isub, 1) := by decide +kernel
theorem d4 : decode yB 4 = .ok (.bipush 31, 2) := by decide +kernel
theorem d6 : decode yB 6 = .ok (.iushr, 1) := by decide +kernel
theorem d7 : decode yB 7 = .ok (.i2b, 1) := by decide +kernel
theorem d8 : decode yB 8 = .ok (.ireturn, 1) := by decide +kernel
def site : List Cond := []
def tab : Cond := tabOf yN yB 2 (some .byte) site
def P (d : Addr) (B : Cell) (args : Array Value) (s : State) : Prop := args = #[.ref d, .int (Int32.ofNat B.slots.size)] ∧ Arr .byte d B s
def E (r : Option Value) (s u : State) : Prop := XT.PureE (some (.int 0)) r s u
/-- an array as long as the number of chars: LATIN1 -/
theorem law (l : Launch) (d : Addr) (B : Cell) : Law l yN 2 2 0 0 yB 2 (some .byte) site (P d B) E [] 0 0 := by
  refine Law.of_walk (plainFor_of_name (by decide +kernel)) (by decide +kernel) (by decide +kernel) (by decide) (fun _ _ h => by rw [h.1]; rfl) (fun _ U U' hal hh h => ⟨h.1, h.2.mv hal hh⟩) (fun r U U' V V' h1 hal h2 h => XT.PureE.mv r U U' V V' h1 hal h2 h) ?_
  intro p e s m args below meth c s₁ X0 hexec hbytes hml hret hlk hnm hown hh0 W hP
  obtain ⟨rfl, hB⟩ := hP
  have hB0 := hB.mv X0.warmed.alike hh0
  have c1 : Steps p.tables e below (s₁.setTop (entryFrame m #[.ref d, .int (Int32.ofNat B.slots.size)] 2)) (s₁.setTop (mkF m 0 #[.val (.ref d), .val (.int (Int32.ofNat B.slots.size))] [])) := entry rfl
  have c2 : Steps p.tables e below (s₁.setTop (entryFrame m #[.ref d, .int (Int32.ofNat B.slots.size)] 2)) (s₁.setTop (mkF m 2 #[.val (.ref d), .val (.int (Int32.ofNat B.slots.size))] [.ref d, .int (Int32.ofNat B.slots.size)])) := c1.trans (by
    refine XS.iloadN X0.here hexec rfl (hb hbytes d0) rfl ?_
    refine XS.aloadN X0.here hexec rfl (hb hbytes d1) rfl rfl ?_
    exact Steps.refl _)
  have c3 : Steps p.tables e below (s₁.setTop (entryFrame m #[.ref d, .int (Int32.ofNat B.slots.size)] 2)) (s₁.setTop (mkF m 8 #[.val (.ref d), .val (.int (Int32.ofNat B.slots.size))] [.int (lo8 (ushr (Int32.ofNat B.slots.size - Int32.ofNat B.slots.size) 31))])) := c2.trans (by
    refine X0.alen hexec hB0 rfl rfl (hb hbytes d2) ?_
    refine XS.isub X0.here hexec rfl (hb hbytes d3) rfl ?_
    refine bipushV X0.here hexec rfl 31 (hb hbytes d4) (by decide) ?_
    refine iushr X0.here hexec rfl (hb hbytes d6) rfl ?_
    refine i2b X0.here hexec rfl (hb hbytes d7) rfl ?_
    exact Steps.refl _)
  have e0 : lo8 (ushr (Int32.ofNat B.slots.size - Int32.ofNat B.slots.size) 31) = 0 := by rw [Int32.sub_self]; decide
  rw [e0] at c3
  exact ⟨s₁, some (.int 0), _, _, _, X0, rfl, rfl, rfl, (fun h => by cases h), ⟨rfl, hh0⟩, fun fs hl => c3.trans (X0.ireturnOut hexec hret rfl (Or.inr (Or.inr (Or.inl rfl))) (hb hbytes d8) hl)⟩
end CodL
/-- the String at a is Latin-1 over a new byte[] (the heap's one new cell): the low bytes of the len chars of A from o on; every cell but a is kept -/
def Got (a : Addr) (D : Cell) (fV fC : Field) (A : Cell) (o len : Nat) (r : Option Value) (s u : State) : Prop := r = none ∧ ∃ D' V : Cell, Blank "java/lang/String" a D' u ∧ Same D D' [fV.slot, fC.slot] ∧ D'.slots[fV.slot]? = some (.ref s.heap.size) ∧ D'.slots[fC.slot]? = some (.int 0) ∧ Arr .byte s.heap.size V u ∧ V.vm = .none ∧ u.vm.findClass "[B" = some V.cls ∧ V.slots.size = len ∧ (∀ j, j < len → V.slots[j]? = some (.int (lo8 (cv A (o + j))))) ∧ (∀ (y : Addr) (c : Cell), y ≠ a → s.heap[y]? = some c → u.heap[y]? = some c) ∧ u.heap.size = s.heap.size + 1
theorem Got.mv {a : Addr} {D A : Cell} {fV fC : Field} {o len : Nat} : ∀ r (U U' V V' : State), U'.heap = U.heap → V.vm.Alike V'.vm → V'.heap = V.heap → Got a D fV fC A o len r U V → Got a D fV fC A o len r U' V' :=
  fun r U U' V V' h1 hal h2 ⟨e0, D', X, a1, a2, a3, a4, a5, a6, a7, a8, a9, a10, a11⟩ => ⟨e0, D', X, a1.mv hal h2, a2, by rw [h1]; exact a3, a4, by rw [h1]; exact a5.mv hal h2, a6, by rw [hal.findClass]; exact a7, a8, a9, by rw [h1, h2]; exact a10, by rw [h1, h2]; exact a11⟩
namespace New4
def yN : MethodName := ⟨"java/lang/String", "<init>", "([CIILjava/lang/Void;)V"⟩
abbrev yB : ByteArray := jdk_42_method_149_code
theorem d0 : decode yB 0 = .ok (.aload_n 0, 1) := by decide +kernel
theorem d1 : decode yB 1 = .ok (.invokespecial 1, 3) := by decide +kernel
theorem d4 : decode yB 4 = .ok (.iload_n 3, 1) := by decide +kernel
theorem d5 : decode yB 5 = .ok (.ifCond (.ne) 22, 3) := by decide +kernel
theorem d27 : decode yB 27 = .ok (.getstatic 38, 3) := by decide +kernel
theorem d30 : decode yB 30 = .ok (.ifCond (.eq) 28, 3) := by decide +kernel
theorem d33 : decode yB 33 = .ok (.aload_n 1, 1) := by decide +kernel
theorem d34 : decode yB 34 = .ok (.iload_n 2, 1) := by decide +kernel
theorem d35 : decode yB 35 = .ok (.iload_n 3, 1) := by decide +kernel
theorem d36 : decode yB 36 = .ok (.invokestatic 177, 3) := by decide +kernel
theorem d39 : decode yB 39 = .ok (.astore 5, 2) := by decide +kernel
theorem d41 : decode yB 41 = .ok (.aload_n 0, 1) := by decide +kernel
theorem d42 : decode yB 42 = .ok (.aload 5, 2) := by decide +kernel
theorem d44 : decode yB 44 = .ok (.iload_n 3, 1) := by decide +kernel
theorem d45 : decode yB 45 = .ok (.invokestatic 47, 3) := by decide +kernel
theorem d48 : decode yB 48 = .ok (.putfield 15, 3) := by decide +kernel
theorem d51 : decode yB 51 = .ok (.aload_n 0, 1) := by decide +kernel
theorem d52 : decode yB 52 = .ok (.aload 5, 2) := by decide +kernel
theorem d54 : decode yB 54 = .ok (.putfield 9, 3) := by decide +kernel
theorem d57 : decode yB 57 = .ok (.return_, 1) := by decide +kernel
def site : List Cond := [.fieldLink "java/lang/String" 38 "java/lang/String" "COMPACT_STRINGS" "Z", Cmp3.tab, CodL.tab, .laysFinal "java/lang/String" "java/lang/String" "value" "[B", .fieldLink "java/lang/String" 9 "java/lang/String" "value" "[B", .laysFinal "java/lang/String" "java/lang/String" "coder" "B", .fieldLink "java/lang/String" 15 "java/lang/String" "coder" "B"] ++ objW "java/lang/String" 1 ++ staticW "java/lang/String" 177 Cmp3.yN ++ staticW "java/lang/String" 47 CodL.yN
def tab : Cond := tabOf yN yB 6 none site
def P (a : Addr) (D : Cell) (fV fC : Field) (b : Addr) (A : Cell) (z : Int32) (o len : Nat) (args : Array Value) (s : State) : Prop := args = #[.ref a, .ref b, .int (Int32.ofNat o), .int (Int32.ofNat len), .null] ∧ Blank "java/lang/String" a D s ∧ Found "java/lang/String" "value" "[B" fV s ∧ Found "java/lang/String" "coder" "B" fC s ∧ Ch b A s ∧ StaticIs s "java/lang/String" "COMPACT_STRINGS" "Z" (.int z) ∧ ¬ z = 0 ∧ 0 < len ∧ o + len ≤ A.slots.size ∧ len ≤ 536870912 ∧ ∀ i, i < len → ¬ 255 < cv A (o + i)
def E (a : Addr) (D : Cell) (fV fC : Field) (A : Cell) (o len : Nat) (r : Option Value) (s u : State) : Prop := Got a D fV fC A o len r s u
/-- len > 0, no char of the range above 255: a Latin-1 String of their low bytes -/
theorem law (l : Launch) (a : Addr) (D : Cell) (fV fC : Field) (b : Addr) (A : Cell) (z : Int32) (o len : Nat) : Law l yN 5 4 2 35 yB 6 none site (P a D fV fC b A z o len) (E a D fV fC A o len) [⟨a, fC.slot⟩, ⟨a, fV.slot⟩] 1 len := by
  refine Law.of_walk (plainFor_of_name (by decide +kernel)) (by decide +kernel) (by decide +kernel) (by decide) (fun _ _ h => by rw [h.1]; rfl) (fun _ U U' hal hh h => ⟨h.1, h.2.1.mv hal hh, h.2.2.1.al hal, h.2.2.2.1.al hal, h.2.2.2.2.1.mv hal hh, h.2.2.2.2.2.1.there hal hh, h.2.2.2.2.2.2⟩) (fun r U U' V V' h1 hal h2 h => Got.mv r U U' V V' h1 hal h2 h) ?_
  intro p e s m args below meth c s₁ X0 hexec hbytes hml hret hlk hnm hown hh0 W hP
  obtain ⟨rfl, hB, f1, f2, hA, s1, hz, l0, l1, l2, hp⟩ := hP
  have a31 := hA.1.2.2.2
  have c1 : Steps p.tables e below (s₁.setTop (entryFrame m #[.ref a, .ref b, .int (Int32.ofNat o), .int (Int32.ofNat len), .null] 6)) (s₁.setTop (mkF m 0 #[.val (.ref a), .val (.ref b), .val (.int (Int32.ofNat o)), .val (.int (Int32.ofNat len)), .val .null, .unset] [])) := entry rfl
  have c2 : Steps p.tables e below (s₁.setTop (entryFrame m #[.ref a, .ref b, .int (Int32.ofNat o), .int (Int32.ofNat len), .null] 6)) (s₁.setTop (mkF m 1 #[.val (.ref a), .val (.ref b), .val (.int (Int32.ofNat o)), .val (.int (Int32.ofNat len)), .val .null, .unset] [.ref a])) := c1.trans (by
    refine XS.aloadN X0.here hexec rfl (hb hbytes d0) rfl rfl ?_
    exact Steps.refl _)
  obtain ⟨T3, X3, q3, st3⟩ := X0.oinit hexec hown (wks W (objW "java/lang/String" 1)) (g := (mkF m 1 #[.val (.ref a), .val (.ref b), .val (.int (Int32.ofNat o)), .val (.int (Int32.ofNat len)), .val .null, .unset] [.ref a])) rfl (by rw [hml]; rfl) (rest := []) rfl (hb hbytes d1) (W := 0) (by show 2 * 0 + 0 ≤ _; decide) (Nat.le_of_ble_eq_true rfl) (Nat.le_of_ble_eq_true rfl)
  have hh3 := q3.trans hh0
  have c4 : Steps p.tables e below (s₁.setTop (entryFrame m #[.ref a, .ref b, .int (Int32.ofNat o), .int (Int32.ofNat len), .null] 6)) (T3.setTop (mkF m 27 #[.val (.ref a), .val (.ref b), .val (.int (Int32.ofNat o)), .val (.int (Int32.ofNat len)), .val .null, .unset] [])) := (c2.trans (st3 _ (Steps.refl _))).trans (by
    refine XS.iloadN X3.here hexec rfl (hb hbytes d4) rfl ?_
    refine XS.ifYes X3.here hexec rfl (pc0 := 5) rfl (hb hbytes d5) rfl (i0_ne_t (nz32 (by omega) l0)) (by decide) rfl ?_
    exact Steps.refl _)
  obtain ⟨T5, X5, q5, st5⟩ := X3.sget hexec hown (wk W (.fieldLink "java/lang/String" 38 "java/lang/String" "COMPACT_STRINGS" "Z")) s1 (fun _ _ h => by rw [hh3]; exact h) (g := (mkF m 27 #[.val (.ref a), .val (.ref b), .val (.int (Int32.ofNat o)), .val (.int (Int32.ofNat len)), .val .null, .unset] [])) rfl (hb hbytes d27)
  have hh5 := q5.trans hh3
  have c6 : Steps p.tables e below (s₁.setTop (entryFrame m #[.ref a, .ref b, .int (Int32.ofNat o), .int (Int32.ofNat len), .null] 6)) (T5.setTop (mkF m 30 #[.val (.ref a), .val (.ref b), .val (.int (Int32.ofNat o)), .val (.int (Int32.ofNat len)), .val .null, .unset] [.int z])) := c4.trans (st5 _ (Steps.refl _))
  have c7 : Steps p.tables e below (s₁.setTop (entryFrame m #[.ref a, .ref b, .int (Int32.ofNat o), .int (Int32.ofNat len), .null] 6)) (T5.setTop (mkF m 36 #[.val (.ref a), .val (.ref b), .val (.int (Int32.ofNat o)), .val (.int (Int32.ofNat len)), .val .null, .unset] [.int (Int32.ofNat len), .int (Int32.ofNat o), .ref b])) := c6.trans (by
    refine XS.ifNo X5.here hexec rfl (hb hbytes d30) rfl (i0_eq_f hz) ?_
    refine XS.aloadN X5.here hexec rfl (hb hbytes d33) rfl rfl ?_
    refine XS.iloadN X5.here hexec rfl (hb hbytes d34) rfl ?_
    refine XS.iloadN X5.here hexec rfl (hb hbytes d35) rfl ?_
    exact Steps.refl _)
  obtain ⟨v8, T8, X8, E8, g8⟩ := X5.callS hexec (Cmp3.law l b A o len) hown (wks W (staticW "java/lang/String" 177 Cmp3.yN)) (wk W Cmp3.tab) (W := 0) (Nat.le_of_ble_eq_true rfl) (Nat.le_of_ble_eq_true rfl) (Nat.le_refl _) (by show 0 + len ≤ len; omega) (g := (mkF m 36 #[.val (.ref a), .val (.ref b), .val (.int (Int32.ofNat o)), .val (.int (Int32.ofNat len)), .val .null, .unset] [.int (Int32.ofNat len), .int (Int32.ofNat o), .ref b])) rfl (by rw [hml]; rfl) c7 (argsL := [.ref b, .int (Int32.ofNat o), .int (Int32.ofNat len)]) (rest := []) rfl rfl (by show 2 * 0 + 0 ≤ _; decide) (hb hbytes d36) (⟨rfl, hA.mv X5.warmed.alike hh5, l1, l2, hp⟩)
  obtain ⟨e8, z8⟩ := E8
  obtain ⟨rfl, N, n1, n2, n3, n4, n5, n6⟩ := NewArr.mv _ T5 s _ _ hh5.symm (Vm.Alike.refl _) rfl e8
  rw [hh5] at z8
  have hB1 := hB.keep X8.warmed.alike (n6 _ _ hB.1)
  have hne : s.heap.size ≠ a := (Nat.ne_of_lt (Array.getElem?_eq_some_iff.mp hB.1).1).symm
  have c9 : Steps p.tables e below (s₁.setTop (entryFrame m #[.ref a, .ref b, .int (Int32.ofNat o), .int (Int32.ofNat len), .null] 6)) (T8.setTop (mkF m 39 #[.val (.ref a), .val (.ref b), .val (.int (Int32.ofNat o)), .val (.int (Int32.ofNat len)), .val .null, .unset] [.ref s.heap.size])) := g8
  have c10 : Steps p.tables e below (s₁.setTop (entryFrame m #[.ref a, .ref b, .int (Int32.ofNat o), .int (Int32.ofNat len), .null] 6)) (T8.setTop (mkF m 45 #[.val (.ref a), .val (.ref b), .val (.int (Int32.ofNat o)), .val (.int (Int32.ofNat len)), .val .null, .val (.ref s.heap.size)] [.int (Int32.ofNat N.slots.size), .ref s.heap.size, .ref a])) := by
    have hc : Steps p.tables e below (s₁.setTop (entryFrame m #[.ref a, .ref b, .int (Int32.ofNat o), .int (Int32.ofNat len), .null] 6)) (T8.setTop (mkF m 45 #[.val (.ref a), .val (.ref b), .val (.int (Int32.ofNat o)), .val (.int (Int32.ofNat len)), .val .null, .val (.ref s.heap.size)] [.int (Int32.ofNat len), .ref s.heap.size, .ref a])) := c9.trans (by
      refine XS.astore X8.here hexec rfl (hb hbytes d39) rfl rfl rfl ?_
      refine XS.aloadN X8.here hexec rfl (hb hbytes d41) rfl rfl ?_
      refine XS.aload X8.here hexec rfl (hb hbytes d42) rfl rfl ?_
      refine XS.iloadN X8.here hexec rfl (hb hbytes d44) rfl ?_
      exact Steps.refl _)
    rw [n4]; exact hc
  obtain ⟨v11, T11, X11, E11, g11⟩ := X8.callS hexec (CodL.law l s.heap.size N) hown (wks W (staticW "java/lang/String" 47 CodL.yN)) (wk W CodL.tab) (W := 1) (Nat.le_of_ble_eq_true rfl) (Nat.le_of_ble_eq_true rfl) (Nat.le_refl _) (by show 0 + len + 0 ≤ len; omega) (g := (mkF m 45 #[.val (.ref a), .val (.ref b), .val (.int (Int32.ofNat o)), .val (.int (Int32.ofNat len)), .val .null, .val (.ref s.heap.size)] [.int (Int32.ofNat N.slots.size), .ref s.heap.size, .ref a])) rfl (by rw [hml]; rfl) c10 (argsL := [.ref s.heap.size, .int (Int32.ofNat N.slots.size)]) (rest := [.ref a]) rfl rfl (by show 2 * 0 + (1 + 0) ≤ _; decide) (hb hbytes d45) (⟨rfl, n1⟩)
  obtain ⟨rfl, q11⟩ := E11
  have hB11 := hB1.mv (X8.warmed.alike.symm.trans X11.warmed.alike) q11
  have c12 : Steps p.tables e below (s₁.setTop (entryFrame m #[.ref a, .ref b, .int (Int32.ofNat o), .int (Int32.ofNat len), .null] 6)) (T11.setTop (mkF m 48 #[.val (.ref a), .val (.ref b), .val (.int (Int32.ofNat o)), .val (.int (Int32.ofNat len)), .val .null, .val (.ref s.heap.size)] [.int 0, .ref a])) := g11
  obtain ⟨T13, X13, p13, bl13, sl13, st13⟩ := X11.finit hexec hown (wk W (.fieldLink "java/lang/String" 15 "java/lang/String" "coder" "B")) (Or.inr ⟨_, (wk W (.laysFinal "java/lang/String" "java/lang/String" "coder" "B"))⟩) (Or.inl ⟨rfl, hnm⟩) f2 (Or.inl rfl) hB11 (t := .byte) (by decide +kernel) rfl (g := (mkF m 48 #[.val (.ref a), .val (.ref b), .val (.int (Int32.ofNat o)), .val (.int (Int32.ofNat len)), .val .null, .val (.ref s.heap.size)] [.int 0, .ref a])) rfl (rest := []) rfl (hb hbytes d48)
  have c14 : Steps p.tables e below (s₁.setTop (entryFrame m #[.ref a, .ref b, .int (Int32.ofNat o), .int (Int32.ofNat len), .null] 6)) (T13.setTop (mkF m 54 #[.val (.ref a), .val (.ref b), .val (.int (Int32.ofNat o)), .val (.int (Int32.ofNat len)), .val .null, .val (.ref s.heap.size)] [.ref s.heap.size, .ref a])) := (c12.trans (st13 _ (Steps.refl _))).trans (by
    refine XS.aloadN X13.here hexec rfl (hb hbytes d51) rfl rfl ?_
    refine XS.aload X13.here hexec rfl (hb hbytes d52) rfl rfl ?_
    exact Steps.refl _)
  obtain ⟨T15, X15, p15, bl15, sl15, st15⟩ := X13.finit hexec hown (wk W (.fieldLink "java/lang/String" 9 "java/lang/String" "value" "[B")) (Or.inr ⟨_, (wk W (.laysFinal "java/lang/String" "java/lang/String" "value" "[B"))⟩) (Or.inl ⟨rfl, hnm⟩) f1 (Or.inl rfl) bl13 (t := (.array .byte)) (by decide +kernel) rfl (g := (mkF m 54 #[.val (.ref a), .val (.ref b), .val (.int (Int32.ofNat o)), .val (.int (Int32.ofNat len)), .val .null, .val (.ref s.heap.size)] [.ref s.heap.size, .ref a])) rfl (rest := []) rfl (hb hbytes d54)
  have c16 : Steps p.tables e below (s₁.setTop (entryFrame m #[.ref a, .ref b, .int (Int32.ofNat o), .int (Int32.ofNat len), .null] 6)) (T15.setTop (mkF m 57 #[.val (.ref a), .val (.ref b), .val (.int (Int32.ofNat o)), .val (.int (Int32.ofNat len)), .val .null, .val (.ref s.heap.size)] [])) := c14.trans (st15 _ (Steps.refl _))
  have ap := apart (Or.inr ⟨_, (wk W (.laysFinal "java/lang/String" "java/lang/String" "value" "[B"))⟩) (Or.inr ⟨_, (wk W (.laysFinal "java/lang/String" "java/lang/String" "coder" "B"))⟩) f1 f2 (t₁ := .array .byte) (t₂ := .byte) (by decide +kernel) (by decide +kernel) (by decide)
  have al := X8.warmed.alike.symm.trans X15.warmed.alike
  have n7 : T11.heap[s.heap.size]? = some N := by rw [q11]; exact n1.1
  exact ⟨T15, none, _, _, _, X15, by simp, rfl, by omega, (fun _ => rfl), ⟨rfl, _, N, bl15, ((Same.refl D _).set _ (by simp)).set _ (by simp), sl15, (Cell.slots_setSlot_ne _ ap).trans sl13, n1.keep al (p15.other hne (p13.other hne n7)), n2, by rw [al.findClass]; exact n3, n4, n5, fun y c h1 h2 => p15.other h1 (p13.other h1 (by rw [q11]; exact n6 y c h2)), by rw [p15.2.2, p13.2.2, q11]; exact z8⟩, fun fs hl => c16.trans (X15.returnOut hexec hret (hb hbytes d57) hl)⟩
end New4
namespace New1
def yN : MethodName := ⟨"java/lang/String", "<init>", "([C)V"⟩
abbrev yB : ByteArray := jdk_42_method_3_code
theorem d0 : decode yB 0 = .ok (.aload_n 0, 1) := by decide +kernel
theorem d1 : decode yB 1 = .ok (.aload_n 1, 1) := by decide +kernel
theorem d2 : decode yB 2 = .ok (.iconst 0, 1) := by decide +kernel
theorem d3 : decode yB 3 = .ok (.aload_n 1, 1) := by decide +kernel
theorem d4 : decode yB 4 = .ok (.arraylength, 1) := by decide +kernel
theorem d5 : decode yB 5 = .ok (.aconst_null, 1) := by decide +kernel
theorem d6 : decode yB 6 = .ok (.invokespecial 27, 3) := by decide +kernel
theorem d9 : decode yB 9 = .ok (.return_, 1) := by decide +kernel
def site : List Cond := [New4.tab] ++ initW "java/lang/String" 27 New4.yN
def tab : Cond := tabOf yN yB 2 none site
def P (a : Addr) (D : Cell) (fV fC : Field) (b : Addr) (A : Cell) (z : Int32) (args : Array Value) (s : State) : Prop := args = #[.ref a, .ref b] ∧ Blank "java/lang/String" a D s ∧ Found "java/lang/String" "value" "[B" fV s ∧ Found "java/lang/String" "coder" "B" fC s ∧ Ch b A s ∧ StaticIs s "java/lang/String" "COMPACT_STRINGS" "Z" (.int z) ∧ ¬ z = 0 ∧ 0 < A.slots.size ∧ A.slots.size ≤ 536870912 ∧ ∀ i, i < A.slots.size → ¬ 255 < cv A i
def E (a : Addr) (D : Cell) (fV fC : Field) (A : Cell) (r : Option Value) (s u : State) : Prop := Got a D fV fC A 0 A.slots.size r s u
/-- new String(chars), not empty, no char above 255: a Latin-1 String of their low bytes -/
theorem law (l : Launch) (a : Addr) (D : Cell) (fV fC : Field) (b : Addr) (A : Cell) (z : Int32) : Law l yN 2 1 3 52 yB 2 none site (P a D fV fC b A z) (E a D fV fC A) [⟨a, fC.slot⟩, ⟨a, fV.slot⟩] 1 A.slots.size := by
  refine Law.of_walk (plainFor_of_name (by decide +kernel)) (by decide +kernel) (by decide +kernel) (by decide) (fun _ _ h => by rw [h.1]; rfl) (fun _ U U' hal hh h => ⟨h.1, h.2.1.mv hal hh, h.2.2.1.al hal, h.2.2.2.1.al hal, h.2.2.2.2.1.mv hal hh, h.2.2.2.2.2.1.there hal hh, h.2.2.2.2.2.2⟩) (fun r U U' V V' h1 hal h2 h => Got.mv r U U' V V' h1 hal h2 h) ?_
  intro p e s m args below meth c s₁ X0 hexec hbytes hml hret hlk hnm hown hh0 W hP
  obtain ⟨rfl, hB, f1, f2, hA, s1, hz, l0, l2, hp⟩ := hP
  have c1 : Steps p.tables e below (s₁.setTop (entryFrame m #[.ref a, .ref b] 2)) (s₁.setTop (mkF m 0 #[.val (.ref a), .val (.ref b)] [])) := entry rfl
  have c2 : Steps p.tables e below (s₁.setTop (entryFrame m #[.ref a, .ref b] 2)) (s₁.setTop (mkF m 6 #[.val (.ref a), .val (.ref b)] [.null, .int (Int32.ofNat A.slots.size), .int 0, .ref b, .ref a])) := c1.trans (by
    refine XS.aloadN X0.here hexec rfl (hb hbytes d0) rfl rfl ?_
    refine XS.aloadN X0.here hexec rfl (hb hbytes d1) rfl rfl ?_
    refine iconstV X0.here hexec rfl 0 (hb hbytes d2) (by decide) ?_
    refine XS.aloadN X0.here hexec rfl (hb hbytes d3) rfl rfl ?_
    refine X0.alen hexec (hA.1.mv X0.warmed.alike hh0) rfl rfl (hb hbytes d4) ?_
    refine XS.aconstNull X0.here hexec rfl (hb hbytes d5) ?_
    exact Steps.refl _)
  obtain ⟨v3, T3, X3, E3, g3⟩ := X0.callN hexec (New4.law l a D fV fC b A z 0 A.slots.size) rfl hown (wks W (initW "java/lang/String" 27 New4.yN)) (W New4.tab (by simp only [site, List.mem_cons, List.mem_append, true_or, or_true])) (W := 0) (Nat.le_of_ble_eq_true rfl) (Nat.le_of_ble_eq_true rfl) (Nat.le_refl _) (by show 0 + A.slots.size ≤ A.slots.size; omega) (g := (mkF m 6 #[.val (.ref a), .val (.ref b)] [.null, .int (Int32.ofNat A.slots.size), .int (Int32.ofNat 0), .ref b, .ref a])) rfl (by rw [hml]; rfl) c2 (argsL := [.ref b, .int (Int32.ofNat 0), .int (Int32.ofNat A.slots.size), .null]) (rest := []) rfl rfl (by show 2 * 0 + 0 ≤ _; decide) (hb hbytes d6) (⟨rfl, hB.mv X0.warmed.alike hh0, f1.al X0.warmed.alike, f2.al X0.warmed.alike, hA.mv X0.warmed.alike hh0, s1.there X0.warmed.alike hh0, hz, l0, by omega, l2, fun i hi => by rw [Nat.zero_add]; exact hp i hi⟩)
  have e0 := Got.mv _ s₁ s _ _ hh0.symm (Vm.Alike.refl _) rfl E3
  obtain rfl := e0.1
  have c4 : Steps p.tables e below (s₁.setTop (entryFrame m #[.ref a, .ref b] 2)) (T3.setTop (mkF m 9 #[.val (.ref a), .val (.ref b)] [])) := g3
  exact ⟨T3, none, _, _, _, X3, by simp, rfl, by omega, (fun _ => rfl), e0, fun fs hl => c4.trans (X3.returnOut hexec hret (hb hbytes d9) hl)⟩
theorem pays {l : Launch} {R : Room} {p : Program} {e : Env} {below : List Frame} {s : State} {sargs : Array Value} {len W : Nat} (a : Addr) (D : Cell) (fV fC : Field) (b : Addr) (A : Cell) (z : Int32) (htab : tab.before sargs s = true) (hfr : 4 ≤ R.frames) (hlo : W + 65 ≤ R.locals) :
    Back l R p e below s sargs yN len W (fun A₁ a₁ => A₁.cells + 1 ≤ R.cells ∧ A₁.slots + A.slots.size ≤ R.slots ∧ P a D fV fC b A z a₁ A₁.U) (fun A₁ _ v₁ B₁ => E a D fV fC A v₁ A₁.U B₁.U ∧ B₁.locs = A₁.locs ++ [⟨a, fC.slot⟩, ⟨a, fV.slot⟩] ∧ B₁.cells = A₁.cells + 1 ∧ B₁.slots = A₁.slots + A.slots.size) :=
  (law l a D fV fC b A z).pays htab hfr (by omega)
end New1
end StrChars
namespace StrChars.Road
open Jvm Sem ClassFile Op Lib Jvm.Stand Jvm.Free Jvm.Free.XT
open Jvm.Lib.Cold (StaticIs)
abbrev ST : String := "java/lang/String"
/-- every table word that New1's law asks, flat -/
abbrev words : List Jvm.Cond := [.code New1.yN New1.yB 2 none, .initialized ST, .methodLink ST 27 New4.yN, .instanceMethod New4.yN,
  .code New4.yN New4.yB 6 none, .fieldLink ST 38 ST "COMPACT_STRINGS" "Z", .laysFinal ST ST "value" "[B", .fieldLink ST 9 ST "value" "[B", .laysFinal ST ST "coder" "B", .fieldLink ST 15 ST "coder" "B",
  .methodLink ST 1 Lib.objectInit, .instanceMethod Lib.objectInit, .code Lib.objectInit ⟨#[0xb1]⟩ 1 none, .methodLink ST 177 Cmp3.yN, .static Cmp3.yN, .methodLink ST 47 CodL.yN, .static CodL.yN,
  .code Cmp3.yN Cmp3.yB 6 (some (.array .byte)), .initialized U16, .arrayClass .byte, .methodLink U16 115 Cmp5.yN, .static Cmp5.yN, .code Cmp5.yN Cmp5.yB 7 (some .int), .code CodL.yN CodL.yB 2 (some .byte)]
theorem tab_of {a : Array Value} {s : State} (h : ∀ w ∈ words, w.before a s = true) : New1.tab.before a s = true := by
  have h5 : Cmp5.tab.before a s = true := unparts (wk h (.code Cmp5.yN Cmp5.yB 7 (some .int))) (wks h (.initialized Cmp5.yN.cls :: Cmp5.site))
  have hc : CodL.tab.before a s = true := unparts (wk h (.code CodL.yN CodL.yB 2 (some .byte))) (wks h (.initialized CodL.yN.cls :: CodL.site))
  have q5 : ∀ w ∈ Cmp5.tab :: words, w.before a s = true := fun w hw => (List.mem_cons.mp hw).elim (fun e => e ▸ h5) (h w)
  have h3 : Cmp3.tab.before a s = true := unparts (wk q5 (.code Cmp3.yN Cmp3.yB 6 (some (.array .byte)))) (wks q5 (.initialized Cmp3.yN.cls :: Cmp3.site))
  have q3 : ∀ w ∈ Cmp3.tab :: CodL.tab :: words, w.before a s = true := fun w hw => (List.mem_cons.mp hw).elim (fun e => e ▸ h3) fun hw => (List.mem_cons.mp hw).elim (fun e => e ▸ hc) (h w)
  have h4 : New4.tab.before a s = true := unparts (wk q3 (.code New4.yN New4.yB 6 none)) (wks q3 (.initialized New4.yN.cls :: New4.site))
  have q4 : ∀ w ∈ New4.tab :: words, w.before a s = true := fun w hw => (List.mem_cons.mp hw).elim (fun e => e ▸ h4) (h w)
  exact unparts (wk q4 (.code New1.yN New1.yB 2 none)) (wks q4 (.initialized New1.yN.cls :: New1.site))
/-- the words ride from the start Z to the walk's own state -/
theorem moved {Z s : State} {a0 args : Array Value} (hZ : Z.Warmed39 s.vm) (hw : ∀ d ∈ words, d.before a0 Z = true) : ∀ d ∈ words, d.before args s = true := fun d hd => by
  have q := hw d hd
  have t : ∀ d ∈ words, d = .arrayClass .byte ∨ (d.onTables && d.keepsFace) = true := by decide +kernel
  rcases t d hd with rfl | t
  · exact RoadKit.mvA hZ q
  · exact RoadKit.mv hZ q t
/-- WHAT COMES BACK, over the tables of the start Z: h the heap at the call, h' behind it -/
def Q (Z : State) (x : Addr) (A : Cell) (h : Heap) (v : Option Value) (h' : Heap) (L : List Loc) : Prop := v = none ∧ (∀ y ∈ L, y.base = x) ∧ RoadKit.Keep h h' [x] ∧ h'.size = h.size + 1 ∧ RoadKit.Exa Z h' x ST ∧ RoadKit.Fld Z h' x ST "value" "[B" (.ref h.size) ∧ RoadKit.Fld Z h' x ST "coder" "B" (.int 0) ∧
  (∃ V : Cell, RoadKit.Arr Z h' h.size V .byte ∧ V.vm = .none ∧ Z.vm.findClass "[B" = some V.cls ∧ V.slots.size = A.slots.size ∧ ∀ j, j < A.slots.size → V.slots[j]? = some (.int (lo8 (cv A j)))) ∧
  ∀ (O n d : String) (w : Value), RoadKit.Fld Z h x O n d w → RoadKit.slotOf Z O n d ≠ RoadKit.slotOf Z ST "value" "[B" → RoadKit.slotOf Z O n d ≠ RoadKit.slotOf Z ST "coder" "B" → RoadKit.Fld Z h' x O n d w
/-- **new String(chars) AT A CALL, IN THE ROAD'S FORM**: for specialBack behind newO: x the fresh String, b the char[] with the cell A -/
theorem back {p : Program} {l : Launch} {e : Env} {R : Room} {s : State} {args : Array Value} {below : List Frame} {len W : Nat} {Z : State} {a0 : Array Value} {h : Heap} (hZ : Z.Warmed39 s.vm) (hw : ∀ d ∈ words, d.before a0 Z = true) {kI : Nat} (wi : (Jvm.Cond.instantiable ST kI).before a0 Z = true)
    {x b : Addr} {A : Cell} {z : Int32} {v0 c0 : Value} (E : RoadKit.Exa Z h x ST) (V : RoadKit.Fld Z h x ST "value" "[B" v0) (C : RoadKit.Fld Z h x ST "coder" "B" c0) (K : RoadKit.Arr Z h b A .char) (hty : Typed .char A) (S : RoadKit.Sta Z h ST "COMPACT_STRINGS" "Z" (.int z)) (hz : ¬ z = 0)
    (l0 : 0 < A.slots.size) (l2 : A.slots.size ≤ 536870912) (hp : ∀ i, i < A.slots.size → ¬ 255 < cv A i) (hfr : 4 ≤ R.frames) (hlo : W + 65 ≤ R.locals) :
    Back l R p e below s args New1.yN len W (fun P a => a = #[.ref x, .ref b] ∧ P.U.heap = h ∧ P.cells + 1 ≤ R.cells ∧ P.slots + A.slots.size ≤ R.slots)
      (fun P _ v B => ∃ L, Q Z x A h v B.U.heap L ∧ B.locs = P.locs ++ L ∧ B.cells = P.cells + 1 ∧ B.slots = P.slots + A.slots.size) := by
  intro m meth c P g ig mk a X hg hsize hdg hW hn hp'
  obtain ⟨rfl, rfl, r1, r2⟩ := hp'
  have al : Z.vm.Alike P.U.vm := hZ.alike.trans X.warmed.alike
  obtain ⟨D, cfV, kV, iV, fV, hD, gV, stV, knV, obV, asV, slV⟩ := id V
  obtain ⟨D', cfC, kC, iC, fC, hD', gC, stC, -, -, asC, slC⟩ := id C
  cases hD.symm.trans hD'
  obtain ⟨D2, kD, e1, e2, e3, e4, e5⟩ := id E
  cases hD.symm.trans e1
  obtain ⟨c2, k2, i1, i2, i3, -⟩ := Cond.instantiable_spec wi
  cases e2.symm.trans i1
  cases e3.symm.trans i2
  obtain ⟨kU, u1, u2⟩ := al.2.2 _ _ e3
  have hB : Blank ST x D P.U := ⟨hD, ⟨knV, fun q hq => by rw [hq] at obV; cases obV⟩, by rw [al.findClass]; exact e2, kU, u1, by rw [u2]; exact i3, by rw [u2]; exact e5 i3⟩
  have F1 : Found ST "value" "[B" fV P.U := ⟨SBG.found_only al ⟨cfV, kV, iV, gV⟩, stV⟩
  have F2 : Found ST "coder" "B" fC P.U := ⟨SBG.found_only al ⟨cfC, kC, iC, gC⟩, stC⟩
  have hA : Ch b A P.U := ⟨⟨K.1, State.isArrayOf_alike al K.2.1, K.2.2, by omega⟩, hty⟩
  have hS : StaticIs P.U ST "COMPACT_STRINGS" "Z" (.int z) := by
    obtain ⟨cfS, iS, kS, fS, st, cS, t1, t2, t3, t4, t5, t6, t7⟩ := S
    exact StaticIs.there (s := { Z with heap := P.U.heap }) ⟨cfS, iS, kS, fS, st, cS, t1, t2, t3, t4, t5, (fun q => by rw [q] at t6; cases t6), t7⟩ al rfl
  obtain ⟨v, B, X', ⟨⟨hv, E', V', q1, q2, q3, q4, q5, q6, q7, q8, q9, q10, q11⟩, hl, hc, hs⟩, st⟩ := New1.pays x D fV fC b A z (tab_of (moved hZ hw)) hfr hlo m meth c P g ig mk _ X hg hsize hdg hW hn ⟨r1, r2, rfl, hB, F1, F2, hA, hS, hz, l0, l2, hp⟩
  have al' : Z.vm.Alike B.U.vm := hZ.alike.trans X'.warmed.alike
  have hsz : E'.slots.size = D.slots.size := by
    obtain ⟨-, -, -, kB, w1, w2, w3⟩ := q1
    obtain ⟨kB', y1, y2⟩ := al'.2.2 _ _ e3
    rw [q2.2.1] at w1
    cases w1.symm.trans y1
    rw [w3, e5 i3, y2]
  refine ⟨v, B, X', ⟨_, ⟨hv, ?_, ⟨by omega, fun y cy hy hn' => q10 y cy (by simpa using hn') hy, fun y cy hy => ?_⟩, q11, ⟨E', _, q1.1, by rw [q2.2.1]; exact e2, by rw [q2.2.1]; exact e3, by rw [q2.1]; exact obV, fun _ => by rw [hsz]; exact e5 i3⟩,
    ⟨E', cfV, kV, iV, fV, q1.1, gV, stV, by rw [q2.1]; exact knV, by rw [q2.1]; exact obV, by rw [q2.2.1]; exact asV, q3⟩, ⟨E', cfC, kC, iC, fC, q1.1, gC, stC, by rw [q2.1]; exact knV, by rw [q2.1]; exact obV, by rw [q2.2.1]; exact asC, q4⟩,
    ⟨V', ⟨q5.1, State.isArrayOf_alike al'.symm q5.2.1, q5.2.2.1⟩, q6, by rw [← al'.findClass]; exact q7, q8, fun j hj => by have := q9 j hj; rwa [Nat.zero_add] at this⟩, fun O n d w F n1 n2 => ?_⟩, hl, hc, hs⟩, st⟩
  · intro y hy
    simp only [List.mem_cons, List.not_mem_nil, or_false] at hy
    rcases hy with rfl | rfl <;> rfl
  · by_cases q : y = x
    · subst q
      cases hD.symm.trans hy
      exact ⟨E', q1.1, q2.2.1, q2.1, hsz⟩
    · exact ⟨cy, q10 y cy q hy, rfl, rfl, rfl⟩
  · obtain ⟨D3, cf, k, i, f, g1, g2, g3, g4, g5, g6, g7⟩ := F
    cases hD.symm.trans g1
    simp only [RoadKit.slotOf, g2, gV, gC, Option.map_some, Option.getD_some] at n1 n2
    exact ⟨E', cf, k, i, f, q1.1, g2, g3, by rw [q2.1]; exact g4, by rw [q2.1]; exact g5, by rw [q2.2.1]; exact g6, by rw [q2.2.2 f.slot (by simp [n1, n2])]; exact g7⟩
end StrChars.Road
namespace StrChars.Road
open Jvm Sem ClassFile Op Lib Jvm.Stand Jvm.Free Jvm.Free.XT
/-- WHAT COMES BACK, the byte[] as a list of values -/
def QA (Z : State) (x : Addr) (zn : Int32) (cs : List Int32) (h : Heap) (v : Option Value) (h' : Heap) (L : List Loc) : Prop := v = none ∧ (∀ y ∈ L, y.base = x) ∧ RoadKit.Keep h h' [x] ∧ h'.size = h.size + 1 ∧ RoadKit.Exa Z h' x ST ∧ RoadKit.Fld Z h' x ST "value" "[B" (.ref h.size) ∧ RoadKit.Fld Z h' x ST "coder" "B" (.int 0) ∧
  (∃ kb, Z.vm.findClass "[B" = some kb ∧ RoadKit.Arv Z h' h.size kb .byte zn (cs.map fun c => .int (lo8 c)) (.int 0)) ∧
  ∀ (O n d : String) (w : Value), RoadKit.Fld Z h x O n d w → RoadKit.slotOf Z O n d ≠ RoadKit.slotOf Z ST "value" "[B" → RoadKit.slotOf Z O n d ≠ RoadKit.slotOf Z ST "coder" "B" → RoadKit.Fld Z h' x O n d w
/-- **new String(chars) AT A CALL, THE ARRAYS AS LISTS**: the char[] at b holds cs, not empty, no char above 255 -/
theorem backArv {p : Program} {l : Launch} {e : Env} {R : Room} {s : State} {args : Array Value} {below : List Frame} {len W : Nat} {Z : State} {a0 : Array Value} {h : Heap} (hZ : Z.Warmed39 s.vm) (hw : ∀ d ∈ words, d.before a0 Z = true) {kI : Nat} (wi : (Jvm.Cond.instantiable ST kI).before a0 Z = true)
    {x b : Addr} {k : ClassId} {zn z : Int32} {cs : List Int32} {dv v0 c0 : Value} (E : RoadKit.Exa Z h x ST) (V : RoadKit.Fld Z h x ST "value" "[B" v0) (C : RoadKit.Fld Z h x ST "coder" "B" c0) (K : RoadKit.Arv Z h b k .char zn (cs.map Value.int) dv) (S : RoadKit.Sta Z h ST "COMPACT_STRINGS" "Z" (.int z)) (hz : ¬ z = 0)
    (hlen : zn.toNatClampNeg = cs.length) (h0 : 0 < cs.length) (hbig : cs.length ≤ 536870912) (hall : ∀ c ∈ cs, ¬ 255 < c) (hfr : 4 ≤ R.frames) (hlo : W + 65 ≤ R.locals) :
    Back l R p e below s args New1.yN len W (fun P a => a = #[.ref x, .ref b] ∧ P.U.heap = h ∧ P.cells + 1 ≤ R.cells ∧ P.slots + cs.length ≤ R.slots)
      (fun P _ v B => ∃ L, QA Z x zn cs h v B.U.heap L ∧ B.locs = P.locs ++ L ∧ B.cells = P.cells + 1 ∧ B.slots = P.slots + cs.length) := by
  obtain ⟨A, K1, K2, K3, K4, K5, K6⟩ := K
  have e : A.slots.size = cs.length := K3.trans hlen
  have hat : ∀ (i : Nat) (hi : i < cs.length), A.slots[i]? = some (.int cs[i]) := fun i hi => by rw [K5 i (by omega)]; simp [List.getD_eq_getElem?_getD, hi]
  have hcv : ∀ (i : Nat) (hi : i < cs.length), cv A i = cs[i] := fun i hi => by unfold cv; rw [hat i hi]
  have hty : Typed .char A := fun i v hv => by
    have hi : i < A.slots.size := (Array.getElem?_eq_some_iff.mp hv).1
    have q := K5 i hi
    rw [hv] at q
    rw [Option.some.inj q]
    exact K6 i hi
  refine Back.mono (back hZ hw wi E V C K1 hty S hz (by omega) (by omega) (fun i hi => by rw [hcv i (by omega)]; exact hall _ (List.getElem_mem _)) hfr hlo) (fun P a hp => ⟨hp.1, hp.2.1, hp.2.2.1, by rw [e]; exact hp.2.2.2⟩) (fun P a v B hp hq => ?_)
  obtain ⟨L, ⟨q1, q2, q3, q4, q5, q6, q7, ⟨V', v1, v2, v3, v4, v5⟩, q9⟩, hl, hc, hs⟩ := hq
  refine ⟨L, ⟨q1, q2, q3, q4, q5, q6, q7, ⟨V'.cls, v3, V', v1, rfl, by rw [v4, e, hlen], K4, fun i hi => ?_, fun i hi => ?_⟩, q9⟩, hl, hc, by rw [hs, e]⟩
  · have hi' : i < cs.length := by omega
    rw [v5 i (by omega), hcv i hi']; simp [List.getD_eq_getElem?_getD, hi']
  · have hi' : i < cs.length := by omega
    simp only [List.getD_eq_getElem?_getD, List.getElem?_map, List.getElem?_eq_getElem hi', Option.map_some, Option.getD_some]
    exact fits_lo8 _
end StrChars.Road
namespace StrChars.Road
open Jvm Sem ClassFile Op Lib Jvm.Stand Jvm.Free Jvm.Free.XT
/-- WHAT COMES BACK, in the writer's own shape -/
def QV (Z : State) (x : Addr) (N : Int32) (bs : List Int32) (h : Heap) (n0 : Nat) (v : Option Value) (h' : Heap) (L : List Loc) : Prop := v = none ∧ RoadKit.Fr n0 L ∧ RoadKit.Keep h h' [x] ∧ RoadKit.Exa Z h' x ST ∧ RoadKit.Fld Z h' x ST "coder" "B" (.int 0) ∧
  ∃ (t : Addr) (kb : ClassId), n0 ≤ t ∧ h.size ≤ t ∧ ¬ t = x ∧ RoadKit.Fld Z h' x ST "value" "[B" (.ref t) ∧ RoadKit.Arv Z h' t kb .byte N (bs.map Value.int) (.int 0)
/-- **new String(chars) AT A CALL, FOR THE WRITER**: a char[] of n known ints, each 0 to 255 -/
theorem backV {p : Program} {l : Launch} {e : Env} {R : Room} {s : State} {args : Array Value} {below : List Frame} {len W : Nat} {Z : State} {a0 : Array Value} {h : Heap} (hZ : Z.Warmed39 s.vm) (hw : ∀ d ∈ words, d.before a0 Z = true) {kI : Nat} (wi : (Jvm.Cond.instantiable ST kI).before a0 Z = true)
    {x b : Addr} {kC : ClassId} {cs bs : List Int32} {d v0 c0 : Value} {z N : Int32} {n n0 : Nat} (hx0 : n0 ≤ x) (hh0 : n0 ≤ h.size) (E : RoadKit.Exa Z h x ST) (V : RoadKit.Fld Z h x ST "value" "[B" v0) (C : RoadKit.Fld Z h x ST "coder" "B" c0) (K : RoadKit.Arv Z h b kC .char N (cs.map Value.int) d) (S : RoadKit.Sta Z h ST "COMPACT_STRINGS" "Z" (.int z)) (hz : ¬ z = 0)
    (hn : cs.length = n) (hN : N = Int32.ofNat n) (l0 : 0 < n) (l2 : n ≤ 4000) (hp : ∀ c ∈ cs, ¬ c < 0 ∧ ¬ (255 : Int32) < c) (hb : bs = cs.map (fun c => c.toInt8.toInt32)) (hfr : 4 ≤ R.frames) (hlo : W + 65 ≤ R.locals) :
    Back l R p e below s args (⟨"java/lang/String", "<init>", "([C)V"⟩ : MethodName) len W (fun P a => a = #[.ref x, .ref b] ∧ P.U.heap = h ∧ P.cells + 1 ≤ R.cells ∧ P.slots + n ≤ R.slots)
      (fun P _ v B => ∃ L, QV Z x N bs h n0 v B.U.heap L ∧ B.locs = P.locs ++ L ∧ B.cells = P.cells + 1 ∧ B.slots = P.slots + n) := by
  subst hn hN hb
  refine Back.mono (backArv hZ hw wi E V C K S hz (n32 (by omega)) l0 (by omega) (fun c hc => (hp c hc).2) hfr hlo) (fun P a hp => hp) (fun P a v B hp hq => ?_)
  obtain ⟨L, ⟨q1, q2, q3, q4, q5, q6, q7, ⟨kb, v1, v2⟩, q9⟩, hl, hc, hs⟩ := hq
  exact ⟨L, ⟨q1, fun y hy => by rw [q2 y hy]; exact hx0, q3, q5, q7, h.size, kb, hh0, Nat.le_refl _, Nat.ne_of_gt E.lt, q6, by rw [List.map_map]; exact v2⟩, hl, hc, hs⟩
end StrChars.Road
end Jvm.Pilot.@@N@@
namespace Jvm.Pilot.@@N@@
open Jvm Jvm.ClassFile Sem Op Lib Jvm.Free Jvm.Stand Jvm.LawKit Jvm.RoadKit Bundle Own
/-- what new String(chars) leaves -/
def StrQ (Z : State) (x : Addr) (N : Int32) (bs : List Int32) (h : Heap) (v : Option Value) (h' : Heap) : Prop := v = none ∧ Exa Z h' x "java/lang/String" ∧ Fld Z h' x "java/lang/String" "coder" "B" (.int 0) ∧
  ∃ (t : Addr) (kb : ClassId), h.size ≤ t ∧ Fld Z h' x "java/lang/String" "value" "[B" (.ref t) ∧ Arv Z h' t kb .byte N (bs.map Value.int) (.int 0)
theorem own_strw {a0 : Array Value} {Z : State} (hw : ∀ d ∈ tables_1, d.before a0 Z = true) : ∀ d ∈ StrChars.Road.words, d.before a0 Z = true := fun d hd => hw d ((by decide +kernel : ∀ d ∈ StrChars.Road.words, d ∈ tables_1) d hd)
theorem own_str {p : Program} {l : Launch} {e : Env} {R : Room} {s : State} {args : Array Value} {below : List Frame} {len W : Nat} {Z : State} {a0 : Array Value} {h : Heap} (hw : ∀ d ∈ tables_1, d.before a0 Z = true) (wi : (Jvm.Cond.instantiable "java/lang/String" 4).before a0 Z = true) (hZ : Z.Warmed39 s.vm)
    {x b : Addr} {kC : ClassId} {cs : List Int32} {d v0 c0 : Value} {z N : Int32} {n n0 : Nat} (hx0 : n0 ≤ x) (O : Old Z n0 h) (E : Exa Z h x "java/lang/String") (V : Fld Z h x "java/lang/String" "value" "[B" v0) (C : Fld Z h x "java/lang/String" "coder" "B" c0) (K : Arv Z h b kC .char N (cs.map Value.int) d) (S : Sta Z Z.heap "java/lang/String" "COMPACT_STRINGS" "Z" (.int z)) (hz : ¬ z = 0)
    (hn : cs.length = n) (hN : N = Int32.ofNat n) (l0 : 0 < n) (l2 : n ≤ 4000) (hp : ∀ c ∈ cs, ¬ c < 0 ∧ ¬ (255 : Int32) < c) (hfr : 4 ≤ R.frames) (hlo : W + 65 ≤ R.locals) :
    Bk l R p e below s args (⟨"java/lang/String", "<init>", "([C)V"⟩ : MethodName) len W #[.ref x, .ref b] h 1 n n0 [x] (StrQ Z x N (cs.map fun c => c.toInt8.toInt32) h) :=
  Back.mono (StrChars.Road.backV (W := W) hZ (own_strw hw) (kI := 4) wi hx0 (Old.le O) E V C K (S.ext O.2) hz hn hN l0 l2 hp rfl hfr hlo) (fun _ _ q => q)
    (fun A a v B _ ⟨L, ⟨q1, q2, q3, q4, q5, t, kb, q6, q7, q8, q9, q10⟩, r⟩ => ⟨L, ⟨q2, q3, q1, q4, q5, t, kb, q7, q9, q10⟩, r⟩)
end Jvm.Pilot.@@N@@
namespace Jvm.Pilot.@@N@@
open Jvm Jvm.ClassFile Sem Op Lib Jvm.Free Jvm.Stand Jvm.LawKit Jvm.RoadKit Bundle Jvm.Pilot.@@N@@.Jvm.D Own
theorem own_allc0 {P : Int32 → Prop} : ∀ c ∈ ([] : List Int32), P c := fun _ q => nomatch q
theorem own_allc {P : Int32 → Prop} {y : Int32} {L : List Int32} (q : P y) (r : ∀ c ∈ L, P c) : ∀ c ∈ y :: L, P c := fun x z => (List.mem_cons.mp z).elim (fun u => u ▸ q) (r x)
theorem own_natOf {x : Int32} {m : Nat} (k : Nat) (hm : m + 1 = 2 ^ k) (hk : k < 31) : (x &&& Int32.ofNat m).toBitVec.toNat = x.toBitVec.toNat % (m + 1) := by
  show (x.toBitVec &&& (Int32.ofNat m).toBitVec).toNat = _
  have e : (Int32.ofNat m).toBitVec.toNat = m := by
    show (BitVec.ofNat 32 m).toNat = m
    rw [BitVec.toNat_ofNat]
    have : 2 ^ k < 2 ^ 31 := Nat.pow_lt_pow_right (by decide) hk
    omega
  rw [BitVec.toNat_and, e, show m = 2 ^ k - 1 by omega, Nat.and_two_pow_sub_one_eq_mod]
  congr 1; omega
theorem own_small {y : Int32} {n : Nat} (h : y.toBitVec.toNat = n) (hn : n < 2 ^ 31) : y = Int32.ofNat n := by
  apply Int32.toBitVec_inj.mp
  apply BitVec.eq_of_toNat_eq
  rw [h]
  show n = (BitVec.ofNat 32 n).toNat
  rw [BitVec.toNat_ofNat]; omega
theorem own_toInt {y : Int32} {n : Nat} (h : y.toBitVec.toNat = n) (hn : n < 2 ^ 31) : y.toInt = n := by
  show y.toBitVec.toInt = _
  rw [BitVec.toInt_eq_toNat_cond, h]; split <;> omega
theorem own_and_rng (x : Int32) {m : Nat} (k : Nat) (hm : m + 1 = 2 ^ k) (hk : k < 31) : 0 ≤ (x &&& Int32.ofNat m).toInt ∧ (x &&& Int32.ofNat m).toInt ≤ m := by
  have h := own_natOf (x := x) k hm hk
  have h2 : x.toBitVec.toNat % (m + 1) < m + 1 := Nat.mod_lt _ (by omega)
  have : 2 ^ k < 2 ^ 31 := Nat.pow_lt_pow_right (by decide) hk
  have h3 := own_toInt h (by omega)
  rw [h3]; omega
theorem own_byInt {y : Int32} {n : Int} (h : y.toInt = n) {z : Int32} (hz : z.toInt = n) : y = z := Int32.toInt_inj.mp (h.trans hz.symm)
theorem own_nar {z : Int32} (h : ¬ z < 0 ∧ ¬ (255 : Int32) < z) : nar .char z = z := by
  have e : z &&& 255 = z := by
    have h1 := h.1; have h2 := h.2
    rw [Int32.lt_iff_toInt_lt] at h1 h2
    have e0 : (0 : Int32).toInt = 0 := rfl
    have e255 : (255 : Int32).toInt = 255 := rfl
    have hz : z.toBitVec.toInt = z.toInt := rfl
    rw [BitVec.toInt_eq_toNat_cond] at hz
    have hlt := z.toBitVec.isLt
    apply Int32.toBitVec_inj.mp
    apply BitVec.eq_of_toNat_eq
    have := own_natOf (x := z) (m := 255) 8 rfl (by decide)
    rw [show (z &&& 255).toBitVec.toNat = z.toBitVec.toNat % 256 from this]
    split at hz <;> omega
  have q := i2c_mask z
  rw [e] at q
  exact q
theorem own_and255 (x : Int32) : ¬ (x &&& (255 : Int32)) < 0 ∧ ¬ (255 : Int32) < (x &&& (255 : Int32)) := by
  have h := own_and_rng x (m := 255) 8 rfl (by decide)
  have h1 : 0 ≤ (x &&& (255 : Int32)).toInt := h.1
  have h2 : (x &&& (255 : Int32)).toInt ≤ 255 := h.2
  rw [Int32.lt_iff_toInt_lt, Int32.lt_iff_toInt_lt]
  have e0 : (0 : Int32).toInt = 0 := rfl
  have e2 : (255 : Int32).toInt = 255 := rfl
  omega
theorem d_jdk_30_m_1_0 : decode jdk_30_method_1_code 0 = .ok (.aload_n 0, 1) := by decide +kernel
theorem d_jdk_30_m_1_1 : decode jdk_30_method_1_code 1 = .ok (.invokespecial 1, 3) := by decide +kernel
theorem d_jdk_30_m_1_4 : decode jdk_30_method_1_code 4 = .ok (.return_, 1) := by decide +kernel
theorem d_prog_4_m_1_0 : decode prog_4_method_1_code 0 = .ok (.aload_n 0, 1) := by decide +kernel
theorem d_prog_4_m_1_1 : decode prog_4_method_1_code 1 = .ok (.invokespecial 1, 3) := by decide +kernel
theorem pd_0 : parseMethodDescriptor "()V" = some ⟨[], none⟩ := by decide +kernel
theorem d_prog_4_m_1_4 : decode prog_4_method_1_code 4 = .ok (.aload_n 0, 1) := by decide +kernel
theorem d_prog_4_m_1_5 : decode prog_4_method_1_code 5 = .ok (.aload_n 1, 1) := by decide +kernel
theorem d_prog_4_m_1_6 : decode prog_4_method_1_code 6 = .ok (.putfield 7, 3) := by decide +kernel
theorem d_prog_4_m_1_9 : decode prog_4_method_1_code 9 = .ok (.aload_n 0, 1) := by decide +kernel
theorem d_prog_4_m_1_10 : decode prog_4_method_1_code 10 = .ok (.aload_n 2, 1) := by decide +kernel
theorem d_prog_4_m_1_11 : decode prog_4_method_1_code 11 = .ok (.putfield 13, 3) := by decide +kernel
theorem d_prog_4_m_1_14 : decode prog_4_method_1_code 14 = .ok (.aload_n 0, 1) := by decide +kernel
theorem d_prog_4_m_1_15 : decode prog_4_method_1_code 15 = .ok (.aload_n 3, 1) := by decide +kernel
theorem d_prog_4_m_1_16 : decode prog_4_method_1_code 16 = .ok (.putfield 16, 3) := by decide +kernel
theorem d_prog_4_m_1_19 : decode prog_4_method_1_code 19 = .ok (.aload_n 0, 1) := by decide +kernel
theorem d_prog_4_m_1_20 : decode prog_4_method_1_code 20 = .ok (.lload 4, 2) := by decide +kernel
theorem d_prog_4_m_1_22 : decode prog_4_method_1_code 22 = .ok (.putfield 19, 3) := by decide +kernel
theorem d_prog_4_m_1_25 : decode prog_4_method_1_code 25 = .ok (.return_, 1) := by decide +kernel
theorem d_prog_7_m_1_0 : decode prog_7_method_1_code 0 = .ok (.aload_n 0, 1) := by decide +kernel
theorem d_prog_7_m_1_1 : decode prog_7_method_1_code 1 = .ok (.invokespecial 1, 3) := by decide +kernel
theorem d_prog_7_m_1_4 : decode prog_7_method_1_code 4 = .ok (.aload_n 0, 1) := by decide +kernel
theorem d_prog_7_m_1_5 : decode prog_7_method_1_code 5 = .ok (.aload_n 1, 1) := by decide +kernel
theorem d_prog_7_m_1_6 : decode prog_7_method_1_code 6 = .ok (.putfield 7, 3) := by decide +kernel
theorem d_prog_7_m_1_9 : decode prog_7_method_1_code 9 = .ok (.aload_n 0, 1) := by decide +kernel
theorem d_prog_7_m_1_10 : decode prog_7_method_1_code 10 = .ok (.aload_n 2, 1) := by decide +kernel
theorem d_prog_7_m_1_11 : decode prog_7_method_1_code 11 = .ok (.putfield 13, 3) := by decide +kernel
theorem d_prog_7_m_1_14 : decode prog_7_method_1_code 14 = .ok (.aload_n 0, 1) := by decide +kernel
theorem d_prog_7_m_1_15 : decode prog_7_method_1_code 15 = .ok (.iload_n 3, 1) := by decide +kernel
theorem d_prog_7_m_1_16 : decode prog_7_method_1_code 16 = .ok (.putfield 17, 3) := by decide +kernel
theorem d_prog_7_m_1_19 : decode prog_7_method_1_code 19 = .ok (.aload_n 0, 1) := by decide +kernel
theorem d_prog_7_m_1_20 : decode prog_7_method_1_code 20 = .ok (.lload 4, 2) := by decide +kernel
theorem d_prog_7_m_1_22 : decode prog_7_method_1_code 22 = .ok (.putfield 21, 3) := by decide +kernel
theorem d_prog_7_m_1_25 : decode prog_7_method_1_code 25 = .ok (.return_, 1) := by decide +kernel
theorem d_prog_4_m_8_0 : decode prog_4_method_8_code 0 = .ok (.aload_n 0, 1) := by decide +kernel
theorem d_prog_4_m_8_1 : decode prog_4_method_8_code 1 = .ok (.getfield 19, 3) := by decide +kernel
theorem d_prog_4_m_8_4 : decode prog_4_method_8_code 4 = .ok (.lreturn, 1) := by decide +kernel
theorem d_prog_7_m_3_0 : decode prog_7_method_3_code 0 = .ok (.aload_n 0, 1) := by decide +kernel
theorem d_prog_7_m_3_1 : decode prog_7_method_3_code 1 = .ok (.getfield 13, 3) := by decide +kernel
theorem d_prog_7_m_3_4 : decode prog_7_method_3_code 4 = .ok (.ifnonnull 7, 3) := by decide +kernel
theorem d_prog_7_m_3_11 : decode prog_7_method_3_code 11 = .ok (.aload_n 0, 1) := by decide +kernel
theorem d_prog_7_m_3_12 : decode prog_7_method_3_code 12 = .ok (.getfield 13, 3) := by decide +kernel
theorem d_prog_7_m_3_15 : decode prog_7_method_3_code 15 = .ok (.invokevirtual 33, 3) := by decide +kernel
theorem pd_1 : parseMethodDescriptor "()J" = some ⟨[], some .long⟩ := by decide +kernel
theorem d_prog_7_m_3_18 : decode prog_7_method_3_code 18 = .ok (.lreturn, 1) := by decide +kernel
theorem d_prog_7_m_3_7 : decode prog_7_method_3_code 7 = .ok (.lconst 0, 1) := by decide +kernel
theorem d_prog_7_m_3_8 : decode prog_7_method_3_code 8 = .ok (.goto 10, 3) := by decide +kernel
theorem pd_2 : parseMethodDescriptor "([C)V" = some ⟨[(.array .char)], none⟩ := by decide +kernel
theorem pd_3 : parseMethodDescriptor "(Ljava/lang/String;Lcom/example/fence/fence/client/Grant;IJ)V" = some ⟨[(.object "java/lang/String"), (.object "com/example/fence/fence/client/Grant"), .int, .long], none⟩ := by decide +kernel
theorem pd_4 : parseMethodDescriptor "(Ljava/lang/String;Ljava/lang/String;Ljava/lang/String;J)V" = some ⟨[(.object "java/lang/String"), (.object "java/lang/String"), (.object "java/lang/String"), .long], none⟩ := by decide +kernel
theorem pn_java_lang_Record : plainName "java/lang/Record" = true := by first | (simp [plainName, overriddenIn]; done) | decide +kernel
theorem pn_com_example_fence_fence_client_Grant : plainName "com/example/fence/fence/client/Grant" = true := by first | (simp [plainName, overriddenIn]; done) | decide +kernel
theorem pn_com_example_fence_fence_client_LockStatus : plainName "com/example/fence/fence/client/LockStatus" = true := by first | (simp [plainName, overriddenIn]; done) | decide +kernel
theorem pn_com_example_fence_fence_client_LockStatusTokenPinLaw : plainName "com/example/fence/fence/client/LockStatusTokenPinLaw" = true := by first | (simp [plainName, overriddenIn]; done) | decide +kernel
theorem ef_rm8 (m : MethodId) (x0 : Addr) : entryFrame m #[(.ref x0)] 1 = mkF m 0 #[.val (.ref x0)] [] := by first | (simp [entryFrame, mkF, argsToLocals, Value.category]; done) | rfl
set_option maxRecDepth 65536 in
set_option maxHeartbeats 40000000 in
theorem rm8 (l : Launch) (Z : State) (a0 : Array Value) (hw : ∀ d ∈ tables_1, d.before a0 Z = true) (wds : List Jvm.Cond) (a1 : Addr) (h0 : Heap) (n0 : Nat) (O0 : Old Z n0 h0)   :
    Ct l Z (⟨"java/lang/Record", "<init>", "()V"⟩ : MethodName) jdk_30_method_1_code 1 none wds ({ frames := 1, cells := 0, slots := 0, locals := 12 } : Room) #[(.ref a1)] n0 h0 [] (fun v h => v = none ∧ h = h0) := by
  refine Ct.of pn_java_lang_Record O0 all0 ?_
  intro p e s m below meth c hx hby hml hret hnm
  refine Go.cast (ef_rm8 m a1) ?_
  refine Go.sp (g' := (mkF m 1 #[.val (.ref a1)] [(.ref a1)])) (fun T A t r => XS.aloadN A hx rfl (hb hby d_jdk_30_m_1_0) rfl rfl r) ?_
  refine Go.v (g' := (mkF m 4 #[.val (.ref a1)] [])) (fun s' T L X eT hZ hown => initO X hx hZ hown (own_w hw 41 rfl) (own_w hw 12 rfl) (own_w hw 13 rfl) eT (g := (mkF m 1 #[.val (.ref a1)] [(.ref a1)])) rfl (by rw [hml]; rfl) rfl (hb hby d_jdk_30_m_1_1) (by decide) (W := 0) (catOf (Nat.le_of_ble_eq_true rfl)) (by decide)) ?_
  exact Go.ret (v := none) (fun s' T L fs X hr => X.returnOut hx hret (hb hby d_jdk_30_m_1_4) hr) (fun _ => rfl) (by decide) (by decide) ⟨rfl, rfl⟩
theorem ef_rm7 (m : MethodId) (x0 : Addr) (x1 : Addr) (x2 : Addr) (x3 : Addr) (x4 : Int64) : entryFrame m #[(.ref x0), (.ref x1), (.ref x2), (.ref x3), (.long x4)] 6 = mkF m 0 #[.val (.ref x0), .val (.ref x1), .val (.ref x2), .val (.ref x3), .val (.long x4), .second] [] := by first | (simp [entryFrame, mkF, argsToLocals, Value.category]; done) | rfl
set_option maxRecDepth 65536 in
set_option maxHeartbeats 40000000 in
theorem rm7 (l : Launch) (Z : State) (a0 : Array Value) (hw : ∀ d ∈ tables_1, d.before a0 Z = true) (wds : List Jvm.Cond) (a1 : Addr) (a2 : Addr) (a3 : Addr) (a4 : Addr) (q5 : Int64) (u0 : Value) (u1 : Value) (u2 : Value) (u3 : Value) (h0 : Heap) (n0 : Nat) (O0 : Old Z n0 h0) (g_a1 : n0 ≤ a1) (E_a1 : Exa Z h0 a1 "com/example/fence/fence/client/Grant") (Flock : Fld Z h0 a1 "com/example/fence/fence/client/Grant" "lock" "Ljava/lang/String;" u0) (Fsession : Fld Z h0 a1 "com/example/fence/fence/client/Grant" "session" "Ljava/lang/String;" u1) (Fowner : Fld Z h0 a1 "com/example/fence/fence/client/Grant" "owner" "Ljava/lang/String;" u2) (Ftoken : Fld Z h0 a1 "com/example/fence/fence/client/Grant" "token" "J" u3) :
    Ct l Z (⟨"com/example/fence/fence/client/Grant", "<init>", "(Ljava/lang/String;Ljava/lang/String;Ljava/lang/String;J)V"⟩ : MethodName) prog_4_method_1_code 6 none wds ({ frames := 2, cells := 0, slots := 0, locals := 24 } : Room) #[(.ref a1), (.ref a2), (.ref a3), (.ref a4), (.long q5)] n0 h0 [a1] (fun v h => v = none ∧ Fld Z h a1 "com/example/fence/fence/client/Grant" "lock" "Ljava/lang/String;" (.ref a2) ∧ Fld Z h a1 "com/example/fence/fence/client/Grant" "session" "Ljava/lang/String;" (.ref a3) ∧ Fld Z h a1 "com/example/fence/fence/client/Grant" "owner" "Ljava/lang/String;" (.ref a4) ∧ Fld Z h a1 "com/example/fence/fence/client/Grant" "token" "J" (.long q5)) := by
  refine Ct.of pn_com_example_fence_fence_client_Grant O0 (allS g_a1 all0) ?_
  intro p e s m below meth c hx hby hml hret hnm
  refine Go.cast (ef_rm7 m a1 a2 a3 a4 q5) ?_
  refine Go.sp (g' := (mkF m 1 #[.val (.ref a1), .val (.ref a2), .val (.ref a3), .val (.ref a4), .val (.long q5), .second] [(.ref a1)])) (fun T A t r => XS.aloadN A hx rfl (hb hby d_prog_4_m_1_0) rfl rfl r) ?_
  refine Go.callCP (a := a1) (W := 0) (y := (⟨"java/lang/Record", "<init>", "()V"⟩ : MethodName)) (argsL := []) (rest := []) (pc' := 4) (hb hby d_prog_4_m_1_1) rfl (own_w hw 36 rfl) (own_w hw 37 rfl) (own_w hw 40 rfl) (by decide) (fun s' hZ => Ct.bk (rm8 l Z a0 hw [] a1 h0 n0 O0) hZ (own_w hw 40 rfl) (own_w hw 39 rfl) (by decide) (by decide)) (by rw [hml]; rfl) (lenOf pd_0 rfl) rfl (Nat.le_of_ble_eq_true rfl) rfl (by decide) (by decide) ?_
  rintro v1 ⟨rfl⟩
  refine Go.cast (g' := (mkF m 4 #[.val (.ref a1), .val (.ref a2), .val (.ref a3), .val (.ref a4), .val (.long q5), .second] [])) rfl ?_
  refine Go.sp (g' := (mkF m 5 #[.val (.ref a1), .val (.ref a2), .val (.ref a3), .val (.ref a4), .val (.long q5), .second] [(.ref a1)])) (fun T A t r => XS.aloadN A hx rfl (hb hby d_prog_4_m_1_4) rfl rfl r) ?_
  refine Go.sp (g' := (mkF m 6 #[.val (.ref a1), .val (.ref a2), .val (.ref a3), .val (.ref a4), .val (.long q5), .second] [(.ref a2), (.ref a1)])) (fun T A t r => XS.aloadN A hx rfl (hb hby d_prog_4_m_1_5) rfl rfl r) ?_
  refine Go.w (g' := (mkF m 9 #[.val (.ref a1), .val (.ref a2), .val (.ref a3), .val (.ref a4), .val (.long q5), .second] [])) (fun s' T L X eT hZ hown => putF X hx hZ hown (host := "") (Or.inl (own_w hw 42 rfl)) Via.refl eT Flock E_a1 (Or.inr ⟨(own_w hw 43 rfl), rfl, hnm⟩) (own_w hw 31 rfl) (ty := (.object "java/lang/String")) (by decide) rfl rfl (g := (mkF m 6 #[.val (.ref a1), .val (.ref a2), .val (.ref a3), .val (.ref a4), .val (.long q5), .second] [(.ref a2), (.ref a1)])) rfl rfl (hb hby d_prog_4_m_1_6)) (Or.inl (List.mem_of_getElem? (i := 0) rfl)) ?_
  intro h3 W3
  have F3 := Flock.same W3
  refine Go.sp (g' := (mkF m 10 #[.val (.ref a1), .val (.ref a2), .val (.ref a3), .val (.ref a4), .val (.long q5), .second] [(.ref a1)])) (fun T A t r => XS.aloadN A hx rfl (hb hby d_prog_4_m_1_9) rfl rfl r) ?_
  refine Go.sp (g' := (mkF m 11 #[.val (.ref a1), .val (.ref a2), .val (.ref a3), .val (.ref a4), .val (.long q5), .second] [(.ref a3), (.ref a1)])) (fun T A t r => XS.aloadN A hx rfl (hb hby d_prog_4_m_1_10) rfl rfl r) ?_
  have f4 := (E_a1.wr W3)
  have f5 := (Fsession.other W3 (Or.inr (slot_ne (Or.inr (own_w hw 45 rfl)) (Or.inr (own_w hw 43 rfl)) (by decide) (t := (.object "java/lang/String")) (t' := (.object "java/lang/String")) (by decide) (by decide))))
  refine Go.w (g' := (mkF m 14 #[.val (.ref a1), .val (.ref a2), .val (.ref a3), .val (.ref a4), .val (.long q5), .second] [])) (fun s' T L X eT hZ hown => putF X hx hZ hown (host := "") (Or.inl (own_w hw 44 rfl)) Via.refl eT f5 f4 (Or.inr ⟨(own_w hw 45 rfl), rfl, hnm⟩) (own_w hw 31 rfl) (ty := (.object "java/lang/String")) (by decide) rfl rfl (g := (mkF m 11 #[.val (.ref a1), .val (.ref a2), .val (.ref a3), .val (.ref a4), .val (.long q5), .second] [(.ref a3), (.ref a1)])) rfl rfl (hb hby d_prog_4_m_1_11)) (Or.inl (List.mem_of_getElem? (i := 0) rfl)) ?_
  intro h7 W7
  have F7 := f5.same W7
  refine Go.sp (g' := (mkF m 15 #[.val (.ref a1), .val (.ref a2), .val (.ref a3), .val (.ref a4), .val (.long q5), .second] [(.ref a1)])) (fun T A t r => XS.aloadN A hx rfl (hb hby d_prog_4_m_1_14) rfl rfl r) ?_
  refine Go.sp (g' := (mkF m 16 #[.val (.ref a1), .val (.ref a2), .val (.ref a3), .val (.ref a4), .val (.long q5), .second] [(.ref a4), (.ref a1)])) (fun T A t r => XS.aloadN A hx rfl (hb hby d_prog_4_m_1_15) rfl rfl r) ?_
  have f8 := (f4.wr W7)
  have f9 := ((Fowner.other W3 (Or.inr (slot_ne (Or.inr (own_w hw 47 rfl)) (Or.inr (own_w hw 43 rfl)) (by decide) (t := (.object "java/lang/String")) (t' := (.object "java/lang/String")) (by decide) (by decide)))).other W7 (Or.inr (slot_ne (Or.inr (own_w hw 47 rfl)) (Or.inr (own_w hw 45 rfl)) (by decide) (t := (.object "java/lang/String")) (t' := (.object "java/lang/String")) (by decide) (by decide))))
  refine Go.w (g' := (mkF m 19 #[.val (.ref a1), .val (.ref a2), .val (.ref a3), .val (.ref a4), .val (.long q5), .second] [])) (fun s' T L X eT hZ hown => putF X hx hZ hown (host := "") (Or.inl (own_w hw 46 rfl)) Via.refl eT f9 f8 (Or.inr ⟨(own_w hw 47 rfl), rfl, hnm⟩) (own_w hw 31 rfl) (ty := (.object "java/lang/String")) (by decide) rfl rfl (g := (mkF m 16 #[.val (.ref a1), .val (.ref a2), .val (.ref a3), .val (.ref a4), .val (.long q5), .second] [(.ref a4), (.ref a1)])) rfl rfl (hb hby d_prog_4_m_1_16)) (Or.inl (List.mem_of_getElem? (i := 0) rfl)) ?_
  intro h11 W11
  have F11 := f9.same W11
  refine Go.sp (g' := (mkF m 20 #[.val (.ref a1), .val (.ref a2), .val (.ref a3), .val (.ref a4), .val (.long q5), .second] [(.ref a1)])) (fun T A t r => XS.aloadN A hx rfl (hb hby d_prog_4_m_1_19) rfl rfl r) ?_
  refine Go.sp (g' := (mkF m 22 #[.val (.ref a1), .val (.ref a2), .val (.ref a3), .val (.ref a4), .val (.long q5), .second] [(.long q5), (.ref a1)])) (fun T A t r => XS.lload A hx rfl (hb hby d_prog_4_m_1_20) rfl r) ?_
  have f12 := (f8.wr W11)
  have f13 := (((Ftoken.other W3 (Or.inr (slot_ne (Or.inr (own_w hw 49 rfl)) (Or.inr (own_w hw 43 rfl)) (by decide) (t := .long) (t' := (.object "java/lang/String")) (by decide) (by decide)))).other W7 (Or.inr (slot_ne (Or.inr (own_w hw 49 rfl)) (Or.inr (own_w hw 45 rfl)) (by decide) (t := .long) (t' := (.object "java/lang/String")) (by decide) (by decide)))).other W11 (Or.inr (slot_ne (Or.inr (own_w hw 49 rfl)) (Or.inr (own_w hw 47 rfl)) (by decide) (t := .long) (t' := (.object "java/lang/String")) (by decide) (by decide))))
  refine Go.w (g' := (mkF m 25 #[.val (.ref a1), .val (.ref a2), .val (.ref a3), .val (.ref a4), .val (.long q5), .second] [])) (fun s' T L X eT hZ hown => putF X hx hZ hown (host := "") (Or.inl (own_w hw 48 rfl)) Via.refl eT f13 f12 (Or.inr ⟨(own_w hw 49 rfl), rfl, hnm⟩) (own_w hw 31 rfl) (ty := .long) (by decide) rfl rfl (g := (mkF m 22 #[.val (.ref a1), .val (.ref a2), .val (.ref a3), .val (.ref a4), .val (.long q5), .second] [(.long q5), (.ref a1)])) rfl rfl (hb hby d_prog_4_m_1_22)) (Or.inl (List.mem_of_getElem? (i := 0) rfl)) ?_
  intro h15 W15
  have F15 := f13.same W15
  have f16 := (((F3.other W7 (Or.inr (slot_ne (Or.inr (own_w hw 43 rfl)) (Or.inr (own_w hw 45 rfl)) (by decide) (t := (.object "java/lang/String")) (t' := (.object "java/lang/String")) (by decide) (by decide)))).other W11 (Or.inr (slot_ne (Or.inr (own_w hw 43 rfl)) (Or.inr (own_w hw 47 rfl)) (by decide) (t := (.object "java/lang/String")) (t' := (.object "java/lang/String")) (by decide) (by decide)))).other W15 (Or.inr (slot_ne (Or.inr (own_w hw 43 rfl)) (Or.inr (own_w hw 49 rfl)) (by decide) (t := (.object "java/lang/String")) (t' := .long) (by decide) (by decide))))
  have f17 := ((F7.other W11 (Or.inr (slot_ne (Or.inr (own_w hw 45 rfl)) (Or.inr (own_w hw 47 rfl)) (by decide) (t := (.object "java/lang/String")) (t' := (.object "java/lang/String")) (by decide) (by decide)))).other W15 (Or.inr (slot_ne (Or.inr (own_w hw 45 rfl)) (Or.inr (own_w hw 49 rfl)) (by decide) (t := (.object "java/lang/String")) (t' := .long) (by decide) (by decide))))
  have f18 := (F11.other W15 (Or.inr (slot_ne (Or.inr (own_w hw 47 rfl)) (Or.inr (own_w hw 49 rfl)) (by decide) (t := (.object "java/lang/String")) (t' := .long) (by decide) (by decide))))
  exact Go.ret (v := none) (fun s' T L fs X hr => X.returnOut hx hret (hb hby d_prog_4_m_1_25) hr) (fun _ => rfl) (by decide) (by decide) ⟨rfl, f16, f17, f18, F15⟩
theorem ef_rm9 (m : MethodId) (x0 : Addr) (x1 : Addr) (x2 : Value) (x3 : Int32) (x4 : Int64) (h2 : x2.isRef = true) : entryFrame m #[(.ref x0), (.ref x1), x2, (.int x3), (.long x4)] 6 = mkF m 0 #[.val (.ref x0), .val (.ref x1), .val x2, .val (.int x3), .val (.long x4), .second] [] := by rcases ref_cases h2 with rfl | ⟨_, rfl⟩ <;> rfl
set_option maxRecDepth 65536 in
set_option maxHeartbeats 40000000 in
theorem rm9 (l : Launch) (Z : State) (a0 : Array Value) (hw : ∀ d ∈ tables_1, d.before a0 Z = true) (wds : List Jvm.Cond) (a1 : Addr) (a2 : Addr) (a3 : Value) (p4 : Int32) (q5 : Int64) (u0 : Value) (u1 : Value) (u2 : Value) (u3 : Value) (h0 : Heap) (n0 : Nat) (O0 : Old Z n0 h0) (g_a1 : n0 ≤ a1) (hv3 : a3.isRef = true) (E_a1 : Exa Z h0 a1 "com/example/fence/fence/client/LockStatus") (Flock : Fld Z h0 a1 "com/example/fence/fence/client/LockStatus" "lock" "Ljava/lang/String;" u0) (Fholder : Fld Z h0 a1 "com/example/fence/fence/client/LockStatus" "holder" "Lcom/example/fence/fence/client/Grant;" u1) (Fwaiters : Fld Z h0 a1 "com/example/fence/fence/client/LockStatus" "waiters" "I" u2) (FlastToken : Fld Z h0 a1 "com/example/fence/fence/client/LockStatus" "lastToken" "J" u3) :
    Ct l Z (⟨"com/example/fence/fence/client/LockStatus", "<init>", "(Ljava/lang/String;Lcom/example/fence/fence/client/Grant;IJ)V"⟩ : MethodName) prog_7_method_1_code 6 none wds ({ frames := 2, cells := 0, slots := 0, locals := 24 } : Room) #[(.ref a1), (.ref a2), a3, (.int p4), (.long q5)] n0 h0 [a1] (fun v h => v = none ∧ Fld Z h a1 "com/example/fence/fence/client/LockStatus" "lock" "Ljava/lang/String;" (.ref a2) ∧ Fld Z h a1 "com/example/fence/fence/client/LockStatus" "holder" "Lcom/example/fence/fence/client/Grant;" a3 ∧ Fld Z h a1 "com/example/fence/fence/client/LockStatus" "waiters" "I" (.int p4) ∧ Fld Z h a1 "com/example/fence/fence/client/LockStatus" "lastToken" "J" (.long q5)) := by
  refine Ct.of pn_com_example_fence_fence_client_LockStatus O0 (allS g_a1 all0) ?_
  intro p e s m below meth c hx hby hml hret hnm
  refine Go.cast (ef_rm9 m a1 a2 a3 p4 q5 hv3) ?_
  refine Go.sp (g' := (mkF m 1 #[.val (.ref a1), .val (.ref a2), .val a3, .val (.int p4), .val (.long q5), .second] [(.ref a1)])) (fun T A t r => XS.aloadN A hx rfl (hb hby d_prog_7_m_1_0) rfl rfl r) ?_
  refine Go.callCP (a := a1) (W := 0) (y := (⟨"java/lang/Record", "<init>", "()V"⟩ : MethodName)) (argsL := []) (rest := []) (pc' := 4) (hb hby d_prog_7_m_1_1) rfl (own_w hw 56 rfl) (own_w hw 37 rfl) (own_w hw 40 rfl) (by decide) (fun s' hZ => Ct.bk (rm8 l Z a0 hw [] a1 h0 n0 O0) hZ (own_w hw 40 rfl) (own_w hw 39 rfl) (by decide) (by decide)) (by rw [hml]; rfl) (lenOf pd_0 rfl) rfl (Nat.le_of_ble_eq_true rfl) rfl (by decide) (by decide) ?_
  rintro v1 ⟨rfl⟩
  refine Go.cast (g' := (mkF m 4 #[.val (.ref a1), .val (.ref a2), .val a3, .val (.int p4), .val (.long q5), .second] [])) rfl ?_
  refine Go.sp (g' := (mkF m 5 #[.val (.ref a1), .val (.ref a2), .val a3, .val (.int p4), .val (.long q5), .second] [(.ref a1)])) (fun T A t r => XS.aloadN A hx rfl (hb hby d_prog_7_m_1_4) rfl rfl r) ?_
  refine Go.sp (g' := (mkF m 6 #[.val (.ref a1), .val (.ref a2), .val a3, .val (.int p4), .val (.long q5), .second] [(.ref a2), (.ref a1)])) (fun T A t r => XS.aloadN A hx rfl (hb hby d_prog_7_m_1_5) rfl rfl r) ?_
  refine Go.w (g' := (mkF m 9 #[.val (.ref a1), .val (.ref a2), .val a3, .val (.int p4), .val (.long q5), .second] [])) (fun s' T L X eT hZ hown => putF X hx hZ hown (host := "") (Or.inl (own_w hw 57 rfl)) Via.refl eT Flock E_a1 (Or.inr ⟨(own_w hw 58 rfl), rfl, hnm⟩) (own_w hw 51 rfl) (ty := (.object "java/lang/String")) (by decide) rfl rfl (g := (mkF m 6 #[.val (.ref a1), .val (.ref a2), .val a3, .val (.int p4), .val (.long q5), .second] [(.ref a2), (.ref a1)])) rfl rfl (hb hby d_prog_7_m_1_6)) (Or.inl (List.mem_of_getElem? (i := 0) rfl)) ?_
  intro h3 W3
  have F3 := Flock.same W3
  refine Go.sp (g' := (mkF m 10 #[.val (.ref a1), .val (.ref a2), .val a3, .val (.int p4), .val (.long q5), .second] [(.ref a1)])) (fun T A t r => XS.aloadN A hx rfl (hb hby d_prog_7_m_1_9) rfl rfl r) ?_
  refine Go.sp (g' := (mkF m 11 #[.val (.ref a1), .val (.ref a2), .val a3, .val (.int p4), .val (.long q5), .second] [a3, (.ref a1)])) (fun T A t r => XS.aloadN A hx rfl (hb hby d_prog_7_m_1_10) rfl hv3 r) ?_
  have f4 := (E_a1.wr W3)
  have f5 := (Fholder.other W3 (Or.inr (slot_ne (Or.inr (own_w hw 60 rfl)) (Or.inr (own_w hw 58 rfl)) (by decide) (t := (.object "com/example/fence/fence/client/Grant")) (t' := (.object "java/lang/String")) (by decide) (by decide))))
  refine Go.w (g' := (mkF m 14 #[.val (.ref a1), .val (.ref a2), .val a3, .val (.int p4), .val (.long q5), .second] [])) (fun s' T L X eT hZ hown => putF X hx hZ hown (host := "") (Or.inl (own_w hw 59 rfl)) Via.refl eT f5 f4 (Or.inr ⟨(own_w hw 60 rfl), rfl, hnm⟩) (own_w hw 51 rfl) (ty := (.object "com/example/fence/fence/client/Grant")) (by decide) (nar_ref hv3) (fit_ref hv3) (g := (mkF m 11 #[.val (.ref a1), .val (.ref a2), .val a3, .val (.int p4), .val (.long q5), .second] [a3, (.ref a1)])) rfl rfl (hb hby d_prog_7_m_1_11)) (Or.inl (List.mem_of_getElem? (i := 0) rfl)) ?_
  intro h7 W7
  have F7 := f5.same W7
  refine Go.sp (g' := (mkF m 15 #[.val (.ref a1), .val (.ref a2), .val a3, .val (.int p4), .val (.long q5), .second] [(.ref a1)])) (fun T A t r => XS.aloadN A hx rfl (hb hby d_prog_7_m_1_14) rfl rfl r) ?_
  refine Go.sp (g' := (mkF m 16 #[.val (.ref a1), .val (.ref a2), .val a3, .val (.int p4), .val (.long q5), .second] [(.int p4), (.ref a1)])) (fun T A t r => XS.iloadN A hx rfl (hb hby d_prog_7_m_1_15) rfl r) ?_
  have f8 := (f4.wr W7)
  have f9 := ((Fwaiters.other W3 (Or.inr (slot_ne (Or.inr (own_w hw 62 rfl)) (Or.inr (own_w hw 58 rfl)) (by decide) (t := .int) (t' := (.object "java/lang/String")) (by decide) (by decide)))).other W7 (Or.inr (slot_ne (Or.inr (own_w hw 62 rfl)) (Or.inr (own_w hw 60 rfl)) (by decide) (t := .int) (t' := (.object "com/example/fence/fence/client/Grant")) (by decide) (by decide))))
  refine Go.w (g' := (mkF m 19 #[.val (.ref a1), .val (.ref a2), .val a3, .val (.int p4), .val (.long q5), .second] [])) (fun s' T L X eT hZ hown => putF X hx hZ hown (host := "") (Or.inl (own_w hw 61 rfl)) Via.refl eT f9 f8 (Or.inr ⟨(own_w hw 62 rfl), rfl, hnm⟩) (own_w hw 51 rfl) (ty := .int) (by decide) rfl rfl (g := (mkF m 16 #[.val (.ref a1), .val (.ref a2), .val a3, .val (.int p4), .val (.long q5), .second] [(.int p4), (.ref a1)])) rfl rfl (hb hby d_prog_7_m_1_16)) (Or.inl (List.mem_of_getElem? (i := 0) rfl)) ?_
  intro h11 W11
  have F11 := f9.same W11
  refine Go.sp (g' := (mkF m 20 #[.val (.ref a1), .val (.ref a2), .val a3, .val (.int p4), .val (.long q5), .second] [(.ref a1)])) (fun T A t r => XS.aloadN A hx rfl (hb hby d_prog_7_m_1_19) rfl rfl r) ?_
  refine Go.sp (g' := (mkF m 22 #[.val (.ref a1), .val (.ref a2), .val a3, .val (.int p4), .val (.long q5), .second] [(.long q5), (.ref a1)])) (fun T A t r => XS.lload A hx rfl (hb hby d_prog_7_m_1_20) rfl r) ?_
  have f12 := (f8.wr W11)
  have f13 := (((FlastToken.other W3 (Or.inr (slot_ne (Or.inr (own_w hw 64 rfl)) (Or.inr (own_w hw 58 rfl)) (by decide) (t := .long) (t' := (.object "java/lang/String")) (by decide) (by decide)))).other W7 (Or.inr (slot_ne (Or.inr (own_w hw 64 rfl)) (Or.inr (own_w hw 60 rfl)) (by decide) (t := .long) (t' := (.object "com/example/fence/fence/client/Grant")) (by decide) (by decide)))).other W11 (Or.inr (slot_ne (Or.inr (own_w hw 64 rfl)) (Or.inr (own_w hw 62 rfl)) (by decide) (t := .long) (t' := .int) (by decide) (by decide))))
  refine Go.w (g' := (mkF m 25 #[.val (.ref a1), .val (.ref a2), .val a3, .val (.int p4), .val (.long q5), .second] [])) (fun s' T L X eT hZ hown => putF X hx hZ hown (host := "") (Or.inl (own_w hw 63 rfl)) Via.refl eT f13 f12 (Or.inr ⟨(own_w hw 64 rfl), rfl, hnm⟩) (own_w hw 51 rfl) (ty := .long) (by decide) rfl rfl (g := (mkF m 22 #[.val (.ref a1), .val (.ref a2), .val a3, .val (.int p4), .val (.long q5), .second] [(.long q5), (.ref a1)])) rfl rfl (hb hby d_prog_7_m_1_22)) (Or.inl (List.mem_of_getElem? (i := 0) rfl)) ?_
  intro h15 W15
  have F15 := f13.same W15
  have f16 := (((F3.other W7 (Or.inr (slot_ne (Or.inr (own_w hw 58 rfl)) (Or.inr (own_w hw 60 rfl)) (by decide) (t := (.object "java/lang/String")) (t' := (.object "com/example/fence/fence/client/Grant")) (by decide) (by decide)))).other W11 (Or.inr (slot_ne (Or.inr (own_w hw 58 rfl)) (Or.inr (own_w hw 62 rfl)) (by decide) (t := (.object "java/lang/String")) (t' := .int) (by decide) (by decide)))).other W15 (Or.inr (slot_ne (Or.inr (own_w hw 58 rfl)) (Or.inr (own_w hw 64 rfl)) (by decide) (t := (.object "java/lang/String")) (t' := .long) (by decide) (by decide))))
  have f17 := ((F7.other W11 (Or.inr (slot_ne (Or.inr (own_w hw 60 rfl)) (Or.inr (own_w hw 62 rfl)) (by decide) (t := (.object "com/example/fence/fence/client/Grant")) (t' := .int) (by decide) (by decide)))).other W15 (Or.inr (slot_ne (Or.inr (own_w hw 60 rfl)) (Or.inr (own_w hw 64 rfl)) (by decide) (t := (.object "com/example/fence/fence/client/Grant")) (t' := .long) (by decide) (by decide))))
  have f18 := (F11.other W15 (Or.inr (slot_ne (Or.inr (own_w hw 62 rfl)) (Or.inr (own_w hw 64 rfl)) (by decide) (t := .int) (t' := .long) (by decide) (by decide))))
  exact Go.ret (v := none) (fun s' T L fs X hr => X.returnOut hx hret (hb hby d_prog_7_m_1_25) hr) (fun _ => rfl) (by decide) (by decide) ⟨rfl, f16, f17, f18, F15⟩
theorem ef_rm11 (m : MethodId) (x0 : Addr) : entryFrame m #[(.ref x0)] 1 = mkF m 0 #[.val (.ref x0)] [] := by first | (simp [entryFrame, mkF, argsToLocals, Value.category]; done) | rfl
set_option maxRecDepth 65536 in
set_option maxHeartbeats 40000000 in
theorem rm11 (l : Launch) (Z : State) (a0 : Array Value) (hw : ∀ d ∈ tables_1, d.before a0 Z = true) (wds : List Jvm.Cond) (a1 : Addr) (q2 : Int64) (h0 : Heap) (n0 : Nat) (O0 : Old Z n0 h0)  (F : Fld Z h0 a1 "com/example/fence/fence/client/Grant" "token" "J" (.long q2)) :
    Ct l Z (⟨"com/example/fence/fence/client/Grant", "token", "()J"⟩ : MethodName) prog_4_method_8_code 1 (some .long) wds ({ frames := 0, cells := 0, slots := 0, locals := 0 } : Room) #[(.ref a1)] n0 h0 [] (fun v h => v = some (.long q2) ∧ h = h0) := by
  refine Ct.of pn_com_example_fence_fence_client_Grant O0 all0 ?_
  intro p e s m below meth c hx hby hml hret hnm
  refine Go.cast (ef_rm11 m a1) ?_
  refine Go.sp (g' := (mkF m 1 #[.val (.ref a1)] [(.ref a1)])) (fun T A t r => XS.aloadN A hx rfl (hb hby d_prog_4_m_8_0) rfl rfl r) ?_
  refine Go.v (g' := (mkF m 4 #[.val (.ref a1)] [(.long q2)])) (fun s' T L X eT hZ hown => getF X hx hZ hown (host := "") (Or.inl (own_w hw 48 rfl)) Via.refl eT F (g := (mkF m 1 #[.val (.ref a1)] [(.ref a1)])) rfl rfl (hb hby d_prog_4_m_8_1)) ?_
  exact Go.ret (v := (some (.long q2))) (fun s' T L fs X hr => own_retJ X hx hret (hb hby d_prog_4_m_8_4) hr) (fun h => by rw [hret] at h; cases h) (by decide) (by decide) ⟨rfl, rfl⟩
theorem ef_rm10 (m : MethodId) (x0 : Addr) : entryFrame m #[(.ref x0)] 1 = mkF m 0 #[.val (.ref x0)] [] := by first | (simp [entryFrame, mkF, argsToLocals, Value.category]; done) | rfl
set_option maxRecDepth 65536 in
set_option maxHeartbeats 40000000 in
theorem rm10 (l : Launch) (Z : State) (a0 : Array Value) (hw : ∀ d ∈ tables_1, d.before a0 Z = true) (wds : List Jvm.Cond) (a1 : Addr) (a2 : Addr) (q2 : Int64) (h0 : Heap) (n0 : Nat) (O0 : Old Z n0 h0)  (FH : Fld Z h0 a1 "com/example/fence/fence/client/LockStatus" "holder" "Lcom/example/fence/fence/client/Grant;" (.ref a2)) (E2 : Exa Z h0 a2 "com/example/fence/fence/client/Grant") (FT : Fld Z h0 a2 "com/example/fence/fence/client/Grant" "token" "J" (.long q2)) :
    Ct l Z (⟨"com/example/fence/fence/client/LockStatus", "token", "()J"⟩ : MethodName) prog_7_method_3_code 1 (some .long) wds ({ frames := 1, cells := 0, slots := 0, locals := 12 } : Room) #[(.ref a1)] n0 h0 [] (fun v h => v = some (.long q2) ∧ h = h0) := by
  refine Ct.of pn_com_example_fence_fence_client_LockStatus O0 all0 ?_
  intro p e s m below meth c hx hby hml hret hnm
  refine Go.cast (ef_rm10 m a1) ?_
  refine Go.sp (g' := (mkF m 1 #[.val (.ref a1)] [(.ref a1)])) (fun T A t r => XS.aloadN A hx rfl (hb hby d_prog_7_m_3_0) rfl rfl r) ?_
  refine Go.v (g' := (mkF m 4 #[.val (.ref a1)] [(.ref a2)])) (fun s' T L X eT hZ hown => getF X hx hZ hown (host := "") (Or.inl (own_w hw 59 rfl)) Via.refl eT FH (g := (mkF m 1 #[.val (.ref a1)] [(.ref a1)])) rfl rfl (hb hby d_prog_7_m_3_1)) ?_
  refine Go.sp (g' := (mkF m 11 #[.val (.ref a1)] [])) (fun T A t r => XS.ifnonnullYes A hx rfl (pc0 := 4) (pc' := 11) rfl (hb hby d_prog_7_m_3_4) rfl (by decide) (by decide) r) ?_
  refine Go.sp (g' := (mkF m 12 #[.val (.ref a1)] [(.ref a1)])) (fun T A t r => XS.aloadN A hx rfl (hb hby d_prog_7_m_3_11) rfl rfl r) ?_
  refine Go.v (g' := (mkF m 15 #[.val (.ref a1)] [(.ref a2)])) (fun s' T L X eT hZ hown => getF X hx hZ hown (host := "") (Or.inl (own_w hw 59 rfl)) Via.refl eT FH (g := (mkF m 12 #[.val (.ref a1)] [(.ref a1)])) rfl rfl (hb hby d_prog_7_m_3_12)) ?_
  refine Go.callVP (a := a2) (z := (⟨"com/example/fence/fence/client/Grant", "token", "()J"⟩ : MethodName)) (W := 0) (y := (⟨"com/example/fence/fence/client/Grant", "token", "()J"⟩ : MethodName)) (argsL := []) (rest := []) (pc' := 18) (hb hby d_prog_7_m_3_15) (own_w hw 70 rfl) (own_w hw 71 rfl) (fun s' hZ => notFace_of_selects (args := #[]) (mvT hZ (own_w hw 73 rfl))) (own_w hw 73 rfl) (own_w hw 72 rfl) (by decide) (fun s' hZ => Ct.bk (rm11 l Z a0 hw [] a2 q2 h0 n0 O0 FT) hZ (own_w hw 74 rfl) (own_w hw 32 rfl) (by decide) (by decide)) E2 (by rw [hml]; rfl) (lenOf pd_1 rfl) rfl (Nat.le_of_ble_eq_true rfl) rfl (by decide) (by decide) ?_
  rintro v1 ⟨rfl⟩
  refine Go.cast (g' := (mkF m 18 #[.val (.ref a1)] [(.long q2)])) rfl ?_
  exact Go.ret (v := (some (.long q2))) (fun s' T L fs X hr => own_retJ X hx hret (hb hby d_prog_7_m_3_18) hr) (fun h => by rw [hret] at h; cases h) (by decide) (by decide) ⟨rfl, rfl⟩
theorem ef_rm12 (m : MethodId) (x0 : Addr) : entryFrame m #[(.ref x0)] 1 = mkF m 0 #[.val (.ref x0)] [] := by first | (simp [entryFrame, mkF, argsToLocals, Value.category]; done) | rfl
set_option maxRecDepth 65536 in
set_option maxHeartbeats 40000000 in
theorem rm12 (l : Launch) (Z : State) (a0 : Array Value) (hw : ∀ d ∈ tables_1, d.before a0 Z = true) (wds : List Jvm.Cond) (a1 : Addr) (h0 : Heap) (n0 : Nat) (O0 : Old Z n0 h0)  (FH : Fld Z h0 a1 "com/example/fence/fence/client/LockStatus" "holder" "Lcom/example/fence/fence/client/Grant;" .null) :
    Ct l Z (⟨"com/example/fence/fence/client/LockStatus", "token", "()J"⟩ : MethodName) prog_7_method_3_code 1 (some .long) wds ({ frames := 0, cells := 0, slots := 0, locals := 0 } : Room) #[(.ref a1)] n0 h0 [] (fun v h => v = some (.long (0 : Int64)) ∧ h = h0) := by
  refine Ct.of pn_com_example_fence_fence_client_LockStatus O0 all0 ?_
  intro p e s m below meth c hx hby hml hret hnm
  refine Go.cast (ef_rm12 m a1) ?_
  refine Go.sp (g' := (mkF m 1 #[.val (.ref a1)] [(.ref a1)])) (fun T A t r => XS.aloadN A hx rfl (hb hby d_prog_7_m_3_0) rfl rfl r) ?_
  refine Go.v (g' := (mkF m 4 #[.val (.ref a1)] [.null])) (fun s' T L X eT hZ hown => getF X hx hZ hown (host := "") (Or.inl (own_w hw 59 rfl)) Via.refl eT FH (g := (mkF m 1 #[.val (.ref a1)] [(.ref a1)])) rfl rfl (hb hby d_prog_7_m_3_1)) ?_
  refine Go.sp (g' := (mkF m 7 #[.val (.ref a1)] [])) (fun T A t r => XS.ifnonnullNo A hx rfl (hb hby d_prog_7_m_3_4) rfl r) ?_
  refine Go.sp (g' := (mkF m 8 #[.val (.ref a1)] [(.long (0 : Int64))])) (fun T A t r => XS.lconst A hx rfl (hb hby d_prog_7_m_3_7) r) ?_
  refine Go.sp (g' := (mkF m 18 #[.val (.ref a1)] [(.long (0 : Int64))])) (fun T A t r => XS.goto A hx rfl (pc0 := 8) (pc' := 18) rfl (hb hby d_prog_7_m_3_8) (by decide) (by decide) r) ?_
  exact Go.ret (v := (some (.long (0 : Int64)))) (fun s' T L fs X hr => own_retJ X hx hret (hb hby d_prog_7_m_3_18) hr) (fun h => by rw [hret] at h; cases h) (by decide) (by decide) ⟨rfl, rfl⟩
theorem ef_rm0 (m : MethodId) (x0 : Int64) (x1 : Int64) (x2 : Int32) (x3 : Int32) (x4 : Int32) : entryFrame m #[(.long x0), (.long x1), (.int x2), (.int x3), (.int x4)] maxLocals = mkF m 0 #[.val (.long x0), .second, .val (.long x1), .second, .val (.int x2), .val (.int x3), .val (.int x4), .unset, .unset, .unset, .unset, .unset, .unset, .unset, .unset, .unset] [] := by first | (simp [entryFrame, mkF, argsToLocals, Value.category, maxLocals]; done) | rfl
set_option maxRecDepth 65536 in
set_option maxHeartbeats 40000000 in
theorem rm0 (l : Launch) (Z : State) (a0 : Array Value) (hw : ∀ d ∈ tables_1, d.before a0 Z = true) (wds : List Jvm.Cond) (q1 : Int64) (q2 : Int64) (p3 : Int32) (p4 : Int32) (p5 : Int32) (zS : Int32) (h0 : Heap) (n0 : Nat) (O0 : Old Z n0 h0)  (S0 : Sta Z Z.heap "java/lang/String" "COMPACT_STRINGS" "Z" (.int zS)) (P0 : ¬ zS = (0 : Int32)) :
    Ct l Z x code maxLocals ret wds room_1 #[(.long q1), (.long q2), (.int p3), (.int p4), (.int p5)] n0 h0 [] (fun v h => v = some (.int 1)) := by
  refine Ct.of pn_com_example_fence_fence_client_LockStatusTokenPinLaw O0 all0 ?_
  intro p e s m below meth c hx hby hml hret hnm
  refine Go.cast (ef_rm0 m q1 q2 p3 p4 p5) ?_
  refine Go.sp (g' := (mkF m 2 #[.val (.long q1), .second, .val (.long q2), .second, .val (.int p3), .val (.int p4), .val (.int p5), .unset, .unset, .unset, .unset, .unset, .unset, .unset, .unset, .unset] [(.int p4)])) (fun T A t r => XS.iload A hx rfl (hb hby at_0) rfl r) ?_
  refine Go.sp (g' := (mkF m 3 #[.val (.long q1), .second, .val (.long q2), .second, .val (.int p3), .val (.int p4), .val (.int p5), .unset, .unset, .unset, .unset, .unset, .unset, .unset, .unset, .unset] [(.int (1 : Int32)), (.int p4)])) (fun T A t r => XS.iconst A hx rfl (hb hby at_2) r) ?_
  refine Go.sp (g' := (mkF m 4 #[.val (.long q1), .second, .val (.long q2), .second, .val (.int p3), .val (.int p4), .val (.int p5), .unset, .unset, .unset, .unset, .unset, .unset, .unset, .unset, .unset] [(.int (p4 &&& (1 : Int32)))])) (fun T A t r => XS.iand A hx rfl (hb hby at_3) rfl r) ?_
  by_cases hc1 : (p4 &&& (1 : Int32)) = (0 : Int32)
  · skip
    refine Go.sp (g' := (mkF m 11 #[.val (.long q1), .second, .val (.long q2), .second, .val (.int p3), .val (.int p4), .val (.int p5), .unset, .unset, .unset, .unset, .unset, .unset, .unset, .unset, .unset] [])) (fun T A t r => XS.ifYes A hx rfl (pc0 := 4) (pc' := 11) rfl (hb hby at_4) rfl ((if0 _ _).trans (teq hc1).1) (by decide) (by decide) r) ?_
    refine Go.sp (g' := (mkF m 12 #[.val (.long q1), .second, .val (.long q2), .second, .val (.int p3), .val (.int p4), .val (.int p5), .unset, .unset, .unset, .unset, .unset, .unset, .unset, .unset, .unset] [(.int (0 : Int32))])) (fun T A t r => XS.iconst A hx rfl (hb hby at_11) r) ?_
    refine Go.sp (g' := (mkF m 14 #[.val (.long q1), .second, .val (.long q2), .second, .val (.int p3), .val (.int p4), .val (.int p5), .val (.int (0 : Int32)), .unset, .unset, .unset, .unset, .unset, .unset, .unset, .unset] [])) (fun T A t r => XS.istore A hx rfl (hb hby at_12) rfl (l' := #[.val (.long q1), .second, .val (.long q2), .second, .val (.int p3), .val (.int p4), .val (.int p5), .val (.int (0 : Int32)), .unset, .unset, .unset, .unset, .unset, .unset, .unset, .unset]) rfl r) ?_
    refine Go.sp (g' := (mkF m 15 #[.val (.long q1), .second, .val (.long q2), .second, .val (.int p3), .val (.int p4), .val (.int p5), .val (.int (0 : Int32)), .unset, .unset, .unset, .unset, .unset, .unset, .unset, .unset] [(.int (1 : Int32))])) (fun T A t r => XS.iconst A hx rfl (hb hby at_14) r) ?_
    refine Go.newP (ty := .char) (dv := (.int (0 : Int32))) (cap := 1) (k' := 1) (n' := 1) (pc' := 17) (hb hby at_15) rfl rfl (own_w hw 0 rfl) (by decide) (by decide) (by decide) rfl rfl rfl (by decide) (by decide) ?_
    intro b2 h2 k2 g2 sz2 E2 A2
    have V2 : Arv Z h2 b2 k2 .char (1 : Int32) [(.int (0 : Int32))] (.int (0 : Int32)) := A2.pad (pad_rep [] (.int (0 : Int32)) 1)
    refine Go.sp (g' := (mkF m 18 #[.val (.long q1), .second, .val (.long q2), .second, .val (.int p3), .val (.int p4), .val (.int p5), .val (.int (0 : Int32)), .unset, .unset, .unset, .unset, .unset, .unset, .unset, .unset] [(.ref b2), (.ref b2)])) (fun T A t r => XS.dup A hx rfl (hb hby at_17) rfl rfl r) ?_
    refine Go.sp (g' := (mkF m 19 #[.val (.long q1), .second, .val (.long q2), .second, .val (.int p3), .val (.int p4), .val (.int p5), .val (.int (0 : Int32)), .unset, .unset, .unset, .unset, .unset, .unset, .unset, .unset] [(.int (0 : Int32)), (.ref b2), (.ref b2)])) (fun T A t r => XS.iconst A hx rfl (hb hby at_18) r) ?_
    refine Go.sp (g' := (mkF m 21 #[.val (.long q1), .second, .val (.long q2), .second, .val (.int p3), .val (.int p4), .val (.int p5), .val (.int (0 : Int32)), .unset, .unset, .unset, .unset, .unset, .unset, .unset, .unset] [(.int p5), (.int (0 : Int32)), (.ref b2), (.ref b2)])) (fun T A t r => XS.iload A hx rfl (hb hby at_19) rfl r) ?_
    refine Go.sp (g' := (mkF m 24 #[.val (.long q1), .second, .val (.long q2), .second, .val (.int p3), .val (.int p4), .val (.int p5), .val (.int (0 : Int32)), .unset, .unset, .unset, .unset, .unset, .unset, .unset, .unset] [(.int (255 : Int32)), (.int p5), (.int (0 : Int32)), (.ref b2), (.ref b2)])) (fun T A t r => XS.sipush A hx rfl (hb hby at_21) r) ?_
    refine Go.sp (g' := (mkF m 25 #[.val (.long q1), .second, .val (.long q2), .second, .val (.int p3), .val (.int p4), .val (.int p5), .val (.int (0 : Int32)), .unset, .unset, .unset, .unset, .unset, .unset, .unset, .unset] [(.int (p5 &&& (255 : Int32))), (.int (0 : Int32)), (.ref b2), (.ref b2)])) (fun T A t r => XS.iand A hx rfl (hb hby at_24) rfl r) ?_
    refine Go.sp (g' := (mkF m 26 #[.val (.long q1), .second, .val (.long q2), .second, .val (.int p3), .val (.int p4), .val (.int p5), .val (.int (0 : Int32)), .unset, .unset, .unset, .unset, .unset, .unset, .unset, .unset] [(.int ((p5 &&& (255 : Int32)).toUInt32.toUInt16.toUInt32.toInt32)), (.int (0 : Int32)), (.ref b2), (.ref b2)])) (fun T A t r => XS.i2c A hx rfl (hb hby at_25) rfl r) ?_
    refine Go.cast (g' := (mkF m 26 #[.val (.long q1), .second, .val (.long q2), .second, .val (.int p3), .val (.int p4), .val (.int p5), .val (.int (0 : Int32)), .unset, .unset, .unset, .unset, .unset, .unset, .unset, .unset] [(.int (p5 &&& (255 : Int32))), (.int (0 : Int32)), (.ref b2), (.ref b2)])) (by rw [show ((p5 &&& (255 : Int32)).toUInt32.toUInt16.toUInt32.toInt32) = (p5 &&& (255 : Int32)) from i2c_mask _]) ?_
    refine Go.w (g' := (mkF m 27 #[.val (.long q1), .second, .val (.long q2), .second, .val (.int p3), .val (.int p4), .val (.int p5), .val (.int (0 : Int32)), .unset, .unset, .unset, .unset, .unset, .unset, .unset, .unset] [(.ref b2)])) (fun s' T L X eT hZ hown => own_stC X hx hZ eT V2 (j := (0 : Int32)) ⟨by decide, by decide⟩ (g := (mkF m 26 #[.val (.long q1), .second, .val (.long q2), .second, .val (.int p3), .val (.int p4), .val (.int p5), .val (.int (0 : Int32)), .unset, .unset, .unset, .unset, .unset, .unset, .unset, .unset] [(.int (p5 &&& (255 : Int32))), (.int (0 : Int32)), (.ref b2), (.ref b2)])) rfl rfl (hb hby at_26)) (Or.inr sz2) ?_
    intro h3 W3
    have V3 : Arv Z h3 b2 k2 .char (1 : Int32) [(.int (p5 &&& (255 : Int32)))] (.int (0 : Int32)) := own_set V2 (fits_nar_char _) W3 (congrArg Value.int (i2c_mask _)) 0 rfl (Nat.le_of_ble_eq_true rfl)
    refine Go.sp (g' := (mkF m 29 #[.val (.long q1), .second, .val (.long q2), .second, .val (.int p3), .val (.int p4), .val (.int p5), .val (.int (0 : Int32)), .val (.ref b2), .unset, .unset, .unset, .unset, .unset, .unset, .unset] [])) (fun T A t r => XS.astore A hx rfl (hb hby at_27) rfl rfl (l' := #[.val (.long q1), .second, .val (.long q2), .second, .val (.int p3), .val (.int p4), .val (.int p5), .val (.int (0 : Int32)), .val (.ref b2), .unset, .unset, .unset, .unset, .unset, .unset, .unset]) rfl r) ?_
    refine Go.sp (g' := (mkF m 30 #[.val (.long q1), .second, .val (.long q2), .second, .val (.int p3), .val (.int p4), .val (.int p5), .val (.int (0 : Int32)), .val (.ref b2), .unset, .unset, .unset, .unset, .unset, .unset, .unset] [(.int (1 : Int32))])) (fun T A t r => XS.iconst A hx rfl (hb hby at_29) r) ?_
    refine Go.newP (ty := .char) (dv := (.int (0 : Int32))) (cap := 1) (k' := 2) (n' := 2) (pc' := 32) (hb hby at_30) rfl rfl (own_w hw 0 rfl) (by decide) (by decide) (by decide) rfl rfl rfl (by decide) (by decide) ?_
    intro b4 h4 k4 g4 sz4 E4 A4
    have V4 : Arv Z h4 b4 k4 .char (1 : Int32) [(.int (0 : Int32))] (.int (0 : Int32)) := A4.pad (pad_rep [] (.int (0 : Int32)) 1)
    refine Go.sp (g' := (mkF m 33 #[.val (.long q1), .second, .val (.long q2), .second, .val (.int p3), .val (.int p4), .val (.int p5), .val (.int (0 : Int32)), .val (.ref b2), .unset, .unset, .unset, .unset, .unset, .unset, .unset] [(.ref b4), (.ref b4)])) (fun T A t r => XS.dup A hx rfl (hb hby at_32) rfl rfl r) ?_
    refine Go.sp (g' := (mkF m 34 #[.val (.long q1), .second, .val (.long q2), .second, .val (.int p3), .val (.int p4), .val (.int p5), .val (.int (0 : Int32)), .val (.ref b2), .unset, .unset, .unset, .unset, .unset, .unset, .unset] [(.int (0 : Int32)), (.ref b4), (.ref b4)])) (fun T A t r => XS.iconst A hx rfl (hb hby at_33) r) ?_
    refine Go.sp (g' := (mkF m 36 #[.val (.long q1), .second, .val (.long q2), .second, .val (.int p3), .val (.int p4), .val (.int p5), .val (.int (0 : Int32)), .val (.ref b2), .unset, .unset, .unset, .unset, .unset, .unset, .unset] [(.int p5), (.int (0 : Int32)), (.ref b4), (.ref b4)])) (fun T A t r => XS.iload A hx rfl (hb hby at_34) rfl r) ?_
    refine Go.sp (g' := (mkF m 38 #[.val (.long q1), .second, .val (.long q2), .second, .val (.int p3), .val (.int p4), .val (.int p5), .val (.int (0 : Int32)), .val (.ref b2), .unset, .unset, .unset, .unset, .unset, .unset, .unset] [(.int (8 : Int32)), (.int p5), (.int (0 : Int32)), (.ref b4), (.ref b4)])) (fun T A t r => XS.bipush A hx rfl (hb hby at_36) r) ?_
    refine Go.sp (g' := (mkF m 39 #[.val (.long q1), .second, .val (.long q2), .second, .val (.int p3), .val (.int p4), .val (.int p5), .val (.int (0 : Int32)), .val (.ref b2), .unset, .unset, .unset, .unset, .unset, .unset, .unset] [(.int ((p5.toUInt32 >>> ((8 : Int32) &&& 31).toUInt32).toInt32)), (.int (0 : Int32)), (.ref b4), (.ref b4)])) (fun T A t r => XS.iushr A hx rfl (hb hby at_38) rfl r) ?_
    refine Go.sp (g' := (mkF m 42 #[.val (.long q1), .second, .val (.long q2), .second, .val (.int p3), .val (.int p4), .val (.int p5), .val (.int (0 : Int32)), .val (.ref b2), .unset, .unset, .unset, .unset, .unset, .unset, .unset] [(.int (255 : Int32)), (.int ((p5.toUInt32 >>> ((8 : Int32) &&& 31).toUInt32).toInt32)), (.int (0 : Int32)), (.ref b4), (.ref b4)])) (fun T A t r => XS.sipush A hx rfl (hb hby at_39) r) ?_
    refine Go.sp (g' := (mkF m 43 #[.val (.long q1), .second, .val (.long q2), .second, .val (.int p3), .val (.int p4), .val (.int p5), .val (.int (0 : Int32)), .val (.ref b2), .unset, .unset, .unset, .unset, .unset, .unset, .unset] [(.int (((p5.toUInt32 >>> ((8 : Int32) &&& 31).toUInt32).toInt32) &&& (255 : Int32))), (.int (0 : Int32)), (.ref b4), (.ref b4)])) (fun T A t r => XS.iand A hx rfl (hb hby at_42) rfl r) ?_
    refine Go.sp (g' := (mkF m 44 #[.val (.long q1), .second, .val (.long q2), .second, .val (.int p3), .val (.int p4), .val (.int p5), .val (.int (0 : Int32)), .val (.ref b2), .unset, .unset, .unset, .unset, .unset, .unset, .unset] [(.int ((((p5.toUInt32 >>> ((8 : Int32) &&& 31).toUInt32).toInt32) &&& (255 : Int32)).toUInt32.toUInt16.toUInt32.toInt32)), (.int (0 : Int32)), (.ref b4), (.ref b4)])) (fun T A t r => XS.i2c A hx rfl (hb hby at_43) rfl r) ?_
    refine Go.cast (g' := (mkF m 44 #[.val (.long q1), .second, .val (.long q2), .second, .val (.int p3), .val (.int p4), .val (.int p5), .val (.int (0 : Int32)), .val (.ref b2), .unset, .unset, .unset, .unset, .unset, .unset, .unset] [(.int (((p5.toUInt32 >>> ((8 : Int32) &&& 31).toUInt32).toInt32) &&& (255 : Int32))), (.int (0 : Int32)), (.ref b4), (.ref b4)])) (by rw [show ((((p5.toUInt32 >>> ((8 : Int32) &&& 31).toUInt32).toInt32) &&& (255 : Int32)).toUInt32.toUInt16.toUInt32.toInt32) = (((p5.toUInt32 >>> ((8 : Int32) &&& 31).toUInt32).toInt32) &&& (255 : Int32)) from i2c_mask _]) ?_
    refine Go.w (g' := (mkF m 45 #[.val (.long q1), .second, .val (.long q2), .second, .val (.int p3), .val (.int p4), .val (.int p5), .val (.int (0 : Int32)), .val (.ref b2), .unset, .unset, .unset, .unset, .unset, .unset, .unset] [(.ref b4)])) (fun s' T L X eT hZ hown => own_stC X hx hZ eT V4 (j := (0 : Int32)) ⟨by decide, by decide⟩ (g := (mkF m 44 #[.val (.long q1), .second, .val (.long q2), .second, .val (.int p3), .val (.int p4), .val (.int p5), .val (.int (0 : Int32)), .val (.ref b2), .unset, .unset, .unset, .unset, .unset, .unset, .unset] [(.int (((p5.toUInt32 >>> ((8 : Int32) &&& 31).toUInt32).toInt32) &&& (255 : Int32))), (.int (0 : Int32)), (.ref b4), (.ref b4)])) rfl rfl (hb hby at_44)) (Or.inr sz4) ?_
    intro h5 W5
    have V5 : Arv Z h5 b4 k4 .char (1 : Int32) [(.int (((p5.toUInt32 >>> ((8 : Int32) &&& 31).toUInt32).toInt32) &&& (255 : Int32)))] (.int (0 : Int32)) := own_set V4 (fits_nar_char _) W5 (congrArg Value.int (i2c_mask _)) 0 rfl (Nat.le_of_ble_eq_true rfl)
    refine Go.sp (g' := (mkF m 47 #[.val (.long q1), .second, .val (.long q2), .second, .val (.int p3), .val (.int p4), .val (.int p5), .val (.int (0 : Int32)), .val (.ref b2), .val (.ref b4), .unset, .unset, .unset, .unset, .unset, .unset] [])) (fun T A t r => XS.astore A hx rfl (hb hby at_45) rfl rfl (l' := #[.val (.long q1), .second, .val (.long q2), .second, .val (.int p3), .val (.int p4), .val (.int p5), .val (.int (0 : Int32)), .val (.ref b2), .val (.ref b4), .unset, .unset, .unset, .unset, .unset, .unset]) rfl r) ?_
    refine Go.newO (k' := 3) (n' := 6) (pc' := 50) (hb hby at_47) (own_w hw 1 rfl) (own_w hw 2 rfl) (own_w hw 3 rfl) rfl rfl rfl (by decide) (by decide) ?_
    intro b6 h6 g6 sz6 E6 A6 D6
    have F6_coder : Fld Z h6 b6 "java/lang/String" "coder" "B" (.int (0 : Int32)) := D6 (Or.inr (own_w hw 27 rfl)) (ty := .byte) (by decide)
    have F6_value : Fld Z h6 b6 "java/lang/String" "value" "[B" .null := D6 (Or.inr (own_w hw 29 rfl)) (ty := (.array .byte)) (by decide)
    refine Go.sp (g' := (mkF m 51 #[.val (.long q1), .second, .val (.long q2), .second, .val (.int p3), .val (.int p4), .val (.int p5), .val (.int (0 : Int32)), .val (.ref b2), .val (.ref b4), .unset, .unset, .unset, .unset, .unset, .unset] [(.ref b6), (.ref b6)])) (fun T A t r => XS.dup A hx rfl (hb hby at_50) rfl rfl r) ?_
    refine Go.sp (g' := (mkF m 53 #[.val (.long q1), .second, .val (.long q2), .second, .val (.int p3), .val (.int p4), .val (.int p5), .val (.int (0 : Int32)), .val (.ref b2), .val (.ref b4), .unset, .unset, .unset, .unset, .unset, .unset] [(.ref b2), (.ref b6), (.ref b6)])) (fun T A t r => XS.aload A hx rfl (hb hby at_51) rfl rfl r) ?_
    have ne7 : b2 ≠ b4 := Nat.ne_of_lt (Nat.lt_of_lt_of_le V3.lt (Nat.le_of_eq g4.symm))
    have f8 := (((V3.ext E4).other W5 ne7).ext E6)
    refine Go.old fun O9 => ?_
    have lat10 : ∀ c ∈ [(p5 &&& (255 : Int32))], ¬ c < 0 ∧ ¬ (255 : Int32) < c := own_allc (own_and255 _) (own_allc0)
    refine Go.callC (a := b6) (ws' := [b6]) (W := 1) (y := (⟨"java/lang/String", "<init>", "([C)V"⟩ : MethodName)) (argsL := [(.ref b2)]) (rest := [(.ref b6)]) (pc' := 56) (k' := 4) (n' := 7) (hb hby at_53) rfl (own_w hw 4 rfl) (own_w hw 5 rfl) (own_w hw 6 rfl) (by decide) (fun s' hZ => own_str hw (own_w hw 2 rfl) hZ (cs := [(p5 &&& (255 : Int32))]) (n := 1) (Nat.le_trans (Old.le O0) sz6) O9 A6 F6_value F6_coder f8 S0 P0 rfl rfl (by decide) (by decide) lat10 (by decide) (by decide)) (by rw [hml]; rfl) (lenOf pd_2 rfl) rfl (Nat.le_of_ble_eq_true rfl) rfl rfl rfl (by decide) (by decide) (allS (Or.inr sz6) all0) ?_
    rintro v11 h11 K11 ⟨rfl, E11, C11, t11, kb11, ge11, V11, B11⟩
    refine Go.cast (g' := (mkF m 56 #[.val (.long q1), .second, .val (.long q2), .second, .val (.int p3), .val (.int p4), .val (.int p5), .val (.int (0 : Int32)), .val (.ref b2), .val (.ref b4), .unset, .unset, .unset, .unset, .unset, .unset] [(.ref b6)])) rfl ?_
    refine Go.sp (g' := (mkF m 58 #[.val (.long q1), .second, .val (.long q2), .second, .val (.int p3), .val (.int p4), .val (.int p5), .val (.int (0 : Int32)), .val (.ref b2), .val (.ref b4), .val (.ref b6), .unset, .unset, .unset, .unset, .unset] [])) (fun T A t r => XS.astore A hx rfl (hb hby at_56) rfl rfl (l' := #[.val (.long q1), .second, .val (.long q2), .second, .val (.int p3), .val (.int p4), .val (.int p5), .val (.int (0 : Int32)), .val (.ref b2), .val (.ref b4), .val (.ref b6), .unset, .unset, .unset, .unset, .unset]) rfl r) ?_
    refine Go.newO (k' := 5) (n' := 11) (pc' := 61) (hb hby at_58) (own_w hw 1 rfl) (own_w hw 2 rfl) (own_w hw 3 rfl) rfl rfl rfl (by decide) (by decide) ?_
    intro b12 h12 g12 sz12 E12 A12 D12
    have F12_coder : Fld Z h12 b12 "java/lang/String" "coder" "B" (.int (0 : Int32)) := D12 (Or.inr (own_w hw 27 rfl)) (ty := .byte) (by decide)
    have F12_value : Fld Z h12 b12 "java/lang/String" "value" "[B" .null := D12 (Or.inr (own_w hw 29 rfl)) (ty := (.array .byte)) (by decide)
    refine Go.sp (g' := (mkF m 62 #[.val (.long q1), .second, .val (.long q2), .second, .val (.int p3), .val (.int p4), .val (.int p5), .val (.int (0 : Int32)), .val (.ref b2), .val (.ref b4), .val (.ref b6), .unset, .unset, .unset, .unset, .unset] [(.ref b12), (.ref b12)])) (fun T A t r => XS.dup A hx rfl (hb hby at_61) rfl rfl r) ?_
    refine Go.sp (g' := (mkF m 64 #[.val (.long q1), .second, .val (.long q2), .second, .val (.int p3), .val (.int p4), .val (.int p5), .val (.int (0 : Int32)), .val (.ref b2), .val (.ref b4), .val (.ref b6), .unset, .unset, .unset, .unset, .unset] [(.ref b4), (.ref b12), (.ref b12)])) (fun T A t r => XS.aload A hx rfl (hb hby at_62) rfl rfl r) ?_
    have ne13 : b4 ≠ b6 := Nat.ne_of_lt (Nat.lt_of_lt_of_le V5.lt (Nat.le_of_eq g6.symm))
    have f14 := (((V5.ext E6).keep K11 (ninS ne13 nin0)).ext E12)
    refine Go.old fun O15 => ?_
    have lat16 : ∀ c ∈ [(((p5.toUInt32 >>> ((8 : Int32) &&& 31).toUInt32).toInt32) &&& (255 : Int32))], ¬ c < 0 ∧ ¬ (255 : Int32) < c := own_allc (own_and255 _) (own_allc0)
    refine Go.callC (a := b12) (ws' := [b12]) (W := 1) (y := (⟨"java/lang/String", "<init>", "([C)V"⟩ : MethodName)) (argsL := [(.ref b4)]) (rest := [(.ref b12)]) (pc' := 67) (k' := 6) (n' := 12) (hb hby at_64) rfl (own_w hw 4 rfl) (own_w hw 5 rfl) (own_w hw 6 rfl) (by decide) (fun s' hZ => own_str hw (own_w hw 2 rfl) hZ (cs := [(((p5.toUInt32 >>> ((8 : Int32) &&& 31).toUInt32).toInt32) &&& (255 : Int32))]) (n := 1) (Nat.le_trans (Old.le O0) sz12) O15 A12 F12_value F12_coder f14 S0 P0 rfl rfl (by decide) (by decide) lat16 (by decide) (by decide)) (by rw [hml]; rfl) (lenOf pd_2 rfl) rfl (Nat.le_of_ble_eq_true rfl) rfl rfl rfl (by decide) (by decide) (allS (Or.inr sz12) all0) ?_
    rintro v17 h17 K17 ⟨rfl, E17, C17, t17, kb17, ge17, V17, B17⟩
    refine Go.cast (g' := (mkF m 67 #[.val (.long q1), .second, .val (.long q2), .second, .val (.int p3), .val (.int p4), .val (.int p5), .val (.int (0 : Int32)), .val (.ref b2), .val (.ref b4), .val (.ref b6), .unset, .unset, .unset, .unset, .unset] [(.ref b12)])) rfl ?_
    refine Go.sp (g' := (mkF m 69 #[.val (.long q1), .second, .val (.long q2), .second, .val (.int p3), .val (.int p4), .val (.int p5), .val (.int (0 : Int32)), .val (.ref b2), .val (.ref b4), .val (.ref b6), .val (.ref b12), .unset, .unset, .unset, .unset] [])) (fun T A t r => XS.astore A hx rfl (hb hby at_67) rfl rfl (l' := #[.val (.long q1), .second, .val (.long q2), .second, .val (.int p3), .val (.int p4), .val (.int p5), .val (.int (0 : Int32)), .val (.ref b2), .val (.ref b4), .val (.ref b6), .val (.ref b12), .unset, .unset, .unset, .unset]) rfl r) ?_
    refine Go.sp (g' := (mkF m 71 #[.val (.long q1), .second, .val (.long q2), .second, .val (.int p3), .val (.int p4), .val (.int p5), .val (.int (0 : Int32)), .val (.ref b2), .val (.ref b4), .val (.ref b6), .val (.ref b12), .unset, .unset, .unset, .unset] [(.int (0 : Int32))])) (fun T A t r => XS.iload A hx rfl (hb hby at_69) rfl r) ?_
    refine Go.sp (g' := (mkF m 91 #[.val (.long q1), .second, .val (.long q2), .second, .val (.int p3), .val (.int p4), .val (.int p5), .val (.int (0 : Int32)), .val (.ref b2), .val (.ref b4), .val (.ref b6), .val (.ref b12), .unset, .unset, .unset, .unset] [])) (fun T A t r => XS.ifYes A hx rfl (pc0 := 71) (pc' := 91) rfl (hb hby at_71) rfl ((if0 _ _).trans (teq (by decide : ((0 : Int32) = (0 : Int32)))).1) (by decide) (by decide) r) ?_
    refine Go.sp (g' := (mkF m 92 #[.val (.long q1), .second, .val (.long q2), .second, .val (.int p3), .val (.int p4), .val (.int p5), .val (.int (0 : Int32)), .val (.ref b2), .val (.ref b4), .val (.ref b6), .val (.ref b12), .unset, .unset, .unset, .unset] [.null])) (fun T A t r => XS.aconstNull A hx rfl (hb hby at_91) r) ?_
    refine Go.sp (g' := (mkF m 94 #[.val (.long q1), .second, .val (.long q2), .second, .val (.int p3), .val (.int p4), .val (.int p5), .val (.int (0 : Int32)), .val (.ref b2), .val (.ref b4), .val (.ref b6), .val (.ref b12), .val .null, .unset, .unset, .unset] [])) (fun T A t r => XS.astore A hx rfl (hb hby at_92) rfl rfl (l' := #[.val (.long q1), .second, .val (.long q2), .second, .val (.int p3), .val (.int p4), .val (.int p5), .val (.int (0 : Int32)), .val (.ref b2), .val (.ref b4), .val (.ref b6), .val (.ref b12), .val .null, .unset, .unset, .unset]) rfl r) ?_
    refine Go.newO (k' := 7) (n' := 16) (pc' := 97) (hb hby at_94) (own_w hw 50 rfl) (own_w hw 51 rfl) (own_w hw 52 rfl) rfl rfl rfl (by decide) (by decide) ?_
    intro b18 h18 g18 sz18 E18 A18 D18
    have F18_lock : Fld Z h18 b18 "com/example/fence/fence/client/LockStatus" "lock" "Ljava/lang/String;" .null := D18 (Or.inr (own_w hw 58 rfl)) (ty := (.object "java/lang/String")) (by decide)
    have F18_holder : Fld Z h18 b18 "com/example/fence/fence/client/LockStatus" "holder" "Lcom/example/fence/fence/client/Grant;" .null := D18 (Or.inr (own_w hw 60 rfl)) (ty := (.object "com/example/fence/fence/client/Grant")) (by decide)
    have F18_waiters : Fld Z h18 b18 "com/example/fence/fence/client/LockStatus" "waiters" "I" (.int (0 : Int32)) := D18 (Or.inr (own_w hw 62 rfl)) (ty := .int) (by decide)
    have F18_lastToken : Fld Z h18 b18 "com/example/fence/fence/client/LockStatus" "lastToken" "J" (.long (0 : Int64)) := D18 (Or.inr (own_w hw 64 rfl)) (ty := .long) (by decide)
    refine Go.sp (g' := (mkF m 98 #[.val (.long q1), .second, .val (.long q2), .second, .val (.int p3), .val (.int p4), .val (.int p5), .val (.int (0 : Int32)), .val (.ref b2), .val (.ref b4), .val (.ref b6), .val (.ref b12), .val .null, .unset, .unset, .unset] [(.ref b18), (.ref b18)])) (fun T A t r => XS.dup A hx rfl (hb hby at_97) rfl rfl r) ?_
    refine Go.sp (g' := (mkF m 100 #[.val (.long q1), .second, .val (.long q2), .second, .val (.int p3), .val (.int p4), .val (.int p5), .val (.int (0 : Int32)), .val (.ref b2), .val (.ref b4), .val (.ref b6), .val (.ref b12), .val .null, .unset, .unset, .unset] [(.ref b6), (.ref b18), (.ref b18)])) (fun T A t r => XS.aload A hx rfl (hb hby at_98) rfl rfl r) ?_
    refine Go.sp (g' := (mkF m 102 #[.val (.long q1), .second, .val (.long q2), .second, .val (.int p3), .val (.int p4), .val (.int p5), .val (.int (0 : Int32)), .val (.ref b2), .val (.ref b4), .val (.ref b6), .val (.ref b12), .val .null, .unset, .unset, .unset] [.null, (.ref b6), (.ref b18), (.ref b18)])) (fun T A t r => XS.aload A hx rfl (hb hby at_100) rfl rfl r) ?_
    refine Go.sp (g' := (mkF m 104 #[.val (.long q1), .second, .val (.long q2), .second, .val (.int p3), .val (.int p4), .val (.int p5), .val (.int (0 : Int32)), .val (.ref b2), .val (.ref b4), .val (.ref b6), .val (.ref b12), .val .null, .unset, .unset, .unset] [(.int p3), .null, (.ref b6), (.ref b18), (.ref b18)])) (fun T A t r => XS.iload A hx rfl (hb hby at_102) rfl r) ?_
    refine Go.sp (g' := (mkF m 105 #[.val (.long q1), .second, .val (.long q2), .second, .val (.int p3), .val (.int p4), .val (.int p5), .val (.int (0 : Int32)), .val (.ref b2), .val (.ref b4), .val (.ref b6), .val (.ref b12), .val .null, .unset, .unset, .unset] [(.long q2), (.int p3), .null, (.ref b6), (.ref b18), (.ref b18)])) (fun T A t r => XS.lloadN A hx rfl (hb hby at_104) rfl r) ?_
    refine Go.old fun O19 => ?_
    refine Go.callC (a := b18) (ws' := [b18]) (W := 1) (y := (⟨"com/example/fence/fence/client/LockStatus", "<init>", "(Ljava/lang/String;Lcom/example/fence/fence/client/Grant;IJ)V"⟩ : MethodName)) (argsL := [(.ref b6), .null, (.int p3), (.long q2)]) (rest := [(.ref b18)]) (pc' := 108) (k' := 7) (n' := 16) (hb hby at_105) rfl (own_w hw 53 rfl) (own_w hw 54 rfl) (own_w hw 55 rfl) (by decide) (fun s' hZ => Ct.bk (rm9 l Z a0 hw [] b18 b6 .null p3 q2 _ _ _ _ h18 n0 O19 (Nat.le_trans (Old.le O0) sz18) rfl A18 F18_lock F18_holder F18_waiters F18_lastToken) hZ (own_w hw 55 rfl) (own_w hw 52 rfl) (by decide) (by decide)) (by rw [hml]; rfl) (lenOf pd_3 rfl) rfl (Nat.le_of_ble_eq_true rfl) rfl rfl rfl (by decide) (by decide) (allS (Or.inr sz18) all0) ?_
    rintro v20 h20 K20 ⟨rfl, -, H20, -, -⟩
    refine Go.cast (g' := (mkF m 108 #[.val (.long q1), .second, .val (.long q2), .second, .val (.int p3), .val (.int p4), .val (.int p5), .val (.int (0 : Int32)), .val (.ref b2), .val (.ref b4), .val (.ref b6), .val (.ref b12), .val .null, .unset, .unset, .unset] [(.ref b18)])) rfl ?_
    refine Go.sp (g' := (mkF m 110 #[.val (.long q1), .second, .val (.long q2), .second, .val (.int p3), .val (.int p4), .val (.int p5), .val (.int (0 : Int32)), .val (.ref b2), .val (.ref b4), .val (.ref b6), .val (.ref b12), .val .null, .val (.ref b18), .unset, .unset] [])) (fun T A t r => XS.astore A hx rfl (hb hby at_108) rfl rfl (l' := #[.val (.long q1), .second, .val (.long q2), .second, .val (.int p3), .val (.int p4), .val (.int p5), .val (.int (0 : Int32)), .val (.ref b2), .val (.ref b4), .val (.ref b6), .val (.ref b12), .val .null, .val (.ref b18), .unset, .unset]) rfl r) ?_
    refine Go.sp (g' := (mkF m 112 #[.val (.long q1), .second, .val (.long q2), .second, .val (.int p3), .val (.int p4), .val (.int p5), .val (.int (0 : Int32)), .val (.ref b2), .val (.ref b4), .val (.ref b6), .val (.ref b12), .val .null, .val (.ref b18), .unset, .unset] [(.ref b18)])) (fun T A t r => XS.aload A hx rfl (hb hby at_110) rfl rfl r) ?_
    refine Go.old fun O21 => ?_
    have f23 := (A18.keep K20)
    refine Go.callVP (a := b18) (z := (⟨"com/example/fence/fence/client/LockStatus", "token", "()J"⟩ : MethodName)) (W := 0) (y := (⟨"com/example/fence/fence/client/LockStatus", "token", "()J"⟩ : MethodName)) (argsL := []) (rest := []) (pc' := 115) (hb hby at_112) (own_w hw 65 rfl) (own_w hw 66 rfl) (fun s' hZ => notFace_of_selects (args := #[]) (mvT hZ (own_w hw 68 rfl))) (own_w hw 68 rfl) (own_w hw 67 rfl) (by decide) (fun s' hZ => Ct.bk (rm12 l Z a0 hw [] b18 h20 n0 O21 H20) hZ (own_w hw 69 rfl) (own_w hw 52 rfl) (by decide) (by decide)) f23 (by rw [hml]; rfl) (lenOf pd_1 rfl) rfl (Nat.le_of_ble_eq_true rfl) rfl (by decide) (by decide) ?_
    rintro v22 ⟨rfl⟩
    refine Go.cast (g' := (mkF m 115 #[.val (.long q1), .second, .val (.long q2), .second, .val (.int p3), .val (.int p4), .val (.int p5), .val (.int (0 : Int32)), .val (.ref b2), .val (.ref b4), .val (.ref b6), .val (.ref b12), .val .null, .val (.ref b18), .unset, .unset] [(.long (0 : Int64))])) rfl ?_
    refine Go.sp (g' := (mkF m 117 #[.val (.long q1), .second, .val (.long q2), .second, .val (.int p3), .val (.int p4), .val (.int p5), .val (.int (0 : Int32)), .val (.ref b2), .val (.ref b4), .val (.ref b6), .val (.ref b12), .val .null, .val (.ref b18), .val (.long (0 : Int64)), .second] [])) (fun T A t r => XS.lstore A hx rfl (hb hby at_115) rfl (l' := #[.val (.long q1), .second, .val (.long q2), .second, .val (.int p3), .val (.int p4), .val (.int p5), .val (.int (0 : Int32)), .val (.ref b2), .val (.ref b4), .val (.ref b6), .val (.ref b12), .val .null, .val (.ref b18), .val (.long (0 : Int64)), .second]) rfl r) ?_
    refine Go.sp (g' := (mkF m 119 #[.val (.long q1), .second, .val (.long q2), .second, .val (.int p3), .val (.int p4), .val (.int p5), .val (.int (0 : Int32)), .val (.ref b2), .val (.ref b4), .val (.ref b6), .val (.ref b12), .val .null, .val (.ref b18), .val (.long (0 : Int64)), .second] [(.int (0 : Int32))])) (fun T A t r => XS.iload A hx rfl (hb hby at_117) rfl r) ?_
    refine Go.sp (g' := (mkF m 135 #[.val (.long q1), .second, .val (.long q2), .second, .val (.int p3), .val (.int p4), .val (.int p5), .val (.int (0 : Int32)), .val (.ref b2), .val (.ref b4), .val (.ref b6), .val (.ref b12), .val .null, .val (.ref b18), .val (.long (0 : Int64)), .second] [])) (fun T A t r => XS.ifYes A hx rfl (pc0 := 119) (pc' := 135) rfl (hb hby at_119) rfl ((if0 _ _).trans (teq (by decide : ((0 : Int32) = (0 : Int32)))).1) (by decide) (by decide) r) ?_
    refine Go.sp (g' := (mkF m 137 #[.val (.long q1), .second, .val (.long q2), .second, .val (.int p3), .val (.int p4), .val (.int p5), .val (.int (0 : Int32)), .val (.ref b2), .val (.ref b4), .val (.ref b6), .val (.ref b12), .val .null, .val (.ref b18), .val (.long (0 : Int64)), .second] [(.long (0 : Int64))])) (fun T A t r => XS.lload A hx rfl (hb hby at_135) rfl r) ?_
    refine Go.sp (g' := (mkF m 138 #[.val (.long q1), .second, .val (.long q2), .second, .val (.int p3), .val (.int p4), .val (.int p5), .val (.int (0 : Int32)), .val (.ref b2), .val (.ref b4), .val (.ref b6), .val (.ref b12), .val .null, .val (.ref b18), .val (.long (0 : Int64)), .second] [(.long (0 : Int64)), (.long (0 : Int64))])) (fun T A t r => XS.lconst A hx rfl (hb hby at_137) r) ?_
    refine Go.sp (g' := (mkF m 139 #[.val (.long q1), .second, .val (.long q2), .second, .val (.int p3), .val (.int p4), .val (.int p5), .val (.int (0 : Int32)), .val (.ref b2), .val (.ref b4), .val (.ref b6), .val (.ref b12), .val .null, .val (.ref b18), .val (.long (0 : Int64)), .second] [(.int (lcmpW (0 : Int64) (0 : Int64)))])) (fun T A t r => XS.lcmp A hx rfl (hb hby at_138) rfl r) ?_
    refine Go.sp (g' := (mkF m 142 #[.val (.long q1), .second, .val (.long q2), .second, .val (.int p3), .val (.int p4), .val (.int p5), .val (.int (0 : Int32)), .val (.ref b2), .val (.ref b4), .val (.ref b6), .val (.ref b12), .val .null, .val (.ref b18), .val (.long (0 : Int64)), .second] [])) (fun T A t r => XS.ifNo A hx rfl (hb hby at_139) rfl ((if0 _ _).trans (teq ((lw_eq (0 : Int64) (0 : Int64)).mpr rfl)).2) r) ?_
    refine Go.sp (g' := (mkF m 143 #[.val (.long q1), .second, .val (.long q2), .second, .val (.int p3), .val (.int p4), .val (.int p5), .val (.int (0 : Int32)), .val (.ref b2), .val (.ref b4), .val (.ref b6), .val (.ref b12), .val .null, .val (.ref b18), .val (.long (0 : Int64)), .second] [(.int (1 : Int32))])) (fun T A t r => XS.iconst A hx rfl (hb hby at_142) r) ?_
    refine Go.sp (g' := (mkF m 147 #[.val (.long q1), .second, .val (.long q2), .second, .val (.int p3), .val (.int p4), .val (.int p5), .val (.int (0 : Int32)), .val (.ref b2), .val (.ref b4), .val (.ref b6), .val (.ref b12), .val .null, .val (.ref b18), .val (.long (0 : Int64)), .second] [(.int (1 : Int32))])) (fun T A t r => XS.goto A hx rfl (pc0 := 143) (pc' := 147) rfl (hb hby at_143) (by decide) (by decide) r) ?_
    exact Go.ret (v := (some (.int (nar .boolean (1 : Int32))))) (fun s' T L fs X hr => retN X hx (t := .boolean) hret (by simp) (hb hby at_147) hr) (fun h => by rw [hret] at h; cases h) (by decide) (by decide) rfl
  · skip
    refine Go.sp (g' := (mkF m 7 #[.val (.long q1), .second, .val (.long q2), .second, .val (.int p3), .val (.int p4), .val (.int p5), .unset, .unset, .unset, .unset, .unset, .unset, .unset, .unset, .unset] [])) (fun T A t r => XS.ifNo A hx rfl (hb hby at_4) rfl ((if0 _ _).trans (feq hc1).1) r) ?_
    refine Go.sp (g' := (mkF m 8 #[.val (.long q1), .second, .val (.long q2), .second, .val (.int p3), .val (.int p4), .val (.int p5), .unset, .unset, .unset, .unset, .unset, .unset, .unset, .unset, .unset] [(.int (1 : Int32))])) (fun T A t r => XS.iconst A hx rfl (hb hby at_7) r) ?_
    refine Go.sp (g' := (mkF m 12 #[.val (.long q1), .second, .val (.long q2), .second, .val (.int p3), .val (.int p4), .val (.int p5), .unset, .unset, .unset, .unset, .unset, .unset, .unset, .unset, .unset] [(.int (1 : Int32))])) (fun T A t r => XS.goto A hx rfl (pc0 := 8) (pc' := 12) rfl (hb hby at_8) (by decide) (by decide) r) ?_
    refine Go.sp (g' := (mkF m 14 #[.val (.long q1), .second, .val (.long q2), .second, .val (.int p3), .val (.int p4), .val (.int p5), .val (.int (1 : Int32)), .unset, .unset, .unset, .unset, .unset, .unset, .unset, .unset] [])) (fun T A t r => XS.istore A hx rfl (hb hby at_12) rfl (l' := #[.val (.long q1), .second, .val (.long q2), .second, .val (.int p3), .val (.int p4), .val (.int p5), .val (.int (1 : Int32)), .unset, .unset, .unset, .unset, .unset, .unset, .unset, .unset]) rfl r) ?_
    refine Go.sp (g' := (mkF m 15 #[.val (.long q1), .second, .val (.long q2), .second, .val (.int p3), .val (.int p4), .val (.int p5), .val (.int (1 : Int32)), .unset, .unset, .unset, .unset, .unset, .unset, .unset, .unset] [(.int (1 : Int32))])) (fun T A t r => XS.iconst A hx rfl (hb hby at_14) r) ?_
    refine Go.newP (ty := .char) (dv := (.int (0 : Int32))) (cap := 1) (k' := 1) (n' := 1) (pc' := 17) (hb hby at_15) rfl rfl (own_w hw 0 rfl) (by decide) (by decide) (by decide) rfl rfl rfl (by decide) (by decide) ?_
    intro b24 h24 k24 g24 sz24 E24 A24
    have V24 : Arv Z h24 b24 k24 .char (1 : Int32) [(.int (0 : Int32))] (.int (0 : Int32)) := A24.pad (pad_rep [] (.int (0 : Int32)) 1)
    refine Go.sp (g' := (mkF m 18 #[.val (.long q1), .second, .val (.long q2), .second, .val (.int p3), .val (.int p4), .val (.int p5), .val (.int (1 : Int32)), .unset, .unset, .unset, .unset, .unset, .unset, .unset, .unset] [(.ref b24), (.ref b24)])) (fun T A t r => XS.dup A hx rfl (hb hby at_17) rfl rfl r) ?_
    refine Go.sp (g' := (mkF m 19 #[.val (.long q1), .second, .val (.long q2), .second, .val (.int p3), .val (.int p4), .val (.int p5), .val (.int (1 : Int32)), .unset, .unset, .unset, .unset, .unset, .unset, .unset, .unset] [(.int (0 : Int32)), (.ref b24), (.ref b24)])) (fun T A t r => XS.iconst A hx rfl (hb hby at_18) r) ?_
    refine Go.sp (g' := (mkF m 21 #[.val (.long q1), .second, .val (.long q2), .second, .val (.int p3), .val (.int p4), .val (.int p5), .val (.int (1 : Int32)), .unset, .unset, .unset, .unset, .unset, .unset, .unset, .unset] [(.int p5), (.int (0 : Int32)), (.ref b24), (.ref b24)])) (fun T A t r => XS.iload A hx rfl (hb hby at_19) rfl r) ?_
    refine Go.sp (g' := (mkF m 24 #[.val (.long q1), .second, .val (.long q2), .second, .val (.int p3), .val (.int p4), .val (.int p5), .val (.int (1 : Int32)), .unset, .unset, .unset, .unset, .unset, .unset, .unset, .unset] [(.int (255 : Int32)), (.int p5), (.int (0 : Int32)), (.ref b24), (.ref b24)])) (fun T A t r => XS.sipush A hx rfl (hb hby at_21) r) ?_
    refine Go.sp (g' := (mkF m 25 #[.val (.long q1), .second, .val (.long q2), .second, .val (.int p3), .val (.int p4), .val (.int p5), .val (.int (1 : Int32)), .unset, .unset, .unset, .unset, .unset, .unset, .unset, .unset] [(.int (p5 &&& (255 : Int32))), (.int (0 : Int32)), (.ref b24), (.ref b24)])) (fun T A t r => XS.iand A hx rfl (hb hby at_24) rfl r) ?_
    refine Go.sp (g' := (mkF m 26 #[.val (.long q1), .second, .val (.long q2), .second, .val (.int p3), .val (.int p4), .val (.int p5), .val (.int (1 : Int32)), .unset, .unset, .unset, .unset, .unset, .unset, .unset, .unset] [(.int ((p5 &&& (255 : Int32)).toUInt32.toUInt16.toUInt32.toInt32)), (.int (0 : Int32)), (.ref b24), (.ref b24)])) (fun T A t r => XS.i2c A hx rfl (hb hby at_25) rfl r) ?_
    refine Go.cast (g' := (mkF m 26 #[.val (.long q1), .second, .val (.long q2), .second, .val (.int p3), .val (.int p4), .val (.int p5), .val (.int (1 : Int32)), .unset, .unset, .unset, .unset, .unset, .unset, .unset, .unset] [(.int (p5 &&& (255 : Int32))), (.int (0 : Int32)), (.ref b24), (.ref b24)])) (by rw [show ((p5 &&& (255 : Int32)).toUInt32.toUInt16.toUInt32.toInt32) = (p5 &&& (255 : Int32)) from i2c_mask _]) ?_
    refine Go.w (g' := (mkF m 27 #[.val (.long q1), .second, .val (.long q2), .second, .val (.int p3), .val (.int p4), .val (.int p5), .val (.int (1 : Int32)), .unset, .unset, .unset, .unset, .unset, .unset, .unset, .unset] [(.ref b24)])) (fun s' T L X eT hZ hown => own_stC X hx hZ eT V24 (j := (0 : Int32)) ⟨by decide, by decide⟩ (g := (mkF m 26 #[.val (.long q1), .second, .val (.long q2), .second, .val (.int p3), .val (.int p4), .val (.int p5), .val (.int (1 : Int32)), .unset, .unset, .unset, .unset, .unset, .unset, .unset, .unset] [(.int (p5 &&& (255 : Int32))), (.int (0 : Int32)), (.ref b24), (.ref b24)])) rfl rfl (hb hby at_26)) (Or.inr sz24) ?_
    intro h25 W25
    have V25 : Arv Z h25 b24 k24 .char (1 : Int32) [(.int (p5 &&& (255 : Int32)))] (.int (0 : Int32)) := own_set V24 (fits_nar_char _) W25 (congrArg Value.int (i2c_mask _)) 0 rfl (Nat.le_of_ble_eq_true rfl)
    refine Go.sp (g' := (mkF m 29 #[.val (.long q1), .second, .val (.long q2), .second, .val (.int p3), .val (.int p4), .val (.int p5), .val (.int (1 : Int32)), .val (.ref b24), .unset, .unset, .unset, .unset, .unset, .unset, .unset] [])) (fun T A t r => XS.astore A hx rfl (hb hby at_27) rfl rfl (l' := #[.val (.long q1), .second, .val (.long q2), .second, .val (.int p3), .val (.int p4), .val (.int p5), .val (.int (1 : Int32)), .val (.ref b24), .unset, .unset, .unset, .unset, .unset, .unset, .unset]) rfl r) ?_
    refine Go.sp (g' := (mkF m 30 #[.val (.long q1), .second, .val (.long q2), .second, .val (.int p3), .val (.int p4), .val (.int p5), .val (.int (1 : Int32)), .val (.ref b24), .unset, .unset, .unset, .unset, .unset, .unset, .unset] [(.int (1 : Int32))])) (fun T A t r => XS.iconst A hx rfl (hb hby at_29) r) ?_
    refine Go.newP (ty := .char) (dv := (.int (0 : Int32))) (cap := 1) (k' := 2) (n' := 2) (pc' := 32) (hb hby at_30) rfl rfl (own_w hw 0 rfl) (by decide) (by decide) (by decide) rfl rfl rfl (by decide) (by decide) ?_
    intro b26 h26 k26 g26 sz26 E26 A26
    have V26 : Arv Z h26 b26 k26 .char (1 : Int32) [(.int (0 : Int32))] (.int (0 : Int32)) := A26.pad (pad_rep [] (.int (0 : Int32)) 1)
    refine Go.sp (g' := (mkF m 33 #[.val (.long q1), .second, .val (.long q2), .second, .val (.int p3), .val (.int p4), .val (.int p5), .val (.int (1 : Int32)), .val (.ref b24), .unset, .unset, .unset, .unset, .unset, .unset, .unset] [(.ref b26), (.ref b26)])) (fun T A t r => XS.dup A hx rfl (hb hby at_32) rfl rfl r) ?_
    refine Go.sp (g' := (mkF m 34 #[.val (.long q1), .second, .val (.long q2), .second, .val (.int p3), .val (.int p4), .val (.int p5), .val (.int (1 : Int32)), .val (.ref b24), .unset, .unset, .unset, .unset, .unset, .unset, .unset] [(.int (0 : Int32)), (.ref b26), (.ref b26)])) (fun T A t r => XS.iconst A hx rfl (hb hby at_33) r) ?_
    refine Go.sp (g' := (mkF m 36 #[.val (.long q1), .second, .val (.long q2), .second, .val (.int p3), .val (.int p4), .val (.int p5), .val (.int (1 : Int32)), .val (.ref b24), .unset, .unset, .unset, .unset, .unset, .unset, .unset] [(.int p5), (.int (0 : Int32)), (.ref b26), (.ref b26)])) (fun T A t r => XS.iload A hx rfl (hb hby at_34) rfl r) ?_
    refine Go.sp (g' := (mkF m 38 #[.val (.long q1), .second, .val (.long q2), .second, .val (.int p3), .val (.int p4), .val (.int p5), .val (.int (1 : Int32)), .val (.ref b24), .unset, .unset, .unset, .unset, .unset, .unset, .unset] [(.int (8 : Int32)), (.int p5), (.int (0 : Int32)), (.ref b26), (.ref b26)])) (fun T A t r => XS.bipush A hx rfl (hb hby at_36) r) ?_
    refine Go.sp (g' := (mkF m 39 #[.val (.long q1), .second, .val (.long q2), .second, .val (.int p3), .val (.int p4), .val (.int p5), .val (.int (1 : Int32)), .val (.ref b24), .unset, .unset, .unset, .unset, .unset, .unset, .unset] [(.int ((p5.toUInt32 >>> ((8 : Int32) &&& 31).toUInt32).toInt32)), (.int (0 : Int32)), (.ref b26), (.ref b26)])) (fun T A t r => XS.iushr A hx rfl (hb hby at_38) rfl r) ?_
    refine Go.sp (g' := (mkF m 42 #[.val (.long q1), .second, .val (.long q2), .second, .val (.int p3), .val (.int p4), .val (.int p5), .val (.int (1 : Int32)), .val (.ref b24), .unset, .unset, .unset, .unset, .unset, .unset, .unset] [(.int (255 : Int32)), (.int ((p5.toUInt32 >>> ((8 : Int32) &&& 31).toUInt32).toInt32)), (.int (0 : Int32)), (.ref b26), (.ref b26)])) (fun T A t r => XS.sipush A hx rfl (hb hby at_39) r) ?_
    refine Go.sp (g' := (mkF m 43 #[.val (.long q1), .second, .val (.long q2), .second, .val (.int p3), .val (.int p4), .val (.int p5), .val (.int (1 : Int32)), .val (.ref b24), .unset, .unset, .unset, .unset, .unset, .unset, .unset] [(.int (((p5.toUInt32 >>> ((8 : Int32) &&& 31).toUInt32).toInt32) &&& (255 : Int32))), (.int (0 : Int32)), (.ref b26), (.ref b26)])) (fun T A t r => XS.iand A hx rfl (hb hby at_42) rfl r) ?_
    refine Go.sp (g' := (mkF m 44 #[.val (.long q1), .second, .val (.long q2), .second, .val (.int p3), .val (.int p4), .val (.int p5), .val (.int (1 : Int32)), .val (.ref b24), .unset, .unset, .unset, .unset, .unset, .unset, .unset] [(.int ((((p5.toUInt32 >>> ((8 : Int32) &&& 31).toUInt32).toInt32) &&& (255 : Int32)).toUInt32.toUInt16.toUInt32.toInt32)), (.int (0 : Int32)), (.ref b26), (.ref b26)])) (fun T A t r => XS.i2c A hx rfl (hb hby at_43) rfl r) ?_
    refine Go.cast (g' := (mkF m 44 #[.val (.long q1), .second, .val (.long q2), .second, .val (.int p3), .val (.int p4), .val (.int p5), .val (.int (1 : Int32)), .val (.ref b24), .unset, .unset, .unset, .unset, .unset, .unset, .unset] [(.int (((p5.toUInt32 >>> ((8 : Int32) &&& 31).toUInt32).toInt32) &&& (255 : Int32))), (.int (0 : Int32)), (.ref b26), (.ref b26)])) (by rw [show ((((p5.toUInt32 >>> ((8 : Int32) &&& 31).toUInt32).toInt32) &&& (255 : Int32)).toUInt32.toUInt16.toUInt32.toInt32) = (((p5.toUInt32 >>> ((8 : Int32) &&& 31).toUInt32).toInt32) &&& (255 : Int32)) from i2c_mask _]) ?_
    refine Go.w (g' := (mkF m 45 #[.val (.long q1), .second, .val (.long q2), .second, .val (.int p3), .val (.int p4), .val (.int p5), .val (.int (1 : Int32)), .val (.ref b24), .unset, .unset, .unset, .unset, .unset, .unset, .unset] [(.ref b26)])) (fun s' T L X eT hZ hown => own_stC X hx hZ eT V26 (j := (0 : Int32)) ⟨by decide, by decide⟩ (g := (mkF m 44 #[.val (.long q1), .second, .val (.long q2), .second, .val (.int p3), .val (.int p4), .val (.int p5), .val (.int (1 : Int32)), .val (.ref b24), .unset, .unset, .unset, .unset, .unset, .unset, .unset] [(.int (((p5.toUInt32 >>> ((8 : Int32) &&& 31).toUInt32).toInt32) &&& (255 : Int32))), (.int (0 : Int32)), (.ref b26), (.ref b26)])) rfl rfl (hb hby at_44)) (Or.inr sz26) ?_
    intro h27 W27
    have V27 : Arv Z h27 b26 k26 .char (1 : Int32) [(.int (((p5.toUInt32 >>> ((8 : Int32) &&& 31).toUInt32).toInt32) &&& (255 : Int32)))] (.int (0 : Int32)) := own_set V26 (fits_nar_char _) W27 (congrArg Value.int (i2c_mask _)) 0 rfl (Nat.le_of_ble_eq_true rfl)
    refine Go.sp (g' := (mkF m 47 #[.val (.long q1), .second, .val (.long q2), .second, .val (.int p3), .val (.int p4), .val (.int p5), .val (.int (1 : Int32)), .val (.ref b24), .val (.ref b26), .unset, .unset, .unset, .unset, .unset, .unset] [])) (fun T A t r => XS.astore A hx rfl (hb hby at_45) rfl rfl (l' := #[.val (.long q1), .second, .val (.long q2), .second, .val (.int p3), .val (.int p4), .val (.int p5), .val (.int (1 : Int32)), .val (.ref b24), .val (.ref b26), .unset, .unset, .unset, .unset, .unset, .unset]) rfl r) ?_
    refine Go.newO (k' := 3) (n' := 6) (pc' := 50) (hb hby at_47) (own_w hw 1 rfl) (own_w hw 2 rfl) (own_w hw 3 rfl) rfl rfl rfl (by decide) (by decide) ?_
    intro b28 h28 g28 sz28 E28 A28 D28
    have F28_coder : Fld Z h28 b28 "java/lang/String" "coder" "B" (.int (0 : Int32)) := D28 (Or.inr (own_w hw 27 rfl)) (ty := .byte) (by decide)
    have F28_value : Fld Z h28 b28 "java/lang/String" "value" "[B" .null := D28 (Or.inr (own_w hw 29 rfl)) (ty := (.array .byte)) (by decide)
    refine Go.sp (g' := (mkF m 51 #[.val (.long q1), .second, .val (.long q2), .second, .val (.int p3), .val (.int p4), .val (.int p5), .val (.int (1 : Int32)), .val (.ref b24), .val (.ref b26), .unset, .unset, .unset, .unset, .unset, .unset] [(.ref b28), (.ref b28)])) (fun T A t r => XS.dup A hx rfl (hb hby at_50) rfl rfl r) ?_
    refine Go.sp (g' := (mkF m 53 #[.val (.long q1), .second, .val (.long q2), .second, .val (.int p3), .val (.int p4), .val (.int p5), .val (.int (1 : Int32)), .val (.ref b24), .val (.ref b26), .unset, .unset, .unset, .unset, .unset, .unset] [(.ref b24), (.ref b28), (.ref b28)])) (fun T A t r => XS.aload A hx rfl (hb hby at_51) rfl rfl r) ?_
    have ne29 : b24 ≠ b26 := Nat.ne_of_lt (Nat.lt_of_lt_of_le V25.lt (Nat.le_of_eq g26.symm))
    have f30 := (((V25.ext E26).other W27 ne29).ext E28)
    refine Go.old fun O31 => ?_
    have lat32 : ∀ c ∈ [(p5 &&& (255 : Int32))], ¬ c < 0 ∧ ¬ (255 : Int32) < c := own_allc (own_and255 _) (own_allc0)
    refine Go.callC (a := b28) (ws' := [b28]) (W := 1) (y := (⟨"java/lang/String", "<init>", "([C)V"⟩ : MethodName)) (argsL := [(.ref b24)]) (rest := [(.ref b28)]) (pc' := 56) (k' := 4) (n' := 7) (hb hby at_53) rfl (own_w hw 4 rfl) (own_w hw 5 rfl) (own_w hw 6 rfl) (by decide) (fun s' hZ => own_str hw (own_w hw 2 rfl) hZ (cs := [(p5 &&& (255 : Int32))]) (n := 1) (Nat.le_trans (Old.le O0) sz28) O31 A28 F28_value F28_coder f30 S0 P0 rfl rfl (by decide) (by decide) lat32 (by decide) (by decide)) (by rw [hml]; rfl) (lenOf pd_2 rfl) rfl (Nat.le_of_ble_eq_true rfl) rfl rfl rfl (by decide) (by decide) (allS (Or.inr sz28) all0) ?_
    rintro v33 h33 K33 ⟨rfl, E33, C33, t33, kb33, ge33, V33, B33⟩
    refine Go.cast (g' := (mkF m 56 #[.val (.long q1), .second, .val (.long q2), .second, .val (.int p3), .val (.int p4), .val (.int p5), .val (.int (1 : Int32)), .val (.ref b24), .val (.ref b26), .unset, .unset, .unset, .unset, .unset, .unset] [(.ref b28)])) rfl ?_
    refine Go.sp (g' := (mkF m 58 #[.val (.long q1), .second, .val (.long q2), .second, .val (.int p3), .val (.int p4), .val (.int p5), .val (.int (1 : Int32)), .val (.ref b24), .val (.ref b26), .val (.ref b28), .unset, .unset, .unset, .unset, .unset] [])) (fun T A t r => XS.astore A hx rfl (hb hby at_56) rfl rfl (l' := #[.val (.long q1), .second, .val (.long q2), .second, .val (.int p3), .val (.int p4), .val (.int p5), .val (.int (1 : Int32)), .val (.ref b24), .val (.ref b26), .val (.ref b28), .unset, .unset, .unset, .unset, .unset]) rfl r) ?_
    refine Go.newO (k' := 5) (n' := 11) (pc' := 61) (hb hby at_58) (own_w hw 1 rfl) (own_w hw 2 rfl) (own_w hw 3 rfl) rfl rfl rfl (by decide) (by decide) ?_
    intro b34 h34 g34 sz34 E34 A34 D34
    have F34_coder : Fld Z h34 b34 "java/lang/String" "coder" "B" (.int (0 : Int32)) := D34 (Or.inr (own_w hw 27 rfl)) (ty := .byte) (by decide)
    have F34_value : Fld Z h34 b34 "java/lang/String" "value" "[B" .null := D34 (Or.inr (own_w hw 29 rfl)) (ty := (.array .byte)) (by decide)
    refine Go.sp (g' := (mkF m 62 #[.val (.long q1), .second, .val (.long q2), .second, .val (.int p3), .val (.int p4), .val (.int p5), .val (.int (1 : Int32)), .val (.ref b24), .val (.ref b26), .val (.ref b28), .unset, .unset, .unset, .unset, .unset] [(.ref b34), (.ref b34)])) (fun T A t r => XS.dup A hx rfl (hb hby at_61) rfl rfl r) ?_
    refine Go.sp (g' := (mkF m 64 #[.val (.long q1), .second, .val (.long q2), .second, .val (.int p3), .val (.int p4), .val (.int p5), .val (.int (1 : Int32)), .val (.ref b24), .val (.ref b26), .val (.ref b28), .unset, .unset, .unset, .unset, .unset] [(.ref b26), (.ref b34), (.ref b34)])) (fun T A t r => XS.aload A hx rfl (hb hby at_62) rfl rfl r) ?_
    have ne35 : b26 ≠ b28 := Nat.ne_of_lt (Nat.lt_of_lt_of_le V27.lt (Nat.le_of_eq g28.symm))
    have f36 := (((V27.ext E28).keep K33 (ninS ne35 nin0)).ext E34)
    refine Go.old fun O37 => ?_
    have lat38 : ∀ c ∈ [(((p5.toUInt32 >>> ((8 : Int32) &&& 31).toUInt32).toInt32) &&& (255 : Int32))], ¬ c < 0 ∧ ¬ (255 : Int32) < c := own_allc (own_and255 _) (own_allc0)
    refine Go.callC (a := b34) (ws' := [b34]) (W := 1) (y := (⟨"java/lang/String", "<init>", "([C)V"⟩ : MethodName)) (argsL := [(.ref b26)]) (rest := [(.ref b34)]) (pc' := 67) (k' := 6) (n' := 12) (hb hby at_64) rfl (own_w hw 4 rfl) (own_w hw 5 rfl) (own_w hw 6 rfl) (by decide) (fun s' hZ => own_str hw (own_w hw 2 rfl) hZ (cs := [(((p5.toUInt32 >>> ((8 : Int32) &&& 31).toUInt32).toInt32) &&& (255 : Int32))]) (n := 1) (Nat.le_trans (Old.le O0) sz34) O37 A34 F34_value F34_coder f36 S0 P0 rfl rfl (by decide) (by decide) lat38 (by decide) (by decide)) (by rw [hml]; rfl) (lenOf pd_2 rfl) rfl (Nat.le_of_ble_eq_true rfl) rfl rfl rfl (by decide) (by decide) (allS (Or.inr sz34) all0) ?_
    rintro v39 h39 K39 ⟨rfl, E39, C39, t39, kb39, ge39, V39, B39⟩
    refine Go.cast (g' := (mkF m 67 #[.val (.long q1), .second, .val (.long q2), .second, .val (.int p3), .val (.int p4), .val (.int p5), .val (.int (1 : Int32)), .val (.ref b24), .val (.ref b26), .val (.ref b28), .unset, .unset, .unset, .unset, .unset] [(.ref b34)])) rfl ?_
    refine Go.sp (g' := (mkF m 69 #[.val (.long q1), .second, .val (.long q2), .second, .val (.int p3), .val (.int p4), .val (.int p5), .val (.int (1 : Int32)), .val (.ref b24), .val (.ref b26), .val (.ref b28), .val (.ref b34), .unset, .unset, .unset, .unset] [])) (fun T A t r => XS.astore A hx rfl (hb hby at_67) rfl rfl (l' := #[.val (.long q1), .second, .val (.long q2), .second, .val (.int p3), .val (.int p4), .val (.int p5), .val (.int (1 : Int32)), .val (.ref b24), .val (.ref b26), .val (.ref b28), .val (.ref b34), .unset, .unset, .unset, .unset]) rfl r) ?_
    refine Go.sp (g' := (mkF m 71 #[.val (.long q1), .second, .val (.long q2), .second, .val (.int p3), .val (.int p4), .val (.int p5), .val (.int (1 : Int32)), .val (.ref b24), .val (.ref b26), .val (.ref b28), .val (.ref b34), .unset, .unset, .unset, .unset] [(.int (1 : Int32))])) (fun T A t r => XS.iload A hx rfl (hb hby at_69) rfl r) ?_
    refine Go.sp (g' := (mkF m 74 #[.val (.long q1), .second, .val (.long q2), .second, .val (.int p3), .val (.int p4), .val (.int p5), .val (.int (1 : Int32)), .val (.ref b24), .val (.ref b26), .val (.ref b28), .val (.ref b34), .unset, .unset, .unset, .unset] [])) (fun T A t r => XS.ifNo A hx rfl (hb hby at_71) rfl ((if0 _ _).trans (feq (by decide : ¬ ((1 : Int32) = (0 : Int32)))).1) r) ?_
    refine Go.newO (k' := 7) (n' := 16) (pc' := 77) (hb hby at_74) (own_w hw 30 rfl) (own_w hw 31 rfl) (own_w hw 32 rfl) rfl rfl rfl (by decide) (by decide) ?_
    intro b40 h40 g40 sz40 E40 A40 D40
    have F40_lock : Fld Z h40 b40 "com/example/fence/fence/client/Grant" "lock" "Ljava/lang/String;" .null := D40 (Or.inr (own_w hw 43 rfl)) (ty := (.object "java/lang/String")) (by decide)
    have F40_session : Fld Z h40 b40 "com/example/fence/fence/client/Grant" "session" "Ljava/lang/String;" .null := D40 (Or.inr (own_w hw 45 rfl)) (ty := (.object "java/lang/String")) (by decide)
    have F40_owner : Fld Z h40 b40 "com/example/fence/fence/client/Grant" "owner" "Ljava/lang/String;" .null := D40 (Or.inr (own_w hw 47 rfl)) (ty := (.object "java/lang/String")) (by decide)
    have F40_token : Fld Z h40 b40 "com/example/fence/fence/client/Grant" "token" "J" (.long (0 : Int64)) := D40 (Or.inr (own_w hw 49 rfl)) (ty := .long) (by decide)
    refine Go.sp (g' := (mkF m 78 #[.val (.long q1), .second, .val (.long q2), .second, .val (.int p3), .val (.int p4), .val (.int p5), .val (.int (1 : Int32)), .val (.ref b24), .val (.ref b26), .val (.ref b28), .val (.ref b34), .unset, .unset, .unset, .unset] [(.ref b40), (.ref b40)])) (fun T A t r => XS.dup A hx rfl (hb hby at_77) rfl rfl r) ?_
    refine Go.sp (g' := (mkF m 80 #[.val (.long q1), .second, .val (.long q2), .second, .val (.int p3), .val (.int p4), .val (.int p5), .val (.int (1 : Int32)), .val (.ref b24), .val (.ref b26), .val (.ref b28), .val (.ref b34), .unset, .unset, .unset, .unset] [(.ref b28), (.ref b40), (.ref b40)])) (fun T A t r => XS.aload A hx rfl (hb hby at_78) rfl rfl r) ?_
    refine Go.sp (g' := (mkF m 82 #[.val (.long q1), .second, .val (.long q2), .second, .val (.int p3), .val (.int p4), .val (.int p5), .val (.int (1 : Int32)), .val (.ref b24), .val (.ref b26), .val (.ref b28), .val (.ref b34), .unset, .unset, .unset, .unset] [(.ref b34), (.ref b28), (.ref b40), (.ref b40)])) (fun T A t r => XS.aload A hx rfl (hb hby at_80) rfl rfl r) ?_
    refine Go.sp (g' := (mkF m 84 #[.val (.long q1), .second, .val (.long q2), .second, .val (.int p3), .val (.int p4), .val (.int p5), .val (.int (1 : Int32)), .val (.ref b24), .val (.ref b26), .val (.ref b28), .val (.ref b34), .unset, .unset, .unset, .unset] [(.ref b34), (.ref b34), (.ref b28), (.ref b40), (.ref b40)])) (fun T A t r => XS.aload A hx rfl (hb hby at_82) rfl rfl r) ?_
    refine Go.sp (g' := (mkF m 85 #[.val (.long q1), .second, .val (.long q2), .second, .val (.int p3), .val (.int p4), .val (.int p5), .val (.int (1 : Int32)), .val (.ref b24), .val (.ref b26), .val (.ref b28), .val (.ref b34), .unset, .unset, .unset, .unset] [(.long q1), (.ref b34), (.ref b34), (.ref b28), (.ref b40), (.ref b40)])) (fun T A t r => XS.lloadN A hx rfl (hb hby at_84) rfl r) ?_
    refine Go.old fun O41 => ?_
    refine Go.callC (a := b40) (ws' := [b40]) (W := 1) (y := (⟨"com/example/fence/fence/client/Grant", "<init>", "(Ljava/lang/String;Ljava/lang/String;Ljava/lang/String;J)V"⟩ : MethodName)) (argsL := [(.ref b28), (.ref b34), (.ref b34), (.long q1)]) (rest := [(.ref b40)]) (pc' := 88) (k' := 7) (n' := 16) (hb hby at_85) rfl (own_w hw 33 rfl) (own_w hw 34 rfl) (own_w hw 35 rfl) (by decide) (fun s' hZ => Ct.bk (rm7 l Z a0 hw [] b40 b28 b34 b34 q1 _ _ _ _ h40 n0 O41 (Nat.le_trans (Old.le O0) sz40) A40 F40_lock F40_session F40_owner F40_token) hZ (own_w hw 35 rfl) (own_w hw 32 rfl) (by decide) (by decide)) (by rw [hml]; rfl) (lenOf pd_4 rfl) rfl (Nat.le_of_ble_eq_true rfl) rfl rfl rfl (by decide) (by decide) (allS (Or.inr sz40) all0) ?_
    rintro v42 h42 K42 ⟨rfl, -, -, -, Tk42⟩
    refine Go.cast (g' := (mkF m 88 #[.val (.long q1), .second, .val (.long q2), .second, .val (.int p3), .val (.int p4), .val (.int p5), .val (.int (1 : Int32)), .val (.ref b24), .val (.ref b26), .val (.ref b28), .val (.ref b34), .unset, .unset, .unset, .unset] [(.ref b40)])) rfl ?_
    refine Go.sp (g' := (mkF m 92 #[.val (.long q1), .second, .val (.long q2), .second, .val (.int p3), .val (.int p4), .val (.int p5), .val (.int (1 : Int32)), .val (.ref b24), .val (.ref b26), .val (.ref b28), .val (.ref b34), .unset, .unset, .unset, .unset] [(.ref b40)])) (fun T A t r => XS.goto A hx rfl (pc0 := 88) (pc' := 92) rfl (hb hby at_88) (by decide) (by decide) r) ?_
    refine Go.sp (g' := (mkF m 94 #[.val (.long q1), .second, .val (.long q2), .second, .val (.int p3), .val (.int p4), .val (.int p5), .val (.int (1 : Int32)), .val (.ref b24), .val (.ref b26), .val (.ref b28), .val (.ref b34), .val (.ref b40), .unset, .unset, .unset] [])) (fun T A t r => XS.astore A hx rfl (hb hby at_92) rfl rfl (l' := #[.val (.long q1), .second, .val (.long q2), .second, .val (.int p3), .val (.int p4), .val (.int p5), .val (.int (1 : Int32)), .val (.ref b24), .val (.ref b26), .val (.ref b28), .val (.ref b34), .val (.ref b40), .unset, .unset, .unset]) rfl r) ?_
    refine Go.newO (k' := 8) (n' := 20) (pc' := 97) (hb hby at_94) (own_w hw 50 rfl) (own_w hw 51 rfl) (own_w hw 52 rfl) rfl rfl rfl (by decide) (by decide) ?_
    intro b43 h43 g43 sz43 E43 A43 D43
    have F43_lock : Fld Z h43 b43 "com/example/fence/fence/client/LockStatus" "lock" "Ljava/lang/String;" .null := D43 (Or.inr (own_w hw 58 rfl)) (ty := (.object "java/lang/String")) (by decide)
    have F43_holder : Fld Z h43 b43 "com/example/fence/fence/client/LockStatus" "holder" "Lcom/example/fence/fence/client/Grant;" .null := D43 (Or.inr (own_w hw 60 rfl)) (ty := (.object "com/example/fence/fence/client/Grant")) (by decide)
    have F43_waiters : Fld Z h43 b43 "com/example/fence/fence/client/LockStatus" "waiters" "I" (.int (0 : Int32)) := D43 (Or.inr (own_w hw 62 rfl)) (ty := .int) (by decide)
    have F43_lastToken : Fld Z h43 b43 "com/example/fence/fence/client/LockStatus" "lastToken" "J" (.long (0 : Int64)) := D43 (Or.inr (own_w hw 64 rfl)) (ty := .long) (by decide)
    refine Go.sp (g' := (mkF m 98 #[.val (.long q1), .second, .val (.long q2), .second, .val (.int p3), .val (.int p4), .val (.int p5), .val (.int (1 : Int32)), .val (.ref b24), .val (.ref b26), .val (.ref b28), .val (.ref b34), .val (.ref b40), .unset, .unset, .unset] [(.ref b43), (.ref b43)])) (fun T A t r => XS.dup A hx rfl (hb hby at_97) rfl rfl r) ?_
    refine Go.sp (g' := (mkF m 100 #[.val (.long q1), .second, .val (.long q2), .second, .val (.int p3), .val (.int p4), .val (.int p5), .val (.int (1 : Int32)), .val (.ref b24), .val (.ref b26), .val (.ref b28), .val (.ref b34), .val (.ref b40), .unset, .unset, .unset] [(.ref b28), (.ref b43), (.ref b43)])) (fun T A t r => XS.aload A hx rfl (hb hby at_98) rfl rfl r) ?_
    refine Go.sp (g' := (mkF m 102 #[.val (.long q1), .second, .val (.long q2), .second, .val (.int p3), .val (.int p4), .val (.int p5), .val (.int (1 : Int32)), .val (.ref b24), .val (.ref b26), .val (.ref b28), .val (.ref b34), .val (.ref b40), .unset, .unset, .unset] [(.ref b40), (.ref b28), (.ref b43), (.ref b43)])) (fun T A t r => XS.aload A hx rfl (hb hby at_100) rfl rfl r) ?_
    refine Go.sp (g' := (mkF m 104 #[.val (.long q1), .second, .val (.long q2), .second, .val (.int p3), .val (.int p4), .val (.int p5), .val (.int (1 : Int32)), .val (.ref b24), .val (.ref b26), .val (.ref b28), .val (.ref b34), .val (.ref b40), .unset, .unset, .unset] [(.int p3), (.ref b40), (.ref b28), (.ref b43), (.ref b43)])) (fun T A t r => XS.iload A hx rfl (hb hby at_102) rfl r) ?_
    refine Go.sp (g' := (mkF m 105 #[.val (.long q1), .second, .val (.long q2), .second, .val (.int p3), .val (.int p4), .val (.int p5), .val (.int (1 : Int32)), .val (.ref b24), .val (.ref b26), .val (.ref b28), .val (.ref b34), .val (.ref b40), .unset, .unset, .unset] [(.long q2), (.int p3), (.ref b40), (.ref b28), (.ref b43), (.ref b43)])) (fun T A t r => XS.lloadN A hx rfl (hb hby at_104) rfl r) ?_
    refine Go.old fun O44 => ?_
    refine Go.callC (a := b43) (ws' := [b43]) (W := 1) (y := (⟨"com/example/fence/fence/client/LockStatus", "<init>", "(Ljava/lang/String;Lcom/example/fence/fence/client/Grant;IJ)V"⟩ : MethodName)) (argsL := [(.ref b28), (.ref b40), (.int p3), (.long q2)]) (rest := [(.ref b43)]) (pc' := 108) (k' := 8) (n' := 20) (hb hby at_105) rfl (own_w hw 53 rfl) (own_w hw 54 rfl) (own_w hw 55 rfl) (by decide) (fun s' hZ => Ct.bk (rm9 l Z a0 hw [] b43 b28 (.ref b40) p3 q2 _ _ _ _ h43 n0 O44 (Nat.le_trans (Old.le O0) sz43) rfl A43 F43_lock F43_holder F43_waiters F43_lastToken) hZ (own_w hw 55 rfl) (own_w hw 52 rfl) (by decide) (by decide)) (by rw [hml]; rfl) (lenOf pd_3 rfl) rfl (Nat.le_of_ble_eq_true rfl) rfl rfl rfl (by decide) (by decide) (allS (Or.inr sz43) all0) ?_
    rintro v45 h45 K45 ⟨rfl, -, H45, -, -⟩
    refine Go.cast (g' := (mkF m 108 #[.val (.long q1), .second, .val (.long q2), .second, .val (.int p3), .val (.int p4), .val (.int p5), .val (.int (1 : Int32)), .val (.ref b24), .val (.ref b26), .val (.ref b28), .val (.ref b34), .val (.ref b40), .unset, .unset, .unset] [(.ref b43)])) rfl ?_
    refine Go.sp (g' := (mkF m 110 #[.val (.long q1), .second, .val (.long q2), .second, .val (.int p3), .val (.int p4), .val (.int p5), .val (.int (1 : Int32)), .val (.ref b24), .val (.ref b26), .val (.ref b28), .val (.ref b34), .val (.ref b40), .val (.ref b43), .unset, .unset] [])) (fun T A t r => XS.astore A hx rfl (hb hby at_108) rfl rfl (l' := #[.val (.long q1), .second, .val (.long q2), .second, .val (.int p3), .val (.int p4), .val (.int p5), .val (.int (1 : Int32)), .val (.ref b24), .val (.ref b26), .val (.ref b28), .val (.ref b34), .val (.ref b40), .val (.ref b43), .unset, .unset]) rfl r) ?_
    refine Go.sp (g' := (mkF m 112 #[.val (.long q1), .second, .val (.long q2), .second, .val (.int p3), .val (.int p4), .val (.int p5), .val (.int (1 : Int32)), .val (.ref b24), .val (.ref b26), .val (.ref b28), .val (.ref b34), .val (.ref b40), .val (.ref b43), .unset, .unset] [(.ref b43)])) (fun T A t r => XS.aload A hx rfl (hb hby at_110) rfl rfl r) ?_
    refine Go.old fun O46 => ?_
    have f47 := (((A40.keep K42).ext E43).keep K45)
    have f48 := (A40.keep K42)
    have ne49 : b40 ≠ b43 := Nat.ne_of_lt (Nat.lt_of_lt_of_le f48.lt (Nat.le_of_eq g43.symm))
    have f50 := ((Tk42.ext E43).keep K45 (ninS ne49 nin0))
    have f52 := (A43.keep K45)
    refine Go.callVP (a := b43) (z := (⟨"com/example/fence/fence/client/LockStatus", "token", "()J"⟩ : MethodName)) (W := 0) (y := (⟨"com/example/fence/fence/client/LockStatus", "token", "()J"⟩ : MethodName)) (argsL := []) (rest := []) (pc' := 115) (hb hby at_112) (own_w hw 65 rfl) (own_w hw 66 rfl) (fun s' hZ => notFace_of_selects (args := #[]) (mvT hZ (own_w hw 68 rfl))) (own_w hw 68 rfl) (own_w hw 67 rfl) (by decide) (fun s' hZ => Ct.bk (rm10 l Z a0 hw [] b43 b40 q1 h45 n0 O46 H45 f47 f50) hZ (own_w hw 69 rfl) (own_w hw 52 rfl) (by decide) (by decide)) f52 (by rw [hml]; rfl) (lenOf pd_1 rfl) rfl (Nat.le_of_ble_eq_true rfl) rfl (by decide) (by decide) ?_
    rintro v51 ⟨rfl⟩
    refine Go.cast (g' := (mkF m 115 #[.val (.long q1), .second, .val (.long q2), .second, .val (.int p3), .val (.int p4), .val (.int p5), .val (.int (1 : Int32)), .val (.ref b24), .val (.ref b26), .val (.ref b28), .val (.ref b34), .val (.ref b40), .val (.ref b43), .unset, .unset] [(.long q1)])) rfl ?_
    refine Go.sp (g' := (mkF m 117 #[.val (.long q1), .second, .val (.long q2), .second, .val (.int p3), .val (.int p4), .val (.int p5), .val (.int (1 : Int32)), .val (.ref b24), .val (.ref b26), .val (.ref b28), .val (.ref b34), .val (.ref b40), .val (.ref b43), .val (.long q1), .second] [])) (fun T A t r => XS.lstore A hx rfl (hb hby at_115) rfl (l' := #[.val (.long q1), .second, .val (.long q2), .second, .val (.int p3), .val (.int p4), .val (.int p5), .val (.int (1 : Int32)), .val (.ref b24), .val (.ref b26), .val (.ref b28), .val (.ref b34), .val (.ref b40), .val (.ref b43), .val (.long q1), .second]) rfl r) ?_
    refine Go.sp (g' := (mkF m 119 #[.val (.long q1), .second, .val (.long q2), .second, .val (.int p3), .val (.int p4), .val (.int p5), .val (.int (1 : Int32)), .val (.ref b24), .val (.ref b26), .val (.ref b28), .val (.ref b34), .val (.ref b40), .val (.ref b43), .val (.long q1), .second] [(.int (1 : Int32))])) (fun T A t r => XS.iload A hx rfl (hb hby at_117) rfl r) ?_
    refine Go.sp (g' := (mkF m 122 #[.val (.long q1), .second, .val (.long q2), .second, .val (.int p3), .val (.int p4), .val (.int p5), .val (.int (1 : Int32)), .val (.ref b24), .val (.ref b26), .val (.ref b28), .val (.ref b34), .val (.ref b40), .val (.ref b43), .val (.long q1), .second] [])) (fun T A t r => XS.ifNo A hx rfl (hb hby at_119) rfl ((if0 _ _).trans (feq (by decide : ¬ ((1 : Int32) = (0 : Int32)))).1) r) ?_
    refine Go.sp (g' := (mkF m 124 #[.val (.long q1), .second, .val (.long q2), .second, .val (.int p3), .val (.int p4), .val (.int p5), .val (.int (1 : Int32)), .val (.ref b24), .val (.ref b26), .val (.ref b28), .val (.ref b34), .val (.ref b40), .val (.ref b43), .val (.long q1), .second] [(.long q1)])) (fun T A t r => XS.lload A hx rfl (hb hby at_122) rfl r) ?_
    refine Go.sp (g' := (mkF m 125 #[.val (.long q1), .second, .val (.long q2), .second, .val (.int p3), .val (.int p4), .val (.int p5), .val (.int (1 : Int32)), .val (.ref b24), .val (.ref b26), .val (.ref b28), .val (.ref b34), .val (.ref b40), .val (.ref b43), .val (.long q1), .second] [(.long q1), (.long q1)])) (fun T A t r => XS.lloadN A hx rfl (hb hby at_124) rfl r) ?_
    refine Go.sp (g' := (mkF m 126 #[.val (.long q1), .second, .val (.long q2), .second, .val (.int p3), .val (.int p4), .val (.int p5), .val (.int (1 : Int32)), .val (.ref b24), .val (.ref b26), .val (.ref b28), .val (.ref b34), .val (.ref b40), .val (.ref b43), .val (.long q1), .second] [(.int (lcmpW q1 q1))])) (fun T A t r => XS.lcmp A hx rfl (hb hby at_125) rfl r) ?_
    refine Go.sp (g' := (mkF m 129 #[.val (.long q1), .second, .val (.long q2), .second, .val (.int p3), .val (.int p4), .val (.int p5), .val (.int (1 : Int32)), .val (.ref b24), .val (.ref b26), .val (.ref b28), .val (.ref b34), .val (.ref b40), .val (.ref b43), .val (.long q1), .second] [])) (fun T A t r => XS.ifNo A hx rfl (hb hby at_126) rfl ((if0 _ _).trans (teq ((lw_eq q1 q1).mpr rfl)).2) r) ?_
    refine Go.sp (g' := (mkF m 130 #[.val (.long q1), .second, .val (.long q2), .second, .val (.int p3), .val (.int p4), .val (.int p5), .val (.int (1 : Int32)), .val (.ref b24), .val (.ref b26), .val (.ref b28), .val (.ref b34), .val (.ref b40), .val (.ref b43), .val (.long q1), .second] [(.int (1 : Int32))])) (fun T A t r => XS.iconst A hx rfl (hb hby at_129) r) ?_
    refine Go.sp (g' := (mkF m 134 #[.val (.long q1), .second, .val (.long q2), .second, .val (.int p3), .val (.int p4), .val (.int p5), .val (.int (1 : Int32)), .val (.ref b24), .val (.ref b26), .val (.ref b28), .val (.ref b34), .val (.ref b40), .val (.ref b43), .val (.long q1), .second] [(.int (1 : Int32))])) (fun T A t r => XS.goto A hx rfl (pc0 := 130) (pc' := 134) rfl (hb hby at_130) (by decide) (by decide) r) ?_
    exact Go.ret (v := (some (.int (nar .boolean (1 : Int32))))) (fun s' T L fs X hr => retN X hx (t := .boolean) hret (by simp) (hb hby at_134) hr) (fun h => by rw [hret] at h; cases h) (by decide) (by decide) rfl
set_option maxRecDepth 65536 in
set_option maxHeartbeats 40000000 in
theorem comes_1 {Post : Tables → Env → Array Value → State → Outcome → State → Prop} (hpost : ∀ tb e args s v u, (limb_1_1.after args s (.returned v) u = true ∧ limb_1_2.after args s (.returned v) u = true ∧ True) → FrameEnd s (.returned v) u (Jvm.fieldLocs frame_1_writes args s ++ Jvm.arrayLocs frame_1_arrays args s ++ Jvm.staticLocs frame_1_statics s) 24 128 → Post tb e args s (.returned v) u) :
    ArmFor flags0 classFile x code maxLocals ret World_1 tables_1 room_1 Calls_1 rest_1 Pre_1 Post := by
  intro l hfl _ _ p e ha hc hk s m args below hf hA hF happ hP
  obtain ⟨hcalls, hrest, hpre⟩ := hP
  obtain ⟨-, -, -, hnamed, -, -, -, hat⟩ := (Spec.applies_iff hf).mp happ
  obtain ⟨hg, hn⟩ := and_e (Cond.before_iff.mp (show (Jvm.Cond.and given_1 narrow_1).before args s = true from hpre))
  obtain ⟨gc, q0⟩ := and_e hg
  obtain ⟨ga0, q1⟩ := and_e q0
  obtain ⟨ga1, q2⟩ := and_e q1
  obtain ⟨ga2, q3⟩ := and_e q2
  obtain ⟨ga3, q4⟩ := and_e q3
  obtain ⟨w0, w1, w2, w3, w4, rfl⟩ : ∃ w0 w1 w2 w3 w4 : Value, args = #[w0, w1, w2, w3, w4] := by
    have hs : args.size = 5 := by simpa [Cond.value, given_1] using gc
    obtain ⟨L⟩ := args
    match L, hs with
    | [w0, w1, w2, w3, w4], _ => exact ⟨w0, w1, w2, w3, w4, rfl⟩
  have hw := fun d (hd : d ∈ tables_1) => atoms_spec (ws := Jvm.Cond.code x code maxLocals ret :: tables_1) hat d (List.mem_cons_of_mem _ hd)
  have hfit : Fit s := fun {y c} hc i hi => by
    obtain ⟨ha, rfl⟩ := Array.getElem?_eq_some_iff.mp hc
    have q := List.all_eq_true.mp ((Array.all_eq_true_iff_forall_mem.mp hF) _ (Array.getElem_mem ha)) i (List.mem_range.mpr hi)
    simpa [Array.getElem?_eq_getElem hi] using q
  obtain ⟨hsets, hown0⟩ := atoms_of _ (rest_1_c_eq ▸ (show rest_1_c.before _ s = true from hrest))
  have hr0 := Cond.before_iff.mp hown0
  obtain ⟨i0, ei0⟩ := isL_v ga0
  obtain rfl : w0 = (.long i0) := Option.some.inj ei0
  obtain ⟨i1, ei1⟩ := isL_v ga1
  obtain rfl : w1 = (.long i1) := Option.some.inj ei1
  obtain ⟨i2, ei2⟩ := is_v ga2
  obtain rfl : w2 = (.int i2) := Option.some.inj ei2
  obtain ⟨i3, ei3⟩ := is_v ga3
  obtain rfl : w3 = (.int i3) := Option.some.inj ei3
  obtain ⟨i4, ei4⟩ := is_v q4
  obtain rfl : w4 = (.int i4) := Option.some.inj ei4
  have nS := not_v (Cond.before_iff.mp (hsets _ (List.mem_of_getElem? (i := 2) rfl)))
  obtain ⟨zS, eS⟩ := is_v (Cond.before_iff.mp (hsets _ (List.mem_of_getElem? (i := 1) rfl)))
  have S0 : Sta s s.heap "java/lang/String" "COMPACT_STRINGS" "Z" (.int zS) := Sta.start eS (Or.inl (hsets _ (List.mem_of_getElem? (i := 0) rfl)))
  have P0 : ¬ (zS = (0 : Int32)) := gotF (Cond.eq_ints eS (Term.int_eval (0))) nS
  obtain ⟨n, o, h1, h2, h3, _, L, rfl, ⟨N, -, rfl⟩, hq⟩ := rm0 l s _ hw tables_1 i0 i1 i2 i3 i4 zS s.heap s.heap.size (Old.start s) S0 P0 p e ha hc hk s m _ below hf ((Spec.applies_iff_loose hf).mp happ).1 ⟨rfl, State.Warmed39.refl s, rfl⟩ trivial
  refine ⟨n, _, h1, h2, h3, hpost _ _ _ _ _ _ ⟨Cond.after_iff.mpr rfl, Cond.after_iff.mpr (eq_i res_at (Term.int_eval (1)) rfl), trivial⟩ ⟨hq.1, hq.2.1, (hq.2.2.sift fun y hy => Or.inr (N y hy)).mono (by decide) (by decide)⟩⟩
theorem main_1_1 : Claimed_1_1 := comes_1 fun _ _ _ _ _ _ h hF => ⟨h.1, hF⟩
theorem main_1_2 : Claimed_1_2 := comes_1 fun _ _ _ _ _ _ h hF => ⟨h.2.1, hF⟩
end Jvm.Pilot.@@N@@
namespace Jvm.Pilot.@@N@@
open Jvm Jvm.ClassFile Sem Op Lib Jvm.Free Jvm.Stand Jvm.Pilot.@@N@@.Jvm.D
/-! MADE BY PROGRAM (witnessworld.py) out of the Statement's table words and the real class files: 22 classes; the members and pool entries that the words name. The judged class is class 1, her method 1. -/
namespace start1
open Jvm.ClassFile
def u (s : String) : CpInfo := .utf8 (stringToUtf16 s)
/-- a pool by its gaps: so many unusable entries, then the entry; so many at the end -/
def gap : Nat → List CpInfo → List CpInfo
  | 0, r => r
  | n + 1, r => .unusable :: gap n r
def poolList (es : List (Nat × CpInfo)) (last : Nat) : List CpInfo := es.foldr (fun e r => gap e.1 (e.2 :: r)) (gap last [])
def pool (es : List (Nat × CpInfo)) (last : Nat) : Array CpInfo := ⟨poolList es last⟩
def fileOf (pool : Array CpInfo) (this : Nat) (attrs : Array Attribute := #[]) (ms : Array MethodInfo := #[]) (fl : Nat := 33) (sup : Nat := 0) (ifs : Array Nat := #[]) (fds : Array FieldInfo := #[]) : ClassFile where
  minorVersion := 0
  majorVersion := 65
  constantPool := pool
  accessFlags := fl
  thisClass := this
  superClass := sup
  interfaces := ifs
  fields := fds
  methods := ms
  attributes := attrs
def plain (name : String) (sup : Option ClassId) : Class where
  name := name
  kind := .ordinary
  loader := none
  accessFlags := 33
  super := sup
  interfaces := #[]
  cf := none
  fields := #[]
  methods := #[]
  instanceTypes := #[]
  staticTypes := #[]
  resolved := #[]
  callSites := []
  init := .initialized
  statics := none
  mirror := none

def pool0 : Array CpInfo := pool [(5, u "<init>"), (0, u "()V"), (1, .class_ 10), (1, u "java/lang/Object")] 113

def k0c0 : Code := { maxStack := 0, maxLocals := 1, code := object_method_1_code, exceptionTable := #[], attributes := #[] }
def k0m0 : Method := { name := "<init>", desc := "()V", sig := { parameters := [], returnType := none }, accessFlags := 1, code := some k0c0 }
/-- java/lang/Object -/
def k0 : Class := { plain "java/lang/Object" none with
  accessFlags := 33
  interfaces := #[]
  cf := some (fileOf pool0 8 #[] #[{ accessFlags := 1, nameIndex := 5, descriptorIndex := 6, attributes := #[] }] 33 0 #[] #[])
  fields := #[]
  methods := #[k0m0]
  instanceTypes := #[]
  staticTypes := #[]
  resolved := Array.replicate 124 none
  statics := none }

def pool1 : Array CpInfo := pool [(2, .class_ 4), (1, u "java/lang/Object"), (0, u "<init>"), (0, u "()V"), (0, .class_ 8), (0, u "java/lang/String"), (0, .methodref 7 10), (0, .nameAndType 5 11), (0, u "([C)V"), (0, .class_ 13), (0, u "com/example/fence/fence/client/Grant"), (0, .methodref 12 15), (0, .nameAndType 5 16), (0, u "(Ljava/lang/String;Ljava/lang/String;Ljava/lang/String;J)V"), (0, .class_ 18), (0, u "com/example/fence/fence/client/LockStatus"), (0, .methodref 17 20), (0, .nameAndType 5 21), (0, u "(Ljava/lang/String;Lcom/example/fence/fence/client/Grant;IJ)V"), (0, .methodref 17 23), (0, .nameAndType 24 25), (0, u "token"), (0, u "()J"), (0, .class_ 27), (0, u "com/example/fence/fence/client/LockStatusTokenPinLaw"), (2, u "law"), (0, u "(JJIII)Z")] 5

def k1m0 : Method := { name := "<init>", desc := "()V", sig := { parameters := [], returnType := none }, accessFlags := 1, code := none }
def k1c1 : Code := { maxStack := 7, maxLocals := 16, code := code, exceptionTable := #[], attributes := #[] }
def k1m1 : Method := { name := "law", desc := "(JJIII)Z", sig := { parameters := [.long, .long, .int, .int, .int], returnType := some .boolean }, accessFlags := 9, code := some k1c1 }
/-- com/example/fence/fence/client/LockStatusTokenPinLaw -/
def k1 : Class := { plain "com/example/fence/fence/client/LockStatusTokenPinLaw" (some 0) with
  accessFlags := 49
  interfaces := #[]
  cf := some (fileOf pool1 26 #[] #[{ accessFlags := 1, nameIndex := 5, descriptorIndex := 6, attributes := #[] }, { accessFlags := 9, nameIndex := 30, descriptorIndex := 31, attributes := #[] }] 49 2 #[] #[])
  fields := #[]
  methods := #[k1m0, k1m1]
  instanceTypes := #[]
  staticTypes := #[]
  resolved := Array.replicate 37 none
  statics := none }

def pool2 : Array CpInfo := pool [(1, .class_ 2), (0, u "java/io/Serializable"), (0, .class_ 4), (0, u "java/lang/Object")] 2

/-- java/io/Serializable -/
def k2 : Class := { plain "java/io/Serializable" (some 0) with
  accessFlags := 1537
  interfaces := #[]
  cf := some (fileOf pool2 1 #[] #[] 1537 3 #[] #[])
  fields := #[]
  methods := #[]
  instanceTypes := #[]
  staticTypes := #[]
  resolved := Array.replicate 7 none
  statics := none }

def pool3 : Array CpInfo := pool [(1, .class_ 2), (0, u "java/lang/Comparable"), (0, .class_ 4), (0, u "java/lang/Object")] 7

/-- java/lang/Comparable -/
def k3 : Class := { plain "java/lang/Comparable" (some 0) with
  accessFlags := 1537
  interfaces := #[]
  cf := some (fileOf pool3 1 #[] #[] 1537 3 #[] #[])
  fields := #[]
  methods := #[]
  instanceTypes := #[]
  staticTypes := #[]
  resolved := Array.replicate 12 none
  statics := none }

def pool4 : Array CpInfo := pool [(2, .class_ 4), (1, u "java/lang/CharSequence"), (42, .class_ 48), (0, u "java/lang/CharSequence$1CodePointIterator"), (10, .class_ 60), (0, u "java/lang/CharSequence$1CharIterator"), (5, .class_ 67), (0, u "java/lang/Object")] 63

/-- java/lang/CharSequence -/
def k4 : Class := { plain "java/lang/CharSequence" (some 0) with
  accessFlags := 1537
  interfaces := #[]
  cf := some (fileOf pool4 2 #[.nestMembers #[47, 59]] #[] 1537 66 #[] #[])
  fields := #[]
  methods := #[]
  instanceTypes := #[]
  staticTypes := #[]
  resolved := Array.replicate 131 none
  statics := none }

def pool5 : Array CpInfo := pool [(1, .class_ 2), (0, u "java/lang/constant/Constable"), (0, .class_ 4), (0, u "java/lang/Object")] 6

/-- java/lang/constant/Constable -/
def k5 : Class := { plain "java/lang/constant/Constable" (some 0) with
  accessFlags := 1537
  interfaces := #[]
  cf := some (fileOf pool5 1 #[] #[] 1537 3 #[] #[])
  fields := #[]
  methods := #[]
  instanceTypes := #[]
  staticTypes := #[]
  resolved := Array.replicate 11 none
  statics := none }

def pool6 : Array CpInfo := pool [(1, .class_ 2), (0, u "java/lang/constant/ConstantDesc"), (0, .class_ 4), (0, u "java/lang/Object")] 32

/-- java/lang/constant/ConstantDesc -/
def k6 : Class := { plain "java/lang/constant/ConstantDesc" (some 0) with
  accessFlags := 1537
  interfaces := #[]
  cf := some (fileOf pool6 1 #[] #[] 1537 3 #[] #[])
  fields := #[]
  methods := #[]
  instanceTypes := #[]
  staticTypes := #[]
  resolved := Array.replicate 37 none
  statics := none }

def pool7 : Array CpInfo := pool [(1, .methodref 2 3), (0, .class_ 4), (0, .nameAndType 5 6), (0, u "java/lang/Object"), (0, u "<init>"), (0, u "()V"), (2, .fieldref 10 11), (0, .class_ 12), (0, .nameAndType 13 14), (0, u "java/lang/String"), (0, u "value"), (0, u "[B"), (0, .fieldref 10 16), (0, .nameAndType 17 18), (0, u "coder"), (0, u "B"), (2, u "hash"), (0, u "I"), (2, u "hashIsZero"), (0, u "Z"), (0, .methodref 10 28), (0, .nameAndType 5 29), (0, u "([CIILjava/lang/Void;)V"), (8, .fieldref 10 39), (0, .nameAndType 40 26), (0, u "COMPACT_STRINGS"), (1, .class_ 44), (1, u "java/lang/StringUTF16"), (0, u "compress"), (1, .methodref 42 48), (0, .nameAndType 49 50), (0, u "coderFromArrayLen"), (0, u "([BI)B"), (126, .methodref 42 178), (0, .nameAndType 45 179), (0, u "([CII)[B"), (395, .class_ 576), (0, u "java/lang/CharSequence"), (22, u "CASE_INSENSITIVE_ORDER"), (0, u "Ljava/util/Comparator;"), (409, u "([C)V"), (90, u "serialPersistentFields"), (0, u "[Ljava/io/ObjectStreamField;"), (0, .class_ 1104), (0, u "java/lang/String$CaseInsensitiveComparator"), (1, .class_ 1107), (0, u "java/io/Serializable"), (0, .class_ 1109), (0, u "java/lang/Comparable"), (0, .class_ 1111), (0, u "java/lang/constant/Constable"), (0, .class_ 1113), (0, u "java/lang/constant/ConstantDesc"), (2, u "serialVersionUID"), (0, u "J"), (3, u "REPL"), (0, u "C"), (2, u "LATIN1"), (1, u "UTF16")] 323

def k7m0 : Method := { name := "<init>", desc := "()V", sig := { parameters := [], returnType := none }, accessFlags := 1, code := none }
def k7c1 : Code := { maxStack := 5, maxLocals := 2, code := jdk_42_method_3_code, exceptionTable := #[], attributes := #[] }
def k7m1 : Method := { name := "<init>", desc := "([C)V", sig := { parameters := [(.array .char)], returnType := none }, accessFlags := 1, code := some k7c1 }
def k7c2 : Code := { maxStack := 4, maxLocals := 6, code := jdk_42_method_149_code, exceptionTable := #[], attributes := #[] }
def k7m2 : Method := { name := "<init>", desc := "([CIILjava/lang/Void;)V", sig := { parameters := [(.array .char), .int, .int, (.object "java/lang/Void")], returnType := none }, accessFlags := 2, code := some k7c2 }
/-- java/lang/String -/
def k7 : Class := { plain "java/lang/String" (some 0) with
  accessFlags := 49
  interfaces := #[2, 3, 4, 5, 6]
  cf := some (fileOf pool7 10 #[.nestMembers #[1103]] #[{ accessFlags := 1, nameIndex := 5, descriptorIndex := 6, attributes := #[] }, { accessFlags := 1, nameIndex := 5, descriptorIndex := 1010, attributes := #[] }, { accessFlags := 2, nameIndex := 5, descriptorIndex := 29, attributes := #[] }] 49 2 #[1106, 1108, 575, 1110, 1112] #[{ accessFlags := 18, nameIndex := 13, descriptorIndex := 14, attributes := #[] }, { accessFlags := 18, nameIndex := 17, descriptorIndex := 18, attributes := #[] }, { accessFlags := 2, nameIndex := 21, descriptorIndex := 22, attributes := #[] }, { accessFlags := 2, nameIndex := 25, descriptorIndex := 26, attributes := #[] }, { accessFlags := 26, nameIndex := 1116, descriptorIndex := 1117, attributes := #[] }, { accessFlags := 24, nameIndex := 40, descriptorIndex := 26, attributes := #[] }, { accessFlags := 26, nameIndex := 1101, descriptorIndex := 1102, attributes := #[] }, { accessFlags := 26, nameIndex := 1121, descriptorIndex := 1122, attributes := #[] }, { accessFlags := 25, nameIndex := 599, descriptorIndex := 600, attributes := #[] }, { accessFlags := 24, nameIndex := 1125, descriptorIndex := 18, attributes := #[] }, { accessFlags := 24, nameIndex := 1127, descriptorIndex := 18, attributes := #[] }])
  fields := #[{ name := "value", type := (.array .byte), accessFlags := 18, slot := 0, constantValue := 0 }, { name := "coder", type := .byte, accessFlags := 18, slot := 1, constantValue := 0 }, { name := "hash", type := .int, accessFlags := 2, slot := 2, constantValue := 0 }, { name := "hashIsZero", type := .boolean, accessFlags := 2, slot := 3, constantValue := 0 }, { name := "serialVersionUID", type := .long, accessFlags := 26, slot := 0, constantValue := 0 }, { name := "COMPACT_STRINGS", type := .boolean, accessFlags := 24, slot := 1, constantValue := 0 }, { name := "serialPersistentFields", type := (.array (.object "java/io/ObjectStreamField")), accessFlags := 26, slot := 2, constantValue := 0 }, { name := "REPL", type := .char, accessFlags := 26, slot := 3, constantValue := 0 }, { name := "CASE_INSENSITIVE_ORDER", type := (.object "java/util/Comparator"), accessFlags := 25, slot := 4, constantValue := 0 }, { name := "LATIN1", type := .byte, accessFlags := 24, slot := 5, constantValue := 0 }, { name := "UTF16", type := .byte, accessFlags := 24, slot := 6, constantValue := 0 }]
  methods := #[k7m0, k7m1, k7m2]
  instanceTypes := #[(.array .byte), .byte, .int, .boolean]
  staticTypes := #[.long, .boolean, (.array (.object "java/io/ObjectStreamField")), .char, (.object "java/util/Comparator"), .byte, .byte]
  resolved := Array.replicate 1451 none
  statics := some 0 }

def pool8 : Array CpInfo := pool [(6, .class_ 8), (1, u "java/lang/Object"), (0, u "<init>"), (0, u "()V"), (1, .class_ 14), (1, u "java/lang/StringUTF16"), (31, u "$assertionsDisabled"), (0, u "Z"), (13, u "HI_BYTE_SHIFT"), (0, u "I"), (2, u "LO_BYTE_SHIFT"), (49, .methodref 12 116), (0, .nameAndType 117 118), (0, u "compress"), (0, u "([CI[BII)I"), (3, u "([CII)[B"), (138, u "coderFromArrayLen"), (0, u "([BI)B"), (106, .class_ 371), (1, u "java/lang/StringUTF16$LinesSpliterator"), (58, u "MAX_LENGTH"), (196, .class_ 628), (0, u "java/lang/StringUTF16$CodePointsSpliterator"), (0, .class_ 630), (0, u "java/lang/StringUTF16$CharsSpliterator")] 4

def k8m0 : Method := { name := "<init>", desc := "()V", sig := { parameters := [], returnType := none }, accessFlags := 0, code := none }
def k8c1 : Code := { maxStack := 2, maxLocals := 2, code := jdk_52_method_15_code, exceptionTable := #[], attributes := #[] }
def k8m1 : Method := { name := "coderFromArrayLen", desc := "([BI)B", sig := { parameters := [(.array .byte), .int], returnType := some .byte }, accessFlags := 8, code := some k8c1 }
def k8c2 : Code := { maxStack := 5, maxLocals := 6, code := jdk_52_method_16_code, exceptionTable := #[], attributes := #[] }
def k8m2 : Method := { name := "compress", desc := "([CII)[B", sig := { parameters := [(.array .char), .int, .int], returnType := some (.array .byte) }, accessFlags := 9, code := some k8c2 }
def k8c3 : Code := { maxStack := 3, maxLocals := 7, code := jdk_52_method_21_code, exceptionTable := #[], attributes := #[] }
def k8m3 : Method := { name := "compress", desc := "([CI[BII)I", sig := { parameters := [(.array .char), .int, (.array .byte), .int, .int], returnType := some .int }, accessFlags := 9, code := some k8c3 }
/-- java/lang/StringUTF16 -/
def k8 : Class := { plain "java/lang/StringUTF16" (some 0) with
  accessFlags := 48
  interfaces := #[]
  cf := some (fileOf pool8 12 #[.nestMembers #[627, 629, 369]] #[{ accessFlags := 0, nameIndex := 9, descriptorIndex := 10, attributes := #[] }, { accessFlags := 8, nameIndex := 261, descriptorIndex := 262, attributes := #[] }, { accessFlags := 9, nameIndex := 117, descriptorIndex := 122, attributes := #[] }, { accessFlags := 9, nameIndex := 117, descriptorIndex := 118, attributes := #[] }] 48 6 #[] #[{ accessFlags := 26, nameIndex := 61, descriptorIndex := 62, attributes := #[] }, { accessFlags := 26, nameIndex := 65, descriptorIndex := 62, attributes := #[] }, { accessFlags := 24, nameIndex := 430, descriptorIndex := 62, attributes := #[] }, { accessFlags := 4120, nameIndex := 46, descriptorIndex := 47, attributes := #[] }])
  fields := #[{ name := "HI_BYTE_SHIFT", type := .int, accessFlags := 26, slot := 0, constantValue := 0 }, { name := "LO_BYTE_SHIFT", type := .int, accessFlags := 26, slot := 1, constantValue := 0 }, { name := "MAX_LENGTH", type := .int, accessFlags := 24, slot := 2, constantValue := 0 }, { name := "$assertionsDisabled", type := .boolean, accessFlags := 4120, slot := 3, constantValue := 0 }]
  methods := #[k8m0, k8m1, k8m2, k8m3]
  instanceTypes := #[]
  staticTypes := #[.int, .int, .int, .boolean]
  resolved := Array.replicate 635 none
  statics := none }

def pool9 : Array CpInfo := pool [(1, .methodref 2 3), (0, .class_ 4), (0, .nameAndType 5 6), (0, u "java/lang/Object"), (0, u "<init>"), (0, u "()V"), (0, .class_ 8), (0, u "java/lang/Record")] 13

def k9c0 : Code := { maxStack := 1, maxLocals := 1, code := jdk_30_method_1_code, exceptionTable := #[], attributes := #[] }
def k9m0 : Method := { name := "<init>", desc := "()V", sig := { parameters := [], returnType := none }, accessFlags := 4, code := some k9c0 }
/-- java/lang/Record -/
def k9 : Class := { plain "java/lang/Record" (some 0) with
  accessFlags := 1057
  interfaces := #[]
  cf := some (fileOf pool9 7 #[] #[{ accessFlags := 4, nameIndex := 5, descriptorIndex := 6, attributes := #[] }] 1057 2 #[] #[])
  fields := #[]
  methods := #[k9m0]
  instanceTypes := #[]
  staticTypes := #[]
  resolved := Array.replicate 22 none
  statics := none }

def pool10 : Array CpInfo := pool [(1, .methodref 2 3), (0, .class_ 4), (0, .nameAndType 5 6), (0, u "java/lang/Record"), (0, u "<init>"), (0, u "()V"), (0, .fieldref 8 9), (0, .class_ 10), (0, .nameAndType 11 12), (0, u "com/example/fence/fence/client/Grant"), (0, u "lock"), (0, u "Ljava/lang/String;"), (0, .fieldref 8 14), (0, .nameAndType 15 12), (0, u "session"), (0, .fieldref 8 17), (0, .nameAndType 18 12), (0, u "owner"), (0, .fieldref 8 20), (0, .nameAndType 21 22), (0, u "token"), (0, u "J"), (12, u "(Ljava/lang/String;Ljava/lang/String;Ljava/lang/String;J)V"), (6, u "()J")] 23

def k10c0 : Code := { maxStack := 3, maxLocals := 6, code := prog_4_method_1_code, exceptionTable := #[], attributes := #[] }
def k10m0 : Method := { name := "<init>", desc := "(Ljava/lang/String;Ljava/lang/String;Ljava/lang/String;J)V", sig := { parameters := [(.object "java/lang/String"), (.object "java/lang/String"), (.object "java/lang/String"), .long], returnType := none }, accessFlags := 1, code := some k10c0 }
def k10c1 : Code := { maxStack := 2, maxLocals := 1, code := prog_4_method_8_code, exceptionTable := #[], attributes := #[] }
def k10m1 : Method := { name := "token", desc := "()J", sig := { parameters := [], returnType := some .long }, accessFlags := 1, code := some k10c1 }
/-- com/example/fence/fence/client/Grant -/
def k10 : Class := { plain "com/example/fence/fence/client/Grant" (some 9) with
  accessFlags := 49
  interfaces := #[]
  cf := some (fileOf pool10 8 #[] #[{ accessFlags := 1, nameIndex := 5, descriptorIndex := 35, attributes := #[] }, { accessFlags := 1, nameIndex := 21, descriptorIndex := 42, attributes := #[] }] 49 2 #[] #[{ accessFlags := 18, nameIndex := 11, descriptorIndex := 12, attributes := #[] }, { accessFlags := 18, nameIndex := 15, descriptorIndex := 12, attributes := #[] }, { accessFlags := 18, nameIndex := 18, descriptorIndex := 12, attributes := #[] }, { accessFlags := 18, nameIndex := 21, descriptorIndex := 22, attributes := #[] }])
  fields := #[{ name := "lock", type := (.object "java/lang/String"), accessFlags := 18, slot := 0, constantValue := 0 }, { name := "session", type := (.object "java/lang/String"), accessFlags := 18, slot := 1, constantValue := 0 }, { name := "owner", type := (.object "java/lang/String"), accessFlags := 18, slot := 2, constantValue := 0 }, { name := "token", type := .long, accessFlags := 18, slot := 3, constantValue := 0 }]
  methods := #[k10m0, k10m1]
  instanceTypes := #[(.object "java/lang/String"), (.object "java/lang/String"), (.object "java/lang/String"), .long]
  staticTypes := #[]
  resolved := Array.replicate 66 none
  statics := none }

def pool11 : Array CpInfo := pool [(1, .methodref 2 3), (0, .class_ 4), (0, .nameAndType 5 6), (0, u "java/lang/Record"), (0, u "<init>"), (0, u "()V"), (0, .fieldref 8 9), (0, .class_ 10), (0, .nameAndType 11 12), (0, u "com/example/fence/fence/client/LockStatus"), (0, u "lock"), (0, u "Ljava/lang/String;"), (0, .fieldref 8 14), (0, .nameAndType 15 16), (0, u "holder"), (0, u "Lcom/example/fence/fence/client/Grant;"), (0, .fieldref 8 18), (0, .nameAndType 19 20), (0, u "waiters"), (0, u "I"), (0, .fieldref 8 22), (0, .nameAndType 23 24), (0, u "lastToken"), (0, u "J"), (3, .class_ 30), (1, u "com/example/fence/fence/client/Grant"), (2, .methodref 28 34), (0, .nameAndType 35 36), (0, u "token"), (0, u "()J"), (12, u "(Ljava/lang/String;Lcom/example/fence/fence/client/Grant;IJ)V")] 32

def k11c0 : Code := { maxStack := 3, maxLocals := 6, code := prog_7_method_1_code, exceptionTable := #[], attributes := #[] }
def k11m0 : Method := { name := "<init>", desc := "(Ljava/lang/String;Lcom/example/fence/fence/client/Grant;IJ)V", sig := { parameters := [(.object "java/lang/String"), (.object "com/example/fence/fence/client/Grant"), .int, .long], returnType := none }, accessFlags := 1, code := some k11c0 }
def k11c1 : Code := { maxStack := 2, maxLocals := 1, code := prog_7_method_3_code, exceptionTable := #[], attributes := #[] }
def k11m1 : Method := { name := "token", desc := "()J", sig := { parameters := [], returnType := some .long }, accessFlags := 1, code := some k11c1 }
/-- com/example/fence/fence/client/LockStatus -/
def k11 : Class := { plain "com/example/fence/fence/client/LockStatus" (some 9) with
  accessFlags := 49
  interfaces := #[]
  cf := some (fileOf pool11 8 #[] #[{ accessFlags := 1, nameIndex := 5, descriptorIndex := 49, attributes := #[] }, { accessFlags := 1, nameIndex := 35, descriptorIndex := 36, attributes := #[] }] 49 2 #[] #[{ accessFlags := 18, nameIndex := 11, descriptorIndex := 12, attributes := #[] }, { accessFlags := 18, nameIndex := 15, descriptorIndex := 16, attributes := #[] }, { accessFlags := 18, nameIndex := 19, descriptorIndex := 20, attributes := #[] }, { accessFlags := 18, nameIndex := 23, descriptorIndex := 24, attributes := #[] }])
  fields := #[{ name := "lock", type := (.object "java/lang/String"), accessFlags := 18, slot := 0, constantValue := 0 }, { name := "holder", type := (.object "com/example/fence/fence/client/Grant"), accessFlags := 18, slot := 1, constantValue := 0 }, { name := "waiters", type := .int, accessFlags := 18, slot := 2, constantValue := 0 }, { name := "lastToken", type := .long, accessFlags := 18, slot := 3, constantValue := 0 }]
  methods := #[k11m0, k11m1]
  instanceTypes := #[(.object "java/lang/String"), (.object "com/example/fence/fence/client/Grant"), .int, .long]
  staticTypes := #[]
  resolved := Array.replicate 82 none
  statics := none }

def pool12 : Array CpInfo := pool [(4, .class_ 6), (1, u "java/lang/Object"), (0, u "<init>"), (0, u "()V"), (5, .class_ 16), (1, u "java/lang/StringLatin1"), (104, u "$assertionsDisabled"), (0, u "Z"), (98, .class_ 223), (1, u "java/lang/StringLatin1$LinesSpliterator"), (166, .class_ 391), (0, u "java/lang/StringLatin1$CharsSpliterator")] 3

def k12m0 : Method := { name := "<init>", desc := "()V", sig := { parameters := [], returnType := none }, accessFlags := 0, code := none }
/-- java/lang/StringLatin1 -/
def k12 : Class := { plain "java/lang/StringLatin1" (some 0) with
  accessFlags := 48
  interfaces := #[]
  cf := some (fileOf pool12 14 #[.nestMembers #[390, 221]] #[{ accessFlags := 0, nameIndex := 7, descriptorIndex := 8, attributes := #[] }] 48 4 #[] #[{ accessFlags := 4120, nameIndex := 121, descriptorIndex := 122, attributes := #[] }])
  fields := #[{ name := "$assertionsDisabled", type := .boolean, accessFlags := 4120, slot := 0, constantValue := 0 }]
  methods := #[k12m0]
  instanceTypes := #[]
  staticTypes := #[.boolean]
  resolved := Array.replicate 395 none
  statics := none }

def pool13 : Array CpInfo := pool [(2, .class_ 4), (1, u "java/lang/Object"), (0, u "<init>"), (0, u "()V"), (17, .class_ 26), (1, u "jdk/internal/util/Preconditions"), (28, .class_ 56), (0, u "jdk/internal/util/Preconditions$4"), (57, .class_ 115), (0, u "jdk/internal/util/Preconditions$1"), (7, u "SIOOBE_FORMATTER"), (0, u "Ljava/util/function/BiFunction;"), (0, .class_ 126), (0, u "jdk/internal/util/Preconditions$2"), (3, u "AIOOBE_FORMATTER"), (0, .class_ 132), (0, u "jdk/internal/util/Preconditions$3"), (3, u "IOOBE_FORMATTER")] 57

def k13m0 : Method := { name := "<init>", desc := "()V", sig := { parameters := [], returnType := none }, accessFlags := 1, code := none }
/-- jdk/internal/util/Preconditions -/
def k13 : Class := { plain "jdk/internal/util/Preconditions" (some 0) with
  accessFlags := 33
  interfaces := #[]
  cf := some (fileOf pool13 24 #[.nestMembers #[55, 131, 125, 114]] #[{ accessFlags := 1, nameIndex := 5, descriptorIndex := 6, attributes := #[] }] 33 2 #[] #[{ accessFlags := 25, nameIndex := 123, descriptorIndex := 124, attributes := #[] }, { accessFlags := 25, nameIndex := 130, descriptorIndex := 124, attributes := #[] }, { accessFlags := 25, nameIndex := 136, descriptorIndex := 124, attributes := #[] }])
  fields := #[{ name := "SIOOBE_FORMATTER", type := (.object "java/util/function/BiFunction"), accessFlags := 25, slot := 0, constantValue := 0 }, { name := "AIOOBE_FORMATTER", type := (.object "java/util/function/BiFunction"), accessFlags := 25, slot := 1, constantValue := 0 }, { name := "IOOBE_FORMATTER", type := (.object "java/util/function/BiFunction"), accessFlags := 25, slot := 2, constantValue := 0 }]
  methods := #[k13m0]
  instanceTypes := #[]
  staticTypes := #[(.object "java/util/function/BiFunction"), (.object "java/util/function/BiFunction"), (.object "java/util/function/BiFunction")]
  resolved := Array.replicate 194 none
  statics := some 1 }

def pool14 : Array CpInfo := pool [(9, u "<init>"), (6, .class_ 18), (1, u "java/lang/Object"), (0, u "()V"), (1, .class_ 23), (1, u "jdk/internal/util/ArraysSupport"), (0, u "LOG2_ARRAY_LONG_INDEX_SCALE"), (0, u "I"), (2, u "U"), (0, u "Ljdk/internal/misc/Unsafe;"), (8, u "BIG_ENDIAN"), (0, u "Z"), (8, u "LOG2_BYTE_BIT_SIZE"), (4, u "LOG2_ARRAY_INT_INDEX_SCALE"), (54, u "JLA"), (0, u "Ljdk/internal/access/JavaLangAccess;"), (11, u "LOG2_ARRAY_BOOLEAN_INDEX_SCALE"), (9, u "LOG2_ARRAY_BYTE_INDEX_SCALE"), (5, u "LOG2_ARRAY_CHAR_INDEX_SCALE"), (5, u "LOG2_ARRAY_SHORT_INDEX_SCALE"), (18, u "LOG2_ARRAY_FLOAT_INDEX_SCALE"), (24, u "LOG2_ARRAY_DOUBLE_INDEX_SCALE"), (89, u "T_BOOLEAN"), (2, u "T_CHAR"), (1, u "T_FLOAT"), (1, u "T_DOUBLE"), (1, u "T_BYTE"), (1, u "T_SHORT"), (1, u "T_INT"), (1, u "T_LONG"), (1, u "SOFT_MAX_ARRAY_LENGTH")] 83

def k14m0 : Method := { name := "<init>", desc := "()V", sig := { parameters := [], returnType := none }, accessFlags := 2, code := none }
/-- jdk/internal/util/ArraysSupport -/
def k14 : Class := { plain "jdk/internal/util/ArraysSupport" (some 0) with
  accessFlags := 33
  interfaces := #[]
  cf := some (fileOf pool14 21 #[] #[{ accessFlags := 2, nameIndex := 9, descriptorIndex := 19, attributes := #[] }] 33 16 #[] #[{ accessFlags := 24, nameIndex := 28, descriptorIndex := 29, attributes := #[] }, { accessFlags := 26, nameIndex := 38, descriptorIndex := 39, attributes := #[] }, { accessFlags := 25, nameIndex := 121, descriptorIndex := 25, attributes := #[] }, { accessFlags := 25, nameIndex := 131, descriptorIndex := 25, attributes := #[] }, { accessFlags := 25, nameIndex := 137, descriptorIndex := 25, attributes := #[] }, { accessFlags := 25, nameIndex := 143, descriptorIndex := 25, attributes := #[] }, { accessFlags := 25, nameIndex := 53, descriptorIndex := 25, attributes := #[] }, { accessFlags := 25, nameIndex := 24, descriptorIndex := 25, attributes := #[] }, { accessFlags := 25, nameIndex := 162, descriptorIndex := 25, attributes := #[] }, { accessFlags := 25, nameIndex := 187, descriptorIndex := 25, attributes := #[] }, { accessFlags := 26, nameIndex := 48, descriptorIndex := 25, attributes := #[] }, { accessFlags := 25, nameIndex := 277, descriptorIndex := 25, attributes := #[] }, { accessFlags := 25, nameIndex := 280, descriptorIndex := 25, attributes := #[] }, { accessFlags := 25, nameIndex := 282, descriptorIndex := 25, attributes := #[] }, { accessFlags := 25, nameIndex := 284, descriptorIndex := 25, attributes := #[] }, { accessFlags := 25, nameIndex := 286, descriptorIndex := 25, attributes := #[] }, { accessFlags := 25, nameIndex := 288, descriptorIndex := 25, attributes := #[] }, { accessFlags := 25, nameIndex := 290, descriptorIndex := 25, attributes := #[] }, { accessFlags := 25, nameIndex := 292, descriptorIndex := 25, attributes := #[] }, { accessFlags := 26, nameIndex := 108, descriptorIndex := 109, attributes := #[] }, { accessFlags := 25, nameIndex := 294, descriptorIndex := 25, attributes := #[] }])
  fields := #[{ name := "U", type := (.object "jdk/internal/misc/Unsafe"), accessFlags := 24, slot := 0, constantValue := 0 }, { name := "BIG_ENDIAN", type := .boolean, accessFlags := 26, slot := 1, constantValue := 0 }, { name := "LOG2_ARRAY_BOOLEAN_INDEX_SCALE", type := .int, accessFlags := 25, slot := 2, constantValue := 0 }, { name := "LOG2_ARRAY_BYTE_INDEX_SCALE", type := .int, accessFlags := 25, slot := 3, constantValue := 0 }, { name := "LOG2_ARRAY_CHAR_INDEX_SCALE", type := .int, accessFlags := 25, slot := 4, constantValue := 0 }, { name := "LOG2_ARRAY_SHORT_INDEX_SCALE", type := .int, accessFlags := 25, slot := 5, constantValue := 0 }, { name := "LOG2_ARRAY_INT_INDEX_SCALE", type := .int, accessFlags := 25, slot := 6, constantValue := 0 }, { name := "LOG2_ARRAY_LONG_INDEX_SCALE", type := .int, accessFlags := 25, slot := 7, constantValue := 0 }, { name := "LOG2_ARRAY_FLOAT_INDEX_SCALE", type := .int, accessFlags := 25, slot := 8, constantValue := 0 }, { name := "LOG2_ARRAY_DOUBLE_INDEX_SCALE", type := .int, accessFlags := 25, slot := 9, constantValue := 0 }, { name := "LOG2_BYTE_BIT_SIZE", type := .int, accessFlags := 26, slot := 10, constantValue := 0 }, { name := "T_BOOLEAN", type := .int, accessFlags := 25, slot := 11, constantValue := 0 }, { name := "T_CHAR", type := .int, accessFlags := 25, slot := 12, constantValue := 0 }, { name := "T_FLOAT", type := .int, accessFlags := 25, slot := 13, constantValue := 0 }, { name := "T_DOUBLE", type := .int, accessFlags := 25, slot := 14, constantValue := 0 }, { name := "T_BYTE", type := .int, accessFlags := 25, slot := 15, constantValue := 0 }, { name := "T_SHORT", type := .int, accessFlags := 25, slot := 16, constantValue := 0 }, { name := "T_INT", type := .int, accessFlags := 25, slot := 17, constantValue := 0 }, { name := "T_LONG", type := .int, accessFlags := 25, slot := 18, constantValue := 0 }, { name := "JLA", type := (.object "jdk/internal/access/JavaLangAccess"), accessFlags := 26, slot := 19, constantValue := 0 }, { name := "SOFT_MAX_ARRAY_LENGTH", type := .int, accessFlags := 25, slot := 20, constantValue := 0 }]
  methods := #[k14m0]
  instanceTypes := #[]
  staticTypes := #[(.object "jdk/internal/misc/Unsafe"), .boolean, .int, .int, .int, .int, .int, .int, .int, .int, .int, .int, .int, .int, .int, .int, .int, .int, .int, (.object "jdk/internal/access/JavaLangAccess"), .int]
  resolved := Array.replicate 378 none
  statics := none }

def pool15 : Array CpInfo := pool [(1, u "java/lang/Cloneable"), (0, .class_ 1), (0, u "java/lang/Object"), (0, .class_ 3)] 3

/-- java/lang/Cloneable -/
def k15 : Class := { plain "java/lang/Cloneable" (some 0) with
  accessFlags := 1537
  interfaces := #[]
  cf := some (fileOf pool15 2 #[] #[] 1537 4 #[] #[])
  fields := #[]
  methods := #[]
  instanceTypes := #[]
  staticTypes := #[]
  resolved := Array.replicate 8 none
  statics := none }

/-- the primitive byte -/
def k16 : Class := { plain "byte" none with kind := .primitive 'B', accessFlags := 0x411 }
/-- [B -/
def k17 : Class := { plain "[B" (some 0) with kind := .array 16 .byte, interfaces := #[15, 2], accessFlags := 1041 }

/-- the primitive char -/
def k18 : Class := { plain "char" none with kind := .primitive 'C', accessFlags := 0x411 }
/-- [C -/
def k19 : Class := { plain "[C" (some 0) with kind := .array 18 .char, interfaces := #[15, 2], accessFlags := 1041 }

/-- the primitive int -/
def k20 : Class := { plain "int" none with kind := .primitive 'I', accessFlags := 0x411 }
/-- [I -/
def k21 : Class := { plain "[I" (some 0) with kind := .array 20 .int, interfaces := #[15, 2], accessFlags := 1041 }

def heap : Heap := #[{ cls := 7, slots := #[.long 0, .int 1, .null, .int 0, .null, .int 0, .int 0], vm := .statics 7 },
  { cls := 13, slots := #[.null, .null, .null], vm := .statics 13 }]
def classes : Array Class := #[k0, k1, k2, k3, k4, k5, k6, k7, k8, k9, k10, k11, k12, k13, k14, k15, k16, k17, k18, k19, k20, k21]
def interned : List (Array UInt16 × Addr) := []
def slotsUsed : Nat := 10
def theMethod : MethodId := ⟨1, 1⟩
def args0 : Array Value := #[.long 5, .long 6, .int 1, .int 2, .int 3]
def aboutOver (below : List Frame) : State where
  vm := { classes := classes, interned := interned.toArray }
  heap := heap
  slotsUsed := slotsUsed
  threads := #[{ frames := .invoking theMethod args0 :: below }]
def below0 : List Frame := [.native { method := ⟨0, 0⟩, args := #[] }]
def about1 : State := aboutOver below0
def p0 : Program := .bare "" "" ""
def e0 : Env := launch0.env 0 0 0
theorem w_frames : about1.frames = Frame.invoking theMethod args0 :: below0 := rfl
set_option maxRecDepth 65536 in
theorem w_args : argsFit about1.vm theMethod args0 = true := by decide +kernel
set_option maxRecDepth 65536 in
theorem w_heap : heapFits about1 = true := by decide +kernel
set_option maxRecDepth 65536 in
theorem w_runnable : about1.curStatus? = some .runnable := by decide +kernel
set_option maxRecDepth 65536 in
theorem w_alone : about1.alone = true := by decide +kernel
set_option maxRecDepth 65536 in
theorem w_named : about1.methodNamed? x = some theMethod := by decide +kernel
set_option maxRecDepth 65536 in
theorem w_hears : about1.hears theMethod below0 = true := by decide +kernel
set_option maxRecDepth 65536 in
theorem w_ripe : about1.ripe theMethod args0 below0 = true := by decide +kernel
theorem w_running : about1.status = .running := rfl
set_option maxRecDepth 65536 in
theorem w_room : about1.hasRoom e0.platform room_1 = true :=
  launch0.hasRoom_least _ room_1 (by decide +kernel) (by decide +kernel) (by decide +kernel) (by decide +kernel) (by decide +kernel) (by decide +kernel)
theorem allAtoms_all (ts : List Jvm.Cond) (a : Array Jvm.Value) (st : Jvm.State) : (allAtoms ts).before a st = ts.all (fun c => c.before a st) := by
  induction ts with
  | nil => rfl
  | cons c t ih =>
    show (Jvm.Cond.and c (allAtoms t)).before a st = _
    rw [Jvm.Cond.before_and, ih, List.all_cons]
def words1 : List Jvm.Cond := Jvm.Cond.code x code maxLocals ret :: tables_1
/-- a 'code' word, met by the world's own term for the bytes: nothing is compared byte by byte -/
theorem code_word {y : MethodName} {bytes : ByteArray} {mx : Nat} {rt : Option FieldType} {a : Array Value} {s : State} {m : MethodId} {meth : Method} {c : Code} (h1 : s.methodNamed? y = some m) (h2 : s.vm.method? m = some meth) (h3 : meth.code = some c) (h4 : c.code = bytes)
    (h5 : (c.maxLocals == mx && c.exceptionTable.isEmpty && decide (c.maxStack ≤ mostOperands) && decide (meth.sig.returnType = rt) && !meth.locks && decide (parseMethodDescriptor y.desc = some meth.sig)) = true) : (Jvm.Cond.code y bytes mx rt).before a s = true := by
  simp only [Bool.and_eq_true, beq_iff_eq, Bool.not_eq_true', decide_eq_true_eq] at h5
  obtain ⟨⟨⟨⟨⟨g1, g2⟩, g3⟩, g4⟩, g5⟩, g6⟩ := h5
  simp [Cond.before, Cond.holds, Cond.value, h1, h2, h3, h4, g1, g2, g3, g4, g5, g6]
def isCode : Jvm.Cond → Bool
  | .code _ _ _ _ => true
  | _ => false
theorem all_split {L : List Jvm.Cond} {P : Jvm.Cond → Bool} (h1 : L.all (fun c => isCode c || P c) = true) (h2 : ∀ c ∈ L.filter isCode, P c = true) : L.all P = true := by
  refine List.all_eq_true.mpr fun c hc => ?_
  have h := List.all_eq_true.mp h1 c hc
  rcases Bool.eq_false_or_eq_true (isCode c) with hi | hi
  · exact h2 c (List.mem_filter.mpr ⟨hc, hi⟩)
  · simpa [hi] using h
set_option maxRecDepth 65536 in
theorem w_c0 : (Jvm.Cond.code x code maxLocals ret).before args0 about1 = true := code_word (m := ⟨1, 1⟩) (meth := k1m1) (c := k1c1) (by decide +kernel) rfl rfl rfl (by decide +kernel)
set_option maxRecDepth 65536 in
theorem w_c1 : (Jvm.Cond.code ({ cls := "java/lang/String", name := "<init>", desc := "([C)V" } : Jvm.MethodName) jdk_42_method_3_code (2 : Nat) (Option.none : Option Jvm.ClassFile.FieldType)).before args0 about1 = true := code_word (m := ⟨7, 1⟩) (meth := k7m1) (c := k7c1) (by decide +kernel) rfl rfl rfl (by decide +kernel)
set_option maxRecDepth 65536 in
theorem w_c2 : (Jvm.Cond.code ({ cls := "java/lang/String", name := "<init>", desc := "([CIILjava/lang/Void;)V" } : Jvm.MethodName) jdk_42_method_149_code (6 : Nat) (Option.none : Option Jvm.ClassFile.FieldType)).before args0 about1 = true := code_word (m := ⟨7, 2⟩) (meth := k7m2) (c := k7c2) (by decide +kernel) rfl rfl rfl (by decide +kernel)
set_option maxRecDepth 65536 in
theorem w_c3 : (Jvm.Cond.code ({ cls := "java/lang/Object", name := "<init>", desc := "()V" } : Jvm.MethodName) object_method_1_code (1 : Nat) (Option.none : Option Jvm.ClassFile.FieldType)).before args0 about1 = true := code_word (m := ⟨0, 0⟩) (meth := k0m0) (c := k0c0) (by decide +kernel) rfl rfl rfl (by decide +kernel)
set_option maxRecDepth 65536 in
theorem w_c4 : (Jvm.Cond.code ({ cls := "java/lang/StringUTF16", name := "compress", desc := "([CII)[B" } : Jvm.MethodName) jdk_52_method_16_code (6 : Nat) (Option.some (Jvm.ClassFile.FieldType.array Jvm.ClassFile.FieldType.byte))).before args0 about1 = true := code_word (m := ⟨8, 2⟩) (meth := k8m2) (c := k8c2) (by decide +kernel) rfl rfl rfl (by decide +kernel)
set_option maxRecDepth 65536 in
theorem w_c5 : (Jvm.Cond.code ({ cls := "java/lang/StringUTF16", name := "compress", desc := "([CI[BII)I" } : Jvm.MethodName) jdk_52_method_21_code (7 : Nat) (Option.some Jvm.ClassFile.FieldType.int)).before args0 about1 = true := code_word (m := ⟨8, 3⟩) (meth := k8m3) (c := k8c3) (by decide +kernel) rfl rfl rfl (by decide +kernel)
set_option maxRecDepth 65536 in
theorem w_c6 : (Jvm.Cond.code ({ cls := "java/lang/StringUTF16", name := "coderFromArrayLen", desc := "([BI)B" } : Jvm.MethodName) jdk_52_method_15_code (2 : Nat) (Option.some Jvm.ClassFile.FieldType.byte)).before args0 about1 = true := code_word (m := ⟨8, 1⟩) (meth := k8m1) (c := k8c1) (by decide +kernel) rfl rfl rfl (by decide +kernel)
set_option maxRecDepth 65536 in
theorem w_c7 : (Jvm.Cond.code ({ cls := "com/example/fence/fence/client/Grant", name := "<init>", desc := "(Ljava/lang/String;Ljava/lang/String;Ljava/lang/String;J)V" } : Jvm.MethodName) prog_4_method_1_code (6 : Nat) (Option.none : Option Jvm.ClassFile.FieldType)).before args0 about1 = true := code_word (m := ⟨10, 0⟩) (meth := k10m0) (c := k10c0) (by decide +kernel) rfl rfl rfl (by decide +kernel)
set_option maxRecDepth 65536 in
theorem w_c8 : (Jvm.Cond.code ({ cls := "java/lang/Record", name := "<init>", desc := "()V" } : Jvm.MethodName) jdk_30_method_1_code (1 : Nat) (Option.none : Option Jvm.ClassFile.FieldType)).before args0 about1 = true := code_word (m := ⟨9, 0⟩) (meth := k9m0) (c := k9c0) (by decide +kernel) rfl rfl rfl (by decide +kernel)
set_option maxRecDepth 65536 in
theorem w_c9 : (Jvm.Cond.code ({ cls := "com/example/fence/fence/client/LockStatus", name := "<init>", desc := "(Ljava/lang/String;Lcom/example/fence/fence/client/Grant;IJ)V" } : Jvm.MethodName) prog_7_method_1_code (6 : Nat) (Option.none : Option Jvm.ClassFile.FieldType)).before args0 about1 = true := code_word (m := ⟨11, 0⟩) (meth := k11m0) (c := k11c0) (by decide +kernel) rfl rfl rfl (by decide +kernel)
set_option maxRecDepth 65536 in
theorem w_c10 : (Jvm.Cond.code ({ cls := "com/example/fence/fence/client/LockStatus", name := "token", desc := "()J" } : Jvm.MethodName) prog_7_method_3_code (1 : Nat) (Option.some Jvm.ClassFile.FieldType.long)).before args0 about1 = true := code_word (m := ⟨11, 1⟩) (meth := k11m1) (c := k11c1) (by decide +kernel) rfl rfl rfl (by decide +kernel)
set_option maxRecDepth 65536 in
theorem w_c11 : (Jvm.Cond.code ({ cls := "com/example/fence/fence/client/Grant", name := "token", desc := "()J" } : Jvm.MethodName) prog_4_method_8_code (1 : Nat) (Option.some Jvm.ClassFile.FieldType.long)).before args0 about1 = true := code_word (m := ⟨10, 1⟩) (meth := k10m1) (c := k10c1) (by decide +kernel) rfl rfl rfl (by decide +kernel)
def codes1 : List Jvm.Cond := [Jvm.Cond.code x code maxLocals ret, Jvm.Cond.code ({ cls := "java/lang/String", name := "<init>", desc := "([C)V" } : Jvm.MethodName) jdk_42_method_3_code (2 : Nat) (Option.none : Option Jvm.ClassFile.FieldType), Jvm.Cond.code ({ cls := "java/lang/String", name := "<init>", desc := "([CIILjava/lang/Void;)V" } : Jvm.MethodName) jdk_42_method_149_code (6 : Nat) (Option.none : Option Jvm.ClassFile.FieldType), Jvm.Cond.code ({ cls := "java/lang/Object", name := "<init>", desc := "()V" } : Jvm.MethodName) object_method_1_code (1 : Nat) (Option.none : Option Jvm.ClassFile.FieldType), Jvm.Cond.code ({ cls := "java/lang/StringUTF16", name := "compress", desc := "([CII)[B" } : Jvm.MethodName) jdk_52_method_16_code (6 : Nat) (Option.some (Jvm.ClassFile.FieldType.array Jvm.ClassFile.FieldType.byte)), Jvm.Cond.code ({ cls := "java/lang/StringUTF16", name := "compress", desc := "([CI[BII)I" } : Jvm.MethodName) jdk_52_method_21_code (7 : Nat) (Option.some Jvm.ClassFile.FieldType.int), Jvm.Cond.code ({ cls := "java/lang/StringUTF16", name := "coderFromArrayLen", desc := "([BI)B" } : Jvm.MethodName) jdk_52_method_15_code (2 : Nat) (Option.some Jvm.ClassFile.FieldType.byte), Jvm.Cond.code ({ cls := "com/example/fence/fence/client/Grant", name := "<init>", desc := "(Ljava/lang/String;Ljava/lang/String;Ljava/lang/String;J)V" } : Jvm.MethodName) prog_4_method_1_code (6 : Nat) (Option.none : Option Jvm.ClassFile.FieldType), Jvm.Cond.code ({ cls := "java/lang/Record", name := "<init>", desc := "()V" } : Jvm.MethodName) jdk_30_method_1_code (1 : Nat) (Option.none : Option Jvm.ClassFile.FieldType), Jvm.Cond.code ({ cls := "com/example/fence/fence/client/LockStatus", name := "<init>", desc := "(Ljava/lang/String;Lcom/example/fence/fence/client/Grant;IJ)V" } : Jvm.MethodName) prog_7_method_1_code (6 : Nat) (Option.none : Option Jvm.ClassFile.FieldType), Jvm.Cond.code ({ cls := "com/example/fence/fence/client/LockStatus", name := "token", desc := "()J" } : Jvm.MethodName) prog_7_method_3_code (1 : Nat) (Option.some Jvm.ClassFile.FieldType.long), Jvm.Cond.code ({ cls := "com/example/fence/fence/client/Grant", name := "token", desc := "()J" } : Jvm.MethodName) prog_4_method_8_code (1 : Nat) (Option.some Jvm.ClassFile.FieldType.long)]
set_option maxRecDepth 65536 in
theorem codes_eq : words1.filter isCode = codes1 := rfl
theorem w_codes : ∀ c ∈ words1.filter isCode, c.before args0 about1 = true := by
  rw [codes_eq]
  intro c hc
  simp only [codes1, List.mem_cons, List.not_mem_nil, or_false] at hc
  rcases hc with rfl | rfl | rfl | rfl | rfl | rfl | rfl | rfl | rfl | rfl | rfl | rfl
  · exact w_c0
  · exact w_c1
  · exact w_c2
  · exact w_c3
  · exact w_c4
  · exact w_c5
  · exact w_c6
  · exact w_c7
  · exact w_c8
  · exact w_c9
  · exact w_c10
  · exact w_c11
set_option maxRecDepth 65536 in
theorem w_t1 : (words1.take 24).all (fun c => isCode c || c.before args0 about1) = true := by decide +kernel
set_option maxRecDepth 65536 in
theorem w_t2 : ((words1.drop 24).take 24).all (fun c => isCode c || c.before args0 about1) = true := by decide +kernel
set_option maxRecDepth 65536 in
theorem w_t3 : (((words1.drop 24).drop 24).take 24).all (fun c => isCode c || c.before args0 about1) = true := by decide +kernel
set_option maxRecDepth 65536 in
theorem w_t4 : (((words1.drop 24).drop 24).drop 24).all (fun c => isCode c || c.before args0 about1) = true := by decide +kernel
theorem w_tables : (allAtoms (Jvm.Cond.code x code maxLocals ret :: tables_1)).before args0 about1 = true := by
  rw [allAtoms_all]
  show words1.all (fun c => c.before args0 about1) = true
  refine all_split ?_ w_codes
  rw [← List.take_append_drop 24 words1, List.all_append, w_t1, ← List.take_append_drop 24 (words1.drop 24), List.all_append, w_t2, ← List.take_append_drop 24 ((words1.drop 24).drop 24), List.all_append, w_t3, w_t4]
  rfl
set_option maxRecDepth 65536 in
theorem w_rest : rest_1_c.before args0 about1 = true := by decide +kernel
set_option maxRecDepth 65536 in
theorem w_case : (Jvm.Cond.and given_1 narrow_1).before args0 about1 = true := by decide +kernel
theorem w_applies : (headSpec (Jvm.Cond.code x code maxLocals ret :: tables_1) room_1).applies x e0.platform about1 = true :=
  (Spec.applies_iff w_frames).mpr ⟨w_running, w_runnable, w_alone, w_named, w_hears, w_ripe, w_room, w_tables⟩
theorem atStart : AtStart classFile x code maxLocals ret World_1 tables_1 room_1 Calls_1 rest_1 Pre_1 launch0 p0 e0 about1 theMethod args0 below0 :=
  ⟨lists_1, trivial, launch0.admits_env _ _ _, launch0.least_env, fairChoices_fair.cas, fairChoices_fair.clock, w_frames, w_args, w_heap, w_applies, trivial, w_rest, w_case⟩
end start1
theorem witness_1 : WitnessClaimed_1 := ⟨start1.p0, start1.e0, start1.about1, start1.theMethod, start1.args0, start1.below0, start1.atStart⟩
end Jvm.Pilot.@@N@@
