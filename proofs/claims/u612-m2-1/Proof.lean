import JvmDerived
import JvmDerived.Pilot.@@N@@Statement
import JvmDerived.Pilot.@@N@@Code
set_option linter.unusedVariables false
set_option linter.unusedSimpArgs false
namespace Jvm.RoadKit
open Sem ClassFile Op Lib Jvm.Stand Jvm.Free Jvm.LawKit
section New
variable {p : Program} {l : Launch} {e : Env} {R : Room} {s : State} {m : MethodId} {args : Array Value} {below : List Frame} {meth : Method} {c : Code} {T : State} {locs : List Loc} {cells slots : Nat}
theorem retI (X : Stand p l e R s m args below meth c T locs cells slots) (hx : p.tables.exec = Jvm.exec) {pc : Nat} {Ls : Array Slot} {z : Int32} {rest : List Value} (hret : meth.sig.returnType = some .int) (hd : decode c.code pc = .ok (.ireturn, 1)) {fs : List Frame}
    (hl : ∀ (f : JFrame) (acts : List Action), f.method = m → f.locked = none → f.entered = [] → (doReturn e (T.setTop f) acts (some (.int z))).1 = T.setFrames fs) : Steps p.tables e below (T.setTop (mkF m pc Ls (.int z :: rest))) (T.setFrames fs) := by
  have hm' : T.vm.method? m = some meth := X.method'
  have hn : narrow .int (.int z) = .int z := rfl
  show Steps p.tables e below (T.setTop { method := m, pc := pc, locals := Ls, stack := _ :: rest, locked := none }) _
  jvm_step X.here [X.here.top, hx, hd, hm', hret, hn]
  first | (intro acts; rw [hl _ acts rfl rfl rfl]) | rw [hl _ _ rfl rfl rfl]
  exact Steps.refl _
end New
end Jvm.RoadKit
namespace Jvm.Pilot.@@N@@.Own
open Jvm Jvm.ClassFile Sem Op Lib Jvm.Free Jvm.Stand Jvm.LawKit Jvm.RoadKit Bundle
section Layer
variable {p : Program} {l : Launch} {e : Env} {R : Room} {s : State} {m : MethodId} {args : Array Value} {below : List Frame} {meth : Method} {c : Code} {Z : State} {a0 : Array Value} {EL : List (String × Nat)} {own : String} {n0 : Nat} {h0 h : Heap} {ws ws' sf : List Addr} {Q Q' : Option Value → Heap → Prop} {k n k' n' : Nat} {g g' : JFrame}
/-- no literal's cell, whatever the tables -/
def SafeA (Z : State) (EL : List (String × Nat)) (h : Heap) (x : Addr) : Prop := ∀ vm, Z.vm.Alike vm → Safe Z EL vm h x
theorem SafeA.exa {x : Addr} {C : String} (E : Exa Z h x C) (h1 : C ≠ "java/lang/String") (h2 : C ≠ "[B") : SafeA Z EL h x := fun _ hal => Safe.exa hal E h1 h2
theorem SafeA.arv {x : Addr} {kk : ClassId} {ty : FieldType} {z : Int32} {vs : List Value} {dv : Value} (F : Arv Z h x kk ty z vs dv) (ht : ty ≠ .byte) : SafeA Z EL h x := fun _ hal => by
  obtain ⟨cl, A, -⟩ := F
  exact Safe.arr hal A ht
theorem SafeA.nil {x : Addr} : SafeA Z [] h x := fun _ _ ⟨_, hp, _⟩ => nomatch hp
theorem SafeA.null {x : Addr} (E : Exa Z h x "java/lang/String") (V : Fld Z h x "java/lang/String" "value" "[B" .null) : SafeA Z EL h x := fun vm hal B => by
  obtain ⟨p, -, u, a, -, q, -, F, rfl | rfl⟩ := B
  · obtain ⟨cell, cf, k, i, f, v1, v2, -, -, -, -, v7⟩ := V
    cases (show h[q.sa]? = some q.sC from F.ha).symm.trans v1
    obtain ⟨cS, ⟨⟨-, -, -, ⟨cv, kv, iv, s4, -⟩, -, -, -, s8, -⟩, -, -⟩, -⟩ := F
    obtain ⟨kv', z4⟩ := ff_back (U := Wst Z vm h) hal s4
    cases v2.symm.trans z4
    cases v7.symm.trans s8
  · obtain ⟨cell, k, e1, e2, e3, -, -⟩ := E
    cases (show h[q.sd]? = some q.SA from F.hd).symm.trans e1
    obtain ⟨cS, -, -, f, -⟩ := F
    have f' : vm.findClass "[B" = some q.SA.cls := f
    rw [hal.findClass] at f'
    obtain ⟨k1, q1, q2⟩ := Vm.findClass_spec f'
    obtain ⟨k2, q3, q4⟩ := Vm.findClass_spec e2
    cases q1.symm.trans q3
    exact absurd (q2.symm.trans q4) (by decide)
/-- the walk's end: it returns, writes at n0 and above alone, keeps h0 but for ws, and Q holds -/
def Fin (p : Program) (e : Env) (below : List Frame) (s : State) (R : Room) (Z : State) (EL : List (String × Nat)) (n0 : Nat) (h0 : Heap) (ws : List Addr) (Q : Option Value → Heap → Prop) (G : State) : Prop :=
  ∃ U o, Steps p.tables e below G U ∧ U.status = .running ∧ Ended U below o ∧ ∃ v L, o = .returned v ∧ (Fr n0 L ∧ Keep h0 U.heap ws ∧ Q v U.heap) ∧ CHr Z EL s.vm s.heap U.vm U.heap ∧ ReturnedEndW s o U L R.cells R.slots
theorem Fin.step {G G' : State} (st : ∀ t, Steps p.tables e below G' t → Steps p.tables e below G t) (q : Fin p e below s R Z EL n0 h0 ws Q G') : Fin p e below s R Z EL n0 h0 ws Q G := by
  obtain ⟨U, o, h1, r⟩ := q
  exact ⟨U, o, st _ h1, r⟩
def Cx (p : Program) (s : State) (meth : Method) (Z : State) (a0 : Array Value) (EL : List (String × Nat)) (n0 : Nat) (h0 : Heap) (ws : List Addr) : Prop :=
  p.tables.exec = Jvm.exec ∧ meth.locks = false ∧ Old Z n0 h0 ∧ (∀ x ∈ ws, n0 ≤ x) ∧ EW Z a0 EL ∧ s.heap = h0
/-- from the heap h and the frame g, k cells and n slots made, sf no literal's cells, the walk ends well -/
def Go (own : String) (p : Program) (l : Launch) (e : Env) (R : Room) (s : State) (m : MethodId) (args : Array Value) (below : List Frame) (meth : Method) (c : Code) (Z : State) (a0 : Array Value) (EL : List (String × Nat)) (n0 : Nat) (h0 : Heap) (ws : List Addr) (Q : Option Value → Heap → Prop) (sf : List Addr) (k n : Nat) (h : Heap) (g : JFrame) : Prop :=
  Cx p s meth Z a0 EL n0 h0 ws → ∀ (vm0 : Vm) (k0 : Nat) (T : State) (L : List Loc), Stand p l e R (s.setVm vm0) m args below meth c T L k n → T.heap = h → Fr n0 L → Keep h0 h ws → s.Since vm0 k0 → k0 ≤ h.size → Z.Warmed39 vm0 → vm0.findClass own = some m.cls →
    CHr Z EL s.vm h0 vm0 h → (∀ x ∈ sf, x < h.size ∧ Safe Z EL vm0 h x) → Fin p e below s R Z EL n0 h0 ws Q (T.setTop g)
theorem Go.cast (q : g = g') (r : Go own p l e R s m args below meth c Z a0 EL n0 h0 ws Q sf k n h g') : Go own p l e R s m args below meth c Z a0 EL n0 h0 ws Q sf k n h g := q ▸ r
theorem Go.keep (r : Keep h0 h ws → Go own p l e R s m args below meth c Z a0 EL n0 h0 ws Q sf k n h g) : Go own p l e R s m args below meth c Z a0 EL n0 h0 ws Q sf k n h g := fun hC vm0 k0 T L X eT N K => r K hC vm0 k0 T L X eT N K
theorem Old.le {Z : State} {n0 : Nat} {h : Heap} (O : Old Z n0 h) : n0 ≤ h.size := O.1 ▸ O.2.1
theorem Go.old (r : Old Z n0 h → Go own p l e R s m args below meth c Z a0 EL n0 h0 ws Q sf k n h g) : Go own p l e R s m args below meth c Z a0 EL n0 h0 ws Q sf k n h g := fun hC vm0 k0 T L X eT N K => r (hC.2.2.1.keep K hC.2.2.2.1) hC vm0 k0 T L X eT N K
/-- fewer addresses are said safe -/
theorem Go.sub {sf' : List Addr} (q : ∀ x ∈ sf', x ∈ sf) (r : Go own p l e R s m args below meth c Z a0 EL n0 h0 ws Q sf' k n h g) : Go own p l e R s m args below meth c Z a0 EL n0 h0 ws Q sf k n h g := fun hC vm0 k0 T L X eT N K hS hk hZ hown H hs => r hC vm0 k0 T L X eT N K hS hk hZ hown H fun x hx => hs x (q x hx)
/-- one address more is said safe -/
theorem Go.add {x : Addr} (lt : x < h.size) (sa : SafeA Z EL h x) (r : Go own p l e R s m args below meth c Z a0 EL n0 h0 ws Q (x :: sf) k n h g) : Go own p l e R s m args below meth c Z a0 EL n0 h0 ws Q sf k n h g := fun hC vm0 k0 T L X eT N K hS hk hZ hown H hs => r hC vm0 k0 T L X eT N K hS hk hZ hown H fun y hy => by
  rcases List.mem_cons.mp hy with rfl | hy
  · exact ⟨lt, sa vm0 hZ.alike⟩
  · exact hs y hy
/-- a step that changes the frame alone -/
theorem Go.sp (st : ∀ T : State, At T m c below → ∀ t, Steps p.tables e below (T.setTop g') t → Steps p.tables e below (T.setTop g) t) (q : Go own p l e R s m args below meth c Z a0 EL n0 h0 ws Q sf k n h g') : Go own p l e R s m args below meth c Z a0 EL n0 h0 ws Q sf k n h g :=
  fun hC vm0 k0 T L X eT N K hS hk hZ hown H hs => (q hC vm0 k0 T L X eT N K hS hk hZ hown H hs).step (st T X.here)
/-- a step that reads the heap -/
theorem Go.r (st : ∀ (s' T : State) (L : List Loc), Stand p l e R s' m args below meth c T L k n → T.heap = h → Z.Warmed39 s'.vm → ∀ t, Steps p.tables e below (T.setTop g') t → Steps p.tables e below (T.setTop g) t) (q : Go own p l e R s m args below meth c Z a0 EL n0 h0 ws Q sf k n h g') : Go own p l e R s m args below meth c Z a0 EL n0 h0 ws Q sf k n h g :=
  fun hC vm0 k0 T L X eT N K hS hk hZ hown H hs => (q hC vm0 k0 T L X eT N K hS hk hZ hown H hs).step (st (s.setVm vm0) T L X eT hZ)
/-- a step that may warm the tables -/
theorem Go.v (st : ∀ (s' T : State) (L : List Loc), Stand p l e R s' m args below meth c T L k n → T.heap = h → Z.Warmed39 s'.vm → s'.vm.findClass own = some m.cls → ∃ T' : State, Stand p l e R s' m args below meth c T' L k n ∧ T'.heap = h ∧ ∀ t, Steps p.tables e below (T'.setTop g') t → Steps p.tables e below (T.setTop g) t)
    (q : Go own p l e R s m args below meth c Z a0 EL n0 h0 ws Q sf k n h g') : Go own p l e R s m args below meth c Z a0 EL n0 h0 ws Q sf k n h g := fun hC vm0 k0 T L X eT N K hS hk hZ hown H hs => by
  obtain ⟨T', X', e', st'⟩ := st (s.setVm vm0) T L X eT hZ hown
  exact (q hC vm0 k0 T' L X' e' N K hS hk hZ hown H hs).step st'
theorem Cx.ok {a : Addr} (hC : Cx p s meth Z a0 EL n0 h0 ws) (ob : a ∈ ws ∨ h0.size ≤ a) : n0 ≤ a := ob.elim (hC.2.2.2.1 a) (Nat.le_trans (Old.le hC.2.2.1))
theorem safeOf {a : Addr} {vm0 : Vm} (hZ : Z.Warmed39 vm0) (hs : ∀ x ∈ sf, x < h.size ∧ Safe Z EL vm0 h x) (sa : a ∈ sf ∨ SafeA Z EL h a) : Safe Z EL vm0 h a := sa.elim (fun q => (hs a q).2) (fun q => q vm0 hZ.alike)
/-- a step that writes one place -/
theorem Go.w {a : Addr} {sl : Nat} {v : Value} (st : ∀ (s' T : State) (L : List Loc), Stand p l e R s' m args below meth c T L k n → T.heap = h → Z.Warmed39 s'.vm → s'.vm.findClass own = some m.cls → ∃ (T' : State) (h' : Heap), Stand p l e R s' m args below meth c T' (L ++ [⟨a, sl⟩]) k n ∧ T'.heap = h' ∧ Wr h h' a sl v ∧ ∀ t, Steps p.tables e below (T'.setTop g') t → Steps p.tables e below (T.setTop g) t)
    (ob : a ∈ ws ∨ h0.size ≤ a) (sa : a ∈ sf ∨ SafeA Z EL h a) (q : ∀ h' : Heap, Wr h h' a sl v → Go own p l e R s m args below meth c Z a0 EL n0 h0 ws Q sf k n h' g') : Go own p l e R s m args below meth c Z a0 EL n0 h0 ws Q sf k n h g := fun hC vm0 k0 T L X eT N K hS hk hZ hown H hs => by
  obtain ⟨T', h', X', e', W, st'⟩ := st (s.setVm vm0) T L X eT hZ hown
  have S := safeOf hZ hs sa
  exact (q h' W hC vm0 k0 T' _ X' e' (Fr.snoc X' N (hC.ok ob)) (K.wr W ob) hS (by rw [W.size]; exact hk) hZ hown (H.trans (CHr.wr W S H.1)) (fun x hx => ⟨by rw [W.size]; exact (hs x hx).1, Safe.wr W S H.1 (hs x hx).2⟩)).step st'
theorem safeNew {vm0 : Vm} {h' : Heap} (H : CHv Z EL vm0 h) (E : Ext h h') (hlt : h.size < h'.size) (hs : ∀ x ∈ sf, x < h.size ∧ Safe Z EL vm0 h x) : ∀ x ∈ h.size :: sf, x < h'.size ∧ Safe Z EL vm0 h' x := fun x hx => by
  rcases List.mem_cons.mp hx with rfl | hx
  · exact ⟨hlt, Safe.ext E H (Safe.new (Nat.le_refl _))⟩
  · exact ⟨Nat.lt_of_lt_of_le (hs x hx).1 E.1, Safe.ext E H (hs x hx).2⟩
/-- a step that makes cells -/
theorem Go.x {P : Heap → Prop} (st : ∀ (s' T : State) (L : List Loc), Stand p l e R s' m args below meth c T L k n → T.heap = h → Z.Warmed39 s'.vm → s'.vm.findClass own = some m.cls → ∃ (T' : State) (h' : Heap), Stand p l e R s' m args below meth c T' L k' n' ∧ T'.heap = h' ∧ Ext h h' ∧ P h' ∧ ∀ t, Steps p.tables e below (T'.setTop g') t → Steps p.tables e below (T.setTop g) t)
    (q : ∀ h' : Heap, Ext h h' → P h' → Go own p l e R s m args below meth c Z a0 EL n0 h0 ws Q sf k' n' h' g') : Go own p l e R s m args below meth c Z a0 EL n0 h0 ws Q sf k n h g := fun hC vm0 k0 T L X eT N K hS hk hZ hown H hs => by
  obtain ⟨T', h', X', e', E, hP, st'⟩ := st (s.setVm vm0) T L X eT hZ hown
  exact (q h' E hP hC vm0 k0 T' L X' e' N (K.ext E) hS (Nat.le_trans hk E.1) hZ hown (H.trans (CHr.ext E H.1)) (fun x hx => ⟨Nat.lt_of_lt_of_le (hs x hx).1 E.1, Safe.ext E H.1 (hs x hx).2⟩)).step st'
/-- a step that writes objects at ws' -/
theorem Go.kp {P : Heap → Prop} (st : ∀ (s' T : State) (L : List Loc), Stand p l e R s' m args below meth c T L k n → T.heap = h → Fr n0 L → Z.Warmed39 s'.vm → s'.vm.findClass own = some m.cls → ∃ (T' : State) (h' : Heap) (L' : List Loc), Stand p l e R s' m args below meth c T' L' k n ∧ T'.heap = h' ∧ Fr n0 L' ∧ Keep h h' ws' ∧ P h' ∧ ∀ t, Steps p.tables e below (T'.setTop g') t → Steps p.tables e below (T.setTop g) t)
    (ob : ∀ x ∈ ws', x ∈ ws ∨ h0.size ≤ x) (sa : ∀ x ∈ ws', x ∈ sf ∨ SafeA Z EL h x) (q : ∀ h' : Heap, Keep h h' ws' → P h' → Go own p l e R s m args below meth c Z a0 EL n0 h0 ws Q sf k n h' g') : Go own p l e R s m args below meth c Z a0 EL n0 h0 ws Q sf k n h g := fun hC vm0 k0 T L X eT N K hS hk hZ hown H hs => by
  obtain ⟨T', h', L', X', e', N', K', hP, st'⟩ := st (s.setVm vm0) T L X eT N hZ hown
  have hw : ∀ x ∈ ws', Safe Z EL vm0 h x := fun x hx => safeOf hZ hs (sa x hx)
  exact (q h' K' hP hC vm0 k0 T' L' X' e' N' (K.trans K' ob) hS (Nat.le_trans hk K'.1) hZ hown (H.trans (CHr.keep K' hw H.1)) (fun x hx => ⟨Nat.lt_of_lt_of_le (hs x hx).1 K'.1, Safe.keep K' hw H.1 (hs x hx).2⟩)).step st'
/-- new C -/
theorem Go.newO {C : String} {idx sl pc pc' : Nat} {Ls : Array Slot} {S : List Value} (hd : decode c.code pc = .ok (.new idx, 3)) (w : (Cond.classLink own idx C).before a0 Z = true) (wi : (Cond.instantiable C sl).before a0 Z = true) (wz : (Cond.initialized C).before a0 Z = true)
    (hk : k' = k + 1) (hn : n' = n + sl) (hp : pc' = pc + 3) (hc : k' ≤ R.cells) (hl : n' ≤ R.slots)
    (q : ∀ (a : Addr) (h' : Heap), a = h.size → h0.size ≤ a → Ext h h' → Exa Z h' a C → (∀ {O nm d : String} {ty : FieldType}, Laid Z a0 C O nm d → parseFieldDescriptor d = some ty → Fld Z h' a O nm d (defaultValue ty)) → Go own p l e R s m args below meth c Z a0 EL n0 h0 ws Q (a :: sf) k' n' h' (mkF m pc' Ls (.ref a :: S))) :
    Go own p l e R s m args below meth c Z a0 EL n0 h0 ws Q sf k n h (mkF m pc Ls S) := fun hC vm0 k0 T L X eT N K hS hk0 hZ hown H hs => by
  subst hk hn hp
  obtain ⟨T2, h2, X2, e2, E2, A2, D2, -, st2⟩ := RoadKit.newO X hC.1 (s := s.setVm vm0) hZ hown w wi wz eT (g := (mkF m pc Ls S)) rfl hd hc hl
  exact (q _ h2 rfl K.1 E2 A2 D2 hC vm0 k0 T2 _ X2 e2 N (K.ext E2) hS (Nat.le_trans hk0 E2.1) hZ hown (H.trans (CHr.ext E2 H.1)) (safeNew H.1 E2 A2.lt hs)).step st2
/-- newarray of a primitive kind -/
theorem Go.newP {aty : ArrayType} {ty : FieldType} {dv : Value} {pc pc' cap : Nat} {z : Int32} {Ls : Array Slot} {S : List Value} (hd : decode c.code pc = .ok (.newarray aty, 2)) (hty : newarray.typeOf aty = ty) (hdv : defaultValue ty = dv) (w : (Cond.arrayClass ty).before a0 Z = true) (hz : ¬ z < 0) (hcap : z.toNatClampNeg ≤ cap) (hb : cap * 8 ≤ 536870912)
    (hk : k' = k + 1) (hn : n' = n + cap) (hp : pc' = pc + 2) (hc : k' ≤ R.cells) (hl : n' ≤ R.slots)
    (q : ∀ (a : Addr) (h' : Heap) (cA : ClassId), a = h.size → h0.size ≤ a → Ext h h' → Arv Z h' a cA ty z [] dv → Go own p l e R s m args below meth c Z a0 EL n0 h0 ws Q (a :: sf) k' n' h' (mkF m pc' Ls (.ref a :: S))) :
    Go own p l e R s m args below meth c Z a0 EL n0 h0 ws Q sf k n h (mkF m pc Ls (.int z :: S)) := fun hC vm0 k0 T L X eT N K hS hk0 hZ hown H hs => by
  subst hk hn hp hty hdv
  obtain ⟨T2, h2, k2, X2, e2, E2, A2, st2⟩ := RoadKit.newP X hC.1 (s := s.setVm vm0) hZ w eT (g := (mkF m pc Ls (.int z :: S))) rfl hd rfl hz hcap hb hc hl
  exact (q _ h2 k2 rfl K.1 E2 (Arv.new A2 hz) hC vm0 k0 T2 _ X2 e2 N (K.ext E2) hS (Nat.le_trans hk0 E2.1) hZ hown (H.trans (CHr.ext E2 H.1)) (safeNew H.1 E2 A2.lt hs)).step st2
/-- a String constant whose text is used -/
theorem Go.ldc {text : String} {idx pc pc' nn : Nat} {vs : List Value} {z : Int32} {Ls : Array Slot} {S : List Value} (hd : decode c.code pc = .ok (.ldc idx, 2)) (w : (Cond.stringLink own idx text).before a0 Z = true) (wS : ∀ a ∈ Bundle.stringAtoms, a.before a0 Z = true) (hmem : (own, idx) ∈ EL)
    (ht : (∀ c ∈ text.toList, c.toNat < 256) ∧ text.toList.map (fun c => Value.int (Jvm.Lit.byteI c.toNat.toUInt16)) = vs) (hz : ¬ z < 0) (hlen : z.toNatClampNeg = vs.length) (hnn : 4 * text.toList.length ≤ nn) (hbig : nn ≤ 536870912)
    (hk : k' = k + 2) (hn : n' = n + (nn + 4)) (hp : pc' = pc + 2) (hc : k' ≤ R.cells) (hl : n' ≤ R.slots)
    (q : ∀ (a : Addr) (h' : Heap) (b : Addr) (kb : ClassId), Ext h h' → Exa Z h' a "java/lang/String" → Fld Z h' a "java/lang/String" "coder" "B" (.int 0) → Fld Z h' a "java/lang/String" "value" "[B" (.ref b) → Arv Z h' b kb .byte z vs (.int 0) → (∀ x, (x ∈ sf ∨ SafeA Z EL h' x) → x ≠ a ∧ x ≠ b) → Go own p l e R s m args below meth c Z a0 EL n0 h0 ws Q sf k' n' h' (mkF m pc' Ls (.ref a :: S))) :
    Go own p l e R s m args below meth c Z a0 EL n0 h0 ws Q sf k n h (mkF m pc Ls S) := fun hC vm0 k0 T L X eT N K hS hk0 hZ hown H hs => by
  subst hk hn hp
  obtain ⟨a, T', h', k1, b, kb, X', e', E, hS', hk1, hZ', hown', A1, A2, A3, A4, -, -, hR, -, hne, st⟩ := ldcCH X hC.1 hZ hown w wS eT hS hk0 hC.2.2.2.2.1 hmem H.1 ht hz hlen (g := (mkF m pc Ls S)) rfl hd hnn hbig hc hl
  have hs' : ∀ x ∈ sf, x < h'.size ∧ Safe Z EL T'.vm h' x := fun x hx => ⟨Nat.lt_of_lt_of_le (hs x hx).1 E.1, hR.safe (hs x hx).1 (hs x hx).2⟩
  exact (q a h' b kb E A1 A2 A3 A4 (fun x hx => hne x (safeOf hZ' hs' hx)) hC T'.vm k1 T' L X' e' N (K.ext E) hS' hk1 hZ' hown' (H.trans hR) hs').step st
/-- a String constant of whose text nothing is said -/
theorem Go.ldc0 {text : String} {idx pc pc' nn : Nat} {Ls : Array Slot} {S : List Value} (hd : decode c.code pc = .ok (.ldc idx, 2)) (w : (Cond.stringLink own idx text).before a0 Z = true) (wS : ∀ a ∈ Bundle.stringAtoms, a.before a0 Z = true) (hnn : 4 * text.toList.length ≤ nn) (hbig : nn ≤ 536870912)
    (hk : k' = k + 2) (hn : n' = n + (nn + 4)) (hp : pc' = pc + 2) (hc : k' ≤ R.cells) (hl : n' ≤ R.slots)
    (q : ∀ (a : Addr) (h' : Heap), Ext h h' → Go own p l e R s m args below meth c Z a0 EL n0 h0 ws Q sf k' n' h' (mkF m pc' Ls (.ref a :: S))) :
    Go own p l e R s m args below meth c Z a0 EL n0 h0 ws Q sf k n h (mkF m pc Ls S) := fun hC vm0 k0 T L X eT N K hS hk0 hZ hown H hs => by
  subst hk hn hp
  obtain ⟨a, T', h', k1, X', e', E, hS', hk1, hZ', hown', hR, -, st⟩ := ldcOH X hC.1 hZ hown w wS eT hS hk0 hC.2.2.2.2.1 H.1 (g := (mkF m pc Ls S)) rfl hd hnn hbig hc hl
  have hs' : ∀ x ∈ sf, x < h'.size ∧ Safe Z EL T'.vm h' x := fun x hx => ⟨Nat.lt_of_lt_of_le (hs x hx).1 E.1, hR.safe (hs x hx).1 (hs x hx).2⟩
  exact (q a h' E hC T'.vm k1 T' L X' e' N (K.ext E) hS' hk1 hZ' hown' (H.trans hR) hs').step st
/-- the return -/
theorem Go.ret {v : Option Value} (st : ∀ (s' T : State) (L : List Loc) (fs : List Frame), Stand p l e R s' m args below meth c T L k n → (∀ (f : JFrame) (acts : List Action), f.method = m → f.locked = none → f.entered = [] → (doReturn e (T.setTop f) acts v).1 = T.setFrames fs) → Steps p.tables e below (T.setTop g) (T.setFrames fs))
    (hv : meth.sig.returnType = none → v = none) (hc : k ≤ R.cells) (hs : n ≤ R.slots) (q : Q v h) : Go own p l e R s m args below meth c Z a0 EL n0 h0 ws Q sf k n h g := fun hC vm0 k0 T L X eT N K hS hk hZ hown H hsf => by
  obtain ⟨fs, hr, hrun, hended, hW1, hW2, hW3, hsame⟩ := X.leaveW (s := s) hS (by rw [eT]; exact hk) (v := v) hv hC.2.1
  refine ⟨_, _, st _ T L fs X hr, hrun, hended, _, _, rfl, ⟨N, ?_, ?_⟩, ?_, hW1, hW2, hW3, hsame.mono hc hs⟩
  · show Keep h0 T.heap ws
    rw [eT]; exact K
  · show Q v T.heap
    rw [eT]; exact q
  · show CHr Z EL s.vm s.heap T.vm T.heap
    rw [eT, hC.2.2.2.2.2]; exact H.trans (CHv.at X hZ hC.2.2.2.2.1 H.1)
/-- what a call asks and leaves -/
def Bk (l : Launch) (R : Room) (p : Program) (e : Env) (below : List Frame) (s : State) (args : Array Value) (y : MethodName) (len W : Nat) (as' : Array Value) (h : Heap) (rc rs n0 : Nat) (ws' : List Addr) (Q' : Option Value → Heap → Prop) : Prop :=
  Back l R p e below s args y len W (fun A a => a = as' ∧ A.U.heap = h ∧ A.cells + rc ≤ R.cells ∧ A.slots + rs ≤ R.slots)
    (fun A _ v B => ∃ L, (Fr n0 L ∧ Keep h B.U.heap ws' ∧ Q' v B.U.heap) ∧ B.locs = A.locs ++ L ∧ B.cells = A.cells + rc ∧ B.slots = A.slots + rs)
/-- a contract -/
def Ct (l : Launch) (Z : State) (a0 : Array Value) (EL : List (String × Nat)) (y : MethodName) (bytes : ByteArray) (ml : Nat) (ret : Option FieldType) (wds : List Cond) (R : Room) (as' : Array Value) (n0 : Nat) (h0 : Heap) (ws : List Addr) (Q : Option Value → Heap → Prop) : Prop :=
  MetFree l y (head1 (Cond.code y bytes ml ret :: wds) R) (fun a U => a = as' ∧ Z.Warmed39 U.vm ∧ U.heap = h0 ∧ CHv Z EL U.vm h0) (fun _ _ _ _ _ => True) (fun _ U o U' => ∃ v L, o = .returned v ∧ (Fr n0 L ∧ Keep h0 U'.heap ws ∧ Q v U'.heap) ∧ CHr Z EL U.vm U.heap U'.vm U'.heap ∧ ReturnedEndW U o U' L R.cells R.slots)
theorem Ct.of {y : MethodName} {bytes : ByteArray} {ml : Nat} {ret : Option FieldType} {wds : List Cond} {as' : Array Value} (pn : plainFor y = true) (hn : Old Z n0 h0) (hws : ∀ x ∈ ws, n0 ≤ x) (hEL : EW Z a0 EL)
    (body : ∀ (p : Program) (e : Env) (s : State) (m : MethodId) (below : List Frame) (meth : Method) (c : Code), p.tables.exec = Jvm.exec → c.code = bytes → c.maxLocals = ml → meth.sig.returnType = ret → meth.name = y.name → Go y.cls p l e R s m as' below meth c Z a0 EL n0 h0 ws Q [] 0 0 h0 (entryFrame m as' ml)) :
    Ct l Z a0 EL y bytes ml ret wds R as' n0 h0 ws Q := by
  refine MetFree.of_bodySF pn hisR ?_
  intro p e s m args below meth c s₁ Bd hml0 hP hK
  obtain ⟨rfl, hZ, hh, hCH⟩ := hP
  have X0 : Stand p l e R (s.setVm s.vm) m args below meth c s₁ [] 0 0 := Stand.of_body Bd
  have e0 : s₁.heap = h0 := by rw [← hh, Bd.state]; rfl
  exact body p e s m below meth c Bd.exec Bd.bytes hml0 Bd.returns (name_of_methodNamed Bd.named Bd.method).1 ⟨Bd.exec, Bd.notSynchronized, hn, hws, hEL, hh⟩ s.vm 0 s₁ [] X0 e0 (Fr.nil n0) (Keep.refl _ _) ((State.WarmedH.refl s).since 0) (Nat.zero_le _) hZ (findClass_of_methodNamed Bd.named) (CHr.refl hCH) all0
/-- a law of the library that changes nothing -/
theorem Bk.pure {y : MethodName} {as' : Array Value} {len W : Nat} {P : Option Value → Prop} (hB : Back l R p e below s args y len W (fun A a => a = as' ∧ A.U.heap = h ∧ A.cells + 0 ≤ R.cells ∧ A.slots + 0 ≤ R.slots) (fun A _ v B => ∃ L, (P v ∧ L = [] ∧ B.U.heap = h) ∧ B.locs = A.locs ++ L ∧ B.cells = A.cells + 0 ∧ B.slots = A.slots + 0)) :
    Bk l R p e below s args y len W as' h 0 0 n0 [] (fun v h' => P v ∧ h' = h) :=
  Back.mono hB (fun _ _ q => q) fun A a v B _ ⟨L, ⟨q1, q2, q3⟩, q4, q5, q6⟩ => ⟨L, ⟨q2 ▸ Fr.nil n0, q3 ▸ Keep.refl _ _, q1, q3⟩, q4, q5, q6⟩
theorem Bk.mono {y : MethodName} {as' : Array Value} {len W rc rs : Nat} {Q'' : Option Value → Heap → Prop} (hB : Bk l R p e below s args y len W as' h rc rs n0 ws' Q') (f : ∀ v h', Keep h h' ws' → Q' v h' → Q'' v h') : Bk l R p e below s args y len W as' h rc rs n0 ws' Q'' :=
  Back.mono hB (fun _ _ q => q) fun A a v B _ ⟨L, ⟨q1, q2, q3⟩, r⟩ => ⟨L, ⟨q1, q2, f _ _ q2 q3⟩, r⟩
theorem catOf {m : MethodId} {pc : Nat} {Ls : Array Slot} {S : List Value} {x W : Nat} (hW : x ≤ W) : 2 * (mkF m pc Ls S).monitorRoom + x ≤ W := by
  show 2 * 0 + _ ≤ _
  omega
theorem safeKeep {vm0 : Vm} {h' : Heap} (H : CHv Z EL vm0 h) (K : Keep h h' ws') (hw : ∀ x ∈ ws', Safe Z EL vm0 h x) (hs : ∀ x ∈ sf, x < h.size ∧ Safe Z EL vm0 h x) : ∀ x ∈ sf, x < h'.size ∧ Safe Z EL vm0 h' x := fun x hx => ⟨Nat.lt_of_lt_of_le (hs x hx).1 K.1, Safe.keep K hw H (hs x hx).2⟩
theorem Go.callC {y : MethodName} {bytes : ByteArray} {ml idx W rc rs pc pc' : Nat} {a : Addr} {argsL rest S : List Value} {Ls : Array Slot} (hd : decode c.code pc = .ok (.invokespecial idx, 3)) (hy1 : y.name = "<init>") (w1 : (Cond.methodLink own idx y).before a0 Z = true) (w2 : (Cond.instanceMethod y).before a0 Z = true) (w3 : (Cond.code y bytes ml none).before a0 Z = true)
    (hy : y.cls ≠ "java/lang/invoke/MethodHandle" ∧ y.cls ≠ "java/lang/invoke/VarHandle") (hK : ∀ (s' : State), Z.Warmed39 s'.vm → Bk l R p e below s' args y 3 W (.ref a :: argsL).toArray h rc rs n0 ws' Q')
    (hsz : Ls.size = c.maxLocals) (hlen : ∀ sig, parseMethodDescriptor y.desc = some sig → argsL.length = sig.parameters.length) (hst : S = argsL.reverse ++ .ref a :: rest) (hW : (rest.map fun v => v.category).sum ≤ W)
    (hk : k' = k + rc) (hn : n' = n + rs) (hp : pc' = pc + 3) (hc : k' ≤ R.cells) (hl : n' ≤ R.slots) (ob : ∀ x ∈ ws', x ∈ ws ∨ h0.size ≤ x) (sa : ∀ x ∈ ws', x ∈ sf ∨ SafeA Z EL h x)
    (q : ∀ (v : Option Value) (h' : Heap), Keep h h' ws' → Q' v h' → Go own p l e R s m args below meth c Z a0 EL n0 h0 ws Q sf k' n' h' (mkF m pc' Ls (v.toList ++ rest))) :
    Go own p l e R s m args below meth c Z a0 EL n0 h0 ws Q sf k n h (mkF m pc Ls S) := fun hC vm0 k0 T L X eT N K hS hk0 hZ hown H hs => by
  subst hk hn hp
  obtain ⟨v, _, ⟨T1, L1, k1, n1⟩, -, X1, ⟨Lc, hQ, l1, y1, z1⟩, st⟩ := X.specialBack hC.1 (y := y) hy1 hown (mvT (s := s.setVm vm0) hZ w1) (mvT (s := s.setVm vm0) hZ w2) (mvT (s := s.setVm vm0) hZ w3) hy (hK (s.setVm vm0) hZ) (g := mkF m pc Ls S) rfl hsz (Steps.refl _) (a := a) (argsL := argsL) (rest := rest) hlen hst (catOf hW) hd (fun _ _ => ⟨rfl, eT, hc, hl⟩)
  dsimp only [Pt.U, Pt.locs, Pt.cells, Pt.slots] at X1 l1 y1 z1 st hQ
  subst l1 y1 z1
  obtain ⟨N1, K1, q1⟩ := hQ
  have hw : ∀ x ∈ ws', Safe Z EL vm0 h x := fun x hx => safeOf hZ hs (sa x hx)
  exact (q v T1.heap K1 q1 hC vm0 k0 T1 _ X1 rfl (N.app N1) (K.trans K1 ob) hS (Nat.le_trans hk0 K1.1) hZ hown (H.trans (CHr.keep K1 hw H.1)) (safeKeep H.1 K1 hw hs)).step (fun t r => st.trans r)
theorem Go.callCW {y : MethodName} {bytes : ByteArray} {ml idx W pc pc' : Nat} {a : Addr} {argsL rest S : List Value} {Ls : Array Slot} (hd : decode c.code pc = .ok (.invokespecial idx, 3)) (hy1 : y.name = "<init>") (w1 : (Cond.methodLink own idx y).before a0 Z = true) (w2 : (Cond.instanceMethod y).before a0 Z = true) (w3 : (Cond.code y bytes ml none).before a0 Z = true)
    (hy : y.cls ≠ "java/lang/invoke/MethodHandle" ∧ y.cls ≠ "java/lang/invoke/VarHandle") {rm : Room} (hM : Ct l Z a0 EL y bytes ml none [] rm (.ref a :: argsL).toArray n0 h ws' Q') (wc : (Cond.code y bytes ml none).before a0 Z = true) (wz : (Cond.initialized y.cls).before a0 Z = true) (hf : rm.frames + 1 ≤ R.frames) (hlo : W + (ml + 11) + rm.locals ≤ R.locals)
    (hsz : Ls.size = c.maxLocals) (hlen : ∀ sig, parseMethodDescriptor y.desc = some sig → argsL.length = sig.parameters.length) (hst : S = argsL.reverse ++ .ref a :: rest) (hW : (rest.map fun v => v.category).sum ≤ W)
    (hk : k' = k + rm.cells) (hn : n' = n + rm.slots) (hp : pc' = pc + 3) (hc : k' ≤ R.cells) (hl : n' ≤ R.slots) (ob : ∀ x ∈ ws', x ∈ ws ∨ h0.size ≤ x)
    (q : ∀ (v : Option Value) (h' : Heap), Keep h h' ws' → Q' v h' → Go own p l e R s m args below meth c Z a0 EL n0 h0 ws Q sf k' n' h' (mkF m pc' Ls (v.toList ++ rest))) :
    Go own p l e R s m args below meth c Z a0 EL n0 h0 ws Q sf k n h (mkF m pc Ls S) := fun hC vm0 k0 T L X eT N K hS hk0 hZ hown H hs => by
  subst hk hn hp
  obtain ⟨v, _, ⟨T1, L1, k1, n1⟩, -, X1, hS1, hg1, ⟨Lc, hQ, l1, y1, z1, hR⟩, st⟩ := X.specialBackS hC.1 (y := y) hy1 hown (mvT (s := s.setVm vm0) hZ w1) (mvT (s := s.setVm vm0) hZ w2) (mvT (s := s.setVm vm0) hZ w3) hy (backOfSH (s := s) (Q := fun v h' L => Fr n0 L ∧ Keep h h' ws' ∧ Q' v h') hM hZ wc wz hf hlo hC.2.2.2.2.1 H.1) (g := mkF m pc Ls S) rfl hsz (Steps.refl _) (a := a) (argsL := argsL) (rest := rest) hlen hst (catOf hW) hd (fun _ _ => ⟨rfl, eT, hc, hl⟩)
  dsimp only [Pt.U, Pt.locs, Pt.cells, Pt.slots] at X1 hS1 hg1 l1 y1 z1 hR st hQ
  subst l1 y1 z1
  obtain ⟨N1, K1, q1⟩ := hQ
  obtain ⟨X2, hS2, hZ2, hown2⟩ := rebS (n1 := T.heap.size) hS (by rw [eT]; exact hk0) X1 hS1 hg1 (Z := Z) hZ (own := own) hown
  exact (q v T1.heap K1 q1 hC T1.vm _ T1 _ X2 rfl (N.app N1) (K.trans K1 ob) hS2 (Nat.le_refl _) hZ2 hown2 (H.trans hR) (fun x hx => ⟨Nat.lt_of_lt_of_le (hs x hx).1 hR.2.1, hR.safe (hs x hx).1 (hs x hx).2⟩)).step (fun t r => st.trans r)
theorem Go.callV {y z : MethodName} {C : String} {idx W rc rs pc pc' : Nat} {a : Addr} {argsL rest S : List Value} {Ls : Array Slot} (hd : decode c.code pc = .ok (.invokevirtual idx, 3)) (w1 : (Cond.methodLink own idx y).before a0 Z = true) (w2 : (Cond.declares y).before a0 Z = true) (nf : ∀ s' : State, Z.Warmed39 s'.vm → NotFace s' y) (w3 : (Cond.selects C y z).before a0 Z = true) (w4 : (Cond.instanceMethod z).before a0 Z = true)
    (hy : y.cls ≠ "java/lang/invoke/MethodHandle" ∧ y.cls ≠ "java/lang/invoke/VarHandle") (hK : ∀ (s' : State), Z.Warmed39 s'.vm → Bk l R p e below s' args z 3 W (.ref a :: argsL).toArray h rc rs n0 ws' Q') (E : Exa Z h a C)
    (hsz : Ls.size = c.maxLocals) (hlen : ∀ sig, parseMethodDescriptor y.desc = some sig → argsL.length = sig.parameters.length) (hst : S = argsL.reverse ++ .ref a :: rest) (hW : (rest.map fun v => v.category).sum ≤ W)
    (hk : k' = k + rc) (hn : n' = n + rs) (hp : pc' = pc + 3) (hc : k' ≤ R.cells) (hl : n' ≤ R.slots) (ob : ∀ x ∈ ws', x ∈ ws ∨ h0.size ≤ x) (sa : ∀ x ∈ ws', x ∈ sf ∨ SafeA Z EL h x)
    (q : ∀ (v : Option Value) (h' : Heap), Keep h h' ws' → Q' v h' → Go own p l e R s m args below meth c Z a0 EL n0 h0 ws Q sf k' n' h' (mkF m pc' Ls (v.toList ++ rest))) :
    Go own p l e R s m args below meth c Z a0 EL n0 h0 ws Q sf k n h (mkF m pc Ls S) := fun hC vm0 k0 T L X eT N K hS hk0 hZ hown H hs => by
  subst hk hn hp
  obtain ⟨cq, kq, qa, qb, qc⟩ := isOf (s := s.setVm vm0) hZ eT E
  obtain ⟨v, _, ⟨T1, L1, k1, n1⟩, -, X1, ⟨Lc, hQ, l1, y1, z1⟩, st⟩ := X.virtualBack hC.1 (y := y) (z := z) hown (mvT (s := s.setVm vm0) hZ w1) (mvT (s := s.setVm vm0) hZ w2) (nf (s.setVm vm0) hZ) (mvT (s := s.setVm vm0) hZ w3) (mvT (s := s.setVm vm0) hZ w4) hy (hK (s.setVm vm0) hZ) qa qc (g := mkF m pc Ls S) rfl hsz (Steps.refl _) (argsL := argsL) (rest := rest) hlen hst (catOf hW) hd (fun _ _ => ⟨rfl, eT, hc, hl⟩)
  dsimp only [Pt.U, Pt.locs, Pt.cells, Pt.slots] at X1 l1 y1 z1 st hQ
  subst l1 y1 z1
  obtain ⟨N1, K1, q1⟩ := hQ
  have hw : ∀ x ∈ ws', Safe Z EL vm0 h x := fun x hx => safeOf hZ hs (sa x hx)
  exact (q v T1.heap K1 q1 hC vm0 k0 T1 _ X1 rfl (N.app N1) (K.trans K1 ob) hS (Nat.le_trans hk0 K1.1) hZ hown (H.trans (CHr.keep K1 hw H.1)) (safeKeep H.1 K1 hw hs)).step (fun t r => st.trans r)
theorem Go.callVW {y z : MethodName} {C : String} {bytes : ByteArray} {ml : Nat} {rt : Option FieldType} {idx W pc pc' : Nat} {a : Addr} {argsL rest S : List Value} {Ls : Array Slot} (hd : decode c.code pc = .ok (.invokevirtual idx, 3)) (w1 : (Cond.methodLink own idx y).before a0 Z = true) (w2 : (Cond.declares y).before a0 Z = true) (nf : ∀ s' : State, Z.Warmed39 s'.vm → NotFace s' y) (w3 : (Cond.selects C y z).before a0 Z = true) (w4 : (Cond.instanceMethod z).before a0 Z = true)
    (hy : y.cls ≠ "java/lang/invoke/MethodHandle" ∧ y.cls ≠ "java/lang/invoke/VarHandle") {rm : Room} (hM : Ct l Z a0 EL z bytes ml rt [] rm (.ref a :: argsL).toArray n0 h ws' Q') (wc : (Cond.code z bytes ml rt).before a0 Z = true) (wz : (Cond.initialized z.cls).before a0 Z = true) (hf : rm.frames + 1 ≤ R.frames) (hlo : W + (ml + 11) + rm.locals ≤ R.locals) (E : Exa Z h a C)
    (hsz : Ls.size = c.maxLocals) (hlen : ∀ sig, parseMethodDescriptor y.desc = some sig → argsL.length = sig.parameters.length) (hst : S = argsL.reverse ++ .ref a :: rest) (hW : (rest.map fun v => v.category).sum ≤ W)
    (hk : k' = k + rm.cells) (hn : n' = n + rm.slots) (hp : pc' = pc + 3) (hc : k' ≤ R.cells) (hl : n' ≤ R.slots) (ob : ∀ x ∈ ws', x ∈ ws ∨ h0.size ≤ x)
    (q : ∀ (v : Option Value) (h' : Heap), Keep h h' ws' → Q' v h' → Go own p l e R s m args below meth c Z a0 EL n0 h0 ws Q sf k' n' h' (mkF m pc' Ls (v.toList ++ rest))) :
    Go own p l e R s m args below meth c Z a0 EL n0 h0 ws Q sf k n h (mkF m pc Ls S) := fun hC vm0 k0 T L X eT N K hS hk0 hZ hown H hs => by
  subst hk hn hp
  obtain ⟨cq, kq, qa, qb, qc⟩ := isOf (s := s.setVm vm0) hZ eT E
  obtain ⟨v, _, ⟨T1, L1, k1, n1⟩, -, X1, hS1, hg1, ⟨Lc, hQ, l1, y1, z1, hR⟩, st⟩ := X.virtualBackS hC.1 (y := y) (z := z) hown (mvT (s := s.setVm vm0) hZ w1) (mvT (s := s.setVm vm0) hZ w2) (nf (s.setVm vm0) hZ) (mvT (s := s.setVm vm0) hZ w3) (mvT (s := s.setVm vm0) hZ w4) hy (backOfSH (s := s) (Q := fun v h' L => Fr n0 L ∧ Keep h h' ws' ∧ Q' v h') hM hZ wc wz hf hlo hC.2.2.2.2.1 H.1) qa qc (g := mkF m pc Ls S) rfl hsz (Steps.refl _) (argsL := argsL) (rest := rest) hlen hst (catOf hW) hd (fun _ _ => ⟨rfl, eT, hc, hl⟩)
  dsimp only [Pt.U, Pt.locs, Pt.cells, Pt.slots] at X1 hS1 hg1 l1 y1 z1 hR st hQ
  subst l1 y1 z1
  obtain ⟨N1, K1, q1⟩ := hQ
  obtain ⟨X2, hS2, hZ2, hown2⟩ := rebS (n1 := T.heap.size) hS (by rw [eT]; exact hk0) X1 hS1 hg1 (Z := Z) hZ (own := own) hown
  exact (q v T1.heap K1 q1 hC T1.vm _ T1 _ X2 rfl (N.app N1) (K.trans K1 ob) hS2 (Nat.le_refl _) hZ2 hown2 (H.trans hR) (fun x hx => ⟨Nat.lt_of_lt_of_le (hs x hx).1 hR.2.1, hR.safe (hs x hx).1 (hs x hx).2⟩)).step (fun t r => st.trans r)
theorem Go.callS {y : MethodName} {bytes : ByteArray} {ml idx W rc rs pc pc' : Nat} {rt : Option FieldType} {argsL rest S : List Value} {Ls : Array Slot} (hd : decode c.code pc = .ok (.invokestatic idx, 3)) (w1 : (Cond.methodLink own idx y).before a0 Z = true) (w2 : (Cond.static y).before a0 Z = true) (w3 : (Cond.initialized y.cls).before a0 Z = true) (w4 : (Cond.code y bytes ml rt).before a0 Z = true)
    (hy : y.cls ≠ "java/lang/invoke/MethodHandle" ∧ y.cls ≠ "java/lang/invoke/VarHandle") (hK : ∀ (s' : State), Z.Warmed39 s'.vm → Bk l R p e below s' args y 3 W argsL.toArray h rc rs n0 ws' Q')
    (hsz : Ls.size = c.maxLocals) (hlen : ∀ sig, parseMethodDescriptor y.desc = some sig → argsL.length = sig.parameters.length) (hst : S = argsL.reverse ++ rest) (hW : (rest.map fun v => v.category).sum ≤ W)
    (hk : k' = k + rc) (hn : n' = n + rs) (hp : pc' = pc + 3) (hc : k' ≤ R.cells) (hl : n' ≤ R.slots) (ob : ∀ x ∈ ws', x ∈ ws ∨ h0.size ≤ x) (sa : ∀ x ∈ ws', x ∈ sf ∨ SafeA Z EL h x)
    (q : ∀ (v : Option Value) (h' : Heap), Keep h h' ws' → Q' v h' → Go own p l e R s m args below meth c Z a0 EL n0 h0 ws Q sf k' n' h' (mkF m pc' Ls (v.toList ++ rest))) :
    Go own p l e R s m args below meth c Z a0 EL n0 h0 ws Q sf k n h (mkF m pc Ls S) := fun hC vm0 k0 T L X eT N K hS hk0 hZ hown H hs => by
  subst hk hn hp
  obtain ⟨v, _, ⟨T1, L1, k1, n1⟩, -, X1, ⟨Lc, hQ, l1, y1, z1⟩, st⟩ := Jvm.LawKit.callS X hC.1 (y := y) hown (mvT (s := s.setVm vm0) hZ w1) (mvT (s := s.setVm vm0) hZ w2) (mvT (s := s.setVm vm0) hZ w3) (mvT (s := s.setVm vm0) hZ w4) hy (hK (s.setVm vm0) hZ) (g := mkF m pc Ls S) rfl hsz (argsL := argsL) (rest := rest) hlen hst (catOf hW) hd (fun _ _ => ⟨rfl, eT, hc, hl⟩)
  dsimp only [Pt.U, Pt.locs, Pt.cells, Pt.slots] at X1 l1 y1 z1 st hQ
  subst l1 y1 z1
  obtain ⟨N1, K1, q1⟩ := hQ
  have hw : ∀ x ∈ ws', Safe Z EL vm0 h x := fun x hx => safeOf hZ hs (sa x hx)
  exact (q v T1.heap K1 q1 hC vm0 k0 T1 _ X1 rfl (N.app N1) (K.trans K1 ob) hS (Nat.le_trans hk0 K1.1) hZ hown (H.trans (CHr.keep K1 hw H.1)) (safeKeep H.1 K1 hw hs)).step st
theorem Go.callSW {y : MethodName} {bytes : ByteArray} {ml idx W pc pc' : Nat} {rt : Option FieldType} {argsL rest S : List Value} {Ls : Array Slot} (hd : decode c.code pc = .ok (.invokestatic idx, 3)) (w1 : (Cond.methodLink own idx y).before a0 Z = true) (w2 : (Cond.static y).before a0 Z = true) (w3 : (Cond.initialized y.cls).before a0 Z = true) (w4 : (Cond.code y bytes ml rt).before a0 Z = true)
    (hy : y.cls ≠ "java/lang/invoke/MethodHandle" ∧ y.cls ≠ "java/lang/invoke/VarHandle") {rm : Room} (hM : Ct l Z a0 EL y bytes ml rt [] rm argsL.toArray n0 h ws' Q') (wc : (Cond.code y bytes ml rt).before a0 Z = true) (wz : (Cond.initialized y.cls).before a0 Z = true) (hf : rm.frames + 1 ≤ R.frames) (hlo : W + (ml + 11) + rm.locals ≤ R.locals)
    (hsz : Ls.size = c.maxLocals) (hlen : ∀ sig, parseMethodDescriptor y.desc = some sig → argsL.length = sig.parameters.length) (hst : S = argsL.reverse ++ rest) (hW : (rest.map fun v => v.category).sum ≤ W)
    (hk : k' = k + rm.cells) (hn : n' = n + rm.slots) (hp : pc' = pc + 3) (hc : k' ≤ R.cells) (hl : n' ≤ R.slots) (ob : ∀ x ∈ ws', x ∈ ws ∨ h0.size ≤ x)
    (q : ∀ (v : Option Value) (h' : Heap), Keep h h' ws' → Q' v h' → Go own p l e R s m args below meth c Z a0 EL n0 h0 ws Q sf k' n' h' (mkF m pc' Ls (v.toList ++ rest))) :
    Go own p l e R s m args below meth c Z a0 EL n0 h0 ws Q sf k n h (mkF m pc Ls S) := fun hC vm0 k0 T L X eT N K hS hk0 hZ hown H hs => by
  subst hk hn hp
  obtain ⟨v, _, ⟨T1, L1, k1, n1⟩, -, X1, hS1, hg1, ⟨Lc, hQ, l1, y1, z1, hR⟩, st⟩ := callSS X hC.1 (y := y) hown (mvT (s := s.setVm vm0) hZ w1) (mvT (s := s.setVm vm0) hZ w2) (mvT (s := s.setVm vm0) hZ w3) (mvT (s := s.setVm vm0) hZ w4) hy (backOfSH (s := s) (Q := fun v h' L => Fr n0 L ∧ Keep h h' ws' ∧ Q' v h') hM hZ wc wz hf hlo hC.2.2.2.2.1 H.1) (g := mkF m pc Ls S) rfl hsz (argsL := argsL) (rest := rest) hlen hst (catOf hW) hd (fun _ _ => ⟨rfl, eT, hc, hl⟩)
  dsimp only [Pt.U, Pt.locs, Pt.cells, Pt.slots] at X1 hS1 hg1 l1 y1 z1 hR st hQ
  subst l1 y1 z1
  obtain ⟨N1, K1, q1⟩ := hQ
  obtain ⟨X2, hS2, hZ2, hown2⟩ := rebS (n1 := T.heap.size) hS (by rw [eT]; exact hk0) X1 hS1 hg1 (Z := Z) hZ (own := own) hown
  exact (q v T1.heap K1 q1 hC T1.vm _ T1 _ X2 rfl (N.app N1) (K.trans K1 ob) hS2 (Nat.le_refl _) hZ2 hown2 (H.trans hR) (fun x hx => ⟨Nat.lt_of_lt_of_le (hs x hx).1 hR.2.1, hR.safe (hs x hx).1 (hs x hx).2⟩)).step (fun t r => st.trans r)
/-- calls that change nothing -/
theorem Go.callSP {y : MethodName} {bytes : ByteArray} {ml idx W pc pc' : Nat} {rt : Option FieldType} {argsL rest S : List Value} {Ls : Array Slot} {P : Option Value → Prop} (hd : decode c.code pc = .ok (.invokestatic idx, 3)) (w1 : (Cond.methodLink own idx y).before a0 Z = true) (w2 : (Cond.static y).before a0 Z = true) (w3 : (Cond.initialized y.cls).before a0 Z = true) (w4 : (Cond.code y bytes ml rt).before a0 Z = true)
    (hy : y.cls ≠ "java/lang/invoke/MethodHandle" ∧ y.cls ≠ "java/lang/invoke/VarHandle") (hK : ∀ (s' : State), Z.Warmed39 s'.vm → Bk l R p e below s' args y 3 W argsL.toArray h 0 0 n0 [] (fun v h' => P v ∧ h' = h))
    (hsz : Ls.size = c.maxLocals) (hlen : ∀ sig, parseMethodDescriptor y.desc = some sig → argsL.length = sig.parameters.length) (hst : S = argsL.reverse ++ rest) (hW : (rest.map fun v => v.category).sum ≤ W) (hp : pc' = pc + 3) (hc : k ≤ R.cells) (hl : n ≤ R.slots)
    (q : ∀ v : Option Value, P v → Go own p l e R s m args below meth c Z a0 EL n0 h0 ws Q sf k n h (mkF m pc' Ls (v.toList ++ rest))) :
    Go own p l e R s m args below meth c Z a0 EL n0 h0 ws Q sf k n h (mkF m pc Ls S) :=
  Go.callS hd w1 w2 w3 w4 hy hK hsz hlen hst hW rfl rfl hp hc hl all0 all0 (fun v h' _ ⟨q1, q2⟩ => q2 ▸ q v q1)
theorem Go.callVP {y z : MethodName} {C : String} {idx W pc pc' : Nat} {a : Addr} {argsL rest S : List Value} {Ls : Array Slot} {P : Option Value → Prop} (hd : decode c.code pc = .ok (.invokevirtual idx, 3)) (w1 : (Cond.methodLink own idx y).before a0 Z = true) (w2 : (Cond.declares y).before a0 Z = true) (nf : ∀ s' : State, Z.Warmed39 s'.vm → NotFace s' y) (w3 : (Cond.selects C y z).before a0 Z = true) (w4 : (Cond.instanceMethod z).before a0 Z = true)
    (hy : y.cls ≠ "java/lang/invoke/MethodHandle" ∧ y.cls ≠ "java/lang/invoke/VarHandle") (hK : ∀ (s' : State), Z.Warmed39 s'.vm → Bk l R p e below s' args z 3 W (.ref a :: argsL).toArray h 0 0 n0 [] (fun v h' => P v ∧ h' = h)) (E : Exa Z h a C)
    (hsz : Ls.size = c.maxLocals) (hlen : ∀ sig, parseMethodDescriptor y.desc = some sig → argsL.length = sig.parameters.length) (hst : S = argsL.reverse ++ .ref a :: rest) (hW : (rest.map fun v => v.category).sum ≤ W) (hp : pc' = pc + 3) (hc : k ≤ R.cells) (hl : n ≤ R.slots)
    (q : ∀ v : Option Value, P v → Go own p l e R s m args below meth c Z a0 EL n0 h0 ws Q sf k n h (mkF m pc' Ls (v.toList ++ rest))) :
    Go own p l e R s m args below meth c Z a0 EL n0 h0 ws Q sf k n h (mkF m pc Ls S) :=
  Go.callV hd w1 w2 nf w3 w4 hy hK E hsz hlen hst hW rfl rfl hp hc hl all0 all0 (fun v h' _ ⟨q1, q2⟩ => q2 ▸ q v q1)
theorem Go.callCP {y : MethodName} {bytes : ByteArray} {ml idx W pc pc' : Nat} {a : Addr} {argsL rest S : List Value} {Ls : Array Slot} {P : Option Value → Prop} (hd : decode c.code pc = .ok (.invokespecial idx, 3)) (hy1 : y.name = "<init>") (w1 : (Cond.methodLink own idx y).before a0 Z = true) (w2 : (Cond.instanceMethod y).before a0 Z = true) (w3 : (Cond.code y bytes ml none).before a0 Z = true)
    (hy : y.cls ≠ "java/lang/invoke/MethodHandle" ∧ y.cls ≠ "java/lang/invoke/VarHandle") (hK : ∀ (s' : State), Z.Warmed39 s'.vm → Bk l R p e below s' args y 3 W (.ref a :: argsL).toArray h 0 0 n0 [] (fun v h' => P v ∧ h' = h))
    (hsz : Ls.size = c.maxLocals) (hlen : ∀ sig, parseMethodDescriptor y.desc = some sig → argsL.length = sig.parameters.length) (hst : S = argsL.reverse ++ .ref a :: rest) (hW : (rest.map fun v => v.category).sum ≤ W) (hp : pc' = pc + 3) (hc : k ≤ R.cells) (hl : n ≤ R.slots)
    (q : ∀ v : Option Value, P v → Go own p l e R s m args below meth c Z a0 EL n0 h0 ws Q sf k n h (mkF m pc' Ls (v.toList ++ rest))) :
    Go own p l e R s m args below meth c Z a0 EL n0 h0 ws Q sf k n h (mkF m pc Ls S) :=
  Go.callC hd hy1 w1 w2 w3 hy hK hsz hlen hst hW rfl rfl hp hc hl all0 all0 (fun v h' _ ⟨q1, q2⟩ => q2 ▸ q v q1)
theorem Go.callSPW {y : MethodName} {bytes : ByteArray} {ml idx W pc pc' : Nat} {rt : Option FieldType} {argsL rest S : List Value} {Ls : Array Slot} {P : Option Value → Prop} (hd : decode c.code pc = .ok (.invokestatic idx, 3)) (w1 : (Cond.methodLink own idx y).before a0 Z = true) (w2 : (Cond.static y).before a0 Z = true) (w3 : (Cond.initialized y.cls).before a0 Z = true) (w4 : (Cond.code y bytes ml rt).before a0 Z = true)
    (hy : y.cls ≠ "java/lang/invoke/MethodHandle" ∧ y.cls ≠ "java/lang/invoke/VarHandle") {rm : Room} (hM : Ct l Z a0 EL y bytes ml rt [] rm argsL.toArray n0 h [] (fun v h' => P v ∧ h' = h)) (wc : (Cond.code y bytes ml rt).before a0 Z = true) (wz : (Cond.initialized y.cls).before a0 Z = true) (hf : rm.frames + 1 ≤ R.frames) (hlo : W + (ml + 11) + rm.locals ≤ R.locals)
    (hsz : Ls.size = c.maxLocals) (hlen : ∀ sig, parseMethodDescriptor y.desc = some sig → argsL.length = sig.parameters.length) (hst : S = argsL.reverse ++ rest) (hW : (rest.map fun v => v.category).sum ≤ W) (hk : k' = k + rm.cells) (hn : n' = n + rm.slots) (hp : pc' = pc + 3) (hc : k' ≤ R.cells) (hl : n' ≤ R.slots)
    (q : ∀ v : Option Value, P v → Go own p l e R s m args below meth c Z a0 EL n0 h0 ws Q sf k' n' h (mkF m pc' Ls (v.toList ++ rest))) :
    Go own p l e R s m args below meth c Z a0 EL n0 h0 ws Q sf k n h (mkF m pc Ls S) :=
  Go.callSW hd w1 w2 w3 w4 hy hM wc wz hf hlo hsz hlen hst hW hk hn hp hc hl all0 (fun v h' _ ⟨q1, q2⟩ => q2 ▸ q v q1)
theorem Go.callVPW {y z : MethodName} {C : String} {bytes : ByteArray} {ml : Nat} {rt : Option FieldType} {idx W pc pc' : Nat} {a : Addr} {argsL rest S : List Value} {Ls : Array Slot} {P : Option Value → Prop} (hd : decode c.code pc = .ok (.invokevirtual idx, 3)) (w1 : (Cond.methodLink own idx y).before a0 Z = true) (w2 : (Cond.declares y).before a0 Z = true) (nf : ∀ s' : State, Z.Warmed39 s'.vm → NotFace s' y) (w3 : (Cond.selects C y z).before a0 Z = true) (w4 : (Cond.instanceMethod z).before a0 Z = true)
    (hy : y.cls ≠ "java/lang/invoke/MethodHandle" ∧ y.cls ≠ "java/lang/invoke/VarHandle") {rm : Room} (hM : Ct l Z a0 EL z bytes ml rt [] rm (.ref a :: argsL).toArray n0 h [] (fun v h' => P v ∧ h' = h)) (wc : (Cond.code z bytes ml rt).before a0 Z = true) (wz : (Cond.initialized z.cls).before a0 Z = true) (hf : rm.frames + 1 ≤ R.frames) (hlo : W + (ml + 11) + rm.locals ≤ R.locals) (E : Exa Z h a C)
    (hsz : Ls.size = c.maxLocals) (hlen : ∀ sig, parseMethodDescriptor y.desc = some sig → argsL.length = sig.parameters.length) (hst : S = argsL.reverse ++ .ref a :: rest) (hW : (rest.map fun v => v.category).sum ≤ W) (hk : k' = k + rm.cells) (hn : n' = n + rm.slots) (hp : pc' = pc + 3) (hc : k' ≤ R.cells) (hl : n' ≤ R.slots)
    (q : ∀ v : Option Value, P v → Go own p l e R s m args below meth c Z a0 EL n0 h0 ws Q sf k' n' h (mkF m pc' Ls (v.toList ++ rest))) :
    Go own p l e R s m args below meth c Z a0 EL n0 h0 ws Q sf k n h (mkF m pc Ls S) :=
  Go.callVW hd w1 w2 nf w3 w4 hy hM wc wz hf hlo E hsz hlen hst hW hk hn hp hc hl all0 (fun v h' _ ⟨q1, q2⟩ => q2 ▸ q v q1)
theorem Go.callCPW {y : MethodName} {bytes : ByteArray} {ml idx W pc pc' : Nat} {a : Addr} {argsL rest S : List Value} {Ls : Array Slot} {P : Option Value → Prop} (hd : decode c.code pc = .ok (.invokespecial idx, 3)) (hy1 : y.name = "<init>") (w1 : (Cond.methodLink own idx y).before a0 Z = true) (w2 : (Cond.instanceMethod y).before a0 Z = true) (w3 : (Cond.code y bytes ml none).before a0 Z = true)
    (hy : y.cls ≠ "java/lang/invoke/MethodHandle" ∧ y.cls ≠ "java/lang/invoke/VarHandle") {rm : Room} (hM : Ct l Z a0 EL y bytes ml none [] rm (.ref a :: argsL).toArray n0 h [] (fun v h' => P v ∧ h' = h)) (wc : (Cond.code y bytes ml none).before a0 Z = true) (wz : (Cond.initialized y.cls).before a0 Z = true) (hf : rm.frames + 1 ≤ R.frames) (hlo : W + (ml + 11) + rm.locals ≤ R.locals)
    (hsz : Ls.size = c.maxLocals) (hlen : ∀ sig, parseMethodDescriptor y.desc = some sig → argsL.length = sig.parameters.length) (hst : S = argsL.reverse ++ .ref a :: rest) (hW : (rest.map fun v => v.category).sum ≤ W) (hk : k' = k + rm.cells) (hn : n' = n + rm.slots) (hp : pc' = pc + 3) (hc : k' ≤ R.cells) (hl : n' ≤ R.slots)
    (q : ∀ v : Option Value, P v → Go own p l e R s m args below meth c Z a0 EL n0 h0 ws Q sf k' n' h (mkF m pc' Ls (v.toList ++ rest))) :
    Go own p l e R s m args below meth c Z a0 EL n0 h0 ws Q sf k n h (mkF m pc Ls S) :=
  Go.callCW hd hy1 w1 w2 w3 hy hM wc wz hf hlo hsz hlen hst hW hk hn hp hc hl all0 (fun v h' _ ⟨q1, q2⟩ => q2 ▸ q v q1)
end Layer
theorem nar_ref {C : String} {v : Value} (h : v.isRef = true) : narrow (.object C) v = v := by rcases ref_cases h with rfl | ⟨_, rfl⟩ <;> rfl
theorem fit_ref {C : String} {v : Value} (h : v.isRef = true) : fits (.object C) v = true := by rcases ref_cases h with rfl | ⟨_, rfl⟩ <;> rfl
end Jvm.Pilot.@@N@@.Own
namespace Jvm.Pilot.@@N@@.Own
open Jvm Jvm.ClassFile Sem Op Lib Jvm.Free Jvm.Stand Jvm.LawKit Jvm.RoadKit Bundle
section Layer2
variable {p : Program} {l : Launch} {e : Env} {R : Room} {s : State} {m : MethodId} {args : Array Value} {below : List Frame} {meth : Method} {c : Code} {Z : State} {a0 : Array Value} {EL : List (String × Nat)} {own : String} {n0 : Nat} {h0 h : Heap} {ws ws' sf : List Addr} {Q Q' : Option Value → Heap → Prop} {k n k' n' : Nat} {g g' : JFrame}
/-- a constructor whose pool entry was resolved before -/
theorem scallRef {y : MethodName} {idx : Nat} (hx : p.tables.exec = Jvm.exec) (hZ : Z.Warmed39 s.vm) (hown : s.vm.findClass own = some m.cls) (hy1 : y.name = "<init>") (w1 : (Cond.methodRef own idx y).before a0 Z = true) (w2 : (Cond.instanceMethod y).before a0 Z = true) {bytes : ByteArray} {ml : Nat} (w3 : (Cond.code y bytes ml none).before a0 Z = true)
    (hy : y.cls ≠ "java/lang/invoke/MethodHandle" ∧ y.cls ≠ "java/lang/invoke/VarHandle") : SCall p l e R s m args below meth c idx y := by
  refine SCall.of_ready hx hy1 (mvT hZ w2) (mvT hZ w3) fun U r hU hn => ?_
  have hW : Z.Warmed39 U.vm := wtrans hZ hU
  have hnZ : Z.methodNamed? y = some r := by
    have q : (Z.setVm s.vm).methodNamed? y = Z.methodNamed? y := State.methodNamed?_setVm hZ.alike y
    exact q.symm.trans hn
  have hnU : (Z.setVm U.vm).methodNamed? y = some r := (State.methodNamed?_setVm hW.alike y).trans hnZ
  have hc : (Z.setVm U.vm).vm.findClass own = some m.cls := (hU.alike.findClass _ _).trans hown
  obtain ⟨m', c', q1, q2, q3, q4⟩ := Cond.methodRef_named e hc (Cond.methodRef_warmed39 hW hnZ hy w1)
  cases q1.symm.trans (State.methodFound?_of_named hnU hy)
  cases q3.symm.trans (findClass_of_methodNamed hnU)
  exact ⟨q4, q2⟩
theorem Go.callR {y : MethodName} {idx W rc rs pc pc' : Nat} {a : Addr} {argsL rest S : List Value} {Ls : Array Slot} (hd : decode c.code pc = .ok (.invokespecial idx, 3)) (hSC : ∀ s' : State, Z.Warmed39 s'.vm → s'.vm.findClass own = some m.cls → SCall p l e R s' m args below meth c idx y)
    (hK : ∀ (s' : State), Z.Warmed39 s'.vm → Bk l R p e below s' args y 3 W (.ref a :: argsL).toArray h rc rs n0 ws' Q')
    (hsz : Ls.size = c.maxLocals) (hlen : ∀ sig, parseMethodDescriptor y.desc = some sig → argsL.length = sig.parameters.length) (hst : S = argsL.reverse ++ .ref a :: rest) (hW : (rest.map fun v => v.category).sum ≤ W)
    (hk : k' = k + rc) (hn : n' = n + rs) (hp : pc' = pc + 3) (hc : k' ≤ R.cells) (hl : n' ≤ R.slots) (ob : ∀ x ∈ ws', x ∈ ws ∨ h0.size ≤ x) (sa : ∀ x ∈ ws', x ∈ sf ∨ SafeA Z EL h x)
    (q : ∀ (v : Option Value) (h' : Heap), Keep h h' ws' → Q' v h' → Go own p l e R s m args below meth c Z a0 EL n0 h0 ws Q sf k' n' h' (mkF m pc' Ls (v.toList ++ rest))) :
    Go own p l e R s m args below meth c Z a0 EL n0 h0 ws Q sf k n h (mkF m pc Ls S) := fun hC vm0 k0 T L X eT N K hS hk0 hZ hown H hs => by
  subst hk hn hp
  have call0 : SCall p l e R (s.setVm vm0) m args below meth c idx y := hSC (s.setVm vm0) hZ hown
  unfold SCall at call0
  have call := @call0 T L k n X W _ _ (hK (s.setVm vm0) hZ) (mkF m pc Ls S) rfl hsz _ (Steps.refl _) a argsL rest hlen hst (catOf hW) hd (fun _ _ => ⟨rfl, eT, hc, hl⟩)
  obtain ⟨v, _, ⟨T1, L1, k1, n1⟩, -, X1, ⟨Lc, hQ, l1, y1, z1⟩, st⟩ := call
  dsimp only [Pt.U, Pt.locs, Pt.cells, Pt.slots] at X1 l1 y1 z1 st hQ
  subst l1 y1 z1
  obtain ⟨N1, K1, q1⟩ := hQ
  have hw : ∀ x ∈ ws', Safe Z EL vm0 h x := fun x hx => safeOf hZ hs (sa x hx)
  exact (q v T1.heap K1 q1 hC vm0 k0 T1 _ X1 rfl (N.app N1) (K.trans K1 ob) hS (Nat.le_trans hk0 K1.1) hZ hown (H.trans (CHr.keep K1 hw H.1)) (safeKeep H.1 K1 hw hs)).step (fun t r => st.trans r)
/-- a nest-mate's private constructor -/
theorem Go.callNW {y : MethodName} {host : String} {bytes : ByteArray} {ml idx W pc pc' : Nat} {a : Addr} {argsL rest S : List Value} {Ls : Array Slot} (hd : decode c.code pc = .ok (.invokespecial idx, 3)) (hy1 : y.name = "<init>") (w1 : (Cond.methodLinkNest own idx y host).before a0 Z = true) (w2 : (Cond.instanceMethod y).before a0 Z = true) (w3 : (Cond.code y bytes ml none).before a0 Z = true)
    (hy : y.cls ≠ "java/lang/invoke/MethodHandle" ∧ y.cls ≠ "java/lang/invoke/VarHandle") {rm : Room} (hM : Ct l Z a0 EL y bytes ml none [] rm (.ref a :: argsL).toArray n0 h ws' Q') (wc : (Cond.code y bytes ml none).before a0 Z = true) (wz : (Cond.initialized y.cls).before a0 Z = true) (hf : rm.frames + 1 ≤ R.frames) (hlo : W + (ml + 11) + rm.locals ≤ R.locals)
    (hsz : Ls.size = c.maxLocals) (hlen : ∀ sig, parseMethodDescriptor y.desc = some sig → argsL.length = sig.parameters.length) (hst : S = argsL.reverse ++ .ref a :: rest) (hW : (rest.map fun v => v.category).sum ≤ W)
    (hk : k' = k + rm.cells) (hn : n' = n + rm.slots) (hp : pc' = pc + 3) (hc : k' ≤ R.cells) (hl : n' ≤ R.slots) (ob : ∀ x ∈ ws', x ∈ ws ∨ h0.size ≤ x)
    (q : ∀ (v : Option Value) (h' : Heap), Keep h h' ws' → Q' v h' → Go own p l e R s m args below meth c Z a0 EL n0 h0 ws Q sf k' n' h' (mkF m pc' Ls (v.toList ++ rest))) :
    Go own p l e R s m args below meth c Z a0 EL n0 h0 ws Q sf k n h (mkF m pc Ls S) := fun hC vm0 k0 T L X eT N K hS hk0 hZ hown H hs => by
  subst hk hn hp
  have w1' : (Cond.methodLinkNest own idx y host).before args (s.setVm vm0) = true := Cond.methodLinkNest_wide (s := Z) (vm' := vm0) (args := a0) hZ w1
  obtain ⟨v, _, ⟨T1, L1, k1, n1⟩, -, X1, hS1, hg1, ⟨Lc, hQ, l1, y1, z1, hR⟩, st⟩ := X.specialBackNestS hC.1 (y := y) hy1 hown w1' (mvT (s := s.setVm vm0) hZ w2) (mvT (s := s.setVm vm0) hZ w3) hy (backOfSH (s := s) (Q := fun v h' L => Fr n0 L ∧ Keep h h' ws' ∧ Q' v h') hM hZ wc wz hf hlo hC.2.2.2.2.1 H.1) (g := mkF m pc Ls S) rfl hsz (Steps.refl _) (a := a) (argsL := argsL) (rest := rest) hlen hst (catOf hW) hd (fun _ _ => ⟨rfl, eT, hc, hl⟩)
  dsimp only [Pt.U, Pt.locs, Pt.cells, Pt.slots] at X1 hS1 hg1 l1 y1 z1 hR st hQ
  subst l1 y1 z1
  obtain ⟨N1, K1, q1⟩ := hQ
  obtain ⟨X2, hS2, hZ2, hown2⟩ := rebS (n1 := T.heap.size) hS (by rw [eT]; exact hk0) X1 hS1 hg1 (Z := Z) hZ (own := own) hown
  exact (q v T1.heap K1 q1 hC T1.vm _ T1 _ X2 rfl (N.app N1) (K.trans K1 ob) hS2 (Nat.le_refl _) hZ2 hown2 (H.trans hR) (fun x hx => ⟨Nat.lt_of_lt_of_le (hs x hx).1 hR.2.1, hR.safe (hs x hx).1 (hs x hx).2⟩)).step (fun t r => st.trans r)
/-- a private method of the object's own class -/
theorem Go.callPW {y : MethodName} {bytes : ByteArray} {ml sl : Nat} {rt : Option FieldType} {idx W pc pc' : Nat} {a : Addr} {argsL rest S : List Value} {Ls : Array Slot} (hd : decode c.code pc = .ok (.invokevirtual idx, 3)) (w1 : (Cond.methodLink own idx y).before a0 Z = true) (w2 : (Cond.privateMethod y).before a0 Z = true) (wi : (Cond.instantiable y.cls sl).before a0 Z = true) (w4 : (Cond.instanceMethod y).before a0 Z = true)
    (hy : y.cls ≠ "java/lang/invoke/MethodHandle" ∧ y.cls ≠ "java/lang/invoke/VarHandle") {rm : Room} (hM : Ct l Z a0 EL y bytes ml rt [] rm (.ref a :: argsL).toArray n0 h ws' Q') (wc : (Cond.code y bytes ml rt).before a0 Z = true) (wz : (Cond.initialized y.cls).before a0 Z = true) (hf : rm.frames + 1 ≤ R.frames) (hlo : W + (ml + 11) + rm.locals ≤ R.locals) (E : Exa Z h a y.cls)
    (hsz : Ls.size = c.maxLocals) (hlen : ∀ sig, parseMethodDescriptor y.desc = some sig → argsL.length = sig.parameters.length) (hst : S = argsL.reverse ++ .ref a :: rest) (hW : (rest.map fun v => v.category).sum ≤ W)
    (hk : k' = k + rm.cells) (hn : n' = n + rm.slots) (hp : pc' = pc + 3) (hc : k' ≤ R.cells) (hl : n' ≤ R.slots) (ob : ∀ x ∈ ws', x ∈ ws ∨ h0.size ≤ x)
    (q : ∀ (v : Option Value) (h' : Heap), Keep h h' ws' → Q' v h' → Go own p l e R s m args below meth c Z a0 EL n0 h0 ws Q sf k' n' h' (mkF m pc' Ls (v.toList ++ rest))) :
    Go own p l e R s m args below meth c Z a0 EL n0 h0 ws Q sf k n h (mkF m pc Ls S) := fun hC vm0 k0 T L X eT N K hS hk0 hZ hown H hs => by
  subst hk hn hp
  obtain ⟨cell, hcell, hstat⟩ := E.cell
  have hpriv : (s.setVm vm0).PrivateAt y := Cond.privateMethod_at (args := args) (mvP (s := s.setVm vm0) hZ w2)
  have hinst : (Cond.instanceMethod y).before args (s.setVm vm0) = true := mvT (s := s.setVm vm0) hZ w4
  obtain ⟨cI, kI, i1, i2, -, i4, -, -⟩ := Cond.instantiable_spec (mvT (s := s.setVm vm0) (args := args) hZ wi)
  have hsel : (Cond.selects y.cls y y).before args (s.setVm vm0) = true := selects_self_of_private i1 i2 (by cases h : kI.isInterface <;> simp_all) hpriv hinst hy
  obtain ⟨v, _, ⟨T1, L1, k1, n1⟩, -, X1, hS1, hg1, ⟨Lc, hQ, l1, y1, z1, hR⟩, st⟩ := X.privateBackS hC.1 (y := y) hown (mvT (s := s.setVm vm0) hZ w1) hinst hsel hpriv (mvT (s := s.setVm vm0) hZ wc) hy (backOfSH (s := s) (Q := fun v h' L => Fr n0 L ∧ Keep h h' ws' ∧ Q' v h') hM hZ wc wz hf hlo hC.2.2.2.2.1 H.1) (g := mkF m pc Ls S) rfl hsz (Steps.refl _) (a := a) (cell := cell) (by rw [eT]; exact hcell) hstat (argsL := argsL) (rest := rest) hlen hst (catOf hW) hd (fun _ _ => ⟨rfl, eT, hc, hl⟩)
  dsimp only [Pt.U, Pt.locs, Pt.cells, Pt.slots] at X1 hS1 hg1 l1 y1 z1 hR st hQ
  subst l1 y1 z1
  obtain ⟨N1, K1, q1⟩ := hQ
  obtain ⟨X2, hS2, hZ2, hown2⟩ := rebS (n1 := T.heap.size) hS (by rw [eT]; exact hk0) X1 hS1 hg1 (Z := Z) hZ (own := own) hown
  exact (q v T1.heap K1 q1 hC T1.vm _ T1 _ X2 rfl (N.app N1) (K.trans K1 ob) hS2 (Nat.le_refl _) hZ2 hown2 (H.trans hR) (fun x hx => ⟨Nat.lt_of_lt_of_le (hs x hx).1 hR.2.1, hR.safe (hs x hx).1 (hs x hx).2⟩)).step (fun t r => st.trans r)
/-- newarray, the class said too -/
theorem Go.newPE {aty : ArrayType} {ty : FieldType} {dv : Value} {ad : String} {pc pc' cap : Nat} {z : Int32} {Ls : Array Slot} {S : List Value} (hd : decode c.code pc = .ok (.newarray aty, 2)) (hty : newarray.typeOf aty = ty) (hdv : defaultValue ty = dv) (had : "[" ++ ty.toString = ad) (w : (Cond.arrayClass ty).before a0 Z = true) (hz : ¬ z < 0) (hcap : z.toNatClampNeg ≤ cap) (hb : cap * 8 ≤ 536870912)
    (hk : k' = k + 1) (hn : n' = n + cap) (hp : pc' = pc + 2) (hc : k' ≤ R.cells) (hl : n' ≤ R.slots)
    (q : ∀ (a : Addr) (h' : Heap) (cA : ClassId), a = h.size → h0.size ≤ a → Ext h h' → Arv Z h' a cA ty z [] dv → Exa Z h' a ad → Go own p l e R s m args below meth c Z a0 EL n0 h0 ws Q (a :: sf) k' n' h' (mkF m pc' Ls (.ref a :: S))) :
    Go own p l e R s m args below meth c Z a0 EL n0 h0 ws Q sf k n h (mkF m pc Ls (.int z :: S)) := fun hC vm0 k0 T L X eT N K hS hk0 hZ hown H hs => by
  subst hk hn hp hty hdv
  obtain ⟨T2, h2, k2, X2, e2, E2, A2, B2, st2⟩ := RoadKit.newPE X hC.1 (s := s.setVm vm0) hZ w eT (g := (mkF m pc Ls (.int z :: S))) rfl hd rfl hz hcap hb hc hl had
  exact (q _ h2 k2 rfl K.1 E2 (Arv.new A2 hz) B2 hC vm0 k0 T2 _ X2 e2 N (K.ext E2) hS (Nat.le_trans hk0 E2.1) hZ hown (H.trans (CHr.ext E2 H.1)) (safeNew H.1 E2 A2.lt hs)).step st2
/-- clone of an array -/
theorem Go.clone {ad : String} {ty : FieldType} {dv : Value} {idx pc pc' W cap : Nat} {a : Addr} {kk : ClassId} {z : Int32} {vs rest : List Value} {Ls : Array Slot} (hd : decode c.code pc = .ok (.invokevirtual idx, 3))
    (w1 : (Cond.methodLink own idx ⟨ad, "clone", "()Ljava/lang/Object;"⟩).before a0 Z = true) (w2 : (Cond.sameMethod ad "java/lang/Object" "clone" "()Ljava/lang/Object;").before a0 Z = true) (w3 : (Cond.native ⟨"java/lang/Object", "clone", "()Ljava/lang/Object;"⟩).before a0 Z = true)
    (w4 : (Cond.instanceMethod ⟨"java/lang/Object", "clone", "()Ljava/lang/Object;"⟩).before a0 Z = true) (w5 : (Cond.selects ad ⟨ad, "clone", "()Ljava/lang/Object;"⟩ ⟨"java/lang/Object", "clone", "()Ljava/lang/Object;"⟩).before a0 Z = true) (w6 : (Cond.castable ad "java/lang/Cloneable").before a0 Z = true)
    (F : Arv Z h a kk ty z vs dv) (E : Exa Z h a ad) (hsz : Ls.size = c.maxLocals) (hf : 1 ≤ R.frames) (hW : (rest.map fun v => v.category).sum ≤ W) (hlo : W + 14 ≤ R.locals) (hcap : z.toNatClampNeg ≤ cap)
    (hk : k' = k + 1) (hn : n' = n + cap) (hp : pc' = pc + 3) (hc : k' ≤ R.cells) (hl : n' ≤ R.slots)
    (q : ∀ (b : Addr) (h' : Heap), b = h.size → h0.size ≤ b → Ext h h' → Arv Z h' b kk ty z vs dv → Exa Z h' b ad → Go own p l e R s m args below meth c Z a0 EL n0 h0 ws Q (b :: sf) k' n' h' (mkF m pc' Ls (.ref b :: rest))) :
    Go own p l e R s m args below meth c Z a0 EL n0 h0 ws Q sf k n h (mkF m pc Ls (.ref a :: rest)) := fun hC vm0 k0 T L X eT N K hS hk0 hZ hown H hs => by
  subst hk hn hp
  have F' : Arh Z h a kk ty z [] vs dv := F
  obtain ⟨T2, h2, X2, e2, E2, A2, B2, st2⟩ := cloneH X hC.1 (s := s.setVm vm0) hZ hown w1 w2 w3 w4 w5 w6 eT F' E (g := mkF m pc Ls (.ref a :: rest)) rfl hsz rfl hd hf (catOf hW) hlo hcap hc hl
  have A3 : Arv Z h2 h.size kk ty z vs dv := A2
  exact (q _ h2 rfl K.1 E2 A3 B2 hC vm0 k0 T2 _ X2 e2 N (K.ext E2) hS (Nat.le_trans hk0 E2.1) hZ hown (H.trans (CHr.ext E2 H.1)) (safeNew H.1 E2 A3.lt hs)).step st2
end Layer2
end Jvm.Pilot.@@N@@.Own
namespace Jvm.Pilot.@@N@@.OwnN
open Jvm Jvm.ClassFile Sem Op Lib Jvm.Free Jvm.Stand Jvm.LawKit Jvm.RoadKit Bundle
section Layer
variable {p : Program} {l : Launch} {e : Env} {R : Room} {s : State} {m : MethodId} {args : Array Value} {below : List Frame} {meth : Method} {c : Code} {Z : State} {a0 : Array Value} {own : String} {n0 : Nat} {h0 h : Heap} {ws ws' : List Addr} {Q Q' : Option Value → Heap → Prop} {k n k' n' : Nat} {g g' : JFrame}
/-- the walk's end: it returns, writes at n0 and above alone, keeps h0 but for ws, and Q holds -/
def Fin (p : Program) (e : Env) (below : List Frame) (s : State) (R : Room) (n0 : Nat) (h0 : Heap) (ws : List Addr) (Q : Option Value → Heap → Prop) (G : State) : Prop :=
  ∃ U o, Steps p.tables e below G U ∧ U.status = .running ∧ Ended U below o ∧ ∃ v L, o = .returned v ∧ (Fr n0 L ∧ Keep h0 U.heap ws ∧ Q v U.heap) ∧ FrameEnd s o U L R.cells R.slots
theorem Fin.step {G G' : State} (st : ∀ t, Steps p.tables e below G' t → Steps p.tables e below G t) (q : Fin p e below s R n0 h0 ws Q G') : Fin p e below s R n0 h0 ws Q G := by
  obtain ⟨U, o, h1, r⟩ := q
  exact ⟨U, o, st _ h1, r⟩
def Cx (own : String) (p : Program) (s : State) (m : MethodId) (meth : Method) (Z : State) (n0 : Nat) (h0 : Heap) (ws : List Addr) : Prop :=
  p.tables.exec = Jvm.exec ∧ Z.Warmed39 s.vm ∧ s.vm.findClass own = some m.cls ∧ meth.locks = false ∧ Old Z n0 h0 ∧ ∀ x ∈ ws, n0 ≤ x
/-- from the heap h and the frame g, k cells and n slots made, the walk ends well -/
def Go (own : String) (p : Program) (l : Launch) (e : Env) (R : Room) (s : State) (m : MethodId) (args : Array Value) (below : List Frame) (meth : Method) (c : Code) (Z : State) (n0 : Nat) (h0 : Heap) (ws : List Addr) (Q : Option Value → Heap → Prop) (k n : Nat) (h : Heap) (g : JFrame) : Prop :=
  Cx own p s m meth Z n0 h0 ws → ∀ (T : State) (L : List Loc), Stand p l e R s m args below meth c T L k n → T.heap = h → Fr n0 L → Keep h0 h ws → Fin p e below s R n0 h0 ws Q (T.setTop g)
theorem Go.cast (q : g = g') (r : Go own p l e R s m args below meth c Z n0 h0 ws Q k n h g') : Go own p l e R s m args below meth c Z n0 h0 ws Q k n h g := q ▸ r
theorem Go.keep (r : Keep h0 h ws → Go own p l e R s m args below meth c Z n0 h0 ws Q k n h g) : Go own p l e R s m args below meth c Z n0 h0 ws Q k n h g := fun hC T L X eT N K => r K hC T L X eT N K
theorem Old.le {Z : State} {n0 : Nat} {h : Heap} (O : Old Z n0 h) : n0 ≤ h.size := O.1 ▸ O.2.1
theorem Go.old (r : Old Z n0 h → Go own p l e R s m args below meth c Z n0 h0 ws Q k n h g) : Go own p l e R s m args below meth c Z n0 h0 ws Q k n h g := fun hC T L X eT N K => r (hC.2.2.2.2.1.keep K hC.2.2.2.2.2) hC T L X eT N K
/-- a step that changes the frame alone -/
theorem Go.sp (st : ∀ T : State, At T m c below → ∀ t, Steps p.tables e below (T.setTop g') t → Steps p.tables e below (T.setTop g) t) (q : Go own p l e R s m args below meth c Z n0 h0 ws Q k n h g') : Go own p l e R s m args below meth c Z n0 h0 ws Q k n h g :=
  fun hC T L X eT N K => (q hC T L X eT N K).step (st T X.here)
/-- a step that reads the heap -/
theorem Go.r (st : ∀ (s' T : State) (L : List Loc), Stand p l e R s' m args below meth c T L k n → T.heap = h → Z.Warmed39 s'.vm → ∀ t, Steps p.tables e below (T.setTop g') t → Steps p.tables e below (T.setTop g) t) (q : Go own p l e R s m args below meth c Z n0 h0 ws Q k n h g') : Go own p l e R s m args below meth c Z n0 h0 ws Q k n h g :=
  fun hC T L X eT N K => (q hC T L X eT N K).step (st s T L X eT hC.2.1)
/-- a step that may warm the tables -/
theorem Go.v (st : ∀ (s' T : State) (L : List Loc), Stand p l e R s' m args below meth c T L k n → T.heap = h → Z.Warmed39 s'.vm → s'.vm.findClass own = some m.cls → ∃ T' : State, Stand p l e R s' m args below meth c T' L k n ∧ T'.heap = h ∧ ∀ t, Steps p.tables e below (T'.setTop g') t → Steps p.tables e below (T.setTop g) t)
    (q : Go own p l e R s m args below meth c Z n0 h0 ws Q k n h g') : Go own p l e R s m args below meth c Z n0 h0 ws Q k n h g := fun hC T L X eT N K => by
  obtain ⟨T', X', e', st'⟩ := st s T L X eT hC.2.1 hC.2.2.1
  exact (q hC T' L X' e' N K).step st'
theorem Cx.ok {a : Addr} (hC : Cx own p s m meth Z n0 h0 ws) (ob : a ∈ ws ∨ h0.size ≤ a) : n0 ≤ a := ob.elim (hC.2.2.2.2.2 a) (Nat.le_trans (Old.le hC.2.2.2.2.1))
/-- a step that writes one place -/
theorem Go.w {a : Addr} {sl : Nat} {v : Value} (st : ∀ (s' T : State) (L : List Loc), Stand p l e R s' m args below meth c T L k n → T.heap = h → Z.Warmed39 s'.vm → s'.vm.findClass own = some m.cls → ∃ (T' : State) (h' : Heap), Stand p l e R s' m args below meth c T' (L ++ [⟨a, sl⟩]) k n ∧ T'.heap = h' ∧ Wr h h' a sl v ∧ ∀ t, Steps p.tables e below (T'.setTop g') t → Steps p.tables e below (T.setTop g) t)
    (ob : a ∈ ws ∨ h0.size ≤ a) (q : ∀ h' : Heap, Wr h h' a sl v → Go own p l e R s m args below meth c Z n0 h0 ws Q k n h' g') : Go own p l e R s m args below meth c Z n0 h0 ws Q k n h g := fun hC T L X eT N K => by
  obtain ⟨T', h', X', e', W, st'⟩ := st s T L X eT hC.2.1 hC.2.2.1
  exact (q h' W hC T' _ X' e' (Fr.snoc X' N (hC.ok ob)) (K.wr W ob)).step st'
/-- a step that makes cells -/
theorem Go.x {P : Heap → Prop} (st : ∀ (s' T : State) (L : List Loc), Stand p l e R s' m args below meth c T L k n → T.heap = h → Z.Warmed39 s'.vm → s'.vm.findClass own = some m.cls → ∃ (T' : State) (h' : Heap), Stand p l e R s' m args below meth c T' L k' n' ∧ T'.heap = h' ∧ Ext h h' ∧ P h' ∧ ∀ t, Steps p.tables e below (T'.setTop g') t → Steps p.tables e below (T.setTop g) t)
    (q : ∀ h' : Heap, Ext h h' → P h' → Go own p l e R s m args below meth c Z n0 h0 ws Q k' n' h' g') : Go own p l e R s m args below meth c Z n0 h0 ws Q k n h g := fun hC T L X eT N K => by
  obtain ⟨T', h', X', e', E, hP, st'⟩ := st s T L X eT hC.2.1 hC.2.2.1
  exact (q h' E hP hC T' L X' e' N (K.ext E)).step st'
/-- a step that writes objects at ws' -/
theorem Go.kp {P : Heap → Prop} (st : ∀ (s' T : State) (L : List Loc), Stand p l e R s' m args below meth c T L k n → T.heap = h → Fr n0 L → Z.Warmed39 s'.vm → s'.vm.findClass own = some m.cls → ∃ (T' : State) (h' : Heap) (L' : List Loc), Stand p l e R s' m args below meth c T' L' k n ∧ T'.heap = h' ∧ Fr n0 L' ∧ Keep h h' ws' ∧ P h' ∧ ∀ t, Steps p.tables e below (T'.setTop g') t → Steps p.tables e below (T.setTop g) t)
    (ob : ∀ x ∈ ws', x ∈ ws ∨ h0.size ≤ x) (q : ∀ h' : Heap, Keep h h' ws' → P h' → Go own p l e R s m args below meth c Z n0 h0 ws Q k n h' g') : Go own p l e R s m args below meth c Z n0 h0 ws Q k n h g := fun hC T L X eT N K => by
  obtain ⟨T', h', L', X', e', N', K', hP, st'⟩ := st s T L X eT N hC.2.1 hC.2.2.1
  exact (q h' K' hP hC T' L' X' e' N' (K.trans K' ob)).step st'
/-- new C -/
theorem Go.newO {C : String} {idx sl pc pc' : Nat} {Ls : Array Slot} {S : List Value} (hd : decode c.code pc = .ok (.new idx, 3)) (w : (Cond.classLink own idx C).before a0 Z = true) (wi : (Cond.instantiable C sl).before a0 Z = true) (wz : (Cond.initialized C).before a0 Z = true)
    (hk : k' = k + 1) (hn : n' = n + sl) (hp : pc' = pc + 3) (hc : k' ≤ R.cells) (hl : n' ≤ R.slots)
    (q : ∀ (a : Addr) (h' : Heap), a = h.size → h0.size ≤ a → Ext h h' → Exa Z h' a C → (∀ {O nm d : String} {ty : FieldType}, Laid Z a0 C O nm d → parseFieldDescriptor d = some ty → Fld Z h' a O nm d (defaultValue ty)) → Go own p l e R s m args below meth c Z n0 h0 ws Q k' n' h' (mkF m pc' Ls (.ref a :: S))) :
    Go own p l e R s m args below meth c Z n0 h0 ws Q k n h (mkF m pc Ls S) := fun hC T L X eT N K => by
  subst hk hn hp
  obtain ⟨T2, h2, X2, e2, E2, A2, D2, -, st2⟩ := RoadKit.newO X hC.1 hC.2.1 hC.2.2.1 w wi wz eT (g := (mkF m pc Ls S)) rfl hd hc hl
  exact (q _ h2 rfl K.1 E2 A2 D2 hC T2 _ X2 e2 N (K.ext E2)).step st2
/-- newarray of a primitive kind -/
theorem Go.newP {aty : ArrayType} {ty : FieldType} {dv : Value} {pc pc' cap : Nat} {z : Int32} {Ls : Array Slot} {S : List Value} (hd : decode c.code pc = .ok (.newarray aty, 2)) (hty : newarray.typeOf aty = ty) (hdv : defaultValue ty = dv) (w : (Cond.arrayClass ty).before a0 Z = true) (hz : ¬ z < 0) (hcap : z.toNatClampNeg ≤ cap) (hb : cap * 8 ≤ 536870912)
    (hk : k' = k + 1) (hn : n' = n + cap) (hp : pc' = pc + 2) (hc : k' ≤ R.cells) (hl : n' ≤ R.slots)
    (q : ∀ (a : Addr) (h' : Heap) (cA : ClassId), a = h.size → h0.size ≤ a → Ext h h' → Arv Z h' a cA ty z [] dv → Go own p l e R s m args below meth c Z n0 h0 ws Q k' n' h' (mkF m pc' Ls (.ref a :: S))) :
    Go own p l e R s m args below meth c Z n0 h0 ws Q k n h (mkF m pc Ls (.int z :: S)) := fun hC T L X eT N K => by
  subst hk hn hp hty hdv
  obtain ⟨T2, h2, k2, X2, e2, E2, A2, st2⟩ := RoadKit.newP X hC.1 hC.2.1 w eT (g := (mkF m pc Ls (.int z :: S))) rfl hd rfl hz hcap hb hc hl
  exact (q _ h2 k2 rfl K.1 E2 (Arv.new A2 hz) hC T2 _ X2 e2 N (K.ext E2)).step st2
/-- the return -/
theorem Go.ret {v : Option Value} (st : ∀ (s' T : State) (L : List Loc) (fs : List Frame), Stand p l e R s' m args below meth c T L k n → (∀ (f : JFrame) (acts : List Action), f.method = m → f.locked = none → f.entered = [] → (doReturn e (T.setTop f) acts v).1 = T.setFrames fs) → Steps p.tables e below (T.setTop g) (T.setFrames fs))
    (hv : meth.sig.returnType = none → v = none) (hc : k ≤ R.cells) (hs : n ≤ R.slots) (q : Q v h) : Go own p l e R s m args below meth c Z n0 h0 ws Q k n h g := fun hC T L X eT N K => by
  obtain ⟨fs, hr, hrun, hended, hW, hsame⟩ := X.leave (v := v) hv hC.2.2.2.1
  refine ⟨_, _, st s T L fs X hr, hrun, hended, _, _, rfl, ⟨N, ?_, ?_⟩, ⟨_, rfl⟩, hW, hsame.mono hc hs⟩
  · show Keep h0 T.heap ws
    rw [eT]; exact K
  · show Q v T.heap
    rw [eT]; exact q
/-- what a call asks and leaves -/
def Bk (l : Launch) (R : Room) (p : Program) (e : Env) (below : List Frame) (s : State) (args : Array Value) (y : MethodName) (len W : Nat) (as' : Array Value) (h : Heap) (rc rs n0 : Nat) (ws' : List Addr) (Q' : Option Value → Heap → Prop) : Prop :=
  Back l R p e below s args y len W (fun A a => a = as' ∧ A.U.heap = h ∧ A.cells + rc ≤ R.cells ∧ A.slots + rs ≤ R.slots)
    (fun A _ v B => ∃ L, (Fr n0 L ∧ Keep h B.U.heap ws' ∧ Q' v B.U.heap) ∧ B.locs = A.locs ++ L ∧ B.cells = A.cells + rc ∧ B.slots = A.slots + rs)
/-- a contract -/
def Ct (l : Launch) (Z : State) (y : MethodName) (bytes : ByteArray) (ml : Nat) (ret : Option FieldType) (wds : List Cond) (R : Room) (as' : Array Value) (n0 : Nat) (h0 : Heap) (ws : List Addr) (Q : Option Value → Heap → Prop) : Prop :=
  MetFree l y (head1 (Cond.code y bytes ml ret :: wds) R) (fun a U => a = as' ∧ Z.Warmed39 U.vm ∧ U.heap = h0) (fun _ _ _ _ _ => True) (fun _ U o U' => ∃ v L, o = .returned v ∧ (Fr n0 L ∧ Keep h0 U'.heap ws ∧ Q v U'.heap) ∧ FrameEnd U o U' L R.cells R.slots)
theorem Ct.of {y : MethodName} {bytes : ByteArray} {ml : Nat} {ret : Option FieldType} {wds : List Cond} {as' : Array Value} (pn : plainFor y = true) (hn : Old Z n0 h0) (hws : ∀ x ∈ ws, n0 ≤ x)
    (body : ∀ (p : Program) (e : Env) (s : State) (m : MethodId) (below : List Frame) (meth : Method) (c : Code), p.tables.exec = Jvm.exec → c.code = bytes → c.maxLocals = ml → meth.sig.returnType = ret → meth.name = y.name → Go y.cls p l e R s m as' below meth c Z n0 h0 ws Q 0 0 h0 (entryFrame m as' ml)) :
    Ct l Z y bytes ml ret wds R as' n0 h0 ws Q := by
  refine MetFree.of_bodySF pn hisR ?_
  intro p e s m args below meth c s₁ Bd hml0 hP hK
  obtain ⟨rfl, hZ, hh⟩ := hP
  have X0 : Stand p l e R s m args below meth c s₁ [] 0 0 := Stand.of_body Bd
  have e0 : s₁.heap = h0 := by rw [← hh, Bd.state]; rfl
  exact body p e s m below meth c Bd.exec Bd.bytes hml0 Bd.returns (name_of_methodNamed Bd.named Bd.method).1 ⟨Bd.exec, hZ, findClass_of_methodNamed Bd.named, Bd.notSynchronized, hn, hws⟩ s₁ [] X0 e0 (Fr.nil n0) (Keep.refl _ _)
theorem Ct.bk {y : MethodName} {bytes : ByteArray} {ml : Nat} {ret : Option FieldType} {rm : Room} {as' : Array Value} {len W : Nat} (hM : Ct l Z y bytes ml ret [] rm as' n0 h ws' Q') (hZ : Z.Warmed39 s.vm) (wc : (Cond.code y bytes ml ret).before a0 Z = true) (wz : (Cond.initialized y.cls).before a0 Z = true) (hf : rm.frames + 1 ≤ R.frames) (hl : W + (ml + 11) + rm.locals ≤ R.locals) :
    Bk l R p e below s args y len W as' h rm.cells rm.slots n0 ws' Q' := RoadKit.backOf (Q := fun v h' L => Fr n0 L ∧ Keep h h' ws' ∧ Q' v h') hM hZ wc wz hf hl
/-- a law of the library that changes nothing -/
theorem Bk.pure {y : MethodName} {as' : Array Value} {len W : Nat} {P : Option Value → Prop} (hB : Back l R p e below s args y len W (fun A a => a = as' ∧ A.U.heap = h ∧ A.cells + 0 ≤ R.cells ∧ A.slots + 0 ≤ R.slots) (fun A _ v B => ∃ L, (P v ∧ L = [] ∧ B.U.heap = h) ∧ B.locs = A.locs ++ L ∧ B.cells = A.cells + 0 ∧ B.slots = A.slots + 0)) :
    Bk l R p e below s args y len W as' h 0 0 n0 [] (fun v h' => P v ∧ h' = h) :=
  Back.mono hB (fun _ _ q => q) fun A a v B _ ⟨L, ⟨q1, q2, q3⟩, q4, q5, q6⟩ => ⟨L, ⟨q2 ▸ Fr.nil n0, q3 ▸ Keep.refl _ _, q1, q3⟩, q4, q5, q6⟩
theorem Bk.mono {y : MethodName} {as' : Array Value} {len W rc rs : Nat} {Q'' : Option Value → Heap → Prop} (hB : Bk l R p e below s args y len W as' h rc rs n0 ws' Q') (f : ∀ v h', Keep h h' ws' → Q' v h' → Q'' v h') : Bk l R p e below s args y len W as' h rc rs n0 ws' Q'' :=
  Back.mono hB (fun _ _ q => q) fun A a v B _ ⟨L, ⟨q1, q2, q3⟩, r⟩ => ⟨L, ⟨q1, q2, f _ _ q2 q3⟩, r⟩
theorem catOf {m : MethodId} {pc : Nat} {Ls : Array Slot} {S : List Value} {x W : Nat} (hW : x ≤ W) : 2 * (mkF m pc Ls S).monitorRoom + x ≤ W := by
  show 2 * 0 + _ ≤ _
  omega
/-- a constructor's call -/
theorem Go.callC {y : MethodName} {bytes : ByteArray} {ml idx W rc rs pc pc' : Nat} {a : Addr} {argsL rest S : List Value} {Ls : Array Slot} (hd : decode c.code pc = .ok (.invokespecial idx, 3)) (hy1 : y.name = "<init>") (w1 : (Cond.methodLink own idx y).before a0 Z = true) (w2 : (Cond.instanceMethod y).before a0 Z = true) (w3 : (Cond.code y bytes ml none).before a0 Z = true)
    (hy : y.cls ≠ "java/lang/invoke/MethodHandle" ∧ y.cls ≠ "java/lang/invoke/VarHandle") (hK : ∀ (s' : State), Z.Warmed39 s'.vm → Bk l R p e below s' args y 3 W (.ref a :: argsL).toArray h rc rs n0 ws' Q')
    (hsz : Ls.size = c.maxLocals) (hlen : ∀ sig, parseMethodDescriptor y.desc = some sig → argsL.length = sig.parameters.length) (hst : S = argsL.reverse ++ .ref a :: rest) (hW : (rest.map fun v => v.category).sum ≤ W)
    (hk : k' = k + rc) (hn : n' = n + rs) (hp : pc' = pc + 3) (hc : k' ≤ R.cells) (hl : n' ≤ R.slots) (ob : ∀ x ∈ ws', x ∈ ws ∨ h0.size ≤ x)
    (q : ∀ (v : Option Value) (h' : Heap), Keep h h' ws' → Q' v h' → Go own p l e R s m args below meth c Z n0 h0 ws Q k' n' h' (mkF m pc' Ls (v.toList ++ rest))) :
    Go own p l e R s m args below meth c Z n0 h0 ws Q k n h (mkF m pc Ls S) := fun hC T L X eT N K => by
  subst hk hn hp
  obtain ⟨v, _, ⟨T1, L1, k1, n1⟩, -, X1, ⟨Lc, hQ, l1, y1, z1⟩, st⟩ := X.specialBack hC.1 (y := y) hy1 hC.2.2.1 (mvT hC.2.1 w1) (mvT hC.2.1 w2) (mvT hC.2.1 w3) hy (hK s hC.2.1) (g := mkF m pc Ls S) rfl hsz (Steps.refl _) (a := a) (argsL := argsL) (rest := rest) hlen hst (catOf hW) hd (fun _ _ => ⟨rfl, eT, hc, hl⟩)
  dsimp only [Pt.U, Pt.locs, Pt.cells, Pt.slots] at X1 l1 y1 z1 st hQ
  subst l1 y1 z1
  obtain ⟨N1, K1, q1⟩ := hQ
  exact (q v T1.heap K1 q1 hC T1 _ X1 rfl (N.app N1) (K.trans K1 ob)).step (fun t r => st.trans r)
/-- an instance method's call -/
theorem Go.callV {y z : MethodName} {C : String} {idx W rc rs pc pc' : Nat} {a : Addr} {argsL rest S : List Value} {Ls : Array Slot} (hd : decode c.code pc = .ok (.invokevirtual idx, 3)) (w1 : (Cond.methodLink own idx y).before a0 Z = true) (w2 : (Cond.declares y).before a0 Z = true) (nf : ∀ s' : State, Z.Warmed39 s'.vm → NotFace s' y) (w3 : (Cond.selects C y z).before a0 Z = true) (w4 : (Cond.instanceMethod z).before a0 Z = true)
    (hy : y.cls ≠ "java/lang/invoke/MethodHandle" ∧ y.cls ≠ "java/lang/invoke/VarHandle") (hK : ∀ (s' : State), Z.Warmed39 s'.vm → Bk l R p e below s' args z 3 W (.ref a :: argsL).toArray h rc rs n0 ws' Q') (E : Exa Z h a C)
    (hsz : Ls.size = c.maxLocals) (hlen : ∀ sig, parseMethodDescriptor y.desc = some sig → argsL.length = sig.parameters.length) (hst : S = argsL.reverse ++ .ref a :: rest) (hW : (rest.map fun v => v.category).sum ≤ W)
    (hk : k' = k + rc) (hn : n' = n + rs) (hp : pc' = pc + 3) (hc : k' ≤ R.cells) (hl : n' ≤ R.slots) (ob : ∀ x ∈ ws', x ∈ ws ∨ h0.size ≤ x)
    (q : ∀ (v : Option Value) (h' : Heap), Keep h h' ws' → Q' v h' → Go own p l e R s m args below meth c Z n0 h0 ws Q k' n' h' (mkF m pc' Ls (v.toList ++ rest))) :
    Go own p l e R s m args below meth c Z n0 h0 ws Q k n h (mkF m pc Ls S) := fun hC T L X eT N K => by
  subst hk hn hp
  obtain ⟨cq, kq, qa, qb, qc⟩ := isOf hC.2.1 eT E
  obtain ⟨v, _, ⟨T1, L1, k1, n1⟩, -, X1, ⟨Lc, hQ, l1, y1, z1⟩, st⟩ := X.virtualBack hC.1 (y := y) (z := z) hC.2.2.1 (mvT hC.2.1 w1) (mvT hC.2.1 w2) (nf s hC.2.1) (mvT hC.2.1 w3) (mvT hC.2.1 w4) hy (hK s hC.2.1) qa qc (g := mkF m pc Ls S) rfl hsz (Steps.refl _) (argsL := argsL) (rest := rest) hlen hst (catOf hW) hd (fun _ _ => ⟨rfl, eT, hc, hl⟩)
  dsimp only [Pt.U, Pt.locs, Pt.cells, Pt.slots] at X1 l1 y1 z1 st hQ
  subst l1 y1 z1
  obtain ⟨N1, K1, q1⟩ := hQ
  exact (q v T1.heap K1 q1 hC T1 _ X1 rfl (N.app N1) (K.trans K1 ob)).step (fun t r => st.trans r)
/-- a static method's call -/
theorem Go.callS {y : MethodName} {bytes : ByteArray} {ml idx W rc rs pc pc' : Nat} {rt : Option FieldType} {argsL rest S : List Value} {Ls : Array Slot} (hd : decode c.code pc = .ok (.invokestatic idx, 3)) (w1 : (Cond.methodLink own idx y).before a0 Z = true) (w2 : (Cond.static y).before a0 Z = true) (w3 : (Cond.initialized y.cls).before a0 Z = true) (w4 : (Cond.code y bytes ml rt).before a0 Z = true)
    (hy : y.cls ≠ "java/lang/invoke/MethodHandle" ∧ y.cls ≠ "java/lang/invoke/VarHandle") (hK : ∀ (s' : State), Z.Warmed39 s'.vm → Bk l R p e below s' args y 3 W argsL.toArray h rc rs n0 ws' Q')
    (hsz : Ls.size = c.maxLocals) (hlen : ∀ sig, parseMethodDescriptor y.desc = some sig → argsL.length = sig.parameters.length) (hst : S = argsL.reverse ++ rest) (hW : (rest.map fun v => v.category).sum ≤ W)
    (hk : k' = k + rc) (hn : n' = n + rs) (hp : pc' = pc + 3) (hc : k' ≤ R.cells) (hl : n' ≤ R.slots) (ob : ∀ x ∈ ws', x ∈ ws ∨ h0.size ≤ x)
    (q : ∀ (v : Option Value) (h' : Heap), Keep h h' ws' → Q' v h' → Go own p l e R s m args below meth c Z n0 h0 ws Q k' n' h' (mkF m pc' Ls (v.toList ++ rest))) :
    Go own p l e R s m args below meth c Z n0 h0 ws Q k n h (mkF m pc Ls S) := fun hC T L X eT N K => by
  subst hk hn hp
  obtain ⟨v, _, ⟨T1, L1, k1, n1⟩, -, X1, ⟨Lc, hQ, l1, y1, z1⟩, st⟩ := Jvm.LawKit.callS X hC.1 (y := y) hC.2.2.1 (mvT hC.2.1 w1) (mvT hC.2.1 w2) (mvT hC.2.1 w3) (mvT hC.2.1 w4) hy (hK s hC.2.1) (g := mkF m pc Ls S) rfl hsz (argsL := argsL) (rest := rest) hlen hst (catOf hW) hd (fun _ _ => ⟨rfl, eT, hc, hl⟩)
  dsimp only [Pt.U, Pt.locs, Pt.cells, Pt.slots] at X1 l1 y1 z1 st hQ
  subst l1 y1 z1
  obtain ⟨N1, K1, q1⟩ := hQ
  exact (q v T1.heap K1 q1 hC T1 _ X1 rfl (N.app N1) (K.trans K1 ob)).step st
/-- calls that change nothing -/
theorem Go.callSP {y : MethodName} {bytes : ByteArray} {ml idx W pc pc' : Nat} {rt : Option FieldType} {argsL rest S : List Value} {Ls : Array Slot} {P : Option Value → Prop} (hd : decode c.code pc = .ok (.invokestatic idx, 3)) (w1 : (Cond.methodLink own idx y).before a0 Z = true) (w2 : (Cond.static y).before a0 Z = true) (w3 : (Cond.initialized y.cls).before a0 Z = true) (w4 : (Cond.code y bytes ml rt).before a0 Z = true)
    (hy : y.cls ≠ "java/lang/invoke/MethodHandle" ∧ y.cls ≠ "java/lang/invoke/VarHandle") (hK : ∀ (s' : State), Z.Warmed39 s'.vm → Bk l R p e below s' args y 3 W argsL.toArray h 0 0 n0 [] (fun v h' => P v ∧ h' = h))
    (hsz : Ls.size = c.maxLocals) (hlen : ∀ sig, parseMethodDescriptor y.desc = some sig → argsL.length = sig.parameters.length) (hst : S = argsL.reverse ++ rest) (hW : (rest.map fun v => v.category).sum ≤ W) (hp : pc' = pc + 3) (hc : k ≤ R.cells) (hl : n ≤ R.slots)
    (q : ∀ v : Option Value, P v → Go own p l e R s m args below meth c Z n0 h0 ws Q k n h (mkF m pc' Ls (v.toList ++ rest))) :
    Go own p l e R s m args below meth c Z n0 h0 ws Q k n h (mkF m pc Ls S) :=
  Go.callS hd w1 w2 w3 w4 hy hK hsz hlen hst hW rfl rfl hp hc hl all0 (fun v h' _ ⟨q1, q2⟩ => q2 ▸ q v q1)
theorem Go.callVP {y z : MethodName} {C : String} {idx W pc pc' : Nat} {a : Addr} {argsL rest S : List Value} {Ls : Array Slot} {P : Option Value → Prop} (hd : decode c.code pc = .ok (.invokevirtual idx, 3)) (w1 : (Cond.methodLink own idx y).before a0 Z = true) (w2 : (Cond.declares y).before a0 Z = true) (nf : ∀ s' : State, Z.Warmed39 s'.vm → NotFace s' y) (w3 : (Cond.selects C y z).before a0 Z = true) (w4 : (Cond.instanceMethod z).before a0 Z = true)
    (hy : y.cls ≠ "java/lang/invoke/MethodHandle" ∧ y.cls ≠ "java/lang/invoke/VarHandle") (hK : ∀ (s' : State), Z.Warmed39 s'.vm → Bk l R p e below s' args z 3 W (.ref a :: argsL).toArray h 0 0 n0 [] (fun v h' => P v ∧ h' = h)) (E : Exa Z h a C)
    (hsz : Ls.size = c.maxLocals) (hlen : ∀ sig, parseMethodDescriptor y.desc = some sig → argsL.length = sig.parameters.length) (hst : S = argsL.reverse ++ .ref a :: rest) (hW : (rest.map fun v => v.category).sum ≤ W) (hp : pc' = pc + 3) (hc : k ≤ R.cells) (hl : n ≤ R.slots)
    (q : ∀ v : Option Value, P v → Go own p l e R s m args below meth c Z n0 h0 ws Q k n h (mkF m pc' Ls (v.toList ++ rest))) :
    Go own p l e R s m args below meth c Z n0 h0 ws Q k n h (mkF m pc Ls S) :=
  Go.callV hd w1 w2 nf w3 w4 hy hK E hsz hlen hst hW rfl rfl hp hc hl all0 (fun v h' _ ⟨q1, q2⟩ => q2 ▸ q v q1)
theorem Go.callCP {y : MethodName} {bytes : ByteArray} {ml idx W pc pc' : Nat} {a : Addr} {argsL rest S : List Value} {Ls : Array Slot} {P : Option Value → Prop} (hd : decode c.code pc = .ok (.invokespecial idx, 3)) (hy1 : y.name = "<init>") (w1 : (Cond.methodLink own idx y).before a0 Z = true) (w2 : (Cond.instanceMethod y).before a0 Z = true) (w3 : (Cond.code y bytes ml none).before a0 Z = true)
    (hy : y.cls ≠ "java/lang/invoke/MethodHandle" ∧ y.cls ≠ "java/lang/invoke/VarHandle") (hK : ∀ (s' : State), Z.Warmed39 s'.vm → Bk l R p e below s' args y 3 W (.ref a :: argsL).toArray h 0 0 n0 [] (fun v h' => P v ∧ h' = h))
    (hsz : Ls.size = c.maxLocals) (hlen : ∀ sig, parseMethodDescriptor y.desc = some sig → argsL.length = sig.parameters.length) (hst : S = argsL.reverse ++ .ref a :: rest) (hW : (rest.map fun v => v.category).sum ≤ W) (hp : pc' = pc + 3) (hc : k ≤ R.cells) (hl : n ≤ R.slots)
    (q : ∀ v : Option Value, P v → Go own p l e R s m args below meth c Z n0 h0 ws Q k n h (mkF m pc' Ls (v.toList ++ rest))) :
    Go own p l e R s m args below meth c Z n0 h0 ws Q k n h (mkF m pc Ls S) :=
  Go.callC hd hy1 w1 w2 w3 hy hK hsz hlen hst hW rfl rfl hp hc hl all0 (fun v h' _ ⟨q1, q2⟩ => q2 ▸ q v q1)
end Layer
theorem nar_ref {C : String} {v : Value} (h : v.isRef = true) : narrow (.object C) v = v := by rcases ref_cases h with rfl | ⟨_, rfl⟩ <;> rfl
theorem fit_ref {C : String} {v : Value} (h : v.isRef = true) : fits (.object C) v = true := by rcases ref_cases h with rfl | ⟨_, rfl⟩ <;> rfl
end Jvm.Pilot.@@N@@.OwnN
namespace Jvm.Pilot.@@N@@
open Jvm Jvm.ClassFile Sem Op Lib Jvm.Free Jvm.Stand Jvm.LawKit Jvm.RoadKit Bundle
theorem own_w {a0 : Array Value} {Z : State} (hw : ∀ d ∈ tables_1, d.before a0 Z = true) {d : Jvm.Cond} (i : Nat) (h : tables_1[i]? = some d) : d.before a0 Z = true := hw d (List.mem_of_getElem? h)
section Small
variable {p : Program} {l : Launch} {e : Env} {R : Room} {s : State} {m : MethodId} {args : Array Value} {below : List Frame} {meth : Method} {c : Code} {T : State} {locs : List Loc} {cells slots : Nat} {Z : State} {a0 : Array Value} {h h' : Heap} {a : Addr} {k : ClassId} {ty : FieldType} {z j : Int32} {vs : List Value} {dv v : Value} {g : JFrame} {rest : List Value}
theorem own_len (X : Stand p l e R s m args below meth c T locs cells slots) (hx : p.tables.exec = Jvm.exec) (hZ : Z.Warmed39 s.vm) (eT : T.heap = h) (F : Arv Z h a k ty z vs dv) (hg : g.method = m) (hs : g.stack = .ref a :: rest) (hd : decode c.code g.pc = .ok (.arraylength, 1)) (t : State)
    (r : Steps p.tables e below (T.setTop { g with pc := g.pc + 1, stack := .int z :: rest }) t) : Steps p.tables e below (T.setTop g) t := by
  obtain ⟨cl, A, -, S, hz, -, -⟩ := F
  refine X.arraylength hx (by rw [eT]; exact A.1) (State.isArrayOf_alike hZ.alike A.2.1) hg hs hd t ?_
  rw [len_of S hz]; exact r
theorem own_ldC (X : Stand p l e R s m args below meth c T locs cells slots) (hx : p.tables.exec = Jvm.exec) (hZ : Z.Warmed39 s.vm) (eT : T.heap = h) (F : Arv Z h a k .char z vs dv) (hj : ¬ j < 0 ∧ j < z) (hv : vs.getD j.toNatClampNeg dv = v) (hg : g.method = m) (hs : g.stack = .int j :: .ref a :: rest) (hd : decode c.code g.pc = .ok (.caload, 1)) (t : State)
    (r : Steps p.tables e below (T.setTop { g with pc := g.pc + 1, stack := v :: rest }) t) : Steps p.tables e below (T.setTop g) t := by
  obtain ⟨cl, A, -, S, hz, H, -⟩ := F
  exact X.caload hx (by rw [eT]; exact A.1) (State.isArrayOf_alike hZ.alike A.2.1) A.2.2 (inb_of S hj) (H.at (inb_of S hj) hv) hg hs hd t r
theorem own_ldB (X : Stand p l e R s m args below meth c T locs cells slots) (hx : p.tables.exec = Jvm.exec) (hZ : Z.Warmed39 s.vm) (eT : T.heap = h) (F : Arv Z h a k .byte z vs dv) (hj : ¬ j < 0 ∧ j < z) (hv : vs.getD j.toNatClampNeg dv = v) (hg : g.method = m) (hs : g.stack = .int j :: .ref a :: rest) (hd : decode c.code g.pc = .ok (.baload, 1)) (t : State)
    (r : Steps p.tables e below (T.setTop { g with pc := g.pc + 1, stack := v :: rest }) t) : Steps p.tables e below (T.setTop g) t := by
  obtain ⟨cl, A, -, S, hz, H, -⟩ := F
  exact X.baloadBytes hx (by rw [eT]; exact A.1) (State.isArrayOf_alike hZ.alike A.2.1) A.2.2 (inb_of S hj) (H.at (inb_of S hj) hv) hg hs hd t r
theorem own_ldI (X : Stand p l e R s m args below meth c T locs cells slots) (hx : p.tables.exec = Jvm.exec) (hZ : Z.Warmed39 s.vm) (eT : T.heap = h) (F : Arv Z h a k .int z vs dv) (hj : ¬ j < 0 ∧ j < z) (hv : vs.getD j.toNatClampNeg dv = v) (hg : g.method = m) (hs : g.stack = .int j :: .ref a :: rest) (hd : decode c.code g.pc = .ok (.iaload, 1)) (t : State)
    (r : Steps p.tables e below (T.setTop { g with pc := g.pc + 1, stack := v :: rest }) t) : Steps p.tables e below (T.setTop g) t := by
  obtain ⟨cl, A, -, S, hz, H, -⟩ := F
  exact X.iaload hx (by rw [eT]; exact A.1) (State.isArrayOf_alike hZ.alike A.2.1) A.2.2 (inb_of S hj) (H.at (inb_of S hj) hv) hg hs hd t r
theorem own_ldL (X : Stand p l e R s m args below meth c T locs cells slots) (hx : p.tables.exec = Jvm.exec) (hZ : Z.Warmed39 s.vm) (eT : T.heap = h) (F : Arv Z h a k .long z vs dv) (hj : ¬ j < 0 ∧ j < z) (hv : vs.getD j.toNatClampNeg dv = v) (hg : g.method = m) (hs : g.stack = .int j :: .ref a :: rest) (hd : decode c.code g.pc = .ok (.laload, 1)) (t : State)
    (r : Steps p.tables e below (T.setTop { g with pc := g.pc + 1, stack := v :: rest }) t) : Steps p.tables e below (T.setTop g) t := by
  obtain ⟨cl, A, -, S, hz, H, -⟩ := F
  exact X.laload hx (by rw [eT]; exact A.1) (State.isArrayOf_alike hZ.alike A.2.1) A.2.2 (inb_of S hj) (H.at (inb_of S hj) hv) hg hs hd t r
theorem own_ldA {C : String} (X : Stand p l e R s m args below meth c T locs cells slots) (hx : p.tables.exec = Jvm.exec) (hZ : Z.Warmed39 s.vm) (eT : T.heap = h) (F : Arv Z h a k (.object C) z vs dv) (hj : ¬ j < 0 ∧ j < z) (hv : vs.getD j.toNatClampNeg dv = v) (hg : g.method = m) (hs : g.stack = .int j :: .ref a :: rest) (hd : decode c.code g.pc = .ok (.aaload, 1)) (t : State)
    (r : Steps p.tables e below (T.setTop { g with pc := g.pc + 1, stack := v :: rest }) t) : Steps p.tables e below (T.setTop g) t := by
  obtain ⟨cl, A, -, S, hz, H, -⟩ := F
  exact X.aaload hx (by rw [eT]; exact A.1) (State.isArrayOf_alike hZ.alike A.2.1) rfl A.2.2 (inb_of S hj) (H.at (inb_of S hj) hv) hg hs hd t r
theorem own_stC {x : Int32} (X : Stand p l e R s m args below meth c T locs cells slots) (hx : p.tables.exec = Jvm.exec) (hZ : Z.Warmed39 s.vm) (eT : T.heap = h) (F : Arv Z h a k .char z vs dv) (hj : ¬ j < 0 ∧ j < z) (hg : g.method = m) (hs : g.stack = .int x :: .int j :: .ref a :: rest) (hd : decode c.code g.pc = .ok (.castore, 1)) :
    ∃ (T' : State) (h' : Heap), Stand p l e R s m args below meth c T' (locs ++ [⟨a, j.toNatClampNeg⟩]) cells slots ∧ T'.heap = h' ∧ Wr h h' a j.toNatClampNeg (.int (nar .char x)) ∧ ∀ t, Steps p.tables e below (T'.setTop { g with pc := g.pc + 1, stack := rest }) t → Steps p.tables e below (T.setTop g) t := by
  obtain ⟨cl, A, -, S, hz, H, -⟩ := F
  exact stC X hx hZ eT A (inb_of S hj) hg hs hd
theorem own_stB {x : Int32} (X : Stand p l e R s m args below meth c T locs cells slots) (hx : p.tables.exec = Jvm.exec) (hZ : Z.Warmed39 s.vm) (eT : T.heap = h) (F : Arv Z h a k .byte z vs dv) (hj : ¬ j < 0 ∧ j < z) (hg : g.method = m) (hs : g.stack = .int x :: .int j :: .ref a :: rest) (hd : decode c.code g.pc = .ok (.bastore, 1)) :
    ∃ (T' : State) (h' : Heap), Stand p l e R s m args below meth c T' (locs ++ [⟨a, j.toNatClampNeg⟩]) cells slots ∧ T'.heap = h' ∧ Wr h h' a j.toNatClampNeg (.int (nar .byte x)) ∧ ∀ t, Steps p.tables e below (T'.setTop { g with pc := g.pc + 1, stack := rest }) t → Steps p.tables e below (T.setTop g) t := by
  obtain ⟨cl, A, -, S, hz, H, -⟩ := F
  exact stB X hx hZ eT A (inb_of S hj) hg hs hd
theorem own_stI {x : Int32} (X : Stand p l e R s m args below meth c T locs cells slots) (hx : p.tables.exec = Jvm.exec) (hZ : Z.Warmed39 s.vm) (eT : T.heap = h) (F : Arv Z h a k .int z vs dv) (hj : ¬ j < 0 ∧ j < z) (hg : g.method = m) (hs : g.stack = .int x :: .int j :: .ref a :: rest) (hd : decode c.code g.pc = .ok (.iastore, 1)) :
    ∃ (T' : State) (h' : Heap), Stand p l e R s m args below meth c T' (locs ++ [⟨a, j.toNatClampNeg⟩]) cells slots ∧ T'.heap = h' ∧ Wr h h' a j.toNatClampNeg (.int x) ∧ ∀ t, Steps p.tables e below (T'.setTop { g with pc := g.pc + 1, stack := rest }) t → Steps p.tables e below (T.setTop g) t := by
  obtain ⟨cl, A, -, S, hz, H, -⟩ := F
  exact stI X hx hZ eT A (inb_of S hj) hg hs hd
theorem own_stJ {x : Int64} (X : Stand p l e R s m args below meth c T locs cells slots) (hx : p.tables.exec = Jvm.exec) (hZ : Z.Warmed39 s.vm) (eT : T.heap = h) (F : Arv Z h a k .long z vs dv) (hj : ¬ j < 0 ∧ j < z) (hg : g.method = m) (hs : g.stack = .long x :: .int j :: .ref a :: rest) (hd : decode c.code g.pc = .ok (.lastore, 1)) :
    ∃ (T' : State) (h' : Heap), Stand p l e R s m args below meth c T' (locs ++ [⟨a, j.toNatClampNeg⟩]) cells slots ∧ T'.heap = h' ∧ Wr h h' a j.toNatClampNeg (.long x) ∧ ∀ t, Steps p.tables e below (T'.setTop { g with pc := g.pc + 1, stack := rest }) t → Steps p.tables e below (T.setTop g) t := by
  obtain ⟨cl, A, -, S, hz, H, -⟩ := F
  exact stJ X hx hZ eT A (inb_of S hj) hg hs hd
theorem own_set {v' : Value} (F : Arv Z h a k ty z vs dv) (hv : fits ty v = true) (W : Wr h h' a j.toNatClampNeg v) (e : v = v') (i : Nat) (hj : j.toNatClampNeg = i) (hi : i < vs.length) : Arv Z h' a k ty z (vs.set i v') dv := by
  subst e
  obtain ⟨cl, A, q1, S, q3, H, G⟩ := F
  exact Arv.set A q1 S q3 H G hv W i hj hi
theorem own_setx (F : Arv Z h a k ty z vs dv) (hv : fits ty v = true) (W : Wr h h' a j.toNatClampNeg v) (hj : ¬ j < 0 ∧ j < z) : ∃ vs', Arv Z h' a k ty z vs' dv := by
  refine ⟨_, own_set (vs := vs ++ List.replicate (j.toNatClampNeg + 1) dv) (F.pad (pad_rep vs dv _)) hv W rfl j.toNatClampNeg rfl ?_⟩
  simp only [List.length_append, List.length_replicate]
  omega
theorem own_ldcI {own : String} {index : Nat} {x : Int32} (X : Stand p l e R s m args below meth c T locs cells slots) (hx : p.tables.exec = Jvm.exec) (hZ : Z.Warmed39 s.vm) (hown : s.vm.findClass own = some m.cls) (w : (Cond.constant own index x).before a0 Z = true) (eT : T.heap = h) (hg : g.method = m) (hd : decode c.code g.pc = .ok (.ldc index, 2)) :
    ∃ T' : State, Stand p l e R s m args below meth c T' locs cells slots ∧ T'.heap = h ∧ ∀ t, Steps p.tables e below (T'.setTop { g with pc := g.pc + 2, stack := .int x :: g.stack }) t → Steps p.tables e below (T.setTop g) t := ⟨T, X, eT, X.ldcInt hx hown (mv hZ w) hg hd⟩
theorem own_ldcJ {own : String} {index : Nat} {x : Int64} (X : Stand p l e R s m args below meth c T locs cells slots) (hx : p.tables.exec = Jvm.exec) (hZ : Z.Warmed39 s.vm) (hown : s.vm.findClass own = some m.cls) (w : (Cond.constantLong own index x).before a0 Z = true) (eT : T.heap = h) (hg : g.method = m) (hd : decode c.code g.pc = .ok (.ldc2_w index, 3)) :
    ∃ T' : State, Stand p l e R s m args below meth c T' locs cells slots ∧ T'.heap = h ∧ ∀ t, Steps p.tables e below (T'.setTop { g with pc := g.pc + 3, stack := .long x :: g.stack }) t → Steps p.tables e below (T.setTop g) t := ⟨T, X, eT, X.ldc2Long hx hown (mv hZ w) hg hd⟩
theorem own_retJ (X : Stand p l e R s m args below meth c T locs cells slots) (hx : p.tables.exec = Jvm.exec) {pc : Nat} {Ls : Array Slot} {x : Int64} (hret : meth.sig.returnType = some .long) (hd : decode c.code pc = .ok (.lreturn, 1)) {fs : List Frame}
    (hl : ∀ (f : JFrame) (acts : List Action), f.method = m → f.locked = none → f.entered = [] → (doReturn e (T.setTop f) acts (some (.long x))).1 = T.setFrames fs) : Steps p.tables e below (T.setTop (mkF m pc Ls (.long x :: rest))) (T.setFrames fs) :=
  retOut X hx hret rfl (Or.inr (Or.inl ⟨rfl, rfl, _, rfl⟩)) hd hl
theorem own_retR (X : Stand p l e R s m args below meth c T locs cells slots) (hx : p.tables.exec = Jvm.exec) {pc : Nat} {Ls : Array Slot} {x : Value} {t : FieldType} (hret : meth.sig.returnType = some t) (ht : t.isReference = true) (hv : x.isRef = true) (hd : decode c.code pc = .ok (.areturn, 1)) {fs : List Frame}
    (hl : ∀ (f : JFrame) (acts : List Action), f.method = m → f.locked = none → f.entered = [] → (doReturn e (T.setTop f) acts (some x)).1 = T.setFrames fs) : Steps p.tables e below (T.setTop (mkF m pc Ls (x :: rest))) (T.setFrames fs) :=
  retOut X hx hret (by rcases ref_cases hv with rfl | ⟨_, rfl⟩ <;> cases t <;> first | rfl | cases ht) (Or.inr (Or.inr (Or.inr (Or.inr ⟨rfl, ht, hv⟩)))) hd hl
end Small
end Jvm.Pilot.@@N@@
/- laws to paste: Road.backV, Road.lenW, Road.chN, Road.empW, Road.codOf (cut by pick.py; bodies as the Statement names them) -/
namespace Jvm.Pilot.@@N@@
namespace StrChars
open Jvm Sem ClassFile Op Lib Jvm.Stand Jvm.Free.XT Jvm.Free.ALB Jvm.Free.JM Jvm.Free
open Jvm.Lib.Cold (StaticIs)
/-- a char array whose places are chars -/
def Ch (a : Addr) (A : Cell) (U : State) : Prop := Arr .char a A U ∧ Typed .char A
theorem Ch.mv {a : Addr} {A : Cell} {U U' : State} (h : Ch a A U) (hal : U.vm.Alike U'.vm) (hh : U'.heap = U.heap) : Ch a A U' := ⟨h.1.mv hal hh, h.2⟩
theorem Ch.keep {a : Addr} {A : Cell} {U U' : State} (h : Ch a A U) (hal : U.vm.Alike U'.vm) (hk : U'.heap[a]? = some A) : Ch a A U' := ⟨h.1.keep hal hk, h.2⟩
/-- what place i of a char[]'s cell holds -/
def cv (A : Cell) (i : Nat) : Int32 := match A.slots[i]? with | some (.int x) => x | _ => 0
theorem Ch.get {a : Addr} {A : Cell} {U : State} (h : Ch a A U) {i : Nat} (hi : i < A.slots.size) : A.slots[i]? = some (.int (cv A i)) := by
  have e := Array.getElem?_eq_getElem hi
  have f := h.2 i _ e
  unfold cv; rw [e]
  generalize A.slots[i] = v at f
  cases v <;> simp [fits] at f ⊢
/-- the byte that i2b leaves of a char -/
def lo8 (x : Int32) : Int32 := x.toInt8.toInt32
theorem fits_lo8 (y : Int32) : fits .byte (.int (lo8 y)) = true := by
  have h1 := y.toInt8.le_toInt
  have h2 := y.toInt8.toInt_lt
  simp only [lo8, fits, Bool.and_eq_true, decide_eq_true_eq, Int32.le_iff_toInt_le, Int8.toInt_toInt32, show (-128 : Int32).toInt = -128 from by decide, show (127 : Int32).toInt = 127 from by decide]
  omega
/-- A' is A but that each place j of lo .. hi - 1 holds f j -/
def Laid (A A' : Cell) (lo hi : Nat) (f : Nat → Value) : Prop := A'.cls = A.cls ∧ A'.vm = A.vm ∧ A'.slots.size = A.slots.size ∧ ∀ i, A'.slots[i]? = if lo ≤ i ∧ i < hi then some (f i) else A.slots[i]?
theorem Laid.zero (A : Cell) (lo : Nat) (f : Nat → Value) : Laid A A lo (lo + 0) f := ⟨rfl, rfl, rfl, fun i => by rw [if_neg (by omega)]⟩
theorem Laid.step {A Ak : Cell} {lo k : Nat} {f : Nat → Value} {v : Value} (h : Laid A Ak lo k f) (hlo : lo ≤ k) (hk : k < Ak.slots.size) (hv : v = f k) : Laid A (Ak.setSlot k v) lo (k + 1) f := by
  refine ⟨h.1, h.2.1, by simpa [Cell.setSlot] using h.2.2.1, fun i => ?_⟩
  by_cases e : k = i
  · subst e; rw [Cell.slots_setSlot_self v hk, if_pos (by omega), hv]
  · rw [Cell.slots_setSlot_ne v e, h.2.2.2 i]
    by_cases q : lo ≤ i ∧ i < k
    · rw [if_pos q, if_pos (by omega)]
    · rw [if_neg q, if_neg (by omega)]
def U16 : String := "java/lang/StringUTF16"
namespace Cmp5
def yN : MethodName := ⟨"java/lang/StringUTF16", "compress", "([CI[BII)I"⟩
abbrev yB : ByteArray := jdk_52_method_21_code
theorem d0 : decode yB 0 = .ok (.iconst 0, 1) := by decide +kernel
theorem d1 : decode yB 1 = .ok (.istore 5, 2) := by decide +kernel
theorem d3 : decode yB 3 = .ok (.iload 5, 2) := by decide +kernel
theorem d5 : decode yB 5 = .ok (.iload 4, 2) := by decide +kernel
theorem d7 : decode yB 7 = .ok (.if_icmp (.ge) 37, 3) := by decide +kernel
theorem d10 : decode yB 10 = .ok (.aload_n 0, 1) := by decide +kernel
theorem d11 : decode yB 11 = .ok (.iload_n 1, 1) := by decide +kernel
theorem d12 : decode yB 12 = .ok (.caload, 1) := by decide +kernel
theorem d13 : decode yB 13 = .ok (.istore 6, 2) := by decide +kernel
theorem d15 : decode yB 15 = .ok (.iload 6, 2) := by decide +kernel
theorem d17 : decode yB 17 = .ok (.sipush 255, 3) := by decide +kernel
theorem d20 : decode yB 20 = .ok (.if_icmp (.le) 6, 3) := by decide +kernel
theorem d26 : decode yB 26 = .ok (.aload_n 2, 1) := by decide +kernel
theorem d27 : decode yB 27 = .ok (.iload_n 3, 1) := by decide +kernel
theorem d28 : decode yB 28 = .ok (.iload 6, 2) := by decide +kernel
theorem d30 : decode yB 30 = .ok (.i2b, 1) := by decide +kernel
theorem d31 : decode yB 31 = .ok (.bastore, 1) := by decide +kernel
theorem d32 : decode yB 32 = .ok (.iinc 1 1, 3) := by decide +kernel
theorem d35 : decode yB 35 = .ok (.iinc 3 1, 3) := by decide +kernel
theorem d38 : decode yB 38 = .ok (.iinc 5 1, 3) := by decide +kernel
theorem d41 : decode yB 41 = .ok (.goto (-38), 3) := by decide +kernel
theorem d44 : decode yB 44 = .ok (.iload 4, 2) := by decide +kernel
theorem d46 : decode yB 46 = .ok (.ireturn, 1) := by decide +kernel
def site : List Cond := []
def tab : Cond := tabOf yN yB 7 (some .int) site
def P (b : Addr) (A : Cell) (d : Addr) (B : Cell) (o q len : Nat) (args : Array Value) (s : State) : Prop := args = #[.ref b, .int (Int32.ofNat o), .ref d, .int (Int32.ofNat q), .int (Int32.ofNat len)] ∧ Ch b A s ∧ Arr .byte d B s ∧ b ≠ d ∧ o + len ≤ A.slots.size ∧ q + len ≤ B.slots.size ∧ ∀ i, i < len → ¬ 255 < cv A (o + i)
def E (b : Addr) (A : Cell) (d : Addr) (B : Cell) (o q len : Nat) (r : Option Value) (s u : State) : Prop := r = some (.int (Int32.ofNat len)) ∧ ∃ B', Put d B' s u ∧ Laid B B' q (q + len) (fun j => Value.int (lo8 (cv A (o + (j - q)))))
/-- no char of the range above 255: len; the places written hold each char's low byte -/
theorem law (l : Launch) (b : Addr) (A : Cell) (d : Addr) (B : Cell) (o q len : Nat) : Law l yN 5 5 0 0 yB 7 (some .int) site (P b A d B o q len) (E b A d B o q len) (copyLocs d q len) 0 0 := by
  refine Law.of_walk (plainFor_of_name (by decide +kernel)) (by decide +kernel) (by decide +kernel) (by decide) (fun _ _ h => by rw [h.1]; rfl) (fun _ U U' hal hh h => ⟨h.1, h.2.1.mv hal hh, h.2.2.1.mv hal hh, h.2.2.2⟩) (fun r U U' V V' h1 hal h2 h => ⟨h.1, h.2.elim fun B' q => ⟨B', q.1.mv h1 h2, q.2⟩⟩) ?_
  intro p e s m args below meth c s₁ X0 hexec hbytes hml hret hlk hnm hown hh0 W hP
  obtain ⟨rfl, hA, hB, hne, l1, l2, hp⟩ := hP
  have c1 : Steps p.tables e below (s₁.setTop (entryFrame m #[.ref b, .int (Int32.ofNat o), .ref d, .int (Int32.ofNat q), .int (Int32.ofNat len)] 7)) (s₁.setTop (mkF m 0 #[.val (.ref b), .val (.int (Int32.ofNat o)), .val (.ref d), .val (.int (Int32.ofNat q)), .val (.int (Int32.ofNat len)), .unset, .unset] [])) := entry rfl
  have hA0 := hA.1.mv X0.warmed.alike hh0
  have hB0 := hB.mv X0.warmed.alike hh0
  have a31 := hA.1.2.2.2
  have c2 : Steps p.tables e below (s₁.setTop (entryFrame m #[.ref b, .int (Int32.ofNat o), .ref d, .int (Int32.ofNat q), .int (Int32.ofNat len)] 7)) (s₁.setTop (mkF m 3 #[.val (.ref b), .val (.int (Int32.ofNat o)), .val (.ref d), .val (.int (Int32.ofNat q)), .val (.int (Int32.ofNat len)), .val (.int 0), .unset] [])) := c1.trans (by
    refine iconstV X0.here hexec rfl 0 (hb hbytes d0) (by decide) ?_
    refine XS.istore X0.here hexec rfl (hb hbytes d1) rfl rfl ?_
    exact Steps.refl _)
  have loop : ∀ (r i : Nat), i + r = len → ∀ (z : Slot), (z = .unset ∨ ∃ w, z = .val w ∧ w.category = 1) → ∀ (Tl : State) (Bk : Cell), Stand p l e { frames := 0, locals := 0, cells := 0, slots := 0 } s m #[.ref b, .int (Int32.ofNat o), .ref d, .int (Int32.ofNat q), .int (Int32.ofNat len)] below meth c Tl ([] ++ copyLocs d q i) 0 0 → Put d Bk s₁ Tl → Laid B Bk q (q + i) (fun j => Value.int (lo8 (cv A (o + (j - q))))) →
      Steps p.tables e below (s₁.setTop (entryFrame m #[.ref b, .int (Int32.ofNat o), .ref d, .int (Int32.ofNat q), .int (Int32.ofNat len)] 7)) (Tl.setTop (mkF m 3 #[.val (.ref b), .val (.int (Int32.ofNat (o + i))), .val (.ref d), .val (.int (Int32.ofNat (q + i))), .val (.int (Int32.ofNat len)), .val (.int (Int32.ofNat i)), z] [])) → ∃ (T' : State) (B' : Cell) (z' : Slot), Stand p l e { frames := 0, locals := 0, cells := 0, slots := 0 } s m #[.ref b, .int (Int32.ofNat o), .ref d, .int (Int32.ofNat q), .int (Int32.ofNat len)] below meth c T' ([] ++ copyLocs d q len) 0 0 ∧ Put d B' s₁ T' ∧ Laid B B' q (q + len) (fun j => Value.int (lo8 (cv A (o + (j - q))))) ∧
      Steps p.tables e below (s₁.setTop (entryFrame m #[.ref b, .int (Int32.ofNat o), .ref d, .int (Int32.ofNat q), .int (Int32.ofNat len)] 7)) (T'.setTop (mkF m 3 #[.val (.ref b), .val (.int (Int32.ofNat (o + len))), .val (.ref d), .val (.int (Int32.ofNat (q + len))), .val (.int (Int32.ofNat len)), .val (.int (Int32.ofNat len)), z'] [])) := by
    intro r
    induction r with
    | zero =>
      intro i hi z hz Tl Bk Xl pl fl cl
      have hil : i = len := by omega
      rw [hil] at Xl fl cl
      exact ⟨Tl, Bk, z, Xl, pl, fl, cl⟩
    | succ r ih =>
      intro i hi z hz Tl Bk Xl pl fl cl
      have all := X0.warmed.alike.symm.trans Xl.warmed.alike
      have hAl := hA0.keep all (pl.other hne hA0.1)
      have hBk := hB0.like all pl.1 fl.1 fl.2.1 fl.2.2.1
      have hlt : q + i < Bk.slots.size := by rw [fl.2.2.1]; omega
      have c3 : Steps p.tables e below (s₁.setTop (entryFrame m #[.ref b, .int (Int32.ofNat o), .ref d, .int (Int32.ofNat q), .int (Int32.ofNat len)] 7)) (Tl.setTop (mkF m 12 #[.val (.ref b), .val (.int (Int32.ofNat (o + i))), .val (.ref d), .val (.int (Int32.ofNat (q + i))), .val (.int (Int32.ofNat len)), .val (.int (Int32.ofNat i)), z] [.int (Int32.ofNat (o + i)), .ref b])) := cl.trans (by
        refine XS.iload Xl.here hexec rfl (hb hbytes d3) rfl ?_
        refine XS.iload Xl.here hexec rfl (hb hbytes d5) rfl ?_
        refine XS.icmpNo Xl.here hexec rfl (hb hbytes d7) rfl (ii_ge_f (lt32 (by omega) (by omega))) ?_
        refine XS.aloadN Xl.here hexec rfl (hb hbytes d10) rfl rfl ?_
        refine XS.iloadN Xl.here hexec rfl (hb hbytes d11) rfl ?_
        exact Steps.refl _)
      have c4 : Steps p.tables e below (s₁.setTop (entryFrame m #[.ref b, .int (Int32.ofNat o), .ref d, .int (Int32.ofNat q), .int (Int32.ofNat len)] 7)) (Tl.setTop (mkF m 13 #[.val (.ref b), .val (.int (Int32.ofNat (o + i))), .val (.ref d), .val (.int (Int32.ofNat (q + i))), .val (.int (Int32.ofNat len)), .val (.int (Int32.ofNat i)), z] [.int (cv A (o + i))])) := c3.trans (by
        refine Xl.aget hexec hAl rfl (hA.get (i := o + i) (by omega)) rfl rfl (hb hbytes d12) ?_
        exact Steps.refl _)
      have c5 : Steps p.tables e below (s₁.setTop (entryFrame m #[.ref b, .int (Int32.ofNat o), .ref d, .int (Int32.ofNat q), .int (Int32.ofNat len)] 7)) (Tl.setTop (mkF m 15 #[.val (.ref b), .val (.int (Int32.ofNat (o + i))), .val (.ref d), .val (.int (Int32.ofNat (q + i))), .val (.int (Int32.ofNat len)), .val (.int (Int32.ofNat i)), .val (.int (cv A (o + i)))] [])) := c4.trans (by
        refine XS.istoreS Xl.here hexec rfl (hb hbytes d13) rfl rfl hz ?_
        exact Steps.refl _)
      have c6 : Steps p.tables e below (s₁.setTop (entryFrame m #[.ref b, .int (Int32.ofNat o), .ref d, .int (Int32.ofNat q), .int (Int32.ofNat len)] 7)) (Tl.setTop (mkF m 31 #[.val (.ref b), .val (.int (Int32.ofNat (o + i))), .val (.ref d), .val (.int (Int32.ofNat (q + i))), .val (.int (Int32.ofNat len)), .val (.int (Int32.ofNat i)), .val (.int (cv A (o + i)))] [.int (lo8 (cv A (o + i))), .int (Int32.ofNat (q + i)), .ref d])) := c5.trans (by
        refine XS.iload Xl.here hexec rfl (hb hbytes d15) rfl ?_
        refine sipushV Xl.here hexec rfl 255 (hb hbytes d17) (by decide) ?_
        refine XS.icmpYes Xl.here hexec rfl (pc0 := 20) rfl (hb hbytes d20) rfl (ii_le_t (hp i (by omega))) (by decide) rfl ?_
        refine XS.aloadN Xl.here hexec rfl (hb hbytes d26) rfl rfl ?_
        refine XS.iloadN Xl.here hexec rfl (hb hbytes d27) rfl ?_
        refine XS.iload Xl.here hexec rfl (hb hbytes d28) rfl ?_
        refine i2b Xl.here hexec rfl (hb hbytes d30) rfl ?_
        exact Steps.refl _)
      obtain ⟨T7, X7, p7, st7⟩ := Xl.aput hexec hBk rfl hlt rfl (fits_lo8 (cv A (o + i))) (g := (mkF m 31 #[.val (.ref b), .val (.int (Int32.ofNat (o + i))), .val (.ref d), .val (.int (Int32.ofNat (q + i))), .val (.int (Int32.ofNat len)), .val (.int (Int32.ofNat i)), .val (.int (cv A (o + i)))] [.int (lo8 (cv A (o + i))), .int (Int32.ofNat (q + i)), .ref d])) rfl (rest := []) rfl (hb hbytes d31)
      have c8 : Steps p.tables e below (s₁.setTop (entryFrame m #[.ref b, .int (Int32.ofNat o), .ref d, .int (Int32.ofNat q), .int (Int32.ofNat len)] 7)) (T7.setTop (mkF m 32 #[.val (.ref b), .val (.int (Int32.ofNat (o + i))), .val (.ref d), .val (.int (Int32.ofNat (q + i))), .val (.int (Int32.ofNat len)), .val (.int (Int32.ofNat i)), .val (.int (cv A (o + i)))] [])) := c6.trans (st7 _ (Steps.refl _))
      have c9 : Steps p.tables e below (s₁.setTop (entryFrame m #[.ref b, .int (Int32.ofNat o), .ref d, .int (Int32.ofNat q), .int (Int32.ofNat len)] 7)) (T7.setTop (mkF m 3 #[.val (.ref b), .val (.int (Int32.ofNat (o + i) + 1)), .val (.ref d), .val (.int (Int32.ofNat (q + i) + 1)), .val (.int (Int32.ofNat len)), .val (.int (Int32.ofNat i + 1)), .val (.int (cv A (o + i)))] [])) := c8.trans (by
        refine iincV X7.here hexec rfl 1 (hb hbytes d32) (by decide) rfl rfl ?_
        refine iincV X7.here hexec rfl 1 (hb hbytes d35) (by decide) rfl rfl ?_
        refine iincV X7.here hexec rfl 1 (hb hbytes d38) (by decide) rfl rfl ?_
        refine XS.goto X7.here hexec rfl (pc0 := 41) rfl (hb hbytes d41) (by decide) rfl ?_
        exact Steps.refl _)
      have c10 : Steps p.tables e below (s₁.setTop (entryFrame m #[.ref b, .int (Int32.ofNat o), .ref d, .int (Int32.ofNat q), .int (Int32.ofNat len)] 7)) (T7.setTop (mkF m 3 #[.val (.ref b), .val (.int (Int32.ofNat (o + (i + 1)))), .val (.ref d), .val (.int (Int32.ofNat (q + (i + 1)))), .val (.int (Int32.ofNat len)), .val (.int (Int32.ofNat (i + 1))), .val (.int (cv A (o + i)))] [])) := by
        have := c9
        rw [succ32, succ32, succ32] at this
        exact this
      exact ih (i + 1) (by omega) _ (Or.inr ⟨_, rfl, rfl⟩) T7 _ (by rw [copyLocs_step, ← List.append_assoc]; exact X7) (pl.trans p7) (fl.step (by omega) hlt (by simp)) c10
  obtain ⟨T9, B9, z9, X9, p9, f9, g9⟩ := loop len 0 (by omega) .unset (Or.inl rfl) s₁ B (by simpa [copyLocs] using X0) ⟨hB0.1, fun _ _ => rfl, rfl⟩ (Laid.zero _ _ _) c2
  have c11 : Steps p.tables e below (s₁.setTop (entryFrame m #[.ref b, .int (Int32.ofNat o), .ref d, .int (Int32.ofNat q), .int (Int32.ofNat len)] 7)) (T9.setTop (mkF m 46 #[.val (.ref b), .val (.int (Int32.ofNat (o + len))), .val (.ref d), .val (.int (Int32.ofNat (q + len))), .val (.int (Int32.ofNat len)), .val (.int (Int32.ofNat len)), z9] [.int (Int32.ofNat len)])) := g9.trans (by
    refine XS.iload X9.here hexec rfl (hb hbytes d3) rfl ?_
    refine XS.iload X9.here hexec rfl (hb hbytes d5) rfl ?_
    refine XS.icmpYes X9.here hexec rfl (pc0 := 7) rfl (hb hbytes d7) rfl (ii_ge_t (nlt32 (by omega) (Nat.le_refl _))) (by decide) rfl ?_
    refine XS.iload X9.here hexec rfl (hb hbytes d44) rfl ?_
    exact Steps.refl _)
  exact ⟨T9, some (.int (Int32.ofNat len)), _, _, _, X9, by simp, rfl, rfl, (fun h => by cases h), ⟨rfl, B9, p9.from hh0, f9⟩, fun fs hl => c11.trans (X9.ireturnOut hexec hret rfl (Or.inl rfl) (hb hbytes d46) hl)⟩
end Cmp5
namespace Cmp3
def yN : MethodName := ⟨"java/lang/StringUTF16", "compress", "([CII)[B"⟩
abbrev yB : ByteArray := jdk_52_method_16_code
theorem d0 : decode yB 0 = .ok (.iload_n 2, 1) := by decide +kernel
theorem d1 : decode yB 1 = .ok (.newarray .byte, 2) := by decide +kernel
theorem d3 : decode yB 3 = .ok (.astore_n 3, 1) := by decide +kernel
theorem d4 : decode yB 4 = .ok (.aload_n 0, 1) := by decide +kernel
theorem d5 : decode yB 5 = .ok (.iload_n 1, 1) := by decide +kernel
theorem d6 : decode yB 6 = .ok (.aload_n 3, 1) := by decide +kernel
theorem d7 : decode yB 7 = .ok (.iconst 0, 1) := by decide +kernel
theorem d8 : decode yB 8 = .ok (.iload_n 2, 1) := by decide +kernel
theorem d9 : decode yB 9 = .ok (.invokestatic 115, 3) := by decide +kernel
theorem d12 : decode yB 12 = .ok (.istore 4, 2) := by decide +kernel
theorem d14 : decode yB 14 = .ok (.iload 4, 2) := by decide +kernel
theorem d16 : decode yB 16 = .ok (.iload_n 2, 1) := by decide +kernel
theorem d17 : decode yB 17 = .ok (.if_icmp (.eq) 40, 3) := by decide +kernel
theorem d57 : decode yB 57 = .ok (.aload_n 3, 1) := by decide +kernel
theorem d58 : decode yB 58 = .ok (.areturn, 1) := by decide +kernel
def site : List Cond := [.arrayClass .byte, Cmp5.tab] ++ staticW U16 115 Cmp5.yN
def tab : Cond := tabOf yN yB 6 (some (.array .byte)) site
def P (b : Addr) (A : Cell) (o len : Nat) (args : Array Value) (s : State) : Prop := args = #[.ref b, .int (Int32.ofNat o), .int (Int32.ofNat len)] ∧ Ch b A s ∧ o + len ≤ A.slots.size ∧ len ≤ 536870912 ∧ ∀ i, i < len → ¬ 255 < cv A (o + i)
def E (b : Addr) (A : Cell) (o len : Nat) (r : Option Value) (s u : State) : Prop := NewArr .byte "[B" len (fun j => .int (lo8 (cv A (o + j)))) r s u ∧ u.heap.size = s.heap.size + 1
/-- no char of the range above 255: a new byte[] of their low bytes -/
theorem law (l : Launch) (b : Addr) (A : Cell) (o len : Nat) : Law l yN 3 3 1 18 yB 6 (some (.array .byte)) site (P b A o len) (E b A o len) [] 1 len := by
  refine Law.of_walk (plainFor_of_name (by decide +kernel)) (by decide +kernel) (by decide +kernel) (by decide) (fun _ _ h => by rw [h.1]; rfl) (fun _ U U' hal hh h => ⟨h.1, h.2.1.mv hal hh, h.2.2⟩) (fun r U U' V V' h1 hal h2 h => ⟨NewArr.mv r U U' V V' h1 hal h2 h.1, by rw [h1, h2]; exact h.2⟩) ?_
  intro p e s m args below meth c s₁ X0 hexec hbytes hml hret hlk hnm hown hh0 W hP
  obtain ⟨rfl, hA, l1, l2, hp⟩ := hP
  have a31 := hA.1.2.2.2
  have c1 : Steps p.tables e below (s₁.setTop (entryFrame m #[.ref b, .int (Int32.ofNat o), .int (Int32.ofNat len)] 6)) (s₁.setTop (mkF m 0 #[.val (.ref b), .val (.int (Int32.ofNat o)), .val (.int (Int32.ofNat len)), .unset, .unset, .unset] [])) := entry rfl
  have c2 : Steps p.tables e below (s₁.setTop (entryFrame m #[.ref b, .int (Int32.ofNat o), .int (Int32.ofNat len)] 6)) (s₁.setTop (mkF m 1 #[.val (.ref b), .val (.int (Int32.ofNat o)), .val (.int (Int32.ofNat len)), .unset, .unset, .unset] [.int (Int32.ofNat len)])) := c1.trans (by
    refine XS.iloadN X0.here hexec rfl (hb hbytes d0) rfl ?_
    exact Steps.refl _)
  obtain ⟨T3, B3, X3, ba3, bs3, bv3, bh3, bf3, st3⟩ := X0.anew hexec (atype := .byte) (wk W (.arrayClass .byte)) rfl (by show len * 1 ≤ _; omega) (by omega) (g := (mkF m 1 #[.val (.ref b), .val (.int (Int32.ofNat o)), .val (.int (Int32.ofNat len)), .unset, .unset, .unset] [.int (Int32.ofNat len)])) rfl (hb hbytes d1) (rest := []) rfl (Nat.le_refl _) (by show 0 + len ≤ len; omega)
  rw [hh0] at ba3 st3
  have kp3 : XT.Kept s T3 := (XT.Kept.of_eq hh0).push bh3
  have hA3 := hA.keep X3.warmed.alike (kp3 _ _ hA.1.1)
  have hne : b ≠ s.heap.size := hA.1.ne
  have c4 : Steps p.tables e below (s₁.setTop (entryFrame m #[.ref b, .int (Int32.ofNat o), .int (Int32.ofNat len)] 6)) (T3.setTop (mkF m 3 #[.val (.ref b), .val (.int (Int32.ofNat o)), .val (.int (Int32.ofNat len)), .unset, .unset, .unset] [.ref s.heap.size])) := c2.trans (st3 _ (Steps.refl _))
  have c5 : Steps p.tables e below (s₁.setTop (entryFrame m #[.ref b, .int (Int32.ofNat o), .int (Int32.ofNat len)] 6)) (T3.setTop (mkF m 9 #[.val (.ref b), .val (.int (Int32.ofNat o)), .val (.int (Int32.ofNat len)), .val (.ref s.heap.size), .unset, .unset] [.int (Int32.ofNat len), .int 0, .ref s.heap.size, .int (Int32.ofNat o), .ref b])) := c4.trans (by
    refine XS.astoreN X3.here hexec rfl (hb hbytes d3) rfl rfl rfl ?_
    refine XS.aloadN X3.here hexec rfl (hb hbytes d4) rfl rfl ?_
    refine XS.iloadN X3.here hexec rfl (hb hbytes d5) rfl ?_
    refine XS.aloadN X3.here hexec rfl (hb hbytes d6) rfl rfl ?_
    refine iconstV X3.here hexec rfl 0 (hb hbytes d7) (by decide) ?_
    refine XS.iloadN X3.here hexec rfl (hb hbytes d8) rfl ?_
    exact Steps.refl _)
  obtain ⟨v6, T6, X6, E6, g6⟩ := X3.callS hexec (Cmp5.law l b A s.heap.size B3 o 0 len) hown (wks W (staticW U16 115 Cmp5.yN)) (wk W Cmp5.tab) (W := 0) (Nat.le_of_ble_eq_true rfl) (Nat.le_of_ble_eq_true rfl) (Nat.le_refl _) (by show 0 + len + 0 ≤ len; omega) (g := (mkF m 9 #[.val (.ref b), .val (.int (Int32.ofNat o)), .val (.int (Int32.ofNat len)), .val (.ref s.heap.size), .unset, .unset] [.int (Int32.ofNat len), .int (Int32.ofNat 0), .ref s.heap.size, .int (Int32.ofNat o), .ref b])) rfl (by rw [hml]; rfl) c5 (argsL := [.ref b, .int (Int32.ofNat o), .ref s.heap.size, .int (Int32.ofNat 0), .int (Int32.ofNat len)]) (rest := []) rfl rfl (by show 2 * 0 + 0 ≤ _; decide) (hb hbytes d9) (⟨rfl, hA3, ba3, hne, l1, by rw [bs3]; simp, hp⟩)
  obtain ⟨rfl, B6, p6, f6⟩ := E6
  have c7 : Steps p.tables e below (s₁.setTop (entryFrame m #[.ref b, .int (Int32.ofNat o), .int (Int32.ofNat len)] 6)) (T6.setTop (mkF m 12 #[.val (.ref b), .val (.int (Int32.ofNat o)), .val (.int (Int32.ofNat len)), .val (.ref s.heap.size), .unset, .unset] [.int (Int32.ofNat len)])) := g6
  have c8 : Steps p.tables e below (s₁.setTop (entryFrame m #[.ref b, .int (Int32.ofNat o), .int (Int32.ofNat len)] 6)) (T6.setTop (mkF m 58 #[.val (.ref b), .val (.int (Int32.ofNat o)), .val (.int (Int32.ofNat len)), .val (.ref s.heap.size), .val (.int (Int32.ofNat len)), .unset] [.ref s.heap.size])) := c7.trans (by
    refine XS.istore X6.here hexec rfl (hb hbytes d12) rfl rfl ?_
    refine XS.iload X6.here hexec rfl (hb hbytes d14) rfl ?_
    refine XS.iloadN X6.here hexec rfl (hb hbytes d16) rfl ?_
    refine XS.icmpYes X6.here hexec rfl (pc0 := 17) rfl (hb hbytes d17) rfl (ii_eq_t rfl) (by decide) rfl ?_
    refine XS.aloadN X6.here hexec rfl (hb hbytes d57) rfl rfl ?_
    exact Steps.refl _)
  have X8 := X6.wide (L' := []) (cells' := 1) (slots' := len) (fun x hx hlt => by
    simp only [List.nil_append, copyLocs, List.mem_map, List.mem_range] at hx
    obtain ⟨i, -, rfl⟩ := hx
    exact absurd hlt (Nat.lt_irrefl _)) (Nat.le_refl _) (by omega)
  exact ⟨T6, some (.ref s.heap.size), _, _, _, X8, rfl, rfl, rfl, (fun h => by cases h), ⟨⟨rfl, B6, ba3.like (X3.warmed.alike.symm.trans X6.warmed.alike) p6.1 f6.1 f6.2.1 f6.2.2.1, f6.2.1.trans bv3, by rw [X6.warmed.alike.findClass, f6.1]; exact bf3, by rw [f6.2.2.1, bs3]; simp, fun j hj => by rw [f6.2.2.2 j, if_pos (by omega)]; rfl, kp3.put p6 (Nat.le_refl _)⟩, by rw [p6.2.2, bh3, hh0]; simp⟩, fun fs hl => c8.trans (X8.areturnOut hexec rfl hret rfl (hb hbytes d58) hl)⟩
end Cmp3
namespace CodL
def yN : MethodName := ⟨"java/lang/StringUTF16", "coderFromArrayLen", "([BI)B"⟩
abbrev yB : ByteArray := jdk_52_method_15_code
theorem d0 : decode yB 0 = .ok (.iload_n 1, 1) := by decide +kernel
theorem d1 : decode yB 1 = .ok (.aload_n 0, 1) := by decide +kernel
theorem d2 : decode yB 2 = .ok (.arraylength, 1) := by decide +kernel
theorem d3 : decode yB 3 = .ok (.isub, 1) := by decide +kernel
theorem d4 : decode yB 4 = .ok (.bipush 31, 2) := by decide +kernel
theorem d6 : decode yB 6 = .ok (.iushr, 1) := by decide +kernel
theorem d7 : decode yB 7 = .ok (.i2b, 1) := by decide +kernel
theorem d8 : decode yB 8 = .ok (.ireturn, 1) := by decide +kernel
def site : List Cond := []
def tab : Cond := tabOf yN yB 2 (some .byte) site
def P (d : Addr) (B : Cell) (args : Array Value) (s : State) : Prop := args = #[.ref d, .int (Int32.ofNat B.slots.size)] ∧ Arr .byte d B s
def E (r : Option Value) (s u : State) : Prop := XT.PureE (some (.int 0)) r s u
/-- an array as long as the number of chars: LATIN1 -/
theorem law (l : Launch) (d : Addr) (B : Cell) : Law l yN 2 2 0 0 yB 2 (some .byte) site (P d B) E [] 0 0 := by
  refine Law.of_walk (plainFor_of_name (by decide +kernel)) (by decide +kernel) (by decide +kernel) (by decide) (fun _ _ h => by rw [h.1]; rfl) (fun _ U U' hal hh h => ⟨h.1, h.2.mv hal hh⟩) (fun r U U' V V' h1 hal h2 h => XT.PureE.mv r U U' V V' h1 hal h2 h) ?_
  intro p e s m args below meth c s₁ X0 hexec hbytes hml hret hlk hnm hown hh0 W hP
  obtain ⟨rfl, hB⟩ := hP
  have hB0 := hB.mv X0.warmed.alike hh0
  have c1 : Steps p.tables e below (s₁.setTop (entryFrame m #[.ref d, .int (Int32.ofNat B.slots.size)] 2)) (s₁.setTop (mkF m 0 #[.val (.ref d), .val (.int (Int32.ofNat B.slots.size))] [])) := entry rfl
  have c2 : Steps p.tables e below (s₁.setTop (entryFrame m #[.ref d, .int (Int32.ofNat B.slots.size)] 2)) (s₁.setTop (mkF m 2 #[.val (.ref d), .val (.int (Int32.ofNat B.slots.size))] [.ref d, .int (Int32.ofNat B.slots.size)])) := c1.trans (by
    refine XS.iloadN X0.here hexec rfl (hb hbytes d0) rfl ?_
    refine XS.aloadN X0.here hexec rfl (hb hbytes d1) rfl rfl ?_
    exact Steps.refl _)
  have c3 : Steps p.tables e below (s₁.setTop (entryFrame m #[.ref d, .int (Int32.ofNat B.slots.size)] 2)) (s₁.setTop (mkF m 8 #[.val (.ref d), .val (.int (Int32.ofNat B.slots.size))] [.int (lo8 (ushr (Int32.ofNat B.slots.size - Int32.ofNat B.slots.size) 31))])) := c2.trans (by
    refine X0.alen hexec hB0 rfl rfl (hb hbytes d2) ?_
    refine XS.isub X0.here hexec rfl (hb hbytes d3) rfl ?_
    refine bipushV X0.here hexec rfl 31 (hb hbytes d4) (by decide) ?_
    refine iushr X0.here hexec rfl (hb hbytes d6) rfl ?_
    refine i2b X0.here hexec rfl (hb hbytes d7) rfl ?_
    exact Steps.refl _)
  have e0 : lo8 (ushr (Int32.ofNat B.slots.size - Int32.ofNat B.slots.size) 31) = 0 := by rw [Int32.sub_self]; decide
  rw [e0] at c3
  exact ⟨s₁, some (.int 0), _, _, _, X0, rfl, rfl, rfl, (fun h => by cases h), ⟨rfl, hh0⟩, fun fs hl => c3.trans (X0.ireturnOut hexec hret rfl (Or.inr (Or.inr (Or.inl rfl))) (hb hbytes d8) hl)⟩
end CodL
/-- the String at a is Latin-1 over a new byte[] (the heap's one new cell): the low bytes of the len chars of A from o on; every cell but a is kept -/
def Got (a : Addr) (D : Cell) (fV fC : Field) (A : Cell) (o len : Nat) (r : Option Value) (s u : State) : Prop := r = none ∧ ∃ D' V : Cell, Blank "java/lang/String" a D' u ∧ Same D D' [fV.slot, fC.slot] ∧ D'.slots[fV.slot]? = some (.ref s.heap.size) ∧ D'.slots[fC.slot]? = some (.int 0) ∧ Arr .byte s.heap.size V u ∧ V.vm = .none ∧ u.vm.findClass "[B" = some V.cls ∧ V.slots.size = len ∧ (∀ j, j < len → V.slots[j]? = some (.int (lo8 (cv A (o + j))))) ∧ (∀ (y : Addr) (c : Cell), y ≠ a → s.heap[y]? = some c → u.heap[y]? = some c) ∧ u.heap.size = s.heap.size + 1
theorem Got.mv {a : Addr} {D A : Cell} {fV fC : Field} {o len : Nat} : ∀ r (U U' V V' : State), U'.heap = U.heap → V.vm.Alike V'.vm → V'.heap = V.heap → Got a D fV fC A o len r U V → Got a D fV fC A o len r U' V' :=
  fun r U U' V V' h1 hal h2 ⟨e0, D', X, a1, a2, a3, a4, a5, a6, a7, a8, a9, a10, a11⟩ => ⟨e0, D', X, a1.mv hal h2, a2, by rw [h1]; exact a3, a4, by rw [h1]; exact a5.mv hal h2, a6, by rw [hal.findClass]; exact a7, a8, a9, by rw [h1, h2]; exact a10, by rw [h1, h2]; exact a11⟩
namespace New4
def yN : MethodName := ⟨"java/lang/String", "<init>", "([CIILjava/lang/Void;)V"⟩
abbrev yB : ByteArray := jdk_42_method_149_code
theorem d0 : decode yB 0 = .ok (.aload_n 0, 1) := by decide +kernel
theorem d1 : decode yB 1 = .ok (.invokespecial 1, 3) := by decide +kernel
theorem d4 : decode yB 4 = .ok (.iload_n 3, 1) := by decide +kernel
theorem d5 : decode yB 5 = .ok (.ifCond (.ne) 22, 3) := by decide +kernel
theorem d27 : decode yB 27 = .ok (.getstatic 38, 3) := by decide +kernel
theorem d30 : decode yB 30 = .ok (.ifCond (.eq) 28, 3) := by decide +kernel
theorem d33 : decode yB 33 = .ok (.aload_n 1, 1) := by decide +kernel
theorem d34 : decode yB 34 = .ok (.iload_n 2, 1) := by decide +kernel
theorem d35 : decode yB 35 = .ok (.iload_n 3, 1) := by decide +kernel
theorem d36 : decode yB 36 = .ok (.invokestatic 177, 3) := by decide +kernel
theorem d39 : decode yB 39 = .ok (.astore 5, 2) := by decide +kernel
theorem d41 : decode yB 41 = .ok (.aload_n 0, 1) := by decide +kernel
theorem d42 : decode yB 42 = .ok (.aload 5, 2) := by decide +kernel
theorem d44 : decode yB 44 = .ok (.iload_n 3, 1) := by decide +kernel
theorem d45 : decode yB 45 = .ok (.invokestatic 47, 3) := by decide +kernel
theorem d48 : decode yB 48 = .ok (.putfield 15, 3) := by decide +kernel
theorem d51 : decode yB 51 = .ok (.aload_n 0, 1) := by decide +kernel
theorem d52 : decode yB 52 = .ok (.aload 5, 2) := by decide +kernel
theorem d54 : decode yB 54 = .ok (.putfield 9, 3) := by decide +kernel
theorem d57 : decode yB 57 = .ok (.return_, 1) := by decide +kernel
def site : List Cond := [.fieldLink "java/lang/String" 38 "java/lang/String" "COMPACT_STRINGS" "Z", Cmp3.tab, CodL.tab, .laysFinal "java/lang/String" "java/lang/String" "value" "[B", .fieldLink "java/lang/String" 9 "java/lang/String" "value" "[B", .laysFinal "java/lang/String" "java/lang/String" "coder" "B", .fieldLink "java/lang/String" 15 "java/lang/String" "coder" "B"] ++ objW "java/lang/String" 1 ++ staticW "java/lang/String" 177 Cmp3.yN ++ staticW "java/lang/String" 47 CodL.yN
def tab : Cond := tabOf yN yB 6 none site
def P (a : Addr) (D : Cell) (fV fC : Field) (b : Addr) (A : Cell) (z : Int32) (o len : Nat) (args : Array Value) (s : State) : Prop := args = #[.ref a, .ref b, .int (Int32.ofNat o), .int (Int32.ofNat len), .null] ∧ Blank "java/lang/String" a D s ∧ Found "java/lang/String" "value" "[B" fV s ∧ Found "java/lang/String" "coder" "B" fC s ∧ Ch b A s ∧ StaticIs s "java/lang/String" "COMPACT_STRINGS" "Z" (.int z) ∧ ¬ z = 0 ∧ 0 < len ∧ o + len ≤ A.slots.size ∧ len ≤ 536870912 ∧ ∀ i, i < len → ¬ 255 < cv A (o + i)
def E (a : Addr) (D : Cell) (fV fC : Field) (A : Cell) (o len : Nat) (r : Option Value) (s u : State) : Prop := Got a D fV fC A o len r s u
/-- len > 0, no char of the range above 255: a Latin-1 String of their low bytes -/
theorem law (l : Launch) (a : Addr) (D : Cell) (fV fC : Field) (b : Addr) (A : Cell) (z : Int32) (o len : Nat) : Law l yN 5 4 2 35 yB 6 none site (P a D fV fC b A z o len) (E a D fV fC A o len) [⟨a, fC.slot⟩, ⟨a, fV.slot⟩] 1 len := by
  refine Law.of_walk (plainFor_of_name (by decide +kernel)) (by decide +kernel) (by decide +kernel) (by decide) (fun _ _ h => by rw [h.1]; rfl) (fun _ U U' hal hh h => ⟨h.1, h.2.1.mv hal hh, h.2.2.1.al hal, h.2.2.2.1.al hal, h.2.2.2.2.1.mv hal hh, h.2.2.2.2.2.1.there hal hh, h.2.2.2.2.2.2⟩) (fun r U U' V V' h1 hal h2 h => Got.mv r U U' V V' h1 hal h2 h) ?_
  intro p e s m args below meth c s₁ X0 hexec hbytes hml hret hlk hnm hown hh0 W hP
  obtain ⟨rfl, hB, f1, f2, hA, s1, hz, l0, l1, l2, hp⟩ := hP
  have a31 := hA.1.2.2.2
  have c1 : Steps p.tables e below (s₁.setTop (entryFrame m #[.ref a, .ref b, .int (Int32.ofNat o), .int (Int32.ofNat len), .null] 6)) (s₁.setTop (mkF m 0 #[.val (.ref a), .val (.ref b), .val (.int (Int32.ofNat o)), .val (.int (Int32.ofNat len)), .val .null, .unset] [])) := entry rfl
  have c2 : Steps p.tables e below (s₁.setTop (entryFrame m #[.ref a, .ref b, .int (Int32.ofNat o), .int (Int32.ofNat len), .null] 6)) (s₁.setTop (mkF m 1 #[.val (.ref a), .val (.ref b), .val (.int (Int32.ofNat o)), .val (.int (Int32.ofNat len)), .val .null, .unset] [.ref a])) := c1.trans (by
    refine XS.aloadN X0.here hexec rfl (hb hbytes d0) rfl rfl ?_
    exact Steps.refl _)
  obtain ⟨T3, X3, q3, st3⟩ := X0.oinit hexec hown (wks W (objW "java/lang/String" 1)) (g := (mkF m 1 #[.val (.ref a), .val (.ref b), .val (.int (Int32.ofNat o)), .val (.int (Int32.ofNat len)), .val .null, .unset] [.ref a])) rfl (by rw [hml]; rfl) (rest := []) rfl (hb hbytes d1) (W := 0) (by show 2 * 0 + 0 ≤ _; decide) (Nat.le_of_ble_eq_true rfl) (Nat.le_of_ble_eq_true rfl)
  have hh3 := q3.trans hh0
  have c4 : Steps p.tables e below (s₁.setTop (entryFrame m #[.ref a, .ref b, .int (Int32.ofNat o), .int (Int32.ofNat len), .null] 6)) (T3.setTop (mkF m 27 #[.val (.ref a), .val (.ref b), .val (.int (Int32.ofNat o)), .val (.int (Int32.ofNat len)), .val .null, .unset] [])) := (c2.trans (st3 _ (Steps.refl _))).trans (by
    refine XS.iloadN X3.here hexec rfl (hb hbytes d4) rfl ?_
    refine XS.ifYes X3.here hexec rfl (pc0 := 5) rfl (hb hbytes d5) rfl (i0_ne_t (nz32 (by omega) l0)) (by decide) rfl ?_
    exact Steps.refl _)
  obtain ⟨T5, X5, q5, st5⟩ := X3.sget hexec hown (wk W (.fieldLink "java/lang/String" 38 "java/lang/String" "COMPACT_STRINGS" "Z")) s1 (fun _ _ h => by rw [hh3]; exact h) (g := (mkF m 27 #[.val (.ref a), .val (.ref b), .val (.int (Int32.ofNat o)), .val (.int (Int32.ofNat len)), .val .null, .unset] [])) rfl (hb hbytes d27)
  have hh5 := q5.trans hh3
  have c6 : Steps p.tables e below (s₁.setTop (entryFrame m #[.ref a, .ref b, .int (Int32.ofNat o), .int (Int32.ofNat len), .null] 6)) (T5.setTop (mkF m 30 #[.val (.ref a), .val (.ref b), .val (.int (Int32.ofNat o)), .val (.int (Int32.ofNat len)), .val .null, .unset] [.int z])) := c4.trans (st5 _ (Steps.refl _))
  have c7 : Steps p.tables e below (s₁.setTop (entryFrame m #[.ref a, .ref b, .int (Int32.ofNat o), .int (Int32.ofNat len), .null] 6)) (T5.setTop (mkF m 36 #[.val (.ref a), .val (.ref b), .val (.int (Int32.ofNat o)), .val (.int (Int32.ofNat len)), .val .null, .unset] [.int (Int32.ofNat len), .int (Int32.ofNat o), .ref b])) := c6.trans (by
    refine XS.ifNo X5.here hexec rfl (hb hbytes d30) rfl (i0_eq_f hz) ?_
    refine XS.aloadN X5.here hexec rfl (hb hbytes d33) rfl rfl ?_
    refine XS.iloadN X5.here hexec rfl (hb hbytes d34) rfl ?_
    refine XS.iloadN X5.here hexec rfl (hb hbytes d35) rfl ?_
    exact Steps.refl _)
  obtain ⟨v8, T8, X8, E8, g8⟩ := X5.callS hexec (Cmp3.law l b A o len) hown (wks W (staticW "java/lang/String" 177 Cmp3.yN)) (wk W Cmp3.tab) (W := 0) (Nat.le_of_ble_eq_true rfl) (Nat.le_of_ble_eq_true rfl) (Nat.le_refl _) (by show 0 + len ≤ len; omega) (g := (mkF m 36 #[.val (.ref a), .val (.ref b), .val (.int (Int32.ofNat o)), .val (.int (Int32.ofNat len)), .val .null, .unset] [.int (Int32.ofNat len), .int (Int32.ofNat o), .ref b])) rfl (by rw [hml]; rfl) c7 (argsL := [.ref b, .int (Int32.ofNat o), .int (Int32.ofNat len)]) (rest := []) rfl rfl (by show 2 * 0 + 0 ≤ _; decide) (hb hbytes d36) (⟨rfl, hA.mv X5.warmed.alike hh5, l1, l2, hp⟩)
  obtain ⟨e8, z8⟩ := E8
  obtain ⟨rfl, N, n1, n2, n3, n4, n5, n6⟩ := NewArr.mv _ T5 s _ _ hh5.symm (Vm.Alike.refl _) rfl e8
  rw [hh5] at z8
  have hB1 := hB.keep X8.warmed.alike (n6 _ _ hB.1)
  have hne : s.heap.size ≠ a := (Nat.ne_of_lt (Array.getElem?_eq_some_iff.mp hB.1).1).symm
  have c9 : Steps p.tables e below (s₁.setTop (entryFrame m #[.ref a, .ref b, .int (Int32.ofNat o), .int (Int32.ofNat len), .null] 6)) (T8.setTop (mkF m 39 #[.val (.ref a), .val (.ref b), .val (.int (Int32.ofNat o)), .val (.int (Int32.ofNat len)), .val .null, .unset] [.ref s.heap.size])) := g8
  have c10 : Steps p.tables e below (s₁.setTop (entryFrame m #[.ref a, .ref b, .int (Int32.ofNat o), .int (Int32.ofNat len), .null] 6)) (T8.setTop (mkF m 45 #[.val (.ref a), .val (.ref b), .val (.int (Int32.ofNat o)), .val (.int (Int32.ofNat len)), .val .null, .val (.ref s.heap.size)] [.int (Int32.ofNat N.slots.size), .ref s.heap.size, .ref a])) := by
    have hc : Steps p.tables e below (s₁.setTop (entryFrame m #[.ref a, .ref b, .int (Int32.ofNat o), .int (Int32.ofNat len), .null] 6)) (T8.setTop (mkF m 45 #[.val (.ref a), .val (.ref b), .val (.int (Int32.ofNat o)), .val (.int (Int32.ofNat len)), .val .null, .val (.ref s.heap.size)] [.int (Int32.ofNat len), .ref s.heap.size, .ref a])) := c9.trans (by
      refine XS.astore X8.here hexec rfl (hb hbytes d39) rfl rfl rfl ?_
      refine XS.aloadN X8.here hexec rfl (hb hbytes d41) rfl rfl ?_
      refine XS.aload X8.here hexec rfl (hb hbytes d42) rfl rfl ?_
      refine XS.iloadN X8.here hexec rfl (hb hbytes d44) rfl ?_
      exact Steps.refl _)
    rw [n4]; exact hc
  obtain ⟨v11, T11, X11, E11, g11⟩ := X8.callS hexec (CodL.law l s.heap.size N) hown (wks W (staticW "java/lang/String" 47 CodL.yN)) (wk W CodL.tab) (W := 1) (Nat.le_of_ble_eq_true rfl) (Nat.le_of_ble_eq_true rfl) (Nat.le_refl _) (by show 0 + len + 0 ≤ len; omega) (g := (mkF m 45 #[.val (.ref a), .val (.ref b), .val (.int (Int32.ofNat o)), .val (.int (Int32.ofNat len)), .val .null, .val (.ref s.heap.size)] [.int (Int32.ofNat N.slots.size), .ref s.heap.size, .ref a])) rfl (by rw [hml]; rfl) c10 (argsL := [.ref s.heap.size, .int (Int32.ofNat N.slots.size)]) (rest := [.ref a]) rfl rfl (by show 2 * 0 + (1 + 0) ≤ _; decide) (hb hbytes d45) (⟨rfl, n1⟩)
  obtain ⟨rfl, q11⟩ := E11
  have hB11 := hB1.mv (X8.warmed.alike.symm.trans X11.warmed.alike) q11
  have c12 : Steps p.tables e below (s₁.setTop (entryFrame m #[.ref a, .ref b, .int (Int32.ofNat o), .int (Int32.ofNat len), .null] 6)) (T11.setTop (mkF m 48 #[.val (.ref a), .val (.ref b), .val (.int (Int32.ofNat o)), .val (.int (Int32.ofNat len)), .val .null, .val (.ref s.heap.size)] [.int 0, .ref a])) := g11
  obtain ⟨T13, X13, p13, bl13, sl13, st13⟩ := X11.finit hexec hown (wk W (.fieldLink "java/lang/String" 15 "java/lang/String" "coder" "B")) (Or.inr ⟨_, (wk W (.laysFinal "java/lang/String" "java/lang/String" "coder" "B"))⟩) (Or.inl ⟨rfl, hnm⟩) f2 (Or.inl rfl) hB11 (t := .byte) (by decide +kernel) rfl (g := (mkF m 48 #[.val (.ref a), .val (.ref b), .val (.int (Int32.ofNat o)), .val (.int (Int32.ofNat len)), .val .null, .val (.ref s.heap.size)] [.int 0, .ref a])) rfl (rest := []) rfl (hb hbytes d48)
  have c14 : Steps p.tables e below (s₁.setTop (entryFrame m #[.ref a, .ref b, .int (Int32.ofNat o), .int (Int32.ofNat len), .null] 6)) (T13.setTop (mkF m 54 #[.val (.ref a), .val (.ref b), .val (.int (Int32.ofNat o)), .val (.int (Int32.ofNat len)), .val .null, .val (.ref s.heap.size)] [.ref s.heap.size, .ref a])) := (c12.trans (st13 _ (Steps.refl _))).trans (by
    refine XS.aloadN X13.here hexec rfl (hb hbytes d51) rfl rfl ?_
    refine XS.aload X13.here hexec rfl (hb hbytes d52) rfl rfl ?_
    exact Steps.refl _)
  obtain ⟨T15, X15, p15, bl15, sl15, st15⟩ := X13.finit hexec hown (wk W (.fieldLink "java/lang/String" 9 "java/lang/String" "value" "[B")) (Or.inr ⟨_, (wk W (.laysFinal "java/lang/String" "java/lang/String" "value" "[B"))⟩) (Or.inl ⟨rfl, hnm⟩) f1 (Or.inl rfl) bl13 (t := (.array .byte)) (by decide +kernel) rfl (g := (mkF m 54 #[.val (.ref a), .val (.ref b), .val (.int (Int32.ofNat o)), .val (.int (Int32.ofNat len)), .val .null, .val (.ref s.heap.size)] [.ref s.heap.size, .ref a])) rfl (rest := []) rfl (hb hbytes d54)
  have c16 : Steps p.tables e below (s₁.setTop (entryFrame m #[.ref a, .ref b, .int (Int32.ofNat o), .int (Int32.ofNat len), .null] 6)) (T15.setTop (mkF m 57 #[.val (.ref a), .val (.ref b), .val (.int (Int32.ofNat o)), .val (.int (Int32.ofNat len)), .val .null, .val (.ref s.heap.size)] [])) := c14.trans (st15 _ (Steps.refl _))
  have ap := apart (Or.inr ⟨_, (wk W (.laysFinal "java/lang/String" "java/lang/String" "value" "[B"))⟩) (Or.inr ⟨_, (wk W (.laysFinal "java/lang/String" "java/lang/String" "coder" "B"))⟩) f1 f2 (t₁ := .array .byte) (t₂ := .byte) (by decide +kernel) (by decide +kernel) (by decide)
  have al := X8.warmed.alike.symm.trans X15.warmed.alike
  have n7 : T11.heap[s.heap.size]? = some N := by rw [q11]; exact n1.1
  exact ⟨T15, none, _, _, _, X15, by simp, rfl, by omega, (fun _ => rfl), ⟨rfl, _, N, bl15, ((Same.refl D _).set _ (by simp)).set _ (by simp), sl15, (Cell.slots_setSlot_ne _ ap).trans sl13, n1.keep al (p15.other hne (p13.other hne n7)), n2, by rw [al.findClass]; exact n3, n4, n5, fun y c h1 h2 => p15.other h1 (p13.other h1 (by rw [q11]; exact n6 y c h2)), by rw [p15.2.2, p13.2.2, q11]; exact z8⟩, fun fs hl => c16.trans (X15.returnOut hexec hret (hb hbytes d57) hl)⟩
end New4
namespace New1
def yN : MethodName := ⟨"java/lang/String", "<init>", "([C)V"⟩
abbrev yB : ByteArray := jdk_42_method_3_code
theorem d0 : decode yB 0 = .ok (.aload_n 0, 1) := by decide +kernel
theorem d1 : decode yB 1 = .ok (.aload_n 1, 1) := by decide +kernel
theorem d2 : decode yB 2 = .ok (.iconst 0, 1) := by decide +kernel
theorem d3 : decode yB 3 = .ok (.aload_n 1, 1) := by decide +kernel
theorem d4 : decode yB 4 = .ok (.arraylength, 1) := by decide +kernel
theorem d5 : decode yB 5 = .ok (.aconst_null, 1) := by decide +kernel
theorem d6 : decode yB 6 = .ok (.invokespecial 27, 3) := by decide +kernel
theorem d9 : decode yB 9 = .ok (.return_, 1) := by decide +kernel
def site : List Cond := [New4.tab] ++ initW "java/lang/String" 27 New4.yN
def tab : Cond := tabOf yN yB 2 none site
def P (a : Addr) (D : Cell) (fV fC : Field) (b : Addr) (A : Cell) (z : Int32) (args : Array Value) (s : State) : Prop := args = #[.ref a, .ref b] ∧ Blank "java/lang/String" a D s ∧ Found "java/lang/String" "value" "[B" fV s ∧ Found "java/lang/String" "coder" "B" fC s ∧ Ch b A s ∧ StaticIs s "java/lang/String" "COMPACT_STRINGS" "Z" (.int z) ∧ ¬ z = 0 ∧ 0 < A.slots.size ∧ A.slots.size ≤ 536870912 ∧ ∀ i, i < A.slots.size → ¬ 255 < cv A i
def E (a : Addr) (D : Cell) (fV fC : Field) (A : Cell) (r : Option Value) (s u : State) : Prop := Got a D fV fC A 0 A.slots.size r s u
/-- new String(chars), not empty, no char above 255: a Latin-1 String of their low bytes -/
theorem law (l : Launch) (a : Addr) (D : Cell) (fV fC : Field) (b : Addr) (A : Cell) (z : Int32) : Law l yN 2 1 3 52 yB 2 none site (P a D fV fC b A z) (E a D fV fC A) [⟨a, fC.slot⟩, ⟨a, fV.slot⟩] 1 A.slots.size := by
  refine Law.of_walk (plainFor_of_name (by decide +kernel)) (by decide +kernel) (by decide +kernel) (by decide) (fun _ _ h => by rw [h.1]; rfl) (fun _ U U' hal hh h => ⟨h.1, h.2.1.mv hal hh, h.2.2.1.al hal, h.2.2.2.1.al hal, h.2.2.2.2.1.mv hal hh, h.2.2.2.2.2.1.there hal hh, h.2.2.2.2.2.2⟩) (fun r U U' V V' h1 hal h2 h => Got.mv r U U' V V' h1 hal h2 h) ?_
  intro p e s m args below meth c s₁ X0 hexec hbytes hml hret hlk hnm hown hh0 W hP
  obtain ⟨rfl, hB, f1, f2, hA, s1, hz, l0, l2, hp⟩ := hP
  have c1 : Steps p.tables e below (s₁.setTop (entryFrame m #[.ref a, .ref b] 2)) (s₁.setTop (mkF m 0 #[.val (.ref a), .val (.ref b)] [])) := entry rfl
  have c2 : Steps p.tables e below (s₁.setTop (entryFrame m #[.ref a, .ref b] 2)) (s₁.setTop (mkF m 6 #[.val (.ref a), .val (.ref b)] [.null, .int (Int32.ofNat A.slots.size), .int 0, .ref b, .ref a])) := c1.trans (by
    refine XS.aloadN X0.here hexec rfl (hb hbytes d0) rfl rfl ?_
    refine XS.aloadN X0.here hexec rfl (hb hbytes d1) rfl rfl ?_
    refine iconstV X0.here hexec rfl 0 (hb hbytes d2) (by decide) ?_
    refine XS.aloadN X0.here hexec rfl (hb hbytes d3) rfl rfl ?_
    refine X0.alen hexec (hA.1.mv X0.warmed.alike hh0) rfl rfl (hb hbytes d4) ?_
    refine XS.aconstNull X0.here hexec rfl (hb hbytes d5) ?_
    exact Steps.refl _)
  obtain ⟨v3, T3, X3, E3, g3⟩ := X0.callN hexec (New4.law l a D fV fC b A z 0 A.slots.size) rfl hown (wks W (initW "java/lang/String" 27 New4.yN)) (W New4.tab (by simp only [site, List.mem_cons, List.mem_append, true_or, or_true])) (W := 0) (Nat.le_of_ble_eq_true rfl) (Nat.le_of_ble_eq_true rfl) (Nat.le_refl _) (by show 0 + A.slots.size ≤ A.slots.size; omega) (g := (mkF m 6 #[.val (.ref a), .val (.ref b)] [.null, .int (Int32.ofNat A.slots.size), .int (Int32.ofNat 0), .ref b, .ref a])) rfl (by rw [hml]; rfl) c2 (argsL := [.ref b, .int (Int32.ofNat 0), .int (Int32.ofNat A.slots.size), .null]) (rest := []) rfl rfl (by show 2 * 0 + 0 ≤ _; decide) (hb hbytes d6) (⟨rfl, hB.mv X0.warmed.alike hh0, f1.al X0.warmed.alike, f2.al X0.warmed.alike, hA.mv X0.warmed.alike hh0, s1.there X0.warmed.alike hh0, hz, l0, by omega, l2, fun i hi => by rw [Nat.zero_add]; exact hp i hi⟩)
  have e0 := Got.mv _ s₁ s _ _ hh0.symm (Vm.Alike.refl _) rfl E3
  obtain rfl := e0.1
  have c4 : Steps p.tables e below (s₁.setTop (entryFrame m #[.ref a, .ref b] 2)) (T3.setTop (mkF m 9 #[.val (.ref a), .val (.ref b)] [])) := g3
  exact ⟨T3, none, _, _, _, X3, by simp, rfl, by omega, (fun _ => rfl), e0, fun fs hl => c4.trans (X3.returnOut hexec hret (hb hbytes d9) hl)⟩
theorem pays {l : Launch} {R : Room} {p : Program} {e : Env} {below : List Frame} {s : State} {sargs : Array Value} {len W : Nat} (a : Addr) (D : Cell) (fV fC : Field) (b : Addr) (A : Cell) (z : Int32) (htab : tab.before sargs s = true) (hfr : 4 ≤ R.frames) (hlo : W + 65 ≤ R.locals) :
    Back l R p e below s sargs yN len W (fun A₁ a₁ => A₁.cells + 1 ≤ R.cells ∧ A₁.slots + A.slots.size ≤ R.slots ∧ P a D fV fC b A z a₁ A₁.U) (fun A₁ _ v₁ B₁ => E a D fV fC A v₁ A₁.U B₁.U ∧ B₁.locs = A₁.locs ++ [⟨a, fC.slot⟩, ⟨a, fV.slot⟩] ∧ B₁.cells = A₁.cells + 1 ∧ B₁.slots = A₁.slots + A.slots.size) :=
  (law l a D fV fC b A z).pays htab hfr (by omega)
end New1
/-- the byte, read back as charAt reads it, is the char -/
theorem lo8_mask {x : Int32} (h0 : ¬ x < 0) (h1 : ¬ 255 < x) : lo8 x &&& 255 = x := by
  have t : ∀ k : Fin 256, lo8 (Int32.ofNat k.val) &&& 255 = Int32.ofNat k.val := by decide +kernel
  rw [Int32.lt_iff_toInt_lt] at h0 h1
  have e0 : (0 : Int32).toInt = 0 := rfl
  have e1 : (255 : Int32).toInt = 255 := rfl
  obtain ⟨k, hk⟩ : ∃ k : Nat, x.toInt = k := ⟨x.toInt.toNat, by omega⟩
  have hx : x = Int32.ofNat k := Int32.toInt_inj.mp (by rw [hk, Int32.toInt_ofNat_small (by omega)])
  rw [hx]
  exact t ⟨k, by omega⟩
end StrChars
namespace StrChars.Road
open Jvm Sem ClassFile Op Lib Jvm.Stand Jvm.Free Jvm.Free.XT
open Jvm.Lib.Cold (StaticIs)
abbrev ST : String := "java/lang/String"
/-- every table word that New1's law asks, flat -/
abbrev words : List Jvm.Cond := [.code New1.yN New1.yB 2 none, .initialized ST, .methodLink ST 27 New4.yN, .instanceMethod New4.yN,
  .code New4.yN New4.yB 6 none, .fieldLink ST 38 ST "COMPACT_STRINGS" "Z", .laysFinal ST ST "value" "[B", .fieldLink ST 9 ST "value" "[B", .laysFinal ST ST "coder" "B", .fieldLink ST 15 ST "coder" "B",
  .methodLink ST 1 Lib.objectInit, .instanceMethod Lib.objectInit, .code Lib.objectInit ⟨#[0xb1]⟩ 1 none, .methodLink ST 177 Cmp3.yN, .static Cmp3.yN, .methodLink ST 47 CodL.yN, .static CodL.yN,
  .code Cmp3.yN Cmp3.yB 6 (some (.array .byte)), .initialized U16, .arrayClass .byte, .methodLink U16 115 Cmp5.yN, .static Cmp5.yN, .code Cmp5.yN Cmp5.yB 7 (some .int), .code CodL.yN CodL.yB 2 (some .byte)]
theorem tab_of {a : Array Value} {s : State} (h : ∀ w ∈ words, w.before a s = true) : New1.tab.before a s = true := by
  have h5 : Cmp5.tab.before a s = true := unparts (wk h (.code Cmp5.yN Cmp5.yB 7 (some .int))) (wks h (.initialized Cmp5.yN.cls :: Cmp5.site))
  have hc : CodL.tab.before a s = true := unparts (wk h (.code CodL.yN CodL.yB 2 (some .byte))) (wks h (.initialized CodL.yN.cls :: CodL.site))
  have q5 : ∀ w ∈ Cmp5.tab :: words, w.before a s = true := fun w hw => (List.mem_cons.mp hw).elim (fun e => e ▸ h5) (h w)
  have h3 : Cmp3.tab.before a s = true := unparts (wk q5 (.code Cmp3.yN Cmp3.yB 6 (some (.array .byte)))) (wks q5 (.initialized Cmp3.yN.cls :: Cmp3.site))
  have q3 : ∀ w ∈ Cmp3.tab :: CodL.tab :: words, w.before a s = true := fun w hw => (List.mem_cons.mp hw).elim (fun e => e ▸ h3) fun hw => (List.mem_cons.mp hw).elim (fun e => e ▸ hc) (h w)
  have h4 : New4.tab.before a s = true := unparts (wk q3 (.code New4.yN New4.yB 6 none)) (wks q3 (.initialized New4.yN.cls :: New4.site))
  have q4 : ∀ w ∈ New4.tab :: words, w.before a s = true := fun w hw => (List.mem_cons.mp hw).elim (fun e => e ▸ h4) (h w)
  exact unparts (wk q4 (.code New1.yN New1.yB 2 none)) (wks q4 (.initialized New1.yN.cls :: New1.site))
/-- the words ride from the start Z to the walk's own state -/
theorem moved {Z s : State} {a0 args : Array Value} (hZ : Z.Warmed39 s.vm) (hw : ∀ d ∈ words, d.before a0 Z = true) : ∀ d ∈ words, d.before args s = true := fun d hd => by
  have q := hw d hd
  have t : ∀ d ∈ words, d = .arrayClass .byte ∨ (d.onTables && d.keepsFace) = true := by decide +kernel
  rcases t d hd with rfl | t
  · exact RoadKit.mvA hZ q
  · exact RoadKit.mv hZ q t
/-- WHAT COMES BACK, over the tables of the start Z: h the heap at the call, h' behind it -/
def Q (Z : State) (x : Addr) (A : Cell) (h : Heap) (v : Option Value) (h' : Heap) (L : List Loc) : Prop := v = none ∧ (∀ y ∈ L, y.base = x) ∧ RoadKit.Keep h h' [x] ∧ h'.size = h.size + 1 ∧ RoadKit.Exa Z h' x ST ∧ RoadKit.Fld Z h' x ST "value" "[B" (.ref h.size) ∧ RoadKit.Fld Z h' x ST "coder" "B" (.int 0) ∧
  (∃ V : Cell, RoadKit.Arr Z h' h.size V .byte ∧ V.vm = .none ∧ Z.vm.findClass "[B" = some V.cls ∧ V.slots.size = A.slots.size ∧ ∀ j, j < A.slots.size → V.slots[j]? = some (.int (lo8 (cv A j)))) ∧
  ∀ (O n d : String) (w : Value), RoadKit.Fld Z h x O n d w → RoadKit.slotOf Z O n d ≠ RoadKit.slotOf Z ST "value" "[B" → RoadKit.slotOf Z O n d ≠ RoadKit.slotOf Z ST "coder" "B" → RoadKit.Fld Z h' x O n d w
/-- **new String(chars) AT A CALL, IN THE ROAD'S FORM**: for specialBack behind newO: x the fresh String, b the char[] with the cell A -/
theorem back {p : Program} {l : Launch} {e : Env} {R : Room} {s : State} {args : Array Value} {below : List Frame} {len W : Nat} {Z : State} {a0 : Array Value} {h : Heap} (hZ : Z.Warmed39 s.vm) (hw : ∀ d ∈ words, d.before a0 Z = true) {kI : Nat} (wi : (Jvm.Cond.instantiable ST kI).before a0 Z = true)
    {x b : Addr} {A : Cell} {z : Int32} {v0 c0 : Value} (E : RoadKit.Exa Z h x ST) (V : RoadKit.Fld Z h x ST "value" "[B" v0) (C : RoadKit.Fld Z h x ST "coder" "B" c0) (K : RoadKit.Arr Z h b A .char) (hty : Typed .char A) (S : RoadKit.Sta Z h ST "COMPACT_STRINGS" "Z" (.int z)) (hz : ¬ z = 0)
    (l0 : 0 < A.slots.size) (l2 : A.slots.size ≤ 536870912) (hp : ∀ i, i < A.slots.size → ¬ 255 < cv A i) (hfr : 4 ≤ R.frames) (hlo : W + 65 ≤ R.locals) :
    Back l R p e below s args New1.yN len W (fun P a => a = #[.ref x, .ref b] ∧ P.U.heap = h ∧ P.cells + 1 ≤ R.cells ∧ P.slots + A.slots.size ≤ R.slots)
      (fun P _ v B => ∃ L, Q Z x A h v B.U.heap L ∧ B.locs = P.locs ++ L ∧ B.cells = P.cells + 1 ∧ B.slots = P.slots + A.slots.size) := by
  intro m meth c P g ig mk a X hg hsize hdg hW hn hp'
  obtain ⟨rfl, rfl, r1, r2⟩ := hp'
  have al : Z.vm.Alike P.U.vm := hZ.alike.trans X.warmed.alike
  obtain ⟨D, cfV, kV, iV, fV, hD, gV, stV, knV, obV, asV, slV⟩ := id V
  obtain ⟨D', cfC, kC, iC, fC, hD', gC, stC, -, -, asC, slC⟩ := id C
  cases hD.symm.trans hD'
  obtain ⟨D2, kD, e1, e2, e3, e4, e5⟩ := id E
  cases hD.symm.trans e1
  obtain ⟨c2, k2, i1, i2, i3, -⟩ := Cond.instantiable_spec wi
  cases e2.symm.trans i1
  cases e3.symm.trans i2
  obtain ⟨kU, u1, u2⟩ := al.2.2 _ _ e3
  have hB : Blank ST x D P.U := ⟨hD, ⟨knV, fun q hq => by rw [hq] at obV; cases obV⟩, by rw [al.findClass]; exact e2, kU, u1, by rw [u2]; exact i3, by rw [u2]; exact e5 i3⟩
  have F1 : Found ST "value" "[B" fV P.U := ⟨SBG.found_only al ⟨cfV, kV, iV, gV⟩, stV⟩
  have F2 : Found ST "coder" "B" fC P.U := ⟨SBG.found_only al ⟨cfC, kC, iC, gC⟩, stC⟩
  have hA : Ch b A P.U := ⟨⟨K.1, State.isArrayOf_alike al K.2.1, K.2.2, by omega⟩, hty⟩
  have hS : StaticIs P.U ST "COMPACT_STRINGS" "Z" (.int z) := by
    obtain ⟨cfS, iS, kS, fS, st, cS, t1, t2, t3, t4, t5, t6, t7⟩ := S
    exact StaticIs.there (s := { Z with heap := P.U.heap }) ⟨cfS, iS, kS, fS, st, cS, t1, t2, t3, t4, t5, (fun q => by rw [q] at t6; cases t6), t7⟩ al rfl
  obtain ⟨v, B, X', ⟨⟨hv, E', V', q1, q2, q3, q4, q5, q6, q7, q8, q9, q10, q11⟩, hl, hc, hs⟩, st⟩ := New1.pays x D fV fC b A z (tab_of (moved hZ hw)) hfr hlo m meth c P g ig mk _ X hg hsize hdg hW hn ⟨r1, r2, rfl, hB, F1, F2, hA, hS, hz, l0, l2, hp⟩
  have al' : Z.vm.Alike B.U.vm := hZ.alike.trans X'.warmed.alike
  have hsz : E'.slots.size = D.slots.size := by
    obtain ⟨-, -, -, kB, w1, w2, w3⟩ := q1
    obtain ⟨kB', y1, y2⟩ := al'.2.2 _ _ e3
    rw [q2.2.1] at w1
    cases w1.symm.trans y1
    rw [w3, e5 i3, y2]
  refine ⟨v, B, X', ⟨_, ⟨hv, ?_, ⟨by omega, fun y cy hy hn' => q10 y cy (by simpa using hn') hy, fun y cy hy => ?_⟩, q11, ⟨E', _, q1.1, by rw [q2.2.1]; exact e2, by rw [q2.2.1]; exact e3, by rw [q2.1]; exact obV, fun _ => by rw [hsz]; exact e5 i3⟩,
    ⟨E', cfV, kV, iV, fV, q1.1, gV, stV, by rw [q2.1]; exact knV, by rw [q2.1]; exact obV, by rw [q2.2.1]; exact asV, q3⟩, ⟨E', cfC, kC, iC, fC, q1.1, gC, stC, by rw [q2.1]; exact knV, by rw [q2.1]; exact obV, by rw [q2.2.1]; exact asC, q4⟩,
    ⟨V', ⟨q5.1, State.isArrayOf_alike al'.symm q5.2.1, q5.2.2.1⟩, q6, by rw [← al'.findClass]; exact q7, q8, fun j hj => by have := q9 j hj; rwa [Nat.zero_add] at this⟩, fun O n d w F n1 n2 => ?_⟩, hl, hc, hs⟩, st⟩
  · intro y hy
    simp only [List.mem_cons, List.not_mem_nil, or_false] at hy
    rcases hy with rfl | rfl <;> rfl
  · by_cases q : y = x
    · subst q
      cases hD.symm.trans hy
      exact ⟨E', q1.1, q2.2.1, q2.1, hsz⟩
    · exact ⟨cy, q10 y cy q hy, rfl, rfl, rfl⟩
  · obtain ⟨D3, cf, k, i, f, g1, g2, g3, g4, g5, g6, g7⟩ := F
    cases hD.symm.trans g1
    simp only [RoadKit.slotOf, g2, gV, gC, Option.map_some, Option.getD_some] at n1 n2
    exact ⟨E', cf, k, i, f, q1.1, g2, g3, by rw [q2.1]; exact g4, by rw [q2.1]; exact g5, by rw [q2.2.1]; exact g6, by rw [q2.2.2 f.slot (by simp [n1, n2])]; exact g7⟩
end StrChars.Road
namespace StrChars.Road
open Jvm Sem ClassFile Op Lib Jvm.Stand Jvm.Free Jvm.Free.XT
/-- WHAT COMES BACK, the byte[] as a list of values -/
def QA (Z : State) (x : Addr) (zn : Int32) (cs : List Int32) (h : Heap) (v : Option Value) (h' : Heap) (L : List Loc) : Prop := v = none ∧ (∀ y ∈ L, y.base = x) ∧ RoadKit.Keep h h' [x] ∧ h'.size = h.size + 1 ∧ RoadKit.Exa Z h' x ST ∧ RoadKit.Fld Z h' x ST "value" "[B" (.ref h.size) ∧ RoadKit.Fld Z h' x ST "coder" "B" (.int 0) ∧
  (∃ kb, Z.vm.findClass "[B" = some kb ∧ RoadKit.Arv Z h' h.size kb .byte zn (cs.map fun c => .int (lo8 c)) (.int 0)) ∧
  ∀ (O n d : String) (w : Value), RoadKit.Fld Z h x O n d w → RoadKit.slotOf Z O n d ≠ RoadKit.slotOf Z ST "value" "[B" → RoadKit.slotOf Z O n d ≠ RoadKit.slotOf Z ST "coder" "B" → RoadKit.Fld Z h' x O n d w
/-- **new String(chars) AT A CALL, THE ARRAYS AS LISTS**: the char[] at b holds cs, not empty, no char above 255 -/
theorem backArv {p : Program} {l : Launch} {e : Env} {R : Room} {s : State} {args : Array Value} {below : List Frame} {len W : Nat} {Z : State} {a0 : Array Value} {h : Heap} (hZ : Z.Warmed39 s.vm) (hw : ∀ d ∈ words, d.before a0 Z = true) {kI : Nat} (wi : (Jvm.Cond.instantiable ST kI).before a0 Z = true)
    {x b : Addr} {k : ClassId} {zn z : Int32} {cs : List Int32} {dv v0 c0 : Value} (E : RoadKit.Exa Z h x ST) (V : RoadKit.Fld Z h x ST "value" "[B" v0) (C : RoadKit.Fld Z h x ST "coder" "B" c0) (K : RoadKit.Arv Z h b k .char zn (cs.map Value.int) dv) (S : RoadKit.Sta Z h ST "COMPACT_STRINGS" "Z" (.int z)) (hz : ¬ z = 0)
    (hlen : zn.toNatClampNeg = cs.length) (h0 : 0 < cs.length) (hbig : cs.length ≤ 536870912) (hall : ∀ c ∈ cs, ¬ 255 < c) (hfr : 4 ≤ R.frames) (hlo : W + 65 ≤ R.locals) :
    Back l R p e below s args New1.yN len W (fun P a => a = #[.ref x, .ref b] ∧ P.U.heap = h ∧ P.cells + 1 ≤ R.cells ∧ P.slots + cs.length ≤ R.slots)
      (fun P _ v B => ∃ L, QA Z x zn cs h v B.U.heap L ∧ B.locs = P.locs ++ L ∧ B.cells = P.cells + 1 ∧ B.slots = P.slots + cs.length) := by
  obtain ⟨A, K1, K2, K3, K4, K5, K6⟩ := K
  have e : A.slots.size = cs.length := K3.trans hlen
  have hat : ∀ (i : Nat) (hi : i < cs.length), A.slots[i]? = some (.int cs[i]) := fun i hi => by rw [K5 i (by omega)]; simp [List.getD_eq_getElem?_getD, hi]
  have hcv : ∀ (i : Nat) (hi : i < cs.length), cv A i = cs[i] := fun i hi => by unfold cv; rw [hat i hi]
  have hty : Typed .char A := fun i v hv => by
    have hi : i < A.slots.size := (Array.getElem?_eq_some_iff.mp hv).1
    have q := K5 i hi
    rw [hv] at q
    rw [Option.some.inj q]
    exact K6 i hi
  refine Back.mono (back hZ hw wi E V C K1 hty S hz (by omega) (by omega) (fun i hi => by rw [hcv i (by omega)]; exact hall _ (List.getElem_mem _)) hfr hlo) (fun P a hp => ⟨hp.1, hp.2.1, hp.2.2.1, by rw [e]; exact hp.2.2.2⟩) (fun P a v B hp hq => ?_)
  obtain ⟨L, ⟨q1, q2, q3, q4, q5, q6, q7, ⟨V', v1, v2, v3, v4, v5⟩, q9⟩, hl, hc, hs⟩ := hq
  refine ⟨L, ⟨q1, q2, q3, q4, q5, q6, q7, ⟨V'.cls, v3, V', v1, rfl, by rw [v4, e, hlen], K4, fun i hi => ?_, fun i hi => ?_⟩, q9⟩, hl, hc, by rw [hs, e]⟩
  · have hi' : i < cs.length := by omega
    rw [v5 i (by omega), hcv i hi']; simp [List.getD_eq_getElem?_getD, hi']
  · have hi' : i < cs.length := by omega
    simp only [List.getD_eq_getElem?_getD, List.getElem?_map, List.getElem?_eq_getElem hi', Option.map_some, Option.getD_some]
    exact fits_lo8 _
end StrChars.Road
namespace StrChars.Road
open Jvm Sem ClassFile Op Lib Jvm.Stand Jvm.Free Jvm.Free.XT
/-- WHAT COMES BACK, in the writer's own shape -/
def QV (Z : State) (x : Addr) (N : Int32) (bs : List Int32) (h : Heap) (n0 : Nat) (v : Option Value) (h' : Heap) (L : List Loc) : Prop := v = none ∧ RoadKit.Fr n0 L ∧ RoadKit.Keep h h' [x] ∧ RoadKit.Exa Z h' x ST ∧ RoadKit.Fld Z h' x ST "coder" "B" (.int 0) ∧
  ∃ (t : Addr) (kb : ClassId), n0 ≤ t ∧ h.size ≤ t ∧ ¬ t = x ∧ RoadKit.Fld Z h' x ST "value" "[B" (.ref t) ∧ RoadKit.Arv Z h' t kb .byte N (bs.map Value.int) (.int 0)
/-- **new String(chars) AT A CALL, FOR THE WRITER**: a char[] of n known ints, each 0 to 255 -/
theorem backV {p : Program} {l : Launch} {e : Env} {R : Room} {s : State} {args : Array Value} {below : List Frame} {len W : Nat} {Z : State} {a0 : Array Value} {h : Heap} (hZ : Z.Warmed39 s.vm) (hw : ∀ d ∈ words, d.before a0 Z = true) {kI : Nat} (wi : (Jvm.Cond.instantiable ST kI).before a0 Z = true)
    {x b : Addr} {kC : ClassId} {cs bs : List Int32} {d v0 c0 : Value} {z N : Int32} {n n0 : Nat} (hx0 : n0 ≤ x) (hh0 : n0 ≤ h.size) (E : RoadKit.Exa Z h x ST) (V : RoadKit.Fld Z h x ST "value" "[B" v0) (C : RoadKit.Fld Z h x ST "coder" "B" c0) (K : RoadKit.Arv Z h b kC .char N (cs.map Value.int) d) (S : RoadKit.Sta Z h ST "COMPACT_STRINGS" "Z" (.int z)) (hz : ¬ z = 0)
    (hn : cs.length = n) (hN : N = Int32.ofNat n) (l0 : 0 < n) (l2 : n ≤ 4000) (hp : ∀ c ∈ cs, ¬ c < 0 ∧ ¬ (255 : Int32) < c) (hb : bs = cs.map (fun c => c.toInt8.toInt32)) (hfr : 4 ≤ R.frames) (hlo : W + 65 ≤ R.locals) :
    Back l R p e below s args (⟨"java/lang/String", "<init>", "([C)V"⟩ : MethodName) len W (fun P a => a = #[.ref x, .ref b] ∧ P.U.heap = h ∧ P.cells + 1 ≤ R.cells ∧ P.slots + n ≤ R.slots)
      (fun P _ v B => ∃ L, QV Z x N bs h n0 v B.U.heap L ∧ B.locs = P.locs ++ L ∧ B.cells = P.cells + 1 ∧ B.slots = P.slots + n) := by
  subst hn hN hb
  refine Back.mono (backArv hZ hw wi E V C K S hz (n32 (by omega)) l0 (by omega) (fun c hc => (hp c hc).2) hfr hlo) (fun P a hp => hp) (fun P a v B hp hq => ?_)
  obtain ⟨L, ⟨q1, q2, q3, q4, q5, q6, q7, ⟨kb, v1, v2⟩, q9⟩, hl, hc, hs⟩ := hq
  exact ⟨L, ⟨q1, fun y hy => by rw [q2 y hy]; exact hx0, q3, q5, q7, h.size, kb, hh0, Nat.le_refl _, Nat.ne_of_gt E.lt, q6, by rw [List.map_map]; exact v2⟩, hl, hc, hs⟩
end StrChars.Road
namespace StrChars
open Jvm Sem ClassFile Op Lib Jvm.Stand Jvm.Free.XT Jvm.Free.ALB Jvm.Free.JM Jvm.Free
open Jvm.Lib.Cold (StaticIs)
def hi8 (x : Int32) : Int32 := lo8 (x >>> ((8 : Int32) &&& 31))
/-- what StringUTF16.getChar makes of two bytes -/
def pairCh (u v : Int32) : Int32 := (((u &&& 255) <<< ((0 : Int32) &&& 31)) ||| ((v &&& 255) <<< ((8 : Int32) &&& 31))).toUInt32.toUInt16.toUInt32.toInt32
theorem shr0 (c : Int32) : c >>> ((0 : Int32) &&& 31) = c := by
  have e : ((0 : Int32) &&& 31) = 0 := by decide
  rw [e]
  apply Int32.toBitVec_inj.mp
  rw [Int32.toBitVec_shiftRight]
  have e1 : ((0 : Int32).toBitVec.smod 32) = 0#32 := by decide
  rw [e1, BitVec.sshiftRight_eq']
  exact BitVec.sshiftRight_zero
theorem lo8_and (x : Int32) : (lo8 x &&& 255).toBitVec.toNat = x.toBitVec.toNat % 256 := by
  have h : (lo8 x).toBitVec = (x.toBitVec.signExtend 8).signExtend 32 := by rw [lo8, Int8.toBitVec_toInt32, Int32.toBitVec_toInt8]
  rw [Int32.toBitVec_and, BitVec.toNat_and, h]
  have e : ((x.toBitVec.signExtend 8).signExtend 32).toNat % 256 = x.toBitVec.toNat % 256 := by
    rw [BitVec.toNat_signExtend]
    have hlt := x.toBitVec.isLt
    simp only [BitVec.toNat_setWidth, BitVec.toNat_signExtend]
    split <;> split <;> omega
  rw [← e]
  exact Nat.and_two_pow_sub_one_eq_mod _ 8
theorem pair_says {c : Int32} (h0 : ¬ c < 0) (h1 : ¬ 65535 < c) : pairCh (lo8 c) (hi8 c) = c := by
  rw [Int32.lt_iff_toInt_lt] at h0 h1
  have e0 : (0 : Int32).toInt = 0 := rfl
  have e1 : (65535 : Int32).toInt = 65535 := rfl
  have hc : c.toInt = c.toBitVec.toNat := by
    have := c.toBitVec.isLt
    have e : c.toInt = c.toBitVec.toInt := rfl
    rw [e] at h0 h1
    rw [e]
    rw [BitVec.toInt_eq_toNat_cond] at h0 h1 ⊢
    split at h0 <;> split <;> omega
  have hn : c.toBitVec.toNat < 65536 := by omega
  have a1 := lo8_and c
  have a2 : (hi8 c &&& 255).toBitVec.toNat = c.toBitVec.toNat / 256 := by
    rw [hi8, lo8_and]
    have e : ((8 : Int32) &&& 31) = 8 := by decide
    rw [e, Int32.toBitVec_shiftRight]
    have e2 : ((8 : Int32).toBitVec.smod 32) = 8#32 := by decide
    rw [e2, BitVec.sshiftRight_eq', BitVec.toNat_sshiftRight_of_msb_false (by rw [BitVec.msb_eq_false_iff_two_mul_lt]; omega)]
    show c.toBitVec.toNat >>> 8 % 256 = _
    rw [Nat.shiftRight_eq_div_pow]
    omega
  unfold pairCh
  apply Int32.toBitVec_inj.mp
  apply BitVec.eq_of_toNat_eq
  have f0 : ((0 : Int32) &&& 31) = 0 := by decide
  have f8 : ((8 : Int32) &&& 31) = 8 := by decide
  rw [f0, f8]
  have g : (((lo8 c &&& 255) <<< (0 : Int32)) ||| ((hi8 c &&& 255) <<< (8 : Int32))).toBitVec.toNat = c.toBitVec.toNat := by
    rw [Int32.toBitVec_or, Int32.toBitVec_shiftLeft, Int32.toBitVec_shiftLeft]
    have s0 : ((0 : Int32).toBitVec.smod 32) = 0#32 := by decide
    have s8 : ((8 : Int32).toBitVec.smod 32) = 8#32 := by decide
    rw [s0, s8, BitVec.toNat_or]
    simp only [BitVec.shiftLeft_eq', BitVec.toNat_shiftLeft, a1, a2]
    show (c.toBitVec.toNat % 256) <<< 0 % 2 ^ 32 ||| (c.toBitVec.toNat / 256) <<< 8 % 2 ^ 32 = _
    rw [Nat.shiftLeft_zero, Nat.mod_eq_of_lt (show c.toBitVec.toNat % 256 < 2 ^ 32 by omega), Nat.mod_eq_of_lt (show (c.toBitVec.toNat / 256) <<< 8 < 2 ^ 32 by rw [Nat.shiftLeft_eq]; omega), Nat.or_comm, ← Nat.shiftLeft_add_eq_or_of_lt (by omega), Nat.shiftLeft_eq]
    omega
  show BitVec.toNat (((((lo8 c &&& 255) <<< (0 : Int32)) ||| ((hi8 c &&& 255) <<< (8 : Int32))).toBitVec.setWidth 16).setWidth 32) = _
  rw [BitVec.toNat_setWidth, BitVec.toNat_setWidth, g]
  omega
end StrChars
namespace StrChars
open Jvm Sem ClassFile Op Lib Jvm.Stand Jvm.Free.XT Jvm.Free.ALB Jvm.Free.JM Jvm.Free
open Jvm.Lib.Cold (StaticIs)
theorem shr1 {n : Nat} (h : 2 * n < 2 ^ 31) : Int32.ofNat (2 * n) >>> ((1 : Int32) &&& 31) = Int32.ofNat n := by
  have e : ((1 : Int32) &&& 31) = 1 := by decide
  rw [e]
  apply Int32.toBitVec_inj.mp
  rw [Int32.toBitVec_shiftRight]
  have e1 : ((1 : Int32).toBitVec.smod 32) = 1#32 := by decide
  have hm : (BitVec.ofNat 32 (2 * n)).toNat = 2 * n := by rw [BitVec.toNat_ofNat, Nat.mod_eq_of_lt (by omega)]
  rw [e1, BitVec.sshiftRight_eq']
  apply BitVec.eq_of_toNat_eq
  show ((BitVec.ofNat 32 (2 * n)).sshiftRight 1).toNat = (BitVec.ofNat 32 n).toNat
  rw [BitVec.toNat_sshiftRight_of_msb_false (by rw [BitVec.msb_eq_false_iff_two_mul_lt, hm]; omega), hm, BitVec.toNat_ofNat, Nat.shiftRight_eq_div_pow]
  omega
/-- charAt's cast of a byte read back -/
def chr8 (u : Int32) : Int32 := (u &&& 255).toUInt32.toUInt16.toUInt32.toInt32
theorem chr8_lo8 {c : Int32} (h0 : ¬ c < 0) (h1 : ¬ 255 < c) : chr8 (lo8 c) = c := by
  have t : ∀ k : Fin 256, (Int32.ofNat k.val).toUInt32.toUInt16.toUInt32.toInt32 = Int32.ofNat k.val := by decide +kernel
  unfold chr8
  rw [lo8_mask h0 h1]
  rw [Int32.lt_iff_toInt_lt] at h0 h1
  have e0 : (0 : Int32).toInt = 0 := rfl
  have e1 : (255 : Int32).toInt = 255 := rfl
  obtain ⟨k, hk⟩ : ∃ k : Nat, c.toInt = k := ⟨c.toInt.toNat, by omega⟩
  have hx : c = Int32.ofNat k := Int32.toInt_inj.mp (by rw [hk, Int32.toInt_ofNat_small (by omega)])
  rw [hx]
  exact t ⟨k, by omega⟩
theorem narrow_ch {c : Int32} (h0 : ¬ c < 0) (h1 : ¬ 65535 < c) : narrow .char (.int c) = .int c := by
  have q : narrow .char (.int (pairCh (lo8 c) (hi8 c))) = .int (pairCh (lo8 c) (hi8 c)) := narrow_c _
  rwa [pair_says h0 h1] at q
/-- the array's cell V codes the n chars f 0 .. f (n - 1) by the coder cd, as the JDK does: coder 1 just where some char is above 255 -/
def Cod (cd : Int32) (n : Nat) (f : Nat → Int32) (V : Cell) : Prop := (cd = 0 ∧ V.slots.size = n ∧ ∀ j, j < n → V.slots[j]? = some (.int (lo8 (f j))) ∧ ¬ 255 < f j) ∨ (cd = 1 ∧ V.slots.size = 2 * n ∧ (∀ j, j < n → V.slots[2 * j]? = some (.int (lo8 (f j))) ∧ V.slots[2 * j + 1]? = some (.int (hi8 (f j)))) ∧ ∃ j, j < n ∧ 255 < f j)
theorem Cod.cd {cd : Int32} {n : Nat} {f : Nat → Int32} {V : Cell} (h : Cod cd n f V) : cd = 0 ∨ cd = 1 := h.imp (fun q => q.1) fun q => q.1
theorem Cod.len {cd : Int32} {n : Nat} {f : Nat → Int32} {V : Cell} (h : Cod cd n f V) (hs : V.slots.size < 2 ^ 31) : Int32.ofNat V.slots.size >>> (cd &&& 31) = Int32.ofNat n := by
  rcases h with ⟨rfl, h, -⟩ | ⟨rfl, h, -⟩
  · rw [shr0, h]
  · rw [h, shr1 (by omega)]
/-- **x is a String of the n chars f 0 .. f (n - 1)**, Latin-1 or UTF-16; its array at t has the cell V -/
def Txt (x t : Addr) (V : Cell) (cd : Int32) (n : Nat) (f : Nat → Int32) (U : State) : Prop := Exact "java/lang/String" x U ∧ Has x "java/lang/String" "value" "[B" (.ref t) U ∧ Has x "java/lang/String" "coder" "B" (.int cd) U ∧ XT.Arr .byte t V U ∧ Cod cd n f V ∧ ∀ j, j < n → ¬ f j < 0 ∧ ¬ 65535 < f j
theorem Txt.mv {x t : Addr} {V : Cell} {cd : Int32} {n : Nat} {f : Nat → Int32} {U U' : State} (h : Txt x t V cd n f U) (hal : U.vm.Alike U'.vm) (hh : U'.heap = U.heap) : Txt x t V cd n f U' := ⟨h.1.mv hal hh, h.2.1.mv hal hh, h.2.2.1.mv hal hh, h.2.2.2.1.mv hal hh, h.2.2.2.2⟩
namespace Cdr
def yN : MethodName := ⟨"java/lang/String", "coder", "()B"⟩
abbrev yB : ByteArray := jdk_42_method_152_code
theorem d0 : decode yB 0 = .ok (.getstatic 38, 3) := by decide +kernel
theorem d3 : decode yB 3 = .ok (.ifCond (.eq) 10, 3) := by decide +kernel
theorem d6 : decode yB 6 = .ok (.aload_n 0, 1) := by decide +kernel
theorem d7 : decode yB 7 = .ok (.getfield 15, 3) := by decide +kernel
theorem d10 : decode yB 10 = .ok (.goto 4, 3) := by decide +kernel
theorem d14 : decode yB 14 = .ok (.ireturn, 1) := by decide +kernel
def site : List Cond := [.fieldLink "java/lang/String" 38 "java/lang/String" "COMPACT_STRINGS" "Z", .fieldLink "java/lang/String" 15 "java/lang/String" "coder" "B"]
def tab : Cond := tabOf yN yB 1 (some .byte) site
def P (x : Addr) (cd z : Int32) (args : Array Value) (s : State) : Prop := args = #[.ref x] ∧ Has x "java/lang/String" "coder" "B" (.int cd) s ∧ (cd = 0 ∨ cd = 1) ∧ StaticIs s "java/lang/String" "COMPACT_STRINGS" "Z" (.int z) ∧ ¬ z = 0
def E (cd : Int32) (r : Option Value) (s u : State) : Prop := XT.PureE (some (.int cd)) r s u
theorem law (l : Launch) (x : Addr) (cd z : Int32) : Law l yN 1 0 0 0 yB 1 (some .byte) site (P x cd z) (E cd) [] 0 0 := by
  refine Law.of_walk (plainFor_of_name (by decide +kernel)) (by decide +kernel) (by decide +kernel) (by decide) (fun _ _ h => by rw [h.1]; rfl) (fun _ U U' hal hh h => ⟨h.1, h.2.1.mv hal hh, h.2.2.1, h.2.2.2.1.there hal hh, h.2.2.2.2⟩) (fun r U U' V V' h1 hal h2 h => XT.PureE.mv r U U' V V' h1 hal h2 h) ?_
  intro p e s m args below meth c s₁ X0 hexec hbytes hml hret hlk hnm hown hh0 W hP
  obtain ⟨rfl, hx, hc, s1, hz⟩ := hP
  have c1 : Steps p.tables e below (s₁.setTop (entryFrame m #[.ref x] 1)) (s₁.setTop (mkF m 0 #[.val (.ref x)] [])) := entry rfl
  obtain ⟨T2, X2, q2, st2⟩ := X0.sget hexec hown (wk W (.fieldLink "java/lang/String" 38 "java/lang/String" "COMPACT_STRINGS" "Z")) s1 (fun _ _ h => by rw [hh0]; exact h) (g := (mkF m 0 #[.val (.ref x)] [])) rfl (hb hbytes d0)
  have hh2 := q2.trans hh0
  have c3 : Steps p.tables e below (s₁.setTop (entryFrame m #[.ref x] 1)) (T2.setTop (mkF m 7 #[.val (.ref x)] [.ref x])) := (c1.trans (st2 _ (Steps.refl _))).trans (by
    refine XS.ifNo X2.here hexec rfl (hb hbytes d3) rfl (i0_eq_f hz) ?_
    refine XS.aloadN X2.here hexec rfl (hb hbytes d6) rfl rfl ?_
    exact Steps.refl _)
  obtain ⟨T4, X4, q4, st4⟩ := X2.hget hexec hown (wk W (.fieldLink "java/lang/String" 15 "java/lang/String" "coder" "B")) (hx.mv X2.warmed.alike hh2) (g := (mkF m 7 #[.val (.ref x)] [.ref x])) rfl (rest := []) rfl (hb hbytes d7)
  have c5 : Steps p.tables e below (s₁.setTop (entryFrame m #[.ref x] 1)) (T4.setTop (mkF m 14 #[.val (.ref x)] [.int cd])) := (c3.trans (st4 _ (Steps.refl _))).trans (by
    refine XS.goto X4.here hexec rfl (pc0 := 10) rfl (hb hbytes d10) (by decide) rfl ?_
    exact Steps.refl _)
  exact ⟨T4, some (.int cd), _, _, _, X4, rfl, rfl, rfl, (fun h => by cases h), ⟨rfl, q4.trans hh2⟩, fun fs hl => c5.trans (X4.ireturnOut hexec hret (by rcases hc with rfl | rfl <;> rfl) (Or.inr (Or.inr (Or.inl rfl))) (hb hbytes d14) hl)⟩
end Cdr
namespace Len
def yN : MethodName := ⟨"java/lang/String", "length", "()I"⟩
abbrev yB : ByteArray := jdk_42_method_54_code
theorem d0 : decode yB 0 = .ok (.aload_n 0, 1) := by decide +kernel
theorem d1 : decode yB 1 = .ok (.getfield 9, 3) := by decide +kernel
theorem d4 : decode yB 4 = .ok (.arraylength, 1) := by decide +kernel
theorem d5 : decode yB 5 = .ok (.aload_n 0, 1) := by decide +kernel
theorem d6 : decode yB 6 = .ok (.invokevirtual 335, 3) := by decide +kernel
theorem d9 : decode yB 9 = .ok (.ishr, 1) := by decide +kernel
theorem d10 : decode yB 10 = .ok (.ireturn, 1) := by decide +kernel
def site : List Cond := [.fieldLink "java/lang/String" 9 "java/lang/String" "value" "[B", Cdr.tab] ++ virtW "java/lang/String" 335 "java/lang/String" Cdr.yN Cdr.yN
def tab : Cond := tabOf yN yB 1 (some .int) site
def P (x t : Addr) (V : Cell) (cd : Int32) (n : Nat) (f : Nat → Int32) (z : Int32) (args : Array Value) (s : State) : Prop := args = #[.ref x] ∧ Txt x t V cd n f s ∧ StaticIs s "java/lang/String" "COMPACT_STRINGS" "Z" (.int z) ∧ ¬ z = 0
def E (n : Nat) (r : Option Value) (s u : State) : Prop := XT.PureE (some (.int (Int32.ofNat n))) r s u
/-- length() of a String of n chars, in either coding -/
theorem law (l : Launch) (x t : Addr) (V : Cell) (cd : Int32) (n : Nat) (f : Nat → Int32) (z : Int32) : Law l yN 1 0 1 13 yB 1 (some .int) site (P x t V cd n f z) (E n) [] 0 0 := by
  refine Law.of_walk (plainFor_of_name (by decide +kernel)) (by decide +kernel) (by decide +kernel) (by decide) (fun _ _ h => by rw [h.1]; rfl) (fun _ U U' hal hh h => ⟨h.1, h.2.1.mv hal hh, h.2.2.1.there hal hh, h.2.2.2⟩) (fun r U U' V V' h1 hal h2 h => XT.PureE.mv r U U' V V' h1 hal h2 h) ?_
  intro p e s m args below meth c s₁ X0 hexec hbytes hml hret hlk hnm hown hh0 W hP
  obtain ⟨rfl, hx, s1, hz⟩ := hP
  have v31 := hx.2.2.2.1.2.2.2
  have c1 : Steps p.tables e below (s₁.setTop (entryFrame m #[.ref x] 1)) (s₁.setTop (mkF m 1 #[.val (.ref x)] [.ref x])) := Steps.trans (entry rfl) (by
    show Steps p.tables e below (s₁.setTop (mkF m 0 #[.val (.ref x)] [])) _
    refine XS.aloadN X0.here hexec rfl (hb hbytes d0) rfl rfl ?_
    exact Steps.refl _)
  obtain ⟨T2, X2, q2, st2⟩ := X0.hget hexec hown (wk W (.fieldLink "java/lang/String" 9 "java/lang/String" "value" "[B")) (hx.mv X0.warmed.alike hh0).2.1 (g := (mkF m 1 #[.val (.ref x)] [.ref x])) rfl (rest := []) rfl (hb hbytes d1)
  have hh2 := q2.trans hh0
  have hx2 := hx.mv X2.warmed.alike hh2
  have c3 : Steps p.tables e below (s₁.setTop (entryFrame m #[.ref x] 1)) (T2.setTop (mkF m 6 #[.val (.ref x)] [.ref x, .int (Int32.ofNat V.slots.size)])) := (c1.trans (st2 _ (Steps.refl _))).trans (by
    refine X2.alen hexec hx2.2.2.2.1 rfl rfl (hb hbytes d4) ?_
    refine XS.aloadN X2.here hexec rfl (hb hbytes d5) rfl rfl ?_
    exact Steps.refl _)
  obtain ⟨v4, T4, X4, E4, g4⟩ := X2.callV hexec (Cdr.law l x cd z) hown (wks W (virtW "java/lang/String" 335 "java/lang/String" Cdr.yN Cdr.yN)) rfl (by decide) (wk W Cdr.tab) (W := 1) (Nat.le_of_ble_eq_true rfl) (Nat.le_of_ble_eq_true rfl) (Nat.le_refl _) (Nat.le_refl _) (hx2.1.fc X2.warmed.alike) hx2.1.is (g := (mkF m 6 #[.val (.ref x)] [.ref x, .int (Int32.ofNat V.slots.size)])) rfl (by rw [hml]; rfl) c3 (argsL := []) (rest := [.int (Int32.ofNat V.slots.size)]) rfl rfl (by show 2 * 0 + (1 + 0) ≤ _; decide) (hb hbytes d6) (⟨rfl, hx2.2.2.1, hx.2.2.2.2.1.cd, s1.there X2.warmed.alike hh2, hz⟩)
  obtain ⟨rfl, q4⟩ := E4
  have c5 : Steps p.tables e below (s₁.setTop (entryFrame m #[.ref x] 1)) (T4.setTop (mkF m 10 #[.val (.ref x)] [.int (Int32.ofNat V.slots.size >>> (cd &&& 31))])) := Steps.trans g4 (by
    refine ishr X4.here hexec rfl (hb hbytes d9) rfl ?_
    exact Steps.refl _)
  rw [hx.2.2.2.2.1.len v31] at c5
  exact ⟨T4, some (.int (Int32.ofNat n)), _, _, _, X4, rfl, rfl, rfl, (fun h => by cases h), ⟨rfl, q4.trans hh2⟩, fun fs hl => c5.trans (X4.ireturnOut hexec hret rfl (Or.inl rfl) (hb hbytes d10) hl)⟩
theorem pays {l : Launch} {R : Room} {p : Program} {e : Env} {below : List Frame} {s : State} {sargs : Array Value} {len W : Nat} (x t : Addr) (V : Cell) (cd : Int32) (n : Nat) (f : Nat → Int32) (z : Int32) (htab : tab.before sargs s = true) (hfr : 2 ≤ R.frames) (hlo : W + 25 ≤ R.locals) :
    Back l R p e below s sargs yN len W (fun A₁ a₁ => A₁.cells + 0 ≤ R.cells ∧ A₁.slots + 0 ≤ R.slots ∧ P x t V cd n f z a₁ A₁.U) (fun A₁ _ v₁ B₁ => E n v₁ A₁.U B₁.U ∧ B₁.locs = A₁.locs ++ [] ∧ B₁.cells = A₁.cells + 0 ∧ B₁.slots = A₁.slots + 0) :=
  (law l x t V cd n f z).pays htab hfr (by omega)
end Len
namespace IsL
def yN : MethodName := ⟨"java/lang/String", "isLatin1", "()Z"⟩
abbrev yB : ByteArray := jdk_42_method_154_code
theorem d0 : decode yB 0 = .ok (.getstatic 38, 3) := by decide +kernel
theorem d3 : decode yB 3 = .ok (.ifCond (.eq) 14, 3) := by decide +kernel
theorem d6 : decode yB 6 = .ok (.aload_n 0, 1) := by decide +kernel
theorem d7 : decode yB 7 = .ok (.getfield 15, 3) := by decide +kernel
theorem d10 : decode yB 10 = .ok (.ifCond (.ne) 7, 3) := by decide +kernel
theorem d13 : decode yB 13 = .ok (.iconst 1, 1) := by decide +kernel
theorem d14 : decode yB 14 = .ok (.goto 4, 3) := by decide +kernel
theorem d17 : decode yB 17 = .ok (.iconst 0, 1) := by decide +kernel
theorem d18 : decode yB 18 = .ok (.ireturn, 1) := by decide +kernel
def site : List Cond := [.fieldLink "java/lang/String" 38 "java/lang/String" "COMPACT_STRINGS" "Z", .fieldLink "java/lang/String" 15 "java/lang/String" "coder" "B"]
def tab : Cond := tabOf yN yB 1 (some .boolean) site
def P (x : Addr) (cd z : Int32) (args : Array Value) (s : State) : Prop := args = #[.ref x] ∧ Has x "java/lang/String" "coder" "B" (.int cd) s ∧ (cd = 0 ∨ cd = 1) ∧ StaticIs s "java/lang/String" "COMPACT_STRINGS" "Z" (.int z) ∧ ¬ z = 0
def E (cd : Int32) (r : Option Value) (s u : State) : Prop := XT.PureE (some (.int (1 - cd))) r s u
theorem law (l : Launch) (x : Addr) (cd z : Int32) : Law l yN 1 0 0 0 yB 1 (some .boolean) site (P x cd z) (E cd) [] 0 0 := by
  refine Law.of_walk (plainFor_of_name (by decide +kernel)) (by decide +kernel) (by decide +kernel) (by decide) (fun _ _ h => by rw [h.1]; rfl) (fun _ U U' hal hh h => ⟨h.1, h.2.1.mv hal hh, h.2.2.1, h.2.2.2.1.there hal hh, h.2.2.2.2⟩) (fun r U U' V V' h1 hal h2 h => XT.PureE.mv r U U' V V' h1 hal h2 h) ?_
  intro p e s m args below meth c s₁ X0 hexec hbytes hml hret hlk hnm hown hh0 W hP
  obtain ⟨rfl, hx, hc, s1, hz⟩ := hP
  have c1 : Steps p.tables e below (s₁.setTop (entryFrame m #[.ref x] 1)) (s₁.setTop (mkF m 0 #[.val (.ref x)] [])) := entry rfl
  obtain ⟨T2, X2, q2, st2⟩ := X0.sget hexec hown (wk W (.fieldLink "java/lang/String" 38 "java/lang/String" "COMPACT_STRINGS" "Z")) s1 (fun _ _ h => by rw [hh0]; exact h) (g := (mkF m 0 #[.val (.ref x)] [])) rfl (hb hbytes d0)
  have hh2 := q2.trans hh0
  have c3 : Steps p.tables e below (s₁.setTop (entryFrame m #[.ref x] 1)) (T2.setTop (mkF m 7 #[.val (.ref x)] [.ref x])) := (c1.trans (st2 _ (Steps.refl _))).trans (by
    refine XS.ifNo X2.here hexec rfl (hb hbytes d3) rfl (i0_eq_f hz) ?_
    refine XS.aloadN X2.here hexec rfl (hb hbytes d6) rfl rfl ?_
    exact Steps.refl _)
  obtain ⟨T4, X4, q4, st4⟩ := X2.hget hexec hown (wk W (.fieldLink "java/lang/String" 15 "java/lang/String" "coder" "B")) (hx.mv X2.warmed.alike hh2) (g := (mkF m 7 #[.val (.ref x)] [.ref x])) rfl (rest := []) rfl (hb hbytes d7)
  have c5 : Steps p.tables e below (s₁.setTop (entryFrame m #[.ref x] 1)) (T4.setTop (mkF m 10 #[.val (.ref x)] [.int cd])) := c3.trans (st4 _ (Steps.refl _))
  have c6 : Steps p.tables e below (s₁.setTop (entryFrame m #[.ref x] 1)) (T4.setTop (mkF m 18 #[.val (.ref x)] [.int (1 - cd)])) := by
    rcases hc with rfl | rfl
    · exact c5.trans (by
        refine XS.ifNo X4.here hexec rfl (hb hbytes d10) rfl (i0_ne_f rfl) ?_
        refine iconstV X4.here hexec rfl 1 (hb hbytes d13) (by decide) ?_
        refine XS.goto X4.here hexec rfl (pc0 := 14) rfl (hb hbytes d14) (by decide) rfl ?_
        exact Steps.refl _)
    · exact c5.trans (by
        refine XS.ifYes X4.here hexec rfl (pc0 := 10) rfl (hb hbytes d10) rfl (i0_ne_t (by decide)) (by decide) rfl ?_
        refine iconstV X4.here hexec rfl 0 (hb hbytes d17) (by decide) ?_
        exact Steps.refl _)
  exact ⟨T4, some (.int (1 - cd)), _, _, _, X4, rfl, rfl, rfl, (fun h => by cases h), ⟨rfl, q4.trans hh2⟩, fun fs hl => c6.trans (X4.ireturnOut hexec hret (by rcases hc with rfl | rfl <;> rfl) (Or.inr (Or.inl rfl)) (hb hbytes d18) hl)⟩
end IsL
namespace LChA
def yN : MethodName := ⟨"java/lang/StringLatin1", "charAt", "([BI)C"⟩
abbrev yB : ByteArray := jdk_43_method_2_code
theorem d0 : decode yB 0 = .ok (.iload_n 1, 1) := by decide +kernel
theorem d1 : decode yB 1 = .ok (.aload_n 0, 1) := by decide +kernel
theorem d2 : decode yB 2 = .ok (.arraylength, 1) := by decide +kernel
theorem d3 : decode yB 3 = .ok (.invokestatic 9, 3) := by decide +kernel
theorem d6 : decode yB 6 = .ok (.aload_n 0, 1) := by decide +kernel
theorem d7 : decode yB 7 = .ok (.iload_n 1, 1) := by decide +kernel
theorem d8 : decode yB 8 = .ok (.baload, 1) := by decide +kernel
theorem d9 : decode yB 9 = .ok (.sipush 255, 3) := by decide +kernel
theorem d12 : decode yB 12 = .ok (.iand, 1) := by decide +kernel
theorem d13 : decode yB 13 = .ok (.i2c, 1) := by decide +kernel
theorem d14 : decode yB 14 = .ok (.ireturn, 1) := by decide +kernel
def site : List Cond := [JO.Str_checkIndex.tab] ++ staticW "java/lang/StringLatin1" 9 JO.Str_checkIndex.yN
def tab : Cond := tabOf yN yB 2 (some .char) site
def P (t : Addr) (V : Cell) (i : Nat) (u : Int32) (fm : Value) (args : Array Value) (s : State) : Prop := args = #[.ref t, .int (Int32.ofNat i)] ∧ XT.Arr .byte t V s ∧ V.slots[i]? = some (.int u) ∧ (StaticIs s "jdk/internal/util/Preconditions" "SIOOBE_FORMATTER" "Ljava/util/function/BiFunction;" fm ∧ fm.isRef = true)
def E (u : Int32) (r : Option Value) (s w : State) : Prop := XT.PureE (some (.int (chr8 u))) r s w
theorem law (l : Launch) (t : Addr) (V : Cell) (i : Nat) (u : Int32) (fm : Value) : Law l yN 2 2 2 27 yB 2 (some .char) site (P t V i u fm) (E u) [] 0 0 := by
  refine Law.of_walk (plainFor_of_name (by decide +kernel)) (by decide +kernel) (by decide +kernel) (by decide) (fun _ _ h => by rw [h.1]; rfl) (fun _ U U' hal hh h => ⟨h.1, h.2.1.mv hal hh, h.2.2.1, h.2.2.2.1.there hal hh, h.2.2.2.2⟩) (fun r U U' V V' h1 hal h2 h => XT.PureE.mv r U U' V V' h1 hal h2 h) ?_
  intro p e s m args below meth c s₁ X0 hexec hbytes hml hret hlk hnm hown hh0 W hP
  obtain ⟨rfl, hV, hu, s1, rf⟩ := hP
  have v31 := hV.2.2.2
  have hi : i < V.slots.size := (Array.getElem?_eq_some_iff.mp hu).1
  have c1 : Steps p.tables e below (s₁.setTop (entryFrame m #[.ref t, .int (Int32.ofNat i)] 2)) (s₁.setTop (mkF m 0 #[.val (.ref t), .val (.int (Int32.ofNat i))] [])) := entry rfl
  have c2 : Steps p.tables e below (s₁.setTop (entryFrame m #[.ref t, .int (Int32.ofNat i)] 2)) (s₁.setTop (mkF m 3 #[.val (.ref t), .val (.int (Int32.ofNat i))] [.int (Int32.ofNat V.slots.size), .int (Int32.ofNat i)])) := c1.trans (by
    refine XS.iloadN X0.here hexec rfl (hb hbytes d0) rfl ?_
    refine XS.aloadN X0.here hexec rfl (hb hbytes d1) rfl rfl ?_
    refine X0.alen hexec (hV.mv X0.warmed.alike hh0) rfl rfl (hb hbytes d2) ?_
    exact Steps.refl _)
  obtain ⟨v3, T3, X3, E3, g3⟩ := X0.callS hexec (JO.Str_checkIndex.law l (Int32.ofNat i) (Int32.ofNat V.slots.size) fm) hown (wks W (staticW "java/lang/StringLatin1" 9 JO.Str_checkIndex.yN)) (wk W JO.Str_checkIndex.tab) (W := 0) (Nat.le_of_ble_eq_true rfl) (Nat.le_of_ble_eq_true rfl) (Nat.le_refl _) (Nat.le_refl _) (g := (mkF m 3 #[.val (.ref t), .val (.int (Int32.ofNat i))] [.int (Int32.ofNat V.slots.size), .int (Int32.ofNat i)])) rfl (by rw [hml]; rfl) c2 (argsL := [.int (Int32.ofNat i), .int (Int32.ofNat V.slots.size)]) (rest := []) rfl rfl (by show 2 * 0 + 0 ≤ _; decide) (hb hbytes d3) (⟨rfl, rf, s1.there X0.warmed.alike hh0, Int32.ofNat_not_neg (by omega), lt32 v31 hi⟩)
  obtain ⟨rfl, q3⟩ := E3
  have hh3 := q3.trans hh0
  have c4 : Steps p.tables e below (s₁.setTop (entryFrame m #[.ref t, .int (Int32.ofNat i)] 2)) (T3.setTop (mkF m 14 #[.val (.ref t), .val (.int (Int32.ofNat i))] [.int (chr8 u)])) := Steps.trans g3 (by
    refine XS.aloadN X3.here hexec rfl (hb hbytes d6) rfl rfl ?_
    refine XS.iloadN X3.here hexec rfl (hb hbytes d7) rfl ?_
    refine X3.aget hexec (hV.mv X3.warmed.alike hh3) rfl hu rfl rfl (hb hbytes d8) ?_
    refine sipushV X3.here hexec rfl 255 (hb hbytes d9) (by decide) ?_
    refine XS.iand X3.here hexec rfl (hb hbytes d12) rfl ?_
    refine i2c X3.here hexec rfl (hb hbytes d13) rfl ?_
    exact Steps.refl _)
  exact ⟨T3, some (.int (chr8 u)), _, _, _, X3, rfl, rfl, rfl, (fun h => by cases h), ⟨rfl, hh3⟩, fun fs hl => c4.trans (X3.ireturnOut hexec hret (narrow_c _) (Or.inr (Or.inr (Or.inr (Or.inl rfl)))) (hb hbytes d14) hl)⟩
end LChA
end StrChars
namespace StrChars.Road
open Jvm Sem ClassFile Op Lib Jvm.Stand Jvm.Free Jvm.Free.XT
open Jvm.Lib.Cold (StaticIs)
theorem consq {a : Array Value} {s : State} {c : Jvm.Cond} {L : List Jvm.Cond} (h0 : c.before a s = true) (h : ∀ w ∈ L, w.before a s = true) : ∀ w ∈ c :: L, w.before a s = true := fun w hw => (List.mem_cons.mp hw).elim (fun e => e ▸ h0) (h w)
/-- the words of String.length(), either coding -/
abbrev wordsLen : List Jvm.Cond := [.code Len.yN Len.yB 1 (some .int), .initialized ST, .fieldLink ST 9 ST "value" "[B", .fieldLink ST 38 ST "COMPACT_STRINGS" "Z", .fieldLink ST 15 ST "coder" "B", .code Cdr.yN Cdr.yB 1 (some .byte), .methodLink ST 335 Cdr.yN, .declares Cdr.yN, .selects ST Cdr.yN Cdr.yN, .instanceMethod Cdr.yN]
theorem tabLen_of {a : Array Value} {s : State} (h : ∀ w ∈ wordsLen, w.before a s = true) : Len.tab.before a s = true := by
  have hc : Cdr.tab.before a s = true := unparts (wk h (.code Cdr.yN Cdr.yB 1 (some .byte))) (wks h (.initialized Cdr.yN.cls :: Cdr.site))
  have q := consq hc h
  exact unparts (wk q (.code Len.yN Len.yB 1 (some .int))) (wks q (.initialized Len.yN.cls :: Len.site))
theorem movedLen {Z s : State} {a0 args : Array Value} (hZ : Z.Warmed39 s.vm) (hw : ∀ d ∈ wordsLen, d.before a0 Z = true) : ∀ d ∈ wordsLen, d.before args s = true := fun d hd => by
  have q := hw d hd
  have t : ∀ d ∈ wordsLen, d = .arrayClass .byte ∨ (d.onTables && d.keepsFace) = true := by decide +kernel
  rcases t d hd with rfl | t
  · exact RoadKit.mvA hZ q
  · exact RoadKit.mv hZ q t
/-- the bytes of the chars cs, low before high -/
def wideBytes : List Int32 → List Value
  | [] => []
  | c :: cs => .int (lo8 c) :: .int (hi8 c) :: wideBytes cs
theorem wide_lo (d : Value) : ∀ (cs : List Int32) (j : Nat), j < cs.length → (wideBytes cs).getD (2 * j) d = .int (lo8 (cs.getD j 0))
  | [], j, h => absurd h (Nat.not_lt_zero j)
  | c :: cs, 0, _ => rfl
  | c :: cs, j + 1, h => by
    have q := wide_lo d cs j (by simpa using h)
    rw [show 2 * (j + 1) = 2 * j + 1 + 1 from by omega]
    simpa [wideBytes] using q
theorem wide_hi (d : Value) : ∀ (cs : List Int32) (j : Nat), j < cs.length → (wideBytes cs).getD (2 * j + 1) d = .int (hi8 (cs.getD j 0))
  | [], j, h => absurd h (Nat.not_lt_zero j)
  | c :: cs, 0, _ => rfl
  | c :: cs, j + 1, h => by
    have q := wide_hi d cs j (by simpa using h)
    rw [show 2 * (j + 1) + 1 = 2 * j + 1 + 1 + 1 from by omega]
    simpa [wideBytes] using q
theorem low_at (d : Value) (cs : List Int32) (j : Nat) (h : j < cs.length) : (cs.map fun c => Value.int (lo8 c)).getD j d = .int (lo8 (cs.getD j 0)) := by
  simp [List.getD_eq_getElem?_getD, h]
/-- an array of N2 bytes vs codes the chars cs by the coder cd -/
def CodA (cs : List Int32) (cd N2 : Int32) (vs : List Value) : Prop := (cd = 0 ∧ N2 = Int32.ofNat cs.length ∧ vs = (cs.map fun c => Value.int (lo8 c)) ∧ ∀ c ∈ cs, ¬ 255 < c) ∨ (cd = 1 ∧ N2 = Int32.ofNat (2 * cs.length) ∧ vs = wideBytes cs ∧ ∃ c ∈ cs, 255 < c)
theorem CodA.cod {cs : List Int32} {cd N2 : Int32} {vs : List Value} {V : Cell} (h : CodA cs cd N2 vs) (hn : 2 * cs.length < 2 ^ 31) (hs : V.slots.size = N2.toNatClampNeg) (hv : RoadKit.Has V vs (.int 0)) : Cod cd cs.length (fun j => cs.getD j 0) V := by
  rcases h with ⟨rfl, rfl, rfl, h⟩ | ⟨rfl, rfl, rfl, c, hc, hw⟩
  · rw [n32 (by omega)] at hs
    exact Or.inl ⟨rfl, hs, fun j hj => ⟨by rw [hv j (by omega), low_at _ _ _ hj], by
      have e : cs.getD j 0 = cs[j] := by simp [List.getD_eq_getElem?_getD, hj]
      show ¬ 255 < cs.getD j 0
      rw [e]; exact h _ (List.getElem_mem _)⟩⟩
  · rw [n32 (by omega)] at hs
    obtain ⟨j, hj, rfl⟩ := List.getElem_of_mem hc
    exact Or.inr ⟨rfl, hs, fun j hj => ⟨by rw [hv _ (by omega), wide_lo _ _ _ hj], by rw [hv _ (by omega), wide_hi _ _ _ hj]⟩, j, hj, by
      have e : cs.getD j 0 = cs[j] := by simp [List.getD_eq_getElem?_getD, hj]
      show 255 < cs.getD j 0
      rw [e]; exact hw⟩
/-- an object of exactly java/lang/String, its two fields found: as the laws ask it -/
theorem strObj {Z U : State} {a0 : Array Value} {kI : Nat} (wi : (Jvm.Cond.instantiable ST kI).before a0 Z = true) (al : Z.vm.Alike U.vm) {x : Addr} {v0 c0 : Value} (E : RoadKit.Exa Z U.heap x ST) (V : RoadKit.Fld Z U.heap x ST "value" "[B" v0) (C : RoadKit.Fld Z U.heap x ST "coder" "B" c0) :
    ∃ (D : Cell) (fV fC : Field), Blank ST x D U ∧ Found ST "value" "[B" fV U ∧ Found ST "coder" "B" fC U ∧ D.slots[fV.slot]? = some v0 ∧ D.slots[fC.slot]? = some c0 ∧ RoadKit.slotOf Z ST "value" "[B" = fV.slot ∧ RoadKit.slotOf Z ST "coder" "B" = fC.slot := by
  obtain ⟨D, cfV, kV, iV, fV, hD, gV, stV, knV, obV, asV, slV⟩ := V
  obtain ⟨D', cfC, kC, iC, fC, hD', gC, stC, -, -, asC, slC⟩ := C
  cases hD.symm.trans hD'
  obtain ⟨D2, kD, e1, e2, e3, e4, e5⟩ := E
  cases hD.symm.trans e1
  obtain ⟨c2, k2, i1, i2, i3, -⟩ := Cond.instantiable_spec wi
  cases e2.symm.trans i1
  cases e3.symm.trans i2
  obtain ⟨kU, u1, u2⟩ := al.2.2 _ _ e3
  exact ⟨D, fV, fC, ⟨hD, ⟨knV, fun q hq => by rw [hq] at obV; cases obV⟩, by rw [al.findClass]; exact e2, kU, u1, by rw [u2]; exact i3, by rw [u2]; exact e5 i3⟩, ⟨SBG.found_only al ⟨cfV, kV, iV, gV⟩, stV⟩, ⟨SBG.found_only al ⟨cfC, kC, iC, gC⟩, stC⟩, slV, slC, by simp [RoadKit.slotOf, gV], by simp [RoadKit.slotOf, gC]⟩
theorem sta_is {Z U : State} (al : Z.vm.Alike U.vm) {C n d : String} {v : Value} (S : RoadKit.Sta Z U.heap C n d v) : StaticIs U C n d v := by
  obtain ⟨cfS, iS, kS, fS, st, cS, t1, t2, t3, t4, t5, t6, t7⟩ := S
  exact StaticIs.there (s := { Z with heap := U.heap }) ⟨cfS, iS, kS, fS, st, cS, t1, t2, t3, t4, t5, (fun q => by rw [q] at t6; cases t6), t7⟩ al rfl
/-- **length() OF SUCH A STRING** -/
theorem lenW {p : Program} {l : Launch} {e : Env} {R : Room} {s : State} {args : Array Value} {below : List Frame} {len W : Nat} {Z : State} {a0 : Array Value} {h : Heap} (hZ : Z.Warmed39 s.vm) (hw : ∀ d ∈ wordsLen, d.before a0 Z = true) {kI : Nat} (wi : (Jvm.Cond.instantiable ST kI).before a0 Z = true)
    {x t : Addr} {kb : ClassId} {cs : List Int32} {cd N2 z : Int32} {vs : List Value} (E : RoadKit.Exa Z h x ST) (V : RoadKit.Fld Z h x ST "value" "[B" (.ref t)) (C : RoadKit.Fld Z h x ST "coder" "B" (.int cd)) (K : RoadKit.Arv Z h t kb .byte N2 vs (.int 0)) (hc : CodA cs cd N2 vs) (hb : ∀ c ∈ cs, ¬ c < 0 ∧ ¬ (65535 : Int32) < c)
    (S : RoadKit.Sta Z h ST "COMPACT_STRINGS" "Z" (.int z)) (hz : ¬ z = 0) (l2 : cs.length ≤ 4000) (hfr : 2 ≤ R.frames) (hlo : W + 25 ≤ R.locals) :
    Back l R p e below s args (⟨"java/lang/String", "length", "()I"⟩ : MethodName) len W (fun P a => a = #[.ref x] ∧ P.U.heap = h ∧ P.cells + 0 ≤ R.cells ∧ P.slots + 0 ≤ R.slots)
      (fun P _ v B => ∃ L, (v = some (.int (Int32.ofNat cs.length)) ∧ L = [] ∧ B.U.heap = h) ∧ B.locs = P.locs ++ L ∧ B.cells = P.cells + 0 ∧ B.slots = P.slots + 0) := by
  obtain ⟨A, K1, K2, K3, K4, K5, K6⟩ := K
  have hcod := hc.cod (by omega) K3 K5
  intro m meth c P g ig mk a X hg hsize hdg hW hn hp'
  obtain ⟨rfl, rfl, r1, r2⟩ := hp'
  have al : Z.vm.Alike P.U.vm := hZ.alike.trans X.warmed.alike
  obtain ⟨D, fV, fC, hB, F1, F2, g1, g2, -, -⟩ := strObj wi al E V C
  have hx : Txt x t A cd cs.length (fun j => cs.getD j 0) P.U := ⟨⟨_, hB.2.2.1, D, hB.1, rfl, by cases q : D.vm <;> first | rfl | exact absurd q (hB.2.1.2 _)⟩, Has.of hB F1 g1, Has.of hB F2 g2, ⟨K1.1, State.isArrayOf_alike al K1.2.1, K1.2.2, by rcases hcod with ⟨-, q, -⟩ | ⟨-, q, -⟩ <;> omega⟩, hcod, fun j hj => by
    have e : cs.getD j 0 = cs[j] := by simp [List.getD_eq_getElem?_getD, hj]
    show ¬ cs.getD j 0 < 0 ∧ ¬ 65535 < cs.getD j 0
    rw [e]; exact hb _ (List.getElem_mem _)⟩
  obtain ⟨v, B, X', ⟨⟨hv, hh⟩, hl, hk, hs⟩, st⟩ := Len.pays x t A cd cs.length (fun j => cs.getD j 0) z (tabLen_of (movedLen hZ hw)) hfr hlo m meth c P g ig mk _ X hg hsize hdg hW hn ⟨r1, r2, rfl, hx, sta_is al S, hz⟩
  exact ⟨v, B, X', ⟨[], ⟨hv, rfl, hh⟩, hl, hk, hs⟩, st⟩
end StrChars.Road
namespace StrChars
open Jvm Sem ClassFile Op Lib Jvm.Stand Jvm.Free.XT Jvm.Free.ALB Jvm.Free.JM Jvm.Free
open Jvm.Lib.Cold (StaticIs)
namespace Emp
def yN : MethodName := ⟨"java/lang/String", "isEmpty", "()Z"⟩
abbrev yB : ByteArray := jdk_42_method_55_code
theorem d0 : decode yB 0 = .ok (.aload_n 0, 1) := by decide +kernel
theorem d1 : decode yB 1 = .ok (.getfield 9, 3) := by decide +kernel
theorem d4 : decode yB 4 = .ok (.arraylength, 1) := by decide +kernel
theorem d5 : decode yB 5 = .ok (.ifCond (.ne) 7, 3) := by decide +kernel
theorem d8 : decode yB 8 = .ok (.iconst 1, 1) := by decide +kernel
theorem d9 : decode yB 9 = .ok (.goto 4, 3) := by decide +kernel
theorem d12 : decode yB 12 = .ok (.iconst 0, 1) := by decide +kernel
theorem d13 : decode yB 13 = .ok (.ireturn, 1) := by decide +kernel
def site : List Cond := [.fieldLink "java/lang/String" 9 "java/lang/String" "value" "[B"]
def tab : Cond := tabOf yN yB 1 (some .boolean) site
def P (x t : Addr) (V : Cell) (cd : Int32) (n : Nat) (f : Nat → Int32) (args : Array Value) (s : State) : Prop := args = #[.ref x] ∧ Txt x t V cd n f s
def E (n : Nat) (r : Option Value) (s u : State) : Prop := XT.PureE (some (.int (if n = 0 then 1 else 0))) r s u
/-- isEmpty() of a String of n chars -/
theorem law (l : Launch) (x t : Addr) (V : Cell) (cd : Int32) (n : Nat) (f : Nat → Int32) : Law l yN 1 0 0 0 yB 1 (some .boolean) site (P x t V cd n f) (E n) [] 0 0 := by
  refine Law.of_walk (plainFor_of_name (by decide +kernel)) (by decide +kernel) (by decide +kernel) (by decide) (fun _ _ h => by rw [h.1]; rfl) (fun _ U U' hal hh h => ⟨h.1, h.2.mv hal hh⟩) (fun r U U' V V' h1 hal h2 h => XT.PureE.mv r U U' V V' h1 hal h2 h) ?_
  intro p e s m args below meth c s₁ X0 hexec hbytes hml hret hlk hnm hown hh0 W hP
  obtain ⟨rfl, hx⟩ := hP
  have v31 := hx.2.2.2.1.2.2.2
  have c1 : Steps p.tables e below (s₁.setTop (entryFrame m #[.ref x] 1)) (s₁.setTop (mkF m 1 #[.val (.ref x)] [.ref x])) := Steps.trans (entry rfl) (by
    show Steps p.tables e below (s₁.setTop (mkF m 0 #[.val (.ref x)] [])) _
    refine XS.aloadN X0.here hexec rfl (hb hbytes d0) rfl rfl ?_
    exact Steps.refl _)
  obtain ⟨T2, X2, q2, st2⟩ := X0.hget hexec hown (wk W (.fieldLink "java/lang/String" 9 "java/lang/String" "value" "[B")) (hx.mv X0.warmed.alike hh0).2.1 (g := (mkF m 1 #[.val (.ref x)] [.ref x])) rfl (rest := []) rfl (hb hbytes d1)
  have hh2 := q2.trans hh0
  have hx2 := hx.mv X2.warmed.alike hh2
  have c3 : Steps p.tables e below (s₁.setTop (entryFrame m #[.ref x] 1)) (T2.setTop (mkF m 5 #[.val (.ref x)] [.int (Int32.ofNat V.slots.size)])) := (c1.trans (st2 _ (Steps.refl _))).trans (by
    refine X2.alen hexec hx2.2.2.2.1 rfl rfl (hb hbytes d4) ?_
    exact Steps.refl _)
  have hz : V.slots.size = 0 ↔ n = 0 := by
    rcases hx.2.2.2.2.1 with ⟨-, q, -⟩ | ⟨-, q, -⟩ <;> omega
  by_cases h0 : n = 0
  · have c4 : Steps p.tables e below (s₁.setTop (entryFrame m #[.ref x] 1)) (T2.setTop (mkF m 13 #[.val (.ref x)] [.int 1])) := c3.trans (by
      refine XS.ifNo X2.here hexec rfl (hb hbytes d5) rfl (i0_ne_f (by rw [hz.mpr h0]; rfl)) ?_
      refine iconstV X2.here hexec rfl 1 (hb hbytes d8) (by decide) ?_
      refine XS.goto X2.here hexec rfl (pc0 := 9) rfl (hb hbytes d9) (by decide) rfl ?_
      exact Steps.refl _)
    exact ⟨T2, some (.int 1), _, _, _, X2, rfl, rfl, rfl, (fun h => by cases h), ⟨by rw [if_pos h0], hh2⟩, fun fs hl => c4.trans (X2.ireturnOut hexec hret rfl (Or.inr (Or.inl rfl)) (hb hbytes d13) hl)⟩
  · have c4 : Steps p.tables e below (s₁.setTop (entryFrame m #[.ref x] 1)) (T2.setTop (mkF m 13 #[.val (.ref x)] [.int 0])) := c3.trans (by
      refine XS.ifYes X2.here hexec rfl (pc0 := 5) rfl (hb hbytes d5) rfl (i0_ne_t (nz32 v31 (by omega))) (by decide) rfl ?_
      refine iconstV X2.here hexec rfl 0 (hb hbytes d12) (by decide) ?_
      exact Steps.refl _)
    exact ⟨T2, some (.int 0), _, _, _, X2, rfl, rfl, rfl, (fun h => by cases h), ⟨by rw [if_neg h0], hh2⟩, fun fs hl => c4.trans (X2.ireturnOut hexec hret rfl (Or.inr (Or.inl rfl)) (hb hbytes d13) hl)⟩
theorem pays {l : Launch} {R : Room} {p : Program} {e : Env} {below : List Frame} {s : State} {sargs : Array Value} {len W : Nat} (x t : Addr) (V : Cell) (cd : Int32) (n : Nat) (f : Nat → Int32) (htab : tab.before sargs s = true) (hfr : 1 ≤ R.frames) (hlo : W + 12 ≤ R.locals) :
    Back l R p e below s sargs yN len W (fun A₁ a₁ => A₁.cells + 0 ≤ R.cells ∧ A₁.slots + 0 ≤ R.slots ∧ P x t V cd n f a₁ A₁.U) (fun A₁ _ v₁ B₁ => E n v₁ A₁.U B₁.U ∧ B₁.locs = A₁.locs ++ [] ∧ B₁.cells = A₁.cells + 0 ∧ B₁.slots = A₁.slots + 0) :=
  (law l x t V cd n f).pays htab hfr (by omega)
end Emp
end StrChars
namespace StrChars.Road
open Jvm Sem ClassFile Op Lib Jvm.Stand Jvm.Free Jvm.Free.XT
open Jvm.Lib.Cold (StaticIs)
/-- the words of String.isEmpty() -/
abbrev wordsEmp : List Jvm.Cond := [.code Emp.yN Emp.yB 1 (some .boolean), .initialized ST, .fieldLink ST 9 ST "value" "[B"]
theorem tabEmp_of {a : Array Value} {s : State} (h : ∀ w ∈ wordsEmp, w.before a s = true) : Emp.tab.before a s = true := unparts (wk h (.code Emp.yN Emp.yB 1 (some .boolean))) (wks h (.initialized Emp.yN.cls :: Emp.site))
theorem movedEmp {Z s : State} {a0 args : Array Value} (hZ : Z.Warmed39 s.vm) (hw : ∀ d ∈ wordsEmp, d.before a0 Z = true) : ∀ d ∈ wordsEmp, d.before args s = true := fun d hd => by
  have t : ∀ d ∈ wordsEmp, (d.onTables && d.keepsFace) = true := by decide +kernel
  exact RoadKit.mv hZ (hw d hd) (t d hd)
/-- the road's facts of a String, as the laws ask it -/
theorem txt_of {Z U : State} {a0 : Array Value} {kI : Nat} (wi : (Jvm.Cond.instantiable ST kI).before a0 Z = true) (al : Z.vm.Alike U.vm) {x t : Addr} {kb : ClassId} {cs : List Int32} {cd N2 : Int32} {vs : List Value} (E : RoadKit.Exa Z U.heap x ST) (V : RoadKit.Fld Z U.heap x ST "value" "[B" (.ref t)) (C : RoadKit.Fld Z U.heap x ST "coder" "B" (.int cd)) (K : RoadKit.Arv Z U.heap t kb .byte N2 vs (.int 0)) (hc : CodA cs cd N2 vs) (hb : ∀ c ∈ cs, ¬ c < 0 ∧ ¬ (65535 : Int32) < c) (l2 : cs.length ≤ 4000) :
    ∃ A, Txt x t A cd cs.length (fun j => cs.getD j 0) U := by
  obtain ⟨A, K1, K2, K3, K4, K5, K6⟩ := K
  have hcod := hc.cod (by omega) K3 K5
  obtain ⟨D, fV, fC, hB, F1, F2, g1, g2, -, -⟩ := strObj wi al E V C
  exact ⟨A, ⟨_, hB.2.2.1, D, hB.1, rfl, by cases q : D.vm <;> first | rfl | exact absurd q (hB.2.1.2 _)⟩, Has.of hB F1 g1, Has.of hB F2 g2, ⟨K1.1, State.isArrayOf_alike al K1.2.1, K1.2.2, by rcases hcod with ⟨-, q, -⟩ | ⟨-, q, -⟩ <;> omega⟩, hcod, fun j hj => by
    have e : cs.getD j 0 = cs[j] := by simp [List.getD_eq_getElem?_getD, hj]
    show ¬ cs.getD j 0 < 0 ∧ ¬ 65535 < cs.getD j 0
    rw [e]; exact hb _ (List.getElem_mem _)⟩
/-- **isEmpty() OF SUCH A STRING** -/
theorem empW {p : Program} {l : Launch} {e : Env} {R : Room} {s : State} {args : Array Value} {below : List Frame} {len W : Nat} {Z : State} {a0 : Array Value} {h : Heap} (hZ : Z.Warmed39 s.vm) (hw : ∀ d ∈ wordsEmp, d.before a0 Z = true) {kI : Nat} (wi : (Jvm.Cond.instantiable ST kI).before a0 Z = true)
    {x t : Addr} {kb : ClassId} {cs : List Int32} {cd N2 : Int32} {vs : List Value} (E : RoadKit.Exa Z h x ST) (V : RoadKit.Fld Z h x ST "value" "[B" (.ref t)) (C : RoadKit.Fld Z h x ST "coder" "B" (.int cd)) (K : RoadKit.Arv Z h t kb .byte N2 vs (.int 0)) (hc : CodA cs cd N2 vs) (hb : ∀ c ∈ cs, ¬ c < 0 ∧ ¬ (65535 : Int32) < c) (l2 : cs.length ≤ 4000) (hfr : 1 ≤ R.frames) (hlo : W + 12 ≤ R.locals) :
    Back l R p e below s args (⟨"java/lang/String", "isEmpty", "()Z"⟩ : MethodName) len W (fun P a => a = #[.ref x] ∧ P.U.heap = h ∧ P.cells + 0 ≤ R.cells ∧ P.slots + 0 ≤ R.slots)
      (fun P _ v B => ∃ L, (v = some (.int (if cs.length = 0 then 1 else 0)) ∧ L = [] ∧ B.U.heap = h) ∧ B.locs = P.locs ++ L ∧ B.cells = P.cells + 0 ∧ B.slots = P.slots + 0) := by
  intro m meth c P g ig mk a X hg hsize hdg hW hn hp'
  obtain ⟨rfl, rfl, r1, r2⟩ := hp'
  have al : Z.vm.Alike P.U.vm := hZ.alike.trans X.warmed.alike
  obtain ⟨A, hx⟩ := txt_of wi al E V C K hc hb l2
  obtain ⟨v, B, X', ⟨⟨hv, hh⟩, hl, hk, hs⟩, st⟩ := Emp.pays x t A cd cs.length (fun j => cs.getD j 0) (tabEmp_of (movedEmp hZ hw)) hfr hlo m meth c P g ig mk _ X hg hsize hdg hW hn ⟨r1, r2, rfl, hx⟩
  exact ⟨v, B, X', ⟨[], ⟨hv, rfl, hh⟩, hl, hk, hs⟩, st⟩
end StrChars.Road
namespace StrChars
open Jvm Sem ClassFile Op Lib Jvm.Stand Jvm.Free.XT Jvm.Free.ALB Jvm.Free.JM Jvm.Free
open Jvm.Lib.Cold (StaticIs)
namespace ChN
def yN : MethodName := ⟨"java/lang/String", "charAt", "(I)C"⟩
abbrev yB : ByteArray := jdk_42_method_56_code
theorem d0 : decode yB 0 = .ok (.aload_n 0, 1) := by decide +kernel
theorem d1 : decode yB 1 = .ok (.invokevirtual 492, 3) := by decide +kernel
theorem d4 : decode yB 4 = .ok (.ifCond (.eq) 12, 3) := by decide +kernel
theorem d7 : decode yB 7 = .ok (.aload_n 0, 1) := by decide +kernel
theorem d8 : decode yB 8 = .ok (.getfield 9, 3) := by decide +kernel
theorem d11 : decode yB 11 = .ok (.iload_n 1, 1) := by decide +kernel
theorem d12 : decode yB 12 = .ok (.invokestatic 495, 3) := by decide +kernel
theorem d15 : decode yB 15 = .ok (.ireturn, 1) := by decide +kernel
def site : List Cond := [.fieldLink "java/lang/String" 9 "java/lang/String" "value" "[B", IsL.tab, LChA.tab] ++ virtW "java/lang/String" 492 "java/lang/String" IsL.yN IsL.yN ++ staticW "java/lang/String" 495 LChA.yN
def tab : Cond := tabOf yN yB 2 (some .char) site
def P (x t : Addr) (V : Cell) (n : Nat) (f : Nat → Int32) (z : Int32) (fm : Value) (i : Nat) (args : Array Value) (s : State) : Prop := args = #[.ref x, .int (Int32.ofNat i)] ∧ Txt x t V 0 n f s ∧ i < n ∧ StaticIs s "java/lang/String" "COMPACT_STRINGS" "Z" (.int z) ∧ ¬ z = 0 ∧ StaticIs s "jdk/internal/util/Preconditions" "SIOOBE_FORMATTER" "Ljava/util/function/BiFunction;" fm ∧ fm.isRef = true
def E (f : Nat → Int32) (i : Nat) (r : Option Value) (s u : State) : Prop := XT.PureE (some (.int (f i))) r s u
/-- charAt(i) of a Latin-1 String of n chars, i < n: f i -/
theorem law (l : Launch) (x t : Addr) (V : Cell) (n : Nat) (f : Nat → Int32) (z : Int32) (fm : Value) (i : Nat) : Law l yN 2 1 3 40 yB 2 (some .char) site (P x t V n f z fm i) (E f i) [] 0 0 := by
  refine Law.of_walk (plainFor_of_name (by decide +kernel)) (by decide +kernel) (by decide +kernel) (by decide) (fun _ _ h => by rw [h.1]; rfl) (fun _ U U' hal hh h => ⟨h.1, h.2.1.mv hal hh, h.2.2.1, h.2.2.2.1.there hal hh, h.2.2.2.2.1, h.2.2.2.2.2.1.there hal hh, h.2.2.2.2.2.2⟩) (fun r U U' V V' h1 hal h2 h => XT.PureE.mv r U U' V V' h1 hal h2 h) ?_
  intro p e s m args below meth c s₁ X0 hexec hbytes hml hret hlk hnm hown hh0 W hP
  obtain ⟨rfl, hx, hi, s1, hz, s3, rf⟩ := hP
  have v31 := hx.2.2.2.1.2.2.2
  have hr := hx.2.2.2.2.2 i hi
  have hx0 := hx.mv X0.warmed.alike hh0
  have c1 : Steps p.tables e below (s₁.setTop (entryFrame m #[.ref x, .int (Int32.ofNat i)] 2)) (s₁.setTop (mkF m 1 #[.val (.ref x), .val (.int (Int32.ofNat i))] [.ref x])) := Steps.trans (entry rfl) (by
    show Steps p.tables e below (s₁.setTop (mkF m 0 #[.val (.ref x), .val (.int (Int32.ofNat i))] [])) _
    refine XS.aloadN X0.here hexec rfl (hb hbytes d0) rfl rfl ?_
    exact Steps.refl _)
  obtain ⟨v2, T2, X2, E2, g2⟩ := X0.callV hexec (IsL.law l x 0 z) hown (wks W (virtW "java/lang/String" 492 "java/lang/String" IsL.yN IsL.yN)) rfl (by decide) (wk W IsL.tab) (W := 0) (Nat.le_of_ble_eq_true rfl) (Nat.le_of_ble_eq_true rfl) (Nat.le_refl _) (Nat.le_refl _) (hx0.1.fc X0.warmed.alike) hx0.1.is (g := (mkF m 1 #[.val (.ref x), .val (.int (Int32.ofNat i))] [.ref x])) rfl (by rw [hml]; rfl) c1 (argsL := []) (rest := []) rfl rfl (by show 2 * 0 + 0 ≤ _; decide) (hb hbytes d1) (⟨rfl, hx0.2.2.1, hx.2.2.2.2.1.cd, s1.there X0.warmed.alike hh0, hz⟩)
  obtain ⟨rfl, q2⟩ := E2
  have hh2 := q2.trans hh0
  have hx2 := hx.mv X2.warmed.alike hh2
  obtain ⟨-, k1, k2⟩ | ⟨k0, -⟩ := hx.2.2.2.2.1
  · have c3 : Steps p.tables e below (s₁.setTop (entryFrame m #[.ref x, .int (Int32.ofNat i)] 2)) (T2.setTop (mkF m 8 #[.val (.ref x), .val (.int (Int32.ofNat i))] [.ref x])) := Steps.trans g2 (by
      refine XS.ifNo X2.here hexec rfl (hb hbytes d4) rfl (i0_eq_f (by decide)) ?_
      refine XS.aloadN X2.here hexec rfl (hb hbytes d7) rfl rfl ?_
      exact Steps.refl _)
    obtain ⟨T4, X4, q4, st4⟩ := X2.hget hexec hown (wk W (.fieldLink "java/lang/String" 9 "java/lang/String" "value" "[B")) hx2.2.1 (g := (mkF m 8 #[.val (.ref x), .val (.int (Int32.ofNat i))] [.ref x])) rfl (rest := []) rfl (hb hbytes d8)
    have hh4 := q4.trans hh2
    have c5 : Steps p.tables e below (s₁.setTop (entryFrame m #[.ref x, .int (Int32.ofNat i)] 2)) (T4.setTop (mkF m 12 #[.val (.ref x), .val (.int (Int32.ofNat i))] [.int (Int32.ofNat i), .ref t])) := (c3.trans (st4 _ (Steps.refl _))).trans (by
      refine XS.iloadN X4.here hexec rfl (hb hbytes d11) rfl ?_
      exact Steps.refl _)
    obtain ⟨v6, T6, X6, E6, g6⟩ := X4.callS hexec (LChA.law l t V i (lo8 (f i)) fm) hown (wks W (staticW "java/lang/String" 495 LChA.yN)) (wk W LChA.tab) (W := 0) (Nat.le_of_ble_eq_true rfl) (Nat.le_of_ble_eq_true rfl) (Nat.le_refl _) (Nat.le_refl _) (g := (mkF m 12 #[.val (.ref x), .val (.int (Int32.ofNat i))] [.int (Int32.ofNat i), .ref t])) rfl (by rw [hml]; rfl) c5 (argsL := [.ref t, .int (Int32.ofNat i)]) (rest := []) rfl rfl (by show 2 * 0 + 0 ≤ _; decide) (hb hbytes d12) (⟨rfl, hx.2.2.2.1.mv X4.warmed.alike hh4, (k2 i hi).1, s3.there X4.warmed.alike hh4, rf⟩)
    obtain ⟨rfl, q6⟩ := E6
    rw [chr8_lo8 hr.1 (k2 i hi).2] at g6
    exact ⟨T6, some (.int (f i)), _, _, _, X6, rfl, rfl, rfl, (fun h => by cases h), ⟨rfl, q6.trans hh4⟩, fun fs hl => Steps.trans g6 (X6.ireturnOut hexec hret (narrow_ch hr.1 hr.2) (Or.inr (Or.inr (Or.inr (Or.inl rfl)))) (hb hbytes d15) hl)⟩
  · exact absurd k0 (by decide)
theorem pays {l : Launch} {R : Room} {p : Program} {e : Env} {below : List Frame} {s : State} {sargs : Array Value} {len W : Nat} (x t : Addr) (V : Cell) (n : Nat) (f : Nat → Int32) (z : Int32) (fm : Value) (i : Nat) (htab : tab.before sargs s = true) (hfr : 4 ≤ R.frames) (hlo : W + 53 ≤ R.locals) :
    Back l R p e below s sargs yN len W (fun A₁ a₁ => A₁.cells + 0 ≤ R.cells ∧ A₁.slots + 0 ≤ R.slots ∧ P x t V n f z fm i a₁ A₁.U) (fun A₁ _ v₁ B₁ => E f i v₁ A₁.U B₁.U ∧ B₁.locs = A₁.locs ++ [] ∧ B₁.cells = A₁.cells + 0 ∧ B₁.slots = A₁.slots + 0) :=
  (law l x t V n f z fm i).pays htab hfr (by omega)
end ChN
end StrChars
namespace StrChars.Road
open Jvm Sem ClassFile Op Lib Jvm.Stand Jvm.Free Jvm.Free.XT
open Jvm.Lib.Cold (StaticIs)
/-- the words of String.charAt(int), the Latin-1 road alone -/
abbrev wordsChN : List Jvm.Cond := [.code ChN.yN ChN.yB 2 (some .char), .initialized ST, .fieldLink ST 9 ST "value" "[B", .fieldLink ST 38 ST "COMPACT_STRINGS" "Z", .fieldLink ST 15 ST "coder" "B", .code IsL.yN IsL.yB 1 (some .boolean), .methodLink ST 492 IsL.yN, .declares IsL.yN, .selects ST IsL.yN IsL.yN, .instanceMethod IsL.yN,
  .methodLink ST 495 LChA.yN, .static LChA.yN, .code LChA.yN LChA.yB 2 (some .char), .initialized "java/lang/StringLatin1", .methodLink "java/lang/StringLatin1" 9 JO.Str_checkIndex.yN, .static JO.Str_checkIndex.yN, .code JO.Str_checkIndex.yN JO.Str_checkIndex.yB 2 none,
  .fieldLink ST 1053 "jdk/internal/util/Preconditions" "SIOOBE_FORMATTER" "Ljava/util/function/BiFunction;", .methodLink ST 1059 JC.PreCheck.yN, .static JC.PreCheck.yN, .code JC.PreCheck.yN JC.PreCheck.yB 3 (some .int), .initialized "jdk/internal/util/Preconditions"]
theorem tabChN_of {a : Array Value} {s : State} (h : ∀ w ∈ wordsChN, w.before a s = true) : ChN.tab.before a s = true := by
  have hp : JC.PreCheck.tab.before a s = true := unparts (wk h (.code JC.PreCheck.yN JC.PreCheck.yB 3 (some .int))) (wks h (.initialized JC.PreCheck.yN.cls :: JC.PreCheck.site))
  have qk := consq hp h
  have hk : JO.Str_checkIndex.tab.before a s = true := unparts (wk qk (.code JO.Str_checkIndex.yN JO.Str_checkIndex.yB 2 none)) (wks qk (.initialized JO.Str_checkIndex.yN.cls :: JO.Str_checkIndex.site))
  have ql := consq hk h
  have hl : LChA.tab.before a s = true := unparts (wk ql (.code LChA.yN LChA.yB 2 (some .char))) (wks ql (.initialized LChA.yN.cls :: LChA.site))
  have hi : IsL.tab.before a s = true := unparts (wk h (.code IsL.yN IsL.yB 1 (some .boolean))) (wks h (.initialized IsL.yN.cls :: IsL.site))
  have q := consq hi (consq hl h)
  exact unparts (wk q (.code ChN.yN ChN.yB 2 (some .char))) (wks q (.initialized ChN.yN.cls :: ChN.site))
theorem movedChN {Z s : State} {a0 args : Array Value} (hZ : Z.Warmed39 s.vm) (hw : ∀ d ∈ wordsChN, d.before a0 Z = true) : ∀ d ∈ wordsChN, d.before args s = true := fun d hd => by
  have t : ∀ d ∈ wordsChN, (d.onTables && d.keepsFace) = true := by decide +kernel
  exact RoadKit.mv hZ (hw d hd) (t d hd)
/-- **charAt(i) OF A LATIN-1 STRING**, i < n: the char -/
theorem chN {p : Program} {l : Launch} {e : Env} {R : Room} {s : State} {args : Array Value} {below : List Frame} {len W : Nat} {Z : State} {a0 : Array Value} {h : Heap} (hZ : Z.Warmed39 s.vm) (hw : ∀ d ∈ wordsChN, d.before a0 Z = true) {kI : Nat} (wi : (Jvm.Cond.instantiable ST kI).before a0 Z = true)
    {x t : Addr} {kb : ClassId} {cs : List Int32} {N2 z : Int32} {vs : List Value} {fm : Value} {i : Nat} {j : Int32} (E : RoadKit.Exa Z h x ST) (V : RoadKit.Fld Z h x ST "value" "[B" (.ref t)) (C : RoadKit.Fld Z h x ST "coder" "B" (.int 0)) (K : RoadKit.Arv Z h t kb .byte N2 vs (.int 0)) (hc : CodA cs 0 N2 vs) (hb : ∀ c ∈ cs, ¬ c < 0 ∧ ¬ (65535 : Int32) < c)
    (S : RoadKit.Sta Z h ST "COMPACT_STRINGS" "Z" (.int z)) (hz : ¬ z = 0) (F : RoadKit.Sta Z h "jdk/internal/util/Preconditions" "SIOOBE_FORMATTER" "Ljava/util/function/BiFunction;" fm) (rf : fm.isRef = true) (l2 : cs.length ≤ 4000) (hi : i < cs.length) (hj : j = Int32.ofNat i) (hfr : 4 ≤ R.frames) (hlo : W + 53 ≤ R.locals) :
    Back l R p e below s args (⟨"java/lang/String", "charAt", "(I)C"⟩ : MethodName) len W (fun P a => a = #[.ref x, .int j] ∧ P.U.heap = h ∧ P.cells + 0 ≤ R.cells ∧ P.slots + 0 ≤ R.slots)
      (fun P _ v B => ∃ L, (v = some (.int (cs.getD i 0)) ∧ L = [] ∧ B.U.heap = h) ∧ B.locs = P.locs ++ L ∧ B.cells = P.cells + 0 ∧ B.slots = P.slots + 0) := by
  subst hj
  intro m meth c P g ig mk a X hg hsize hdg hW hn hp'
  obtain ⟨rfl, rfl, r1, r2⟩ := hp'
  have al : Z.vm.Alike P.U.vm := hZ.alike.trans X.warmed.alike
  obtain ⟨A, hx⟩ := txt_of wi al E V C K hc hb l2
  obtain ⟨v, B, X', ⟨⟨hv, hh⟩, hl, hk, hs⟩, st⟩ := ChN.pays x t A cs.length (fun j => cs.getD j 0) z fm i (tabChN_of (movedChN hZ hw)) hfr hlo m meth c P g ig mk _ X hg hsize hdg hW hn ⟨r1, r2, rfl, hx, hi, sta_is al S, hz, sta_is al F, rf⟩
  exact ⟨v, B, X', ⟨[], ⟨hv, rfl, hh⟩, hl, hk, hs⟩, st⟩
/-- what backV says of its String, as the contracts of this text ask it: cs's low bytes, coder 0 -/
theorem codOf {cs : List Int32} {n : Nat} (hn : cs.length = n) (hb : ∀ c ∈ cs, ¬ 255 < c) : CodA cs 0 (Int32.ofNat n) ((cs.map lo8).map Value.int) := Or.inl ⟨rfl, by rw [hn], by simp [List.map_map, Function.comp_def], hb⟩
end StrChars.Road
end Jvm.Pilot.@@N@@
namespace Jvm.Pilot.@@N@@
open Jvm Jvm.ClassFile Sem Op Lib Jvm.Free Jvm.Stand Jvm.LawKit Jvm.RoadKit Bundle Own
/-- what new String(chars) leaves -/
def StrQ (Z : State) (x : Addr) (N : Int32) (bs : List Int32) (h : Heap) (v : Option Value) (h' : Heap) : Prop := v = none ∧ Exa Z h' x "java/lang/String" ∧ Fld Z h' x "java/lang/String" "coder" "B" (.int 0) ∧
  ∃ (t : Addr) (kb : ClassId), h.size ≤ t ∧ Fld Z h' x "java/lang/String" "value" "[B" (.ref t) ∧ Arv Z h' t kb .byte N (bs.map Value.int) (.int 0)
theorem own_strw {a0 : Array Value} {Z : State} (hw : ∀ d ∈ tables_1, d.before a0 Z = true) : ∀ d ∈ StrChars.Road.words, d.before a0 Z = true := fun d hd => hw d ((by decide +kernel : ∀ d ∈ StrChars.Road.words, d ∈ tables_1) d hd)
theorem own_str {p : Program} {l : Launch} {e : Env} {R : Room} {s : State} {args : Array Value} {below : List Frame} {len W : Nat} {Z : State} {a0 : Array Value} {h : Heap} (hw : ∀ d ∈ tables_1, d.before a0 Z = true) (wi : (Jvm.Cond.instantiable "java/lang/String" 4).before a0 Z = true) (hZ : Z.Warmed39 s.vm)
    {x b : Addr} {kC : ClassId} {cs : List Int32} {d v0 c0 : Value} {z N : Int32} {n n0 : Nat} (hx0 : n0 ≤ x) (O : Old Z n0 h) (E : Exa Z h x "java/lang/String") (V : Fld Z h x "java/lang/String" "value" "[B" v0) (C : Fld Z h x "java/lang/String" "coder" "B" c0) (K : Arv Z h b kC .char N (cs.map Value.int) d) (S : Sta Z Z.heap "java/lang/String" "COMPACT_STRINGS" "Z" (.int z)) (hz : ¬ z = 0)
    (hn : cs.length = n) (hN : N = Int32.ofNat n) (l0 : 0 < n) (l2 : n ≤ 4000) (hp : ∀ c ∈ cs, ¬ c < 0 ∧ ¬ (255 : Int32) < c) (hfr : 4 ≤ R.frames) (hlo : W + 65 ≤ R.locals) :
    Bk l R p e below s args (⟨"java/lang/String", "<init>", "([C)V"⟩ : MethodName) len W #[.ref x, .ref b] h 1 n n0 [x] (StrQ Z x N (cs.map fun c => c.toInt8.toInt32) h) :=
  Back.mono (StrChars.Road.backV (W := W) hZ (own_strw hw) (kI := 4) wi hx0 (Old.le O) E V C K (S.ext O.2) hz hn hN l0 l2 hp rfl hfr hlo) (fun _ _ q => q)
    (fun A a v B _ ⟨L, ⟨q1, q2, q3, q4, q5, t, kb, q6, q7, q8, q9, q10⟩, r⟩ => ⟨L, ⟨q2, q3, q1, q4, q5, t, kb, q7, q9, q10⟩, r⟩)
theorem own_lenw {a0 : Array Value} {Z : State} (hw : ∀ d ∈ tables_1, d.before a0 Z = true) : ∀ d ∈ StrChars.Road.wordsLen, d.before a0 Z = true := fun d hd => hw d ((by decide +kernel : ∀ d ∈ StrChars.Road.wordsLen, d ∈ tables_1) d hd)
theorem own_chwd {a0 : Array Value} {Z : State} (hw : ∀ d ∈ tables_1, d.before a0 Z = true) : ∀ d ∈ StrChars.Road.wordsChN, d.before a0 Z = true := fun d hd => hw d ((by decide +kernel : ∀ d ∈ StrChars.Road.wordsChN, d ∈ tables_1) d hd)
theorem own_empw {a0 : Array Value} {Z : State} (hw : ∀ d ∈ tables_1, d.before a0 Z = true) : ∀ d ∈ StrChars.Road.wordsEmp, d.before a0 Z = true := fun d hd => hw d ((by decide +kernel : ∀ d ∈ StrChars.Road.wordsEmp, d ∈ tables_1) d hd)
theorem own_strA {a0 : Array Value} {Z : State} (hw : ∀ d ∈ tables_1, d.before a0 Z = true) : ∀ d ∈ Bundle.stringAtoms, d.before a0 Z = true := fun d hd => hw d ((by decide +kernel : ∀ d ∈ Bundle.stringAtoms, d ∈ tables_1) d hd)
end Jvm.Pilot.@@N@@
namespace Jvm.Pilot.@@N@@
open Jvm Jvm.ClassFile Sem Op Lib Jvm.Free Jvm.Stand Jvm.LawKit Jvm.RoadKit Bundle Jvm.Pilot.@@N@@.Jvm.D Own
theorem own_allc0 {P : Int32 → Prop} : ∀ c ∈ ([] : List Int32), P c := fun _ q => nomatch q
theorem own_allc {P : Int32 → Prop} {y : Int32} {L : List Int32} (q : P y) (r : ∀ c ∈ L, P c) : ∀ c ∈ y :: L, P c := fun x z => (List.mem_cons.mp z).elim (fun u => u ▸ q) (r x)
def own_EL : List (String × Nat) := []
theorem own_EW {a0 : Array Value} {Z : State} (hw : ∀ d ∈ tables_1, d.before a0 Z = true) : EW Z a0 own_EL := EW.nil
theorem own_natOf {x : Int32} {m : Nat} (k : Nat) (hm : m + 1 = 2 ^ k) (hk : k < 31) : (x &&& Int32.ofNat m).toBitVec.toNat = x.toBitVec.toNat % (m + 1) := by
  show (x.toBitVec &&& (Int32.ofNat m).toBitVec).toNat = _
  have e : (Int32.ofNat m).toBitVec.toNat = m := by
    show (BitVec.ofNat 32 m).toNat = m
    rw [BitVec.toNat_ofNat]
    have : 2 ^ k < 2 ^ 31 := Nat.pow_lt_pow_right (by decide) hk
    omega
  rw [BitVec.toNat_and, e, show m = 2 ^ k - 1 by omega, Nat.and_two_pow_sub_one_eq_mod]
  congr 1; omega
theorem own_small {y : Int32} {n : Nat} (h : y.toBitVec.toNat = n) (hn : n < 2 ^ 31) : y = Int32.ofNat n := by
  apply Int32.toBitVec_inj.mp
  apply BitVec.eq_of_toNat_eq
  rw [h]
  show n = (BitVec.ofNat 32 n).toNat
  rw [BitVec.toNat_ofNat]; omega
theorem own_toInt {y : Int32} {n : Nat} (h : y.toBitVec.toNat = n) (hn : n < 2 ^ 31) : y.toInt = n := by
  show y.toBitVec.toInt = _
  rw [BitVec.toInt_eq_toNat_cond, h]; split <;> omega
theorem own_and_rng (x : Int32) {m : Nat} (k : Nat) (hm : m + 1 = 2 ^ k) (hk : k < 31) : 0 ≤ (x &&& Int32.ofNat m).toInt ∧ (x &&& Int32.ofNat m).toInt ≤ m := by
  have h := own_natOf (x := x) k hm hk
  have h2 : x.toBitVec.toNat % (m + 1) < m + 1 := Nat.mod_lt _ (by omega)
  have : 2 ^ k < 2 ^ 31 := Nat.pow_lt_pow_right (by decide) hk
  have h3 := own_toInt h (by omega)
  rw [h3]; omega
theorem own_byInt {y : Int32} {n : Int} (h : y.toInt = n) {z : Int32} (hz : z.toInt = n) : y = z := Int32.toInt_inj.mp (h.trans hz.symm)
theorem own_nar {z : Int32} (h : ¬ z < 0 ∧ ¬ (255 : Int32) < z) : nar .char z = z := by
  have e : z &&& 255 = z := by
    have h1 := h.1; have h2 := h.2
    rw [Int32.lt_iff_toInt_lt] at h1 h2
    have e0 : (0 : Int32).toInt = 0 := rfl
    have e255 : (255 : Int32).toInt = 255 := rfl
    have hz : z.toBitVec.toInt = z.toInt := rfl
    rw [BitVec.toInt_eq_toNat_cond] at hz
    have hlt := z.toBitVec.isLt
    apply Int32.toBitVec_inj.mp
    apply BitVec.eq_of_toNat_eq
    have := own_natOf (x := z) (m := 255) 8 rfl (by decide)
    rw [show (z &&& 255).toBitVec.toNat = z.toBitVec.toNat % 256 from this]
    split at hz <;> omega
  have q := i2c_mask z
  rw [e] at q
  exact q
theorem own_and255 (x : Int32) : ¬ (x &&& (255 : Int32)) < 0 ∧ ¬ (255 : Int32) < (x &&& (255 : Int32)) := by
  have h := own_and_rng x (m := 255) 8 rfl (by decide)
  have h1 : 0 ≤ (x &&& (255 : Int32)).toInt := h.1
  have h2 : (x &&& (255 : Int32)).toInt ≤ 255 := h.2
  rw [Int32.lt_iff_toInt_lt, Int32.lt_iff_toInt_lt]
  have e0 : (0 : Int32).toInt = 0 := rfl
  have e2 : (255 : Int32).toInt = 255 := rfl
  omega
theorem own_cod {cs : List Int32} {N : Int32} (hN : N = Int32.ofNat cs.length) (hp : ∀ c ∈ cs, ¬ c < 0 ∧ ¬ (255 : Int32) < c) : StrChars.Road.CodA cs 0 N ((cs.map fun c => c.toInt8.toInt32).map Value.int) := hN ▸ StrChars.Road.codOf rfl fun c hc => (hp c hc).2
theorem own_up {cs : List Int32} (hp : ∀ c ∈ cs, ¬ c < 0 ∧ ¬ (255 : Int32) < c) : ∀ c ∈ cs, ¬ c < 0 ∧ ¬ (65535 : Int32) < c := fun c hc => ⟨(hp c hc).1, fun q => (hp c hc).2 (Int32.lt_trans (by decide) q)⟩
abbrev own_al (c : Int32) : Prop := (¬ c < (97 : Int32) ∧ ¬ (122 : Int32) < c) ∨ (¬ c < (65 : Int32) ∧ ¬ (90 : Int32) < c) ∨ (¬ c < (48 : Int32) ∧ ¬ (57 : Int32) < c) ∨ c = (46 : Int32) ∨ c = (45 : Int32) ∨ c = (95 : Int32)
theorem own_alno {c : Int32} (h1 : ¬ (¬ c < (97 : Int32) ∧ ¬ (122 : Int32) < c)) (h2 : ¬ (¬ c < (65 : Int32) ∧ ¬ (90 : Int32) < c)) (h3 : ¬ (¬ c < (48 : Int32) ∧ ¬ (57 : Int32) < c)) (h4 : ¬ c = (46 : Int32)) (h5 : ¬ c = (45 : Int32)) (h6 : ¬ c = (95 : Int32)) : ¬ own_al c :=
  fun q => q.elim h1 fun q => q.elim h2 fun q => q.elim h3 fun q => q.elim h4 fun q => q.elim h5 h6
theorem own_rng {c a b : Int32} (ha : ¬ a < (0 : Int32)) (hb : ¬ (255 : Int32) < b) (h : ¬ c < a ∧ ¬ b < c) : ¬ c < 0 ∧ ¬ (255 : Int32) < c := by
  obtain ⟨h1, h2⟩ := h
  simp only [Int32.lt_iff_toInt_lt] at *
  have e0 : (0 : Int32).toInt = 0 := rfl
  omega
theorem own_alb {c : Int32} (h : own_al c) : ¬ c < 0 ∧ ¬ (255 : Int32) < c := by
  rcases h with h | h | h | rfl | rfl | rfl
  · exact own_rng (by decide) (by decide) h
  · exact own_rng (by decide) (by decide) h
  · exact own_rng (by decide) (by decide) h
  · decide
  · decide
  · decide
theorem own_K (x : Int32) : ∃ n : Fin 65, (x &&& (2147483647 : Int32)) % (65 : Int32) = Int32.ofNat n.1 := by
  have h : (x &&& (2147483647 : Int32)).toBitVec.toNat = x.toBitVec.toNat % 2147483648 := by
    show (x.toBitVec &&& (2147483647 : Int32).toBitVec).toNat = _
    rw [BitVec.toNat_and, show (2147483647 : Int32).toBitVec.toNat = 2 ^ 31 - 1 from rfl, Nat.and_two_pow_sub_one_eq_mod]
  have hq : x.toBitVec.toNat % 2147483648 < 2 ^ 31 := Nat.mod_lt _ (by decide)
  have h2 := own_toInt h hq
  generalize x.toBitVec.toNat % 2147483648 = q at h2 hq
  have h3 : ((x &&& (2147483647 : Int32)) % (65 : Int32)).toInt = (x &&& (2147483647 : Int32)).toInt.tmod (65 : Int32).toInt := Int32.toInt_mod _ _
  rw [h2] at h3
  have h4 : ((x &&& (2147483647 : Int32)) % (65 : Int32)).toInt = ((q % 65 : Nat) : Int) := h3.trans (Int.ofNat_tmod q 65).symm
  have hr : q % 65 < 65 := Nat.mod_lt _ (by decide)
  refine ⟨⟨q % 65, hr⟩, own_byInt h4 (own_toInt ?_ (by omega))⟩
  show (BitVec.ofNat 32 (q % 65)).toNat = q % 65
  rw [BitVec.toNat_ofNat]; omega
theorem own_al0 (x : Int32) (hc : ((x &&& (2147483647 : Int32)) % (65 : Int32)) < (26 : Int32)) : own_al (nar .char ((((97 : Int32) + ((x &&& (2147483647 : Int32)) % (65 : Int32))).toUInt32.toUInt16.toUInt32.toInt32))) := by
  obtain ⟨n, hn⟩ := own_K x
  rw [hn] at hc ⊢
  exact (by decide +kernel : ∀ n : Fin 65, Int32.ofNat n.1 < (26 : Int32) → own_al (nar .char (((97 : Int32) + Int32.ofNat n.1).toUInt32.toUInt16.toUInt32.toInt32))) n hc
theorem own_al1 (x : Int32) (hc : ((x &&& (2147483647 : Int32)) % (65 : Int32)) < (52 : Int32)) (hd : ¬ ((x &&& (2147483647 : Int32)) % (65 : Int32)) < (26 : Int32)) : own_al (nar .char ((((65 : Int32) + (((x &&& (2147483647 : Int32)) % (65 : Int32)) - (26 : Int32))).toUInt32.toUInt16.toUInt32.toInt32))) := by
  obtain ⟨n, hn⟩ := own_K x
  rw [hn] at hc hd ⊢
  exact (by decide +kernel : ∀ n : Fin 65, Int32.ofNat n.1 < (52 : Int32) → ¬ Int32.ofNat n.1 < (26 : Int32) → own_al (nar .char (((65 : Int32) + (Int32.ofNat n.1 - (26 : Int32))).toUInt32.toUInt16.toUInt32.toInt32))) n hc hd
theorem own_al2 (x : Int32) (hc : ((x &&& (2147483647 : Int32)) % (65 : Int32)) < (62 : Int32)) (hd : ¬ ((x &&& (2147483647 : Int32)) % (65 : Int32)) < (52 : Int32)) : own_al (nar .char ((((48 : Int32) + (((x &&& (2147483647 : Int32)) % (65 : Int32)) - (52 : Int32))).toUInt32.toUInt16.toUInt32.toInt32))) := by
  obtain ⟨n, hn⟩ := own_K x
  rw [hn] at hc hd ⊢
  exact (by decide +kernel : ∀ n : Fin 65, Int32.ofNat n.1 < (62 : Int32) → ¬ Int32.ofNat n.1 < (52 : Int32) → own_al (nar .char (((48 : Int32) + (Int32.ofNat n.1 - (52 : Int32))).toUInt32.toUInt16.toUInt32.toInt32))) n hc hd
theorem own_narB (y : Int32) : nar .byte y.toInt8.toInt32 = y.toInt8.toInt32 := by
  show y.toInt8.toInt32.toInt8.toInt32 = _
  rw [Int8.toInt8_toInt32]
theorem own_and3 (x : Int32) : x &&& (3 : Int32) = (0 : Int32) ∨ x &&& (3 : Int32) = (1 : Int32) ∨ x &&& (3 : Int32) = (2 : Int32) ∨ x &&& (3 : Int32) = (3 : Int32) := by
  have h := own_and_rng x (m := 3) 2 rfl (by decide)
  have b : (x &&& (3 : Int32)).toInt = 0 ∨ (x &&& (3 : Int32)).toInt = 1 ∨ (x &&& (3 : Int32)).toInt = 2 ∨ (x &&& (3 : Int32)).toInt = 3 := by
    have h1 : 0 ≤ (x &&& (3 : Int32)).toInt := h.1
    have h2 : (x &&& (3 : Int32)).toInt ≤ 3 := h.2
    omega
  rcases b with b | b | b | b
  · exact Or.inl (own_byInt b rfl)
  · exact Or.inr (Or.inl (own_byInt b rfl))
  · exact Or.inr (Or.inr (Or.inl (own_byInt b rfl)))
  · exact Or.inr (Or.inr (Or.inr (own_byInt b rfl)))
theorem d_m_2_0 : decode method_2_code 0 = .ok (.iload_n 0, 1) := by decide +kernel
theorem d_m_2_1 : decode method_2_code 1 = .ok (.ldc 7, 2) := by decide +kernel
theorem d_m_2_3 : decode method_2_code 3 = .ok (.iand, 1) := by decide +kernel
theorem d_m_2_4 : decode method_2_code 4 = .ok (.bipush 65, 2) := by decide +kernel
theorem d_m_2_6 : decode method_2_code 6 = .ok (.irem, 1) := by decide +kernel
theorem d_m_2_7 : decode method_2_code 7 = .ok (.istore_n 1, 1) := by decide +kernel
theorem d_m_2_8 : decode method_2_code 8 = .ok (.iload_n 1, 1) := by decide +kernel
theorem d_m_2_9 : decode method_2_code 9 = .ok (.bipush 26, 2) := by decide +kernel
theorem d_m_2_11 : decode method_2_code 11 = .ok (.if_icmp .ge 9, 3) := by decide +kernel
theorem d_m_2_14 : decode method_2_code 14 = .ok (.bipush 97, 2) := by decide +kernel
theorem d_m_2_16 : decode method_2_code 16 = .ok (.iload_n 1, 1) := by decide +kernel
theorem d_m_2_17 : decode method_2_code 17 = .ok (.iadd, 1) := by decide +kernel
theorem d_m_2_18 : decode method_2_code 18 = .ok (.i2c, 1) := by decide +kernel
theorem d_m_2_19 : decode method_2_code 19 = .ok (.ireturn, 1) := by decide +kernel
theorem d_m_2_20 : decode method_2_code 20 = .ok (.iload_n 1, 1) := by decide +kernel
theorem d_m_2_21 : decode method_2_code 21 = .ok (.bipush 52, 2) := by decide +kernel
theorem d_m_2_23 : decode method_2_code 23 = .ok (.if_icmp .ge 12, 3) := by decide +kernel
theorem d_m_2_26 : decode method_2_code 26 = .ok (.bipush 65, 2) := by decide +kernel
theorem d_m_2_28 : decode method_2_code 28 = .ok (.iload_n 1, 1) := by decide +kernel
theorem d_m_2_29 : decode method_2_code 29 = .ok (.bipush 26, 2) := by decide +kernel
theorem d_m_2_31 : decode method_2_code 31 = .ok (.isub, 1) := by decide +kernel
theorem d_m_2_32 : decode method_2_code 32 = .ok (.iadd, 1) := by decide +kernel
theorem d_m_2_33 : decode method_2_code 33 = .ok (.i2c, 1) := by decide +kernel
theorem d_m_2_34 : decode method_2_code 34 = .ok (.ireturn, 1) := by decide +kernel
theorem d_m_2_35 : decode method_2_code 35 = .ok (.iload_n 1, 1) := by decide +kernel
theorem d_m_2_36 : decode method_2_code 36 = .ok (.bipush 62, 2) := by decide +kernel
theorem d_m_2_38 : decode method_2_code 38 = .ok (.if_icmp .ge 12, 3) := by decide +kernel
theorem d_m_2_41 : decode method_2_code 41 = .ok (.bipush 48, 2) := by decide +kernel
theorem d_m_2_43 : decode method_2_code 43 = .ok (.iload_n 1, 1) := by decide +kernel
theorem d_m_2_44 : decode method_2_code 44 = .ok (.bipush 52, 2) := by decide +kernel
theorem d_m_2_46 : decode method_2_code 46 = .ok (.isub, 1) := by decide +kernel
theorem d_m_2_47 : decode method_2_code 47 = .ok (.iadd, 1) := by decide +kernel
theorem d_m_2_48 : decode method_2_code 48 = .ok (.i2c, 1) := by decide +kernel
theorem d_m_2_49 : decode method_2_code 49 = .ok (.ireturn, 1) := by decide +kernel
theorem d_m_2_50 : decode method_2_code 50 = .ok (.iload_n 1, 1) := by decide +kernel
theorem d_m_2_51 : decode method_2_code 51 = .ok (.bipush 62, 2) := by decide +kernel
theorem d_m_2_53 : decode method_2_code 53 = .ok (.if_icmp .ne 6, 3) := by decide +kernel
theorem d_m_2_56 : decode method_2_code 56 = .ok (.bipush 46, 2) := by decide +kernel
theorem d_m_2_58 : decode method_2_code 58 = .ok (.ireturn, 1) := by decide +kernel
theorem d_m_2_59 : decode method_2_code 59 = .ok (.iload_n 1, 1) := by decide +kernel
theorem d_m_2_60 : decode method_2_code 60 = .ok (.bipush 63, 2) := by decide +kernel
theorem d_m_2_62 : decode method_2_code 62 = .ok (.if_icmp .ne 6, 3) := by decide +kernel
theorem d_m_2_65 : decode method_2_code 65 = .ok (.bipush 45, 2) := by decide +kernel
theorem d_m_2_67 : decode method_2_code 67 = .ok (.ireturn, 1) := by decide +kernel
theorem d_m_2_68 : decode method_2_code 68 = .ok (.bipush 95, 2) := by decide +kernel
theorem d_m_2_70 : decode method_2_code 70 = .ok (.ireturn, 1) := by decide +kernel
theorem d_prog_2_m_3_0 : decode prog_2_method_3_code 0 = .ok (.iload_n 0, 1) := by decide +kernel
theorem d_prog_2_m_3_1 : decode prog_2_method_3_code 1 = .ok (.bipush 97, 2) := by decide +kernel
theorem d_prog_2_m_3_3 : decode prog_2_method_3_code 3 = .ok (.if_icmp .lt 9, 3) := by decide +kernel
theorem d_prog_2_m_3_12 : decode prog_2_method_3_code 12 = .ok (.iload_n 0, 1) := by decide +kernel
theorem d_prog_2_m_3_13 : decode prog_2_method_3_code 13 = .ok (.bipush 65, 2) := by decide +kernel
theorem d_prog_2_m_3_15 : decode prog_2_method_3_code 15 = .ok (.if_icmp .lt 9, 3) := by decide +kernel
theorem d_prog_2_m_3_24 : decode prog_2_method_3_code 24 = .ok (.iload_n 0, 1) := by decide +kernel
theorem d_prog_2_m_3_25 : decode prog_2_method_3_code 25 = .ok (.bipush 48, 2) := by decide +kernel
theorem d_prog_2_m_3_27 : decode prog_2_method_3_code 27 = .ok (.if_icmp .lt 9, 3) := by decide +kernel
theorem d_prog_2_m_3_36 : decode prog_2_method_3_code 36 = .ok (.iload_n 0, 1) := by decide +kernel
theorem d_prog_2_m_3_37 : decode prog_2_method_3_code 37 = .ok (.bipush 46, 2) := by decide +kernel
theorem d_prog_2_m_3_39 : decode prog_2_method_3_code 39 = .ok (.if_icmp .eq 15, 3) := by decide +kernel
theorem d_prog_2_m_3_54 : decode prog_2_method_3_code 54 = .ok (.iconst 1, 1) := by decide +kernel
theorem d_prog_2_m_3_55 : decode prog_2_method_3_code 55 = .ok (.goto 4, 3) := by decide +kernel
theorem d_prog_2_m_3_59 : decode prog_2_method_3_code 59 = .ok (.ireturn, 1) := by decide +kernel
theorem d_prog_2_m_3_42 : decode prog_2_method_3_code 42 = .ok (.iload_n 0, 1) := by decide +kernel
theorem d_prog_2_m_3_43 : decode prog_2_method_3_code 43 = .ok (.bipush 45, 2) := by decide +kernel
theorem d_prog_2_m_3_45 : decode prog_2_method_3_code 45 = .ok (.if_icmp .eq 9, 3) := by decide +kernel
theorem d_prog_2_m_3_48 : decode prog_2_method_3_code 48 = .ok (.iload_n 0, 1) := by decide +kernel
theorem d_prog_2_m_3_49 : decode prog_2_method_3_code 49 = .ok (.bipush 95, 2) := by decide +kernel
theorem d_prog_2_m_3_51 : decode prog_2_method_3_code 51 = .ok (.if_icmp .ne 7, 3) := by decide +kernel
theorem d_prog_2_m_3_58 : decode prog_2_method_3_code 58 = .ok (.iconst 0, 1) := by decide +kernel
theorem d_prog_2_m_3_30 : decode prog_2_method_3_code 30 = .ok (.iload_n 0, 1) := by decide +kernel
theorem d_prog_2_m_3_31 : decode prog_2_method_3_code 31 = .ok (.bipush 57, 2) := by decide +kernel
theorem d_prog_2_m_3_33 : decode prog_2_method_3_code 33 = .ok (.if_icmp .le 21, 3) := by decide +kernel
theorem d_prog_2_m_3_18 : decode prog_2_method_3_code 18 = .ok (.iload_n 0, 1) := by decide +kernel
theorem d_prog_2_m_3_19 : decode prog_2_method_3_code 19 = .ok (.bipush 90, 2) := by decide +kernel
theorem d_prog_2_m_3_21 : decode prog_2_method_3_code 21 = .ok (.if_icmp .le 33, 3) := by decide +kernel
theorem d_prog_2_m_3_6 : decode prog_2_method_3_code 6 = .ok (.iload_n 0, 1) := by decide +kernel
theorem d_prog_2_m_3_7 : decode prog_2_method_3_code 7 = .ok (.bipush 122, 2) := by decide +kernel
theorem d_prog_2_m_3_9 : decode prog_2_method_3_code 9 = .ok (.if_icmp .le 45, 3) := by decide +kernel
theorem d_jdk_31_m_11_0 : decode jdk_31_method_11_code 0 = .ok (.aload_n 0, 1) := by decide +kernel
theorem d_jdk_31_m_11_1 : decode jdk_31_method_11_code 1 = .ok (.ifnonnull 12, 3) := by decide +kernel
theorem d_jdk_31_m_11_13 : decode jdk_31_method_11_code 13 = .ok (.aload_n 0, 1) := by decide +kernel
theorem d_jdk_31_m_11_14 : decode jdk_31_method_11_code 14 = .ok (.areturn, 1) := by decide +kernel
theorem d_prog_7_m_1_0 : decode prog_7_method_1_code 0 = .ok (.aload_n 0, 1) := by decide +kernel
theorem d_prog_7_m_1_1 : decode prog_7_method_1_code 1 = .ok (.invokespecial 3, 3) := by decide +kernel
theorem d_prog_7_m_1_4 : decode prog_7_method_1_code 4 = .ok (.aload_n 0, 1) := by decide +kernel
theorem d_prog_7_m_1_5 : decode prog_7_method_1_code 5 = .ok (.aload_n 1, 1) := by decide +kernel
theorem d_prog_7_m_1_6 : decode prog_7_method_1_code 6 = .ok (.putfield 9, 3) := by decide +kernel
theorem d_prog_7_m_1_9 : decode prog_7_method_1_code 9 = .ok (.return_, 1) := by decide +kernel
theorem d_prog_2_m_2_0 : decode prog_2_method_2_code 0 = .ok (.aload_n 0, 1) := by decide +kernel
theorem d_prog_2_m_2_1 : decode prog_2_method_2_code 1 = .ok (.ldc 7, 2) := by decide +kernel
theorem d_prog_2_m_2_3 : decode prog_2_method_2_code 3 = .ok (.invokestatic 9, 3) := by decide +kernel
theorem pd_0 : parseMethodDescriptor "(Ljava/lang/Object;Ljava/lang/String;)Ljava/lang/Object;" = some ⟨[(.object "java/lang/Object"), (.object "java/lang/String")], some (.object "java/lang/Object")⟩ := by decide +kernel
theorem d_prog_2_m_2_6 : decode prog_2_method_2_code 6 = .ok (.pop, 1) := by decide +kernel
theorem d_prog_2_m_2_7 : decode prog_2_method_2_code 7 = .ok (.aload_n 0, 1) := by decide +kernel
theorem d_prog_2_m_2_8 : decode prog_2_method_2_code 8 = .ok (.invokevirtual 15, 3) := by decide +kernel
theorem pd_1 : parseMethodDescriptor "()Z" = some ⟨[], some .boolean⟩ := by decide +kernel
theorem d_prog_2_m_2_11 : decode prog_2_method_2_code 11 = .ok (.ifCond .eq 13, 3) := by decide +kernel
theorem d_prog_2_m_2_24 : decode prog_2_method_2_code 24 = .ok (.iconst 0, 1) := by decide +kernel
theorem d_prog_2_m_2_25 : decode prog_2_method_2_code 25 = .ok (.istore_n 1, 1) := by decide +kernel
theorem d_prog_2_m_2_26 : decode prog_2_method_2_code 26 = .ok (.iload_n 1, 1) := by decide +kernel
theorem d_prog_2_m_2_27 : decode prog_2_method_2_code 27 = .ok (.aload_n 0, 1) := by decide +kernel
theorem d_prog_2_m_2_28 : decode prog_2_method_2_code 28 = .ok (.invokevirtual 28, 3) := by decide +kernel
theorem pd_2 : parseMethodDescriptor "()I" = some ⟨[], some .int⟩ := by decide +kernel
theorem d_prog_2_m_2_31 : decode prog_2_method_2_code 31 = .ok (.if_icmp .ge 42, 3) := by decide +kernel
theorem d_prog_2_m_2_34 : decode prog_2_method_2_code 34 = .ok (.aload_n 0, 1) := by decide +kernel
theorem d_prog_2_m_2_35 : decode prog_2_method_2_code 35 = .ok (.iload_n 1, 1) := by decide +kernel
theorem d_prog_2_m_2_36 : decode prog_2_method_2_code 36 = .ok (.invokevirtual 32, 3) := by decide +kernel
theorem pd_3 : parseMethodDescriptor "(I)C" = some ⟨[.int], some .char⟩ := by decide +kernel
theorem d_prog_2_m_2_39 : decode prog_2_method_2_code 39 = .ok (.invokestatic 36, 3) := by decide +kernel
theorem pd_4 : parseMethodDescriptor "(C)Z" = some ⟨[.char], some .boolean⟩ := by decide +kernel
theorem d_prog_2_m_2_42 : decode prog_2_method_2_code 42 = .ok (.ifCond .ne 25, 3) := by decide +kernel
theorem d_prog_2_m_2_67 : decode prog_2_method_2_code 67 = .ok (.iinc 1 1, 3) := by decide +kernel
theorem d_prog_2_m_2_70 : decode prog_2_method_2_code 70 = .ok (.goto (-44), 3) := by decide +kernel
theorem d_prog_2_m_2_73 : decode prog_2_method_2_code 73 = .ok (.aload_n 0, 1) := by decide +kernel
theorem d_prog_2_m_2_74 : decode prog_2_method_2_code 74 = .ok (.invokevirtual 28, 3) := by decide +kernel
theorem d_prog_2_m_2_77 : decode prog_2_method_2_code 77 = .ok (.bipush 100, 2) := by decide +kernel
theorem d_prog_2_m_2_79 : decode prog_2_method_2_code 79 = .ok (.if_icmp .le 20, 3) := by decide +kernel
theorem d_prog_2_m_2_99 : decode prog_2_method_2_code 99 = .ok (.aload_n 0, 1) := by decide +kernel
theorem d_prog_2_m_2_100 : decode prog_2_method_2_code 100 = .ok (.areturn, 1) := by decide +kernel
theorem d_prog_6_m_2_0 : decode prog_6_method_2_code 0 = .ok (.new 17, 3) := by decide +kernel
theorem d_prog_6_m_2_3 : decode prog_6_method_2_code 3 = .ok (.dup, 1) := by decide +kernel
theorem d_prog_6_m_2_4 : decode prog_6_method_2_code 4 = .ok (.aload_n 0, 1) := by decide +kernel
theorem d_prog_6_m_2_5 : decode prog_6_method_2_code 5 = .ok (.invokestatic 19, 3) := by decide +kernel
theorem pd_5 : parseMethodDescriptor "(Ljava/lang/String;)Ljava/lang/String;" = some ⟨[(.object "java/lang/String")], some (.object "java/lang/String")⟩ := by decide +kernel
theorem d_prog_6_m_2_8 : decode prog_6_method_2_code 8 = .ok (.invokespecial 25, 3) := by decide +kernel
theorem pd_6 : parseMethodDescriptor "(Ljava/lang/String;)V" = some ⟨[(.object "java/lang/String")], none⟩ := by decide +kernel
theorem d_prog_6_m_2_11 : decode prog_6_method_2_code 11 = .ok (.areturn, 1) := by decide +kernel
theorem d_prog_6_m_1_0 : decode prog_6_method_1_code 0 = .ok (.aload_n 0, 1) := by decide +kernel
theorem d_prog_6_m_1_1 : decode prog_6_method_1_code 1 = .ok (.invokespecial 1, 3) := by decide +kernel
theorem d_prog_6_m_1_4 : decode prog_6_method_1_code 4 = .ok (.aload_n 0, 1) := by decide +kernel
theorem d_prog_6_m_1_5 : decode prog_6_method_1_code 5 = .ok (.aload_n 1, 1) := by decide +kernel
theorem d_prog_6_m_1_6 : decode prog_6_method_1_code 6 = .ok (.putfield 7, 3) := by decide +kernel
theorem d_prog_6_m_1_9 : decode prog_6_method_1_code 9 = .ok (.aload_n 0, 1) := by decide +kernel
theorem d_prog_6_m_1_10 : decode prog_6_method_1_code 10 = .ok (.aload_n 2, 1) := by decide +kernel
theorem d_prog_6_m_1_11 : decode prog_6_method_1_code 11 = .ok (.putfield 13, 3) := by decide +kernel
theorem d_prog_6_m_1_14 : decode prog_6_method_1_code 14 = .ok (.return_, 1) := by decide +kernel
theorem d_prog_7_m_4_0 : decode prog_7_method_4_code 0 = .ok (.aload_n 1, 1) := by decide +kernel
theorem d_prog_7_m_4_1 : decode prog_7_method_4_code 1 = .ok (.arraylength, 1) := by decide +kernel
theorem d_prog_7_m_4_2 : decode prog_7_method_4_code 2 = .ok (.ldc 45, 2) := by decide +kernel
theorem d_prog_7_m_4_4 : decode prog_7_method_4_code 4 = .ok (.if_icmp .le 18, 3) := by decide +kernel
theorem d_prog_7_m_4_22 : decode prog_7_method_4_code 22 = .ok (.new 1, 3) := by decide +kernel
theorem d_prog_7_m_4_25 : decode prog_7_method_4_code 25 = .ok (.dup, 1) := by decide +kernel
theorem d_prog_7_m_4_26 : decode prog_7_method_4_code 26 = .ok (.aload_n 0, 1) := by decide +kernel
theorem d_prog_7_m_4_27 : decode prog_7_method_4_code 27 = .ok (.getfield 9, 3) := by decide +kernel
theorem d_prog_7_m_4_30 : decode prog_7_method_4_code 30 = .ok (.aload_n 1, 1) := by decide +kernel
theorem d_prog_7_m_4_31 : decode prog_7_method_4_code 31 = .ok (.invokespecial 55, 3) := by decide +kernel
theorem pd_7 : parseMethodDescriptor "(Ljava/lang/String;[B)V" = some ⟨[(.object "java/lang/String"), (.array .byte)], none⟩ := by decide +kernel
theorem d_prog_7_m_4_34 : decode prog_7_method_4_code 34 = .ok (.areturn, 1) := by decide +kernel
theorem d_prog_7_m_3_0 : decode prog_7_method_3_code 0 = .ok (.aload_n 1, 1) := by decide +kernel
theorem d_prog_7_m_3_1 : decode prog_7_method_3_code 1 = .ok (.ldc 15, 2) := by decide +kernel
theorem d_prog_7_m_3_3 : decode prog_7_method_3_code 3 = .ok (.invokestatic 17, 3) := by decide +kernel
theorem d_prog_7_m_3_6 : decode prog_7_method_3_code 6 = .ok (.pop, 1) := by decide +kernel
theorem d_prog_7_m_3_7 : decode prog_7_method_3_code 7 = .ok (.aload_n 0, 1) := by decide +kernel
theorem d_prog_7_m_3_8 : decode prog_7_method_3_code 8 = .ok (.aload_n 1, 1) := by decide +kernel
theorem d_prog_7_m_3_9 : decode prog_7_method_3_code 9 = .ok (.invokevirtual 39, 3) := by decide +kernel
theorem d_prog_7_m_3_12 : decode prog_7_method_3_code 12 = .ok (.checkcast 40, 3) := by decide +kernel
theorem d_prog_7_m_3_15 : decode prog_7_method_3_code 15 = .ok (.invokevirtual 35, 3) := by decide +kernel
theorem pd_8 : parseMethodDescriptor "([B)Lcom/example/kept_outbox/keptoutbox/api/Message;" = some ⟨[(.array .byte)], some (.object "com/example/kept_outbox/keptoutbox/api/Message")⟩ := by decide +kernel
theorem d_prog_7_m_3_18 : decode prog_7_method_3_code 18 = .ok (.areturn, 1) := by decide +kernel
theorem d_prog_6_m_3_0 : decode prog_6_method_3_code 0 = .ok (.aload_n 0, 1) := by decide +kernel
theorem d_prog_6_m_3_1 : decode prog_6_method_3_code 1 = .ok (.getfield 7, 3) := by decide +kernel
theorem d_prog_6_m_3_4 : decode prog_6_method_3_code 4 = .ok (.areturn, 1) := by decide +kernel
theorem d_prog_6_m_4_0 : decode prog_6_method_4_code 0 = .ok (.aload_n 0, 1) := by decide +kernel
theorem d_prog_6_m_4_1 : decode prog_6_method_4_code 1 = .ok (.getfield 13, 3) := by decide +kernel
theorem d_prog_6_m_4_4 : decode prog_6_method_4_code 4 = .ok (.invokevirtual 28, 3) := by decide +kernel
theorem d_prog_6_m_4_7 : decode prog_6_method_4_code 7 = .ok (.checkcast 29, 3) := by decide +kernel
theorem d_prog_6_m_4_10 : decode prog_6_method_4_code 10 = .ok (.areturn, 1) := by decide +kernel
theorem d_jdk_42_m_66_0 : decode jdk_42_method_66_code 0 = .ok (.aload_n 0, 1) := by decide +kernel
theorem d_jdk_42_m_66_1 : decode jdk_42_method_66_code 1 = .ok (.aload_n 1, 1) := by decide +kernel
theorem d_jdk_42_m_66_2 : decode jdk_42_method_66_code 2 = .ok (.if_acmp .ne 5, 3) := by decide +kernel
theorem d_jdk_42_m_66_5 : decode jdk_42_method_66_code 5 = .ok (.iconst 1, 1) := by decide +kernel
theorem d_jdk_42_m_66_6 : decode jdk_42_method_66_code 6 = .ok (.ireturn, 1) := by decide +kernel
theorem pd_9 : parseMethodDescriptor "([C)V" = some ⟨[(.array .char)], none⟩ := by decide +kernel
theorem pd_10 : parseMethodDescriptor "(Ljava/lang/String;)Lcom/example/kept_outbox/keptoutbox/api/Message$Builder;" = some ⟨[(.object "java/lang/String")], some (.object "com/example/kept_outbox/keptoutbox/api/Message$Builder")⟩ := by decide +kernel
theorem pd_11 : parseMethodDescriptor "()Ljava/lang/String;" = some ⟨[], some (.object "java/lang/String")⟩ := by decide +kernel
theorem pd_12 : parseMethodDescriptor "()[B" = some ⟨[], some (.array .byte)⟩ := by decide +kernel
theorem pd_13 : parseMethodDescriptor "(Ljava/lang/Object;)Z" = some ⟨[(.object "java/lang/Object")], some .boolean⟩ := by decide +kernel
theorem pn_com_example_kept_outbox_keptoutbox_api_Message_Builder : plainName "com/example/kept_outbox/keptoutbox/api/Message$Builder" = true := by first | (simp [plainName, overriddenIn]; done) | decide +kernel
theorem pn_com_example_kept_outbox_keptoutbox_api_MessageToPinLaw : plainName "com/example/kept_outbox/keptoutbox/api/MessageToPinLaw" = true := by first | (simp [plainName, overriddenIn]; done) | decide +kernel
theorem pn_com_example_kept_outbox_keptoutbox_api_DestinationName : plainName "com/example/kept_outbox/keptoutbox/api/DestinationName" = true := by first | (simp [plainName, overriddenIn]; done) | decide +kernel
theorem pn_java_util_Objects : plainName "java/util/Objects" = true := by first | (simp [plainName, overriddenIn]; done) | decide +kernel
theorem pn_com_example_kept_outbox_keptoutbox_api_Message : plainName "com/example/kept_outbox/keptoutbox/api/Message" = true := by first | (simp [plainName, overriddenIn]; done) | decide +kernel
theorem pn_java_lang_String : plainName "java/lang/String" = true := by first | (simp [plainName, overriddenIn]; done) | decide +kernel
theorem ef_rmA (m : MethodId) (x0 : Int32) : entryFrame m #[(.int x0)] 2 = mkF m 0 #[.val (.int x0), .unset] [] := by first | (simp [entryFrame, mkF, argsToLocals, Value.category]; done) | rfl
set_option maxRecDepth 65536 in
set_option maxHeartbeats 40000000 in
theorem rmA (l : Launch) (Z : State) (a0 : Array Value) (hw : ∀ d ∈ tables_1, d.before a0 Z = true) (wds : List Jvm.Cond) (p1 : Int32) (h0 : Heap) (n0 : Nat) (O0 : Old Z n0 h0)   :
    Ct l Z a0 own_EL (⟨"com/example/kept_outbox/keptoutbox/api/MessageToPinLaw", "allowed", "(I)C"⟩ : MethodName) method_2_code 2 (some .char) wds ({ frames := 0, cells := 0, slots := 0, locals := 0 } : Room) #[(.int p1)] n0 h0 [] (fun v h => (∃ z : Int32, v = some (.int z) ∧ own_al z) ∧ h = h0) := by
  refine Ct.of (plainFor_of_name pn_com_example_kept_outbox_keptoutbox_api_MessageToPinLaw) O0 all0 (own_EW hw) ?_
  intro p e s m below meth c hx hby hml hret hnm
  refine Go.cast (ef_rmA m p1) ?_
  refine Go.sp (g' := (mkF m 1 #[.val (.int p1), .unset] [(.int p1)])) (fun T A t r => XS.iloadN A hx rfl (hb hby d_m_2_0) rfl r) ?_
  refine Go.v (g' := (mkF m 3 #[.val (.int p1), .unset] [(.int (2147483647 : Int32)), (.int p1)])) (fun s' T L X eT hZ hown => own_ldcI X hx hZ hown (own_w hw 5 rfl) eT (g := (mkF m 1 #[.val (.int p1), .unset] [(.int p1)])) rfl (hb hby d_m_2_1)) ?_
  refine Go.sp (g' := (mkF m 4 #[.val (.int p1), .unset] [(.int (p1 &&& (2147483647 : Int32)))])) (fun T A t r => XS.iand A hx rfl (hb hby d_m_2_3) rfl r) ?_
  refine Go.sp (g' := (mkF m 6 #[.val (.int p1), .unset] [(.int (65 : Int32)), (.int (p1 &&& (2147483647 : Int32)))])) (fun T A t r => XS.bipush A hx rfl (hb hby d_m_2_4) r) ?_
  refine Go.r (g' := (mkF m 7 #[.val (.int p1), .unset] [(.int ((p1 &&& (2147483647 : Int32)) % (65 : Int32)))])) (fun s' T L X eT hZ t r => iremM (g := (mkF m 6 #[.val (.int p1), .unset] [(.int (65 : Int32)), (.int (p1 &&& (2147483647 : Int32)))])) X hx rfl (hb hby d_m_2_6) rfl (by decide) r) ?_
  refine Go.sp (g' := (mkF m 8 #[.val (.int p1), .val (.int ((p1 &&& (2147483647 : Int32)) % (65 : Int32)))] [])) (fun T A t r => XS.istoreN A hx rfl (hb hby d_m_2_7) rfl (l' := #[.val (.int p1), .val (.int ((p1 &&& (2147483647 : Int32)) % (65 : Int32)))]) rfl r) ?_
  refine Go.sp (g' := (mkF m 9 #[.val (.int p1), .val (.int ((p1 &&& (2147483647 : Int32)) % (65 : Int32)))] [(.int ((p1 &&& (2147483647 : Int32)) % (65 : Int32)))])) (fun T A t r => XS.iloadN A hx rfl (hb hby d_m_2_8) rfl r) ?_
  refine Go.sp (g' := (mkF m 11 #[.val (.int p1), .val (.int ((p1 &&& (2147483647 : Int32)) % (65 : Int32)))] [(.int (26 : Int32)), (.int ((p1 &&& (2147483647 : Int32)) % (65 : Int32)))])) (fun T A t r => XS.bipush A hx rfl (hb hby d_m_2_9) r) ?_
  by_cases hc11 : ((p1 &&& (2147483647 : Int32)) % (65 : Int32)) < (26 : Int32)
  · skip
    refine Go.sp (g' := (mkF m 14 #[.val (.int p1), .val (.int ((p1 &&& (2147483647 : Int32)) % (65 : Int32)))] [])) (fun T A t r => XS.icmpNo A hx rfl (hb hby d_m_2_11) rfl (tlt hc11).2.1 r) ?_
    refine Go.sp (g' := (mkF m 16 #[.val (.int p1), .val (.int ((p1 &&& (2147483647 : Int32)) % (65 : Int32)))] [(.int (97 : Int32))])) (fun T A t r => XS.bipush A hx rfl (hb hby d_m_2_14) r) ?_
    refine Go.sp (g' := (mkF m 17 #[.val (.int p1), .val (.int ((p1 &&& (2147483647 : Int32)) % (65 : Int32)))] [(.int ((p1 &&& (2147483647 : Int32)) % (65 : Int32))), (.int (97 : Int32))])) (fun T A t r => XS.iloadN A hx rfl (hb hby d_m_2_16) rfl r) ?_
    refine Go.sp (g' := (mkF m 18 #[.val (.int p1), .val (.int ((p1 &&& (2147483647 : Int32)) % (65 : Int32)))] [(.int ((97 : Int32) + ((p1 &&& (2147483647 : Int32)) % (65 : Int32))))])) (fun T A t r => XS.iadd A hx rfl (hb hby d_m_2_17) rfl r) ?_
    refine Go.sp (g' := (mkF m 19 #[.val (.int p1), .val (.int ((p1 &&& (2147483647 : Int32)) % (65 : Int32)))] [(.int (((97 : Int32) + ((p1 &&& (2147483647 : Int32)) % (65 : Int32))).toUInt32.toUInt16.toUInt32.toInt32))])) (fun T A t r => XS.i2c A hx rfl (hb hby d_m_2_18) rfl r) ?_
    exact Go.ret (v := (some (.int (nar .char (((97 : Int32) + ((p1 &&& (2147483647 : Int32)) % (65 : Int32))).toUInt32.toUInt16.toUInt32.toInt32))))) (fun s' T L fs X hr => retN X hx (t := .char) hret (by simp) (hb hby d_m_2_19) hr) (fun h => by rw [hret] at h; cases h) (by decide) (by decide) ⟨⟨_, rfl, own_al0 p1 hc11⟩, rfl⟩
  · skip
    refine Go.sp (g' := (mkF m 20 #[.val (.int p1), .val (.int ((p1 &&& (2147483647 : Int32)) % (65 : Int32)))] [])) (fun T A t r => XS.icmpYes A hx rfl (pc0 := 11) (pc' := 20) rfl (hb hby d_m_2_11) rfl (flt hc11).2.1 (by decide) (by decide) r) ?_
    refine Go.sp (g' := (mkF m 21 #[.val (.int p1), .val (.int ((p1 &&& (2147483647 : Int32)) % (65 : Int32)))] [(.int ((p1 &&& (2147483647 : Int32)) % (65 : Int32)))])) (fun T A t r => XS.iloadN A hx rfl (hb hby d_m_2_20) rfl r) ?_
    refine Go.sp (g' := (mkF m 23 #[.val (.int p1), .val (.int ((p1 &&& (2147483647 : Int32)) % (65 : Int32)))] [(.int (52 : Int32)), (.int ((p1 &&& (2147483647 : Int32)) % (65 : Int32)))])) (fun T A t r => XS.bipush A hx rfl (hb hby d_m_2_21) r) ?_
    by_cases hc12 : ((p1 &&& (2147483647 : Int32)) % (65 : Int32)) < (52 : Int32)
    · skip
      refine Go.sp (g' := (mkF m 26 #[.val (.int p1), .val (.int ((p1 &&& (2147483647 : Int32)) % (65 : Int32)))] [])) (fun T A t r => XS.icmpNo A hx rfl (hb hby d_m_2_23) rfl (tlt hc12).2.1 r) ?_
      refine Go.sp (g' := (mkF m 28 #[.val (.int p1), .val (.int ((p1 &&& (2147483647 : Int32)) % (65 : Int32)))] [(.int (65 : Int32))])) (fun T A t r => XS.bipush A hx rfl (hb hby d_m_2_26) r) ?_
      refine Go.sp (g' := (mkF m 29 #[.val (.int p1), .val (.int ((p1 &&& (2147483647 : Int32)) % (65 : Int32)))] [(.int ((p1 &&& (2147483647 : Int32)) % (65 : Int32))), (.int (65 : Int32))])) (fun T A t r => XS.iloadN A hx rfl (hb hby d_m_2_28) rfl r) ?_
      refine Go.sp (g' := (mkF m 31 #[.val (.int p1), .val (.int ((p1 &&& (2147483647 : Int32)) % (65 : Int32)))] [(.int (26 : Int32)), (.int ((p1 &&& (2147483647 : Int32)) % (65 : Int32))), (.int (65 : Int32))])) (fun T A t r => XS.bipush A hx rfl (hb hby d_m_2_29) r) ?_
      refine Go.sp (g' := (mkF m 32 #[.val (.int p1), .val (.int ((p1 &&& (2147483647 : Int32)) % (65 : Int32)))] [(.int (((p1 &&& (2147483647 : Int32)) % (65 : Int32)) - (26 : Int32))), (.int (65 : Int32))])) (fun T A t r => XS.isub A hx rfl (hb hby d_m_2_31) rfl r) ?_
      refine Go.sp (g' := (mkF m 33 #[.val (.int p1), .val (.int ((p1 &&& (2147483647 : Int32)) % (65 : Int32)))] [(.int ((65 : Int32) + (((p1 &&& (2147483647 : Int32)) % (65 : Int32)) - (26 : Int32))))])) (fun T A t r => XS.iadd A hx rfl (hb hby d_m_2_32) rfl r) ?_
      refine Go.sp (g' := (mkF m 34 #[.val (.int p1), .val (.int ((p1 &&& (2147483647 : Int32)) % (65 : Int32)))] [(.int (((65 : Int32) + (((p1 &&& (2147483647 : Int32)) % (65 : Int32)) - (26 : Int32))).toUInt32.toUInt16.toUInt32.toInt32))])) (fun T A t r => XS.i2c A hx rfl (hb hby d_m_2_33) rfl r) ?_
      exact Go.ret (v := (some (.int (nar .char (((65 : Int32) + (((p1 &&& (2147483647 : Int32)) % (65 : Int32)) - (26 : Int32))).toUInt32.toUInt16.toUInt32.toInt32))))) (fun s' T L fs X hr => retN X hx (t := .char) hret (by simp) (hb hby d_m_2_34) hr) (fun h => by rw [hret] at h; cases h) (by decide) (by decide) ⟨⟨_, rfl, own_al1 p1 hc12 hc11⟩, rfl⟩
    · skip
      refine Go.sp (g' := (mkF m 35 #[.val (.int p1), .val (.int ((p1 &&& (2147483647 : Int32)) % (65 : Int32)))] [])) (fun T A t r => XS.icmpYes A hx rfl (pc0 := 23) (pc' := 35) rfl (hb hby d_m_2_23) rfl (flt hc12).2.1 (by decide) (by decide) r) ?_
      refine Go.sp (g' := (mkF m 36 #[.val (.int p1), .val (.int ((p1 &&& (2147483647 : Int32)) % (65 : Int32)))] [(.int ((p1 &&& (2147483647 : Int32)) % (65 : Int32)))])) (fun T A t r => XS.iloadN A hx rfl (hb hby d_m_2_35) rfl r) ?_
      refine Go.sp (g' := (mkF m 38 #[.val (.int p1), .val (.int ((p1 &&& (2147483647 : Int32)) % (65 : Int32)))] [(.int (62 : Int32)), (.int ((p1 &&& (2147483647 : Int32)) % (65 : Int32)))])) (fun T A t r => XS.bipush A hx rfl (hb hby d_m_2_36) r) ?_
      by_cases hc13 : ((p1 &&& (2147483647 : Int32)) % (65 : Int32)) < (62 : Int32)
      · skip
        refine Go.sp (g' := (mkF m 41 #[.val (.int p1), .val (.int ((p1 &&& (2147483647 : Int32)) % (65 : Int32)))] [])) (fun T A t r => XS.icmpNo A hx rfl (hb hby d_m_2_38) rfl (tlt hc13).2.1 r) ?_
        refine Go.sp (g' := (mkF m 43 #[.val (.int p1), .val (.int ((p1 &&& (2147483647 : Int32)) % (65 : Int32)))] [(.int (48 : Int32))])) (fun T A t r => XS.bipush A hx rfl (hb hby d_m_2_41) r) ?_
        refine Go.sp (g' := (mkF m 44 #[.val (.int p1), .val (.int ((p1 &&& (2147483647 : Int32)) % (65 : Int32)))] [(.int ((p1 &&& (2147483647 : Int32)) % (65 : Int32))), (.int (48 : Int32))])) (fun T A t r => XS.iloadN A hx rfl (hb hby d_m_2_43) rfl r) ?_
        refine Go.sp (g' := (mkF m 46 #[.val (.int p1), .val (.int ((p1 &&& (2147483647 : Int32)) % (65 : Int32)))] [(.int (52 : Int32)), (.int ((p1 &&& (2147483647 : Int32)) % (65 : Int32))), (.int (48 : Int32))])) (fun T A t r => XS.bipush A hx rfl (hb hby d_m_2_44) r) ?_
        refine Go.sp (g' := (mkF m 47 #[.val (.int p1), .val (.int ((p1 &&& (2147483647 : Int32)) % (65 : Int32)))] [(.int (((p1 &&& (2147483647 : Int32)) % (65 : Int32)) - (52 : Int32))), (.int (48 : Int32))])) (fun T A t r => XS.isub A hx rfl (hb hby d_m_2_46) rfl r) ?_
        refine Go.sp (g' := (mkF m 48 #[.val (.int p1), .val (.int ((p1 &&& (2147483647 : Int32)) % (65 : Int32)))] [(.int ((48 : Int32) + (((p1 &&& (2147483647 : Int32)) % (65 : Int32)) - (52 : Int32))))])) (fun T A t r => XS.iadd A hx rfl (hb hby d_m_2_47) rfl r) ?_
        refine Go.sp (g' := (mkF m 49 #[.val (.int p1), .val (.int ((p1 &&& (2147483647 : Int32)) % (65 : Int32)))] [(.int (((48 : Int32) + (((p1 &&& (2147483647 : Int32)) % (65 : Int32)) - (52 : Int32))).toUInt32.toUInt16.toUInt32.toInt32))])) (fun T A t r => XS.i2c A hx rfl (hb hby d_m_2_48) rfl r) ?_
        exact Go.ret (v := (some (.int (nar .char (((48 : Int32) + (((p1 &&& (2147483647 : Int32)) % (65 : Int32)) - (52 : Int32))).toUInt32.toUInt16.toUInt32.toInt32))))) (fun s' T L fs X hr => retN X hx (t := .char) hret (by simp) (hb hby d_m_2_49) hr) (fun h => by rw [hret] at h; cases h) (by decide) (by decide) ⟨⟨_, rfl, own_al2 p1 hc13 hc12⟩, rfl⟩
      · skip
        refine Go.sp (g' := (mkF m 50 #[.val (.int p1), .val (.int ((p1 &&& (2147483647 : Int32)) % (65 : Int32)))] [])) (fun T A t r => XS.icmpYes A hx rfl (pc0 := 38) (pc' := 50) rfl (hb hby d_m_2_38) rfl (flt hc13).2.1 (by decide) (by decide) r) ?_
        refine Go.sp (g' := (mkF m 51 #[.val (.int p1), .val (.int ((p1 &&& (2147483647 : Int32)) % (65 : Int32)))] [(.int ((p1 &&& (2147483647 : Int32)) % (65 : Int32)))])) (fun T A t r => XS.iloadN A hx rfl (hb hby d_m_2_50) rfl r) ?_
        refine Go.sp (g' := (mkF m 53 #[.val (.int p1), .val (.int ((p1 &&& (2147483647 : Int32)) % (65 : Int32)))] [(.int (62 : Int32)), (.int ((p1 &&& (2147483647 : Int32)) % (65 : Int32)))])) (fun T A t r => XS.bipush A hx rfl (hb hby d_m_2_51) r) ?_
        by_cases hc14 : ((p1 &&& (2147483647 : Int32)) % (65 : Int32)) = (62 : Int32)
        · skip
          refine Go.sp (g' := (mkF m 56 #[.val (.int p1), .val (.int ((p1 &&& (2147483647 : Int32)) % (65 : Int32)))] [])) (fun T A t r => XS.icmpNo A hx rfl (hb hby d_m_2_53) rfl (teq hc14).2 r) ?_
          refine Go.sp (g' := (mkF m 58 #[.val (.int p1), .val (.int ((p1 &&& (2147483647 : Int32)) % (65 : Int32)))] [(.int (46 : Int32))])) (fun T A t r => XS.bipush A hx rfl (hb hby d_m_2_56) r) ?_
          exact Go.ret (v := (some (.int (nar .char (46 : Int32))))) (fun s' T L fs X hr => retN X hx (t := .char) hret (by simp) (hb hby d_m_2_58) hr) (fun h => by rw [hret] at h; cases h) (by decide) (by decide) ⟨⟨_, rfl, by unfold own_al; decide⟩, rfl⟩
        · skip
          refine Go.sp (g' := (mkF m 59 #[.val (.int p1), .val (.int ((p1 &&& (2147483647 : Int32)) % (65 : Int32)))] [])) (fun T A t r => XS.icmpYes A hx rfl (pc0 := 53) (pc' := 59) rfl (hb hby d_m_2_53) rfl (feq hc14).2 (by decide) (by decide) r) ?_
          refine Go.sp (g' := (mkF m 60 #[.val (.int p1), .val (.int ((p1 &&& (2147483647 : Int32)) % (65 : Int32)))] [(.int ((p1 &&& (2147483647 : Int32)) % (65 : Int32)))])) (fun T A t r => XS.iloadN A hx rfl (hb hby d_m_2_59) rfl r) ?_
          refine Go.sp (g' := (mkF m 62 #[.val (.int p1), .val (.int ((p1 &&& (2147483647 : Int32)) % (65 : Int32)))] [(.int (63 : Int32)), (.int ((p1 &&& (2147483647 : Int32)) % (65 : Int32)))])) (fun T A t r => XS.bipush A hx rfl (hb hby d_m_2_60) r) ?_
          by_cases hc15 : ((p1 &&& (2147483647 : Int32)) % (65 : Int32)) = (63 : Int32)
          · skip
            refine Go.sp (g' := (mkF m 65 #[.val (.int p1), .val (.int ((p1 &&& (2147483647 : Int32)) % (65 : Int32)))] [])) (fun T A t r => XS.icmpNo A hx rfl (hb hby d_m_2_62) rfl (teq hc15).2 r) ?_
            refine Go.sp (g' := (mkF m 67 #[.val (.int p1), .val (.int ((p1 &&& (2147483647 : Int32)) % (65 : Int32)))] [(.int (45 : Int32))])) (fun T A t r => XS.bipush A hx rfl (hb hby d_m_2_65) r) ?_
            exact Go.ret (v := (some (.int (nar .char (45 : Int32))))) (fun s' T L fs X hr => retN X hx (t := .char) hret (by simp) (hb hby d_m_2_67) hr) (fun h => by rw [hret] at h; cases h) (by decide) (by decide) ⟨⟨_, rfl, by unfold own_al; decide⟩, rfl⟩
          · skip
            refine Go.sp (g' := (mkF m 68 #[.val (.int p1), .val (.int ((p1 &&& (2147483647 : Int32)) % (65 : Int32)))] [])) (fun T A t r => XS.icmpYes A hx rfl (pc0 := 62) (pc' := 68) rfl (hb hby d_m_2_62) rfl (feq hc15).2 (by decide) (by decide) r) ?_
            refine Go.sp (g' := (mkF m 70 #[.val (.int p1), .val (.int ((p1 &&& (2147483647 : Int32)) % (65 : Int32)))] [(.int (95 : Int32))])) (fun T A t r => XS.bipush A hx rfl (hb hby d_m_2_68) r) ?_
            exact Go.ret (v := (some (.int (nar .char (95 : Int32))))) (fun s' T L fs X hr => retN X hx (t := .char) hret (by simp) (hb hby d_m_2_70) hr) (fun h => by rw [hret] at h; cases h) (by decide) (by decide) ⟨⟨_, rfl, by unfold own_al; decide⟩, rfl⟩
theorem ef_rmW (m : MethodId) (x0 : Int32) : entryFrame m #[(.int x0)] 1 = mkF m 0 #[.val (.int x0)] [] := by first | (simp [entryFrame, mkF, argsToLocals, Value.category]; done) | rfl
set_option maxRecDepth 65536 in
set_option maxHeartbeats 40000000 in
theorem rmW (l : Launch) (Z : State) (a0 : Array Value) (hw : ∀ d ∈ tables_1, d.before a0 Z = true) (wds : List Jvm.Cond) (p1 : Int32) (h0 : Heap) (n0 : Nat) (O0 : Old Z n0 h0)  (hal : own_al p1) :
    Ct l Z a0 own_EL (⟨"com/example/kept_outbox/keptoutbox/api/DestinationName", "isAllowed", "(C)Z"⟩ : MethodName) prog_2_method_3_code 1 (some .boolean) wds ({ frames := 0, cells := 0, slots := 0, locals := 0 } : Room) #[(.int p1)] n0 h0 [] (fun v h => v = some (.int 1) ∧ h = h0) := by
  refine Ct.of (plainFor_of_name pn_com_example_kept_outbox_keptoutbox_api_DestinationName) O0 all0 (own_EW hw) ?_
  intro p e s m below meth c hx hby hml hret hnm
  refine Go.cast (ef_rmW m p1) ?_
  refine Go.sp (g' := (mkF m 1 #[.val (.int p1)] [(.int p1)])) (fun T A t r => XS.iloadN A hx rfl (hb hby d_prog_2_m_3_0) rfl r) ?_
  refine Go.sp (g' := (mkF m 3 #[.val (.int p1)] [(.int (97 : Int32)), (.int p1)])) (fun T A t r => XS.bipush A hx rfl (hb hby d_prog_2_m_3_1) r) ?_
  by_cases hc11 : p1 < (97 : Int32)
  · skip
    refine Go.sp (g' := (mkF m 12 #[.val (.int p1)] [])) (fun T A t r => XS.icmpYes A hx rfl (pc0 := 3) (pc' := 12) rfl (hb hby d_prog_2_m_3_3) rfl (tlt hc11).1 (by decide) (by decide) r) ?_
    refine Go.sp (g' := (mkF m 13 #[.val (.int p1)] [(.int p1)])) (fun T A t r => XS.iloadN A hx rfl (hb hby d_prog_2_m_3_12) rfl r) ?_
    refine Go.sp (g' := (mkF m 15 #[.val (.int p1)] [(.int (65 : Int32)), (.int p1)])) (fun T A t r => XS.bipush A hx rfl (hb hby d_prog_2_m_3_13) r) ?_
    by_cases hc12 : p1 < (65 : Int32)
    · skip
      refine Go.sp (g' := (mkF m 24 #[.val (.int p1)] [])) (fun T A t r => XS.icmpYes A hx rfl (pc0 := 15) (pc' := 24) rfl (hb hby d_prog_2_m_3_15) rfl (tlt hc12).1 (by decide) (by decide) r) ?_
      refine Go.sp (g' := (mkF m 25 #[.val (.int p1)] [(.int p1)])) (fun T A t r => XS.iloadN A hx rfl (hb hby d_prog_2_m_3_24) rfl r) ?_
      refine Go.sp (g' := (mkF m 27 #[.val (.int p1)] [(.int (48 : Int32)), (.int p1)])) (fun T A t r => XS.bipush A hx rfl (hb hby d_prog_2_m_3_25) r) ?_
      by_cases hc13 : p1 < (48 : Int32)
      · skip
        refine Go.sp (g' := (mkF m 36 #[.val (.int p1)] [])) (fun T A t r => XS.icmpYes A hx rfl (pc0 := 27) (pc' := 36) rfl (hb hby d_prog_2_m_3_27) rfl (tlt hc13).1 (by decide) (by decide) r) ?_
        refine Go.sp (g' := (mkF m 37 #[.val (.int p1)] [(.int p1)])) (fun T A t r => XS.iloadN A hx rfl (hb hby d_prog_2_m_3_36) rfl r) ?_
        refine Go.sp (g' := (mkF m 39 #[.val (.int p1)] [(.int (46 : Int32)), (.int p1)])) (fun T A t r => XS.bipush A hx rfl (hb hby d_prog_2_m_3_37) r) ?_
        by_cases hc14 : p1 = (46 : Int32)
        · skip
          refine Go.sp (g' := (mkF m 54 #[.val (.int p1)] [])) (fun T A t r => XS.icmpYes A hx rfl (pc0 := 39) (pc' := 54) rfl (hb hby d_prog_2_m_3_39) rfl (teq hc14).1 (by decide) (by decide) r) ?_
          refine Go.sp (g' := (mkF m 55 #[.val (.int p1)] [(.int (1 : Int32))])) (fun T A t r => XS.iconst A hx rfl (hb hby d_prog_2_m_3_54) r) ?_
          refine Go.sp (g' := (mkF m 59 #[.val (.int p1)] [(.int (1 : Int32))])) (fun T A t r => XS.goto A hx rfl (pc0 := 55) (pc' := 59) rfl (hb hby d_prog_2_m_3_55) (by decide) (by decide) r) ?_
          exact Go.ret (v := (some (.int (nar .boolean (1 : Int32))))) (fun s' T L fs X hr => retN X hx (t := .boolean) hret (by simp) (hb hby d_prog_2_m_3_59) hr) (fun h => by rw [hret] at h; cases h) (by decide) (by decide) ⟨rfl, rfl⟩
        · skip
          refine Go.sp (g' := (mkF m 42 #[.val (.int p1)] [])) (fun T A t r => XS.icmpNo A hx rfl (hb hby d_prog_2_m_3_39) rfl (feq hc14).1 r) ?_
          refine Go.sp (g' := (mkF m 43 #[.val (.int p1)] [(.int p1)])) (fun T A t r => XS.iloadN A hx rfl (hb hby d_prog_2_m_3_42) rfl r) ?_
          refine Go.sp (g' := (mkF m 45 #[.val (.int p1)] [(.int (45 : Int32)), (.int p1)])) (fun T A t r => XS.bipush A hx rfl (hb hby d_prog_2_m_3_43) r) ?_
          by_cases hc15 : p1 = (45 : Int32)
          · skip
            refine Go.sp (g' := (mkF m 54 #[.val (.int p1)] [])) (fun T A t r => XS.icmpYes A hx rfl (pc0 := 45) (pc' := 54) rfl (hb hby d_prog_2_m_3_45) rfl (teq hc15).1 (by decide) (by decide) r) ?_
            refine Go.sp (g' := (mkF m 55 #[.val (.int p1)] [(.int (1 : Int32))])) (fun T A t r => XS.iconst A hx rfl (hb hby d_prog_2_m_3_54) r) ?_
            refine Go.sp (g' := (mkF m 59 #[.val (.int p1)] [(.int (1 : Int32))])) (fun T A t r => XS.goto A hx rfl (pc0 := 55) (pc' := 59) rfl (hb hby d_prog_2_m_3_55) (by decide) (by decide) r) ?_
            exact Go.ret (v := (some (.int (nar .boolean (1 : Int32))))) (fun s' T L fs X hr => retN X hx (t := .boolean) hret (by simp) (hb hby d_prog_2_m_3_59) hr) (fun h => by rw [hret] at h; cases h) (by decide) (by decide) ⟨rfl, rfl⟩
          · skip
            refine Go.sp (g' := (mkF m 48 #[.val (.int p1)] [])) (fun T A t r => XS.icmpNo A hx rfl (hb hby d_prog_2_m_3_45) rfl (feq hc15).1 r) ?_
            refine Go.sp (g' := (mkF m 49 #[.val (.int p1)] [(.int p1)])) (fun T A t r => XS.iloadN A hx rfl (hb hby d_prog_2_m_3_48) rfl r) ?_
            refine Go.sp (g' := (mkF m 51 #[.val (.int p1)] [(.int (95 : Int32)), (.int p1)])) (fun T A t r => XS.bipush A hx rfl (hb hby d_prog_2_m_3_49) r) ?_
            by_cases hc16 : p1 = (95 : Int32)
            · skip
              refine Go.sp (g' := (mkF m 54 #[.val (.int p1)] [])) (fun T A t r => XS.icmpNo A hx rfl (hb hby d_prog_2_m_3_51) rfl (teq hc16).2 r) ?_
              refine Go.sp (g' := (mkF m 55 #[.val (.int p1)] [(.int (1 : Int32))])) (fun T A t r => XS.iconst A hx rfl (hb hby d_prog_2_m_3_54) r) ?_
              refine Go.sp (g' := (mkF m 59 #[.val (.int p1)] [(.int (1 : Int32))])) (fun T A t r => XS.goto A hx rfl (pc0 := 55) (pc' := 59) rfl (hb hby d_prog_2_m_3_55) (by decide) (by decide) r) ?_
              exact Go.ret (v := (some (.int (nar .boolean (1 : Int32))))) (fun s' T L fs X hr => retN X hx (t := .boolean) hret (by simp) (hb hby d_prog_2_m_3_59) hr) (fun h => by rw [hret] at h; cases h) (by decide) (by decide) ⟨rfl, rfl⟩
            · skip
              refine Go.sp (g' := (mkF m 58 #[.val (.int p1)] [])) (fun T A t r => XS.icmpYes A hx rfl (pc0 := 51) (pc' := 58) rfl (hb hby d_prog_2_m_3_51) rfl (feq hc16).2 (by decide) (by decide) r) ?_
              refine Go.sp (g' := (mkF m 59 #[.val (.int p1)] [(.int (0 : Int32))])) (fun T A t r => XS.iconst A hx rfl (hb hby d_prog_2_m_3_58) r) ?_
              exact (own_alno (fun q => q.1 hc11) (fun q => q.1 hc12) (fun q => q.1 hc13) (hc14) (hc15) (hc16) hal).elim
      · skip
        refine Go.sp (g' := (mkF m 30 #[.val (.int p1)] [])) (fun T A t r => XS.icmpNo A hx rfl (hb hby d_prog_2_m_3_27) rfl (flt hc13).1 r) ?_
        refine Go.sp (g' := (mkF m 31 #[.val (.int p1)] [(.int p1)])) (fun T A t r => XS.iloadN A hx rfl (hb hby d_prog_2_m_3_30) rfl r) ?_
        refine Go.sp (g' := (mkF m 33 #[.val (.int p1)] [(.int (57 : Int32)), (.int p1)])) (fun T A t r => XS.bipush A hx rfl (hb hby d_prog_2_m_3_31) r) ?_
        by_cases hc17 : (57 : Int32) < p1
        · skip
          refine Go.sp (g' := (mkF m 36 #[.val (.int p1)] [])) (fun T A t r => XS.icmpNo A hx rfl (hb hby d_prog_2_m_3_33) rfl (tlt hc17).2.2.2 r) ?_
          refine Go.sp (g' := (mkF m 37 #[.val (.int p1)] [(.int p1)])) (fun T A t r => XS.iloadN A hx rfl (hb hby d_prog_2_m_3_36) rfl r) ?_
          refine Go.sp (g' := (mkF m 39 #[.val (.int p1)] [(.int (46 : Int32)), (.int p1)])) (fun T A t r => XS.bipush A hx rfl (hb hby d_prog_2_m_3_37) r) ?_
          by_cases hc18 : p1 = (46 : Int32)
          · skip
            refine Go.sp (g' := (mkF m 54 #[.val (.int p1)] [])) (fun T A t r => XS.icmpYes A hx rfl (pc0 := 39) (pc' := 54) rfl (hb hby d_prog_2_m_3_39) rfl (teq hc18).1 (by decide) (by decide) r) ?_
            refine Go.sp (g' := (mkF m 55 #[.val (.int p1)] [(.int (1 : Int32))])) (fun T A t r => XS.iconst A hx rfl (hb hby d_prog_2_m_3_54) r) ?_
            refine Go.sp (g' := (mkF m 59 #[.val (.int p1)] [(.int (1 : Int32))])) (fun T A t r => XS.goto A hx rfl (pc0 := 55) (pc' := 59) rfl (hb hby d_prog_2_m_3_55) (by decide) (by decide) r) ?_
            exact Go.ret (v := (some (.int (nar .boolean (1 : Int32))))) (fun s' T L fs X hr => retN X hx (t := .boolean) hret (by simp) (hb hby d_prog_2_m_3_59) hr) (fun h => by rw [hret] at h; cases h) (by decide) (by decide) ⟨rfl, rfl⟩
          · skip
            refine Go.sp (g' := (mkF m 42 #[.val (.int p1)] [])) (fun T A t r => XS.icmpNo A hx rfl (hb hby d_prog_2_m_3_39) rfl (feq hc18).1 r) ?_
            refine Go.sp (g' := (mkF m 43 #[.val (.int p1)] [(.int p1)])) (fun T A t r => XS.iloadN A hx rfl (hb hby d_prog_2_m_3_42) rfl r) ?_
            refine Go.sp (g' := (mkF m 45 #[.val (.int p1)] [(.int (45 : Int32)), (.int p1)])) (fun T A t r => XS.bipush A hx rfl (hb hby d_prog_2_m_3_43) r) ?_
            by_cases hc19 : p1 = (45 : Int32)
            · skip
              refine Go.sp (g' := (mkF m 54 #[.val (.int p1)] [])) (fun T A t r => XS.icmpYes A hx rfl (pc0 := 45) (pc' := 54) rfl (hb hby d_prog_2_m_3_45) rfl (teq hc19).1 (by decide) (by decide) r) ?_
              refine Go.sp (g' := (mkF m 55 #[.val (.int p1)] [(.int (1 : Int32))])) (fun T A t r => XS.iconst A hx rfl (hb hby d_prog_2_m_3_54) r) ?_
              refine Go.sp (g' := (mkF m 59 #[.val (.int p1)] [(.int (1 : Int32))])) (fun T A t r => XS.goto A hx rfl (pc0 := 55) (pc' := 59) rfl (hb hby d_prog_2_m_3_55) (by decide) (by decide) r) ?_
              exact Go.ret (v := (some (.int (nar .boolean (1 : Int32))))) (fun s' T L fs X hr => retN X hx (t := .boolean) hret (by simp) (hb hby d_prog_2_m_3_59) hr) (fun h => by rw [hret] at h; cases h) (by decide) (by decide) ⟨rfl, rfl⟩
            · skip
              refine Go.sp (g' := (mkF m 48 #[.val (.int p1)] [])) (fun T A t r => XS.icmpNo A hx rfl (hb hby d_prog_2_m_3_45) rfl (feq hc19).1 r) ?_
              refine Go.sp (g' := (mkF m 49 #[.val (.int p1)] [(.int p1)])) (fun T A t r => XS.iloadN A hx rfl (hb hby d_prog_2_m_3_48) rfl r) ?_
              refine Go.sp (g' := (mkF m 51 #[.val (.int p1)] [(.int (95 : Int32)), (.int p1)])) (fun T A t r => XS.bipush A hx rfl (hb hby d_prog_2_m_3_49) r) ?_
              by_cases hc20 : p1 = (95 : Int32)
              · skip
                refine Go.sp (g' := (mkF m 54 #[.val (.int p1)] [])) (fun T A t r => XS.icmpNo A hx rfl (hb hby d_prog_2_m_3_51) rfl (teq hc20).2 r) ?_
                refine Go.sp (g' := (mkF m 55 #[.val (.int p1)] [(.int (1 : Int32))])) (fun T A t r => XS.iconst A hx rfl (hb hby d_prog_2_m_3_54) r) ?_
                refine Go.sp (g' := (mkF m 59 #[.val (.int p1)] [(.int (1 : Int32))])) (fun T A t r => XS.goto A hx rfl (pc0 := 55) (pc' := 59) rfl (hb hby d_prog_2_m_3_55) (by decide) (by decide) r) ?_
                exact Go.ret (v := (some (.int (nar .boolean (1 : Int32))))) (fun s' T L fs X hr => retN X hx (t := .boolean) hret (by simp) (hb hby d_prog_2_m_3_59) hr) (fun h => by rw [hret] at h; cases h) (by decide) (by decide) ⟨rfl, rfl⟩
              · skip
                refine Go.sp (g' := (mkF m 58 #[.val (.int p1)] [])) (fun T A t r => XS.icmpYes A hx rfl (pc0 := 51) (pc' := 58) rfl (hb hby d_prog_2_m_3_51) rfl (feq hc20).2 (by decide) (by decide) r) ?_
                refine Go.sp (g' := (mkF m 59 #[.val (.int p1)] [(.int (0 : Int32))])) (fun T A t r => XS.iconst A hx rfl (hb hby d_prog_2_m_3_58) r) ?_
                exact (own_alno (fun q => q.1 hc11) (fun q => q.1 hc12) (fun q => q.2 hc17) (hc18) (hc19) (hc20) hal).elim
        · skip
          refine Go.sp (g' := (mkF m 54 #[.val (.int p1)] [])) (fun T A t r => XS.icmpYes A hx rfl (pc0 := 33) (pc' := 54) rfl (hb hby d_prog_2_m_3_33) rfl (flt hc17).2.2.2 (by decide) (by decide) r) ?_
          refine Go.sp (g' := (mkF m 55 #[.val (.int p1)] [(.int (1 : Int32))])) (fun T A t r => XS.iconst A hx rfl (hb hby d_prog_2_m_3_54) r) ?_
          refine Go.sp (g' := (mkF m 59 #[.val (.int p1)] [(.int (1 : Int32))])) (fun T A t r => XS.goto A hx rfl (pc0 := 55) (pc' := 59) rfl (hb hby d_prog_2_m_3_55) (by decide) (by decide) r) ?_
          exact Go.ret (v := (some (.int (nar .boolean (1 : Int32))))) (fun s' T L fs X hr => retN X hx (t := .boolean) hret (by simp) (hb hby d_prog_2_m_3_59) hr) (fun h => by rw [hret] at h; cases h) (by decide) (by decide) ⟨rfl, rfl⟩
    · skip
      refine Go.sp (g' := (mkF m 18 #[.val (.int p1)] [])) (fun T A t r => XS.icmpNo A hx rfl (hb hby d_prog_2_m_3_15) rfl (flt hc12).1 r) ?_
      refine Go.sp (g' := (mkF m 19 #[.val (.int p1)] [(.int p1)])) (fun T A t r => XS.iloadN A hx rfl (hb hby d_prog_2_m_3_18) rfl r) ?_
      refine Go.sp (g' := (mkF m 21 #[.val (.int p1)] [(.int (90 : Int32)), (.int p1)])) (fun T A t r => XS.bipush A hx rfl (hb hby d_prog_2_m_3_19) r) ?_
      by_cases hc21 : (90 : Int32) < p1
      · skip
        refine Go.sp (g' := (mkF m 24 #[.val (.int p1)] [])) (fun T A t r => XS.icmpNo A hx rfl (hb hby d_prog_2_m_3_21) rfl (tlt hc21).2.2.2 r) ?_
        refine Go.sp (g' := (mkF m 25 #[.val (.int p1)] [(.int p1)])) (fun T A t r => XS.iloadN A hx rfl (hb hby d_prog_2_m_3_24) rfl r) ?_
        refine Go.sp (g' := (mkF m 27 #[.val (.int p1)] [(.int (48 : Int32)), (.int p1)])) (fun T A t r => XS.bipush A hx rfl (hb hby d_prog_2_m_3_25) r) ?_
        by_cases hc22 : p1 < (48 : Int32)
        · skip
          refine Go.sp (g' := (mkF m 36 #[.val (.int p1)] [])) (fun T A t r => XS.icmpYes A hx rfl (pc0 := 27) (pc' := 36) rfl (hb hby d_prog_2_m_3_27) rfl (tlt hc22).1 (by decide) (by decide) r) ?_
          refine Go.sp (g' := (mkF m 37 #[.val (.int p1)] [(.int p1)])) (fun T A t r => XS.iloadN A hx rfl (hb hby d_prog_2_m_3_36) rfl r) ?_
          refine Go.sp (g' := (mkF m 39 #[.val (.int p1)] [(.int (46 : Int32)), (.int p1)])) (fun T A t r => XS.bipush A hx rfl (hb hby d_prog_2_m_3_37) r) ?_
          by_cases hc23 : p1 = (46 : Int32)
          · skip
            refine Go.sp (g' := (mkF m 54 #[.val (.int p1)] [])) (fun T A t r => XS.icmpYes A hx rfl (pc0 := 39) (pc' := 54) rfl (hb hby d_prog_2_m_3_39) rfl (teq hc23).1 (by decide) (by decide) r) ?_
            refine Go.sp (g' := (mkF m 55 #[.val (.int p1)] [(.int (1 : Int32))])) (fun T A t r => XS.iconst A hx rfl (hb hby d_prog_2_m_3_54) r) ?_
            refine Go.sp (g' := (mkF m 59 #[.val (.int p1)] [(.int (1 : Int32))])) (fun T A t r => XS.goto A hx rfl (pc0 := 55) (pc' := 59) rfl (hb hby d_prog_2_m_3_55) (by decide) (by decide) r) ?_
            exact Go.ret (v := (some (.int (nar .boolean (1 : Int32))))) (fun s' T L fs X hr => retN X hx (t := .boolean) hret (by simp) (hb hby d_prog_2_m_3_59) hr) (fun h => by rw [hret] at h; cases h) (by decide) (by decide) ⟨rfl, rfl⟩
          · skip
            refine Go.sp (g' := (mkF m 42 #[.val (.int p1)] [])) (fun T A t r => XS.icmpNo A hx rfl (hb hby d_prog_2_m_3_39) rfl (feq hc23).1 r) ?_
            refine Go.sp (g' := (mkF m 43 #[.val (.int p1)] [(.int p1)])) (fun T A t r => XS.iloadN A hx rfl (hb hby d_prog_2_m_3_42) rfl r) ?_
            refine Go.sp (g' := (mkF m 45 #[.val (.int p1)] [(.int (45 : Int32)), (.int p1)])) (fun T A t r => XS.bipush A hx rfl (hb hby d_prog_2_m_3_43) r) ?_
            by_cases hc24 : p1 = (45 : Int32)
            · skip
              refine Go.sp (g' := (mkF m 54 #[.val (.int p1)] [])) (fun T A t r => XS.icmpYes A hx rfl (pc0 := 45) (pc' := 54) rfl (hb hby d_prog_2_m_3_45) rfl (teq hc24).1 (by decide) (by decide) r) ?_
              refine Go.sp (g' := (mkF m 55 #[.val (.int p1)] [(.int (1 : Int32))])) (fun T A t r => XS.iconst A hx rfl (hb hby d_prog_2_m_3_54) r) ?_
              refine Go.sp (g' := (mkF m 59 #[.val (.int p1)] [(.int (1 : Int32))])) (fun T A t r => XS.goto A hx rfl (pc0 := 55) (pc' := 59) rfl (hb hby d_prog_2_m_3_55) (by decide) (by decide) r) ?_
              exact Go.ret (v := (some (.int (nar .boolean (1 : Int32))))) (fun s' T L fs X hr => retN X hx (t := .boolean) hret (by simp) (hb hby d_prog_2_m_3_59) hr) (fun h => by rw [hret] at h; cases h) (by decide) (by decide) ⟨rfl, rfl⟩
            · skip
              refine Go.sp (g' := (mkF m 48 #[.val (.int p1)] [])) (fun T A t r => XS.icmpNo A hx rfl (hb hby d_prog_2_m_3_45) rfl (feq hc24).1 r) ?_
              refine Go.sp (g' := (mkF m 49 #[.val (.int p1)] [(.int p1)])) (fun T A t r => XS.iloadN A hx rfl (hb hby d_prog_2_m_3_48) rfl r) ?_
              refine Go.sp (g' := (mkF m 51 #[.val (.int p1)] [(.int (95 : Int32)), (.int p1)])) (fun T A t r => XS.bipush A hx rfl (hb hby d_prog_2_m_3_49) r) ?_
              by_cases hc25 : p1 = (95 : Int32)
              · skip
                refine Go.sp (g' := (mkF m 54 #[.val (.int p1)] [])) (fun T A t r => XS.icmpNo A hx rfl (hb hby d_prog_2_m_3_51) rfl (teq hc25).2 r) ?_
                refine Go.sp (g' := (mkF m 55 #[.val (.int p1)] [(.int (1 : Int32))])) (fun T A t r => XS.iconst A hx rfl (hb hby d_prog_2_m_3_54) r) ?_
                refine Go.sp (g' := (mkF m 59 #[.val (.int p1)] [(.int (1 : Int32))])) (fun T A t r => XS.goto A hx rfl (pc0 := 55) (pc' := 59) rfl (hb hby d_prog_2_m_3_55) (by decide) (by decide) r) ?_
                exact Go.ret (v := (some (.int (nar .boolean (1 : Int32))))) (fun s' T L fs X hr => retN X hx (t := .boolean) hret (by simp) (hb hby d_prog_2_m_3_59) hr) (fun h => by rw [hret] at h; cases h) (by decide) (by decide) ⟨rfl, rfl⟩
              · skip
                refine Go.sp (g' := (mkF m 58 #[.val (.int p1)] [])) (fun T A t r => XS.icmpYes A hx rfl (pc0 := 51) (pc' := 58) rfl (hb hby d_prog_2_m_3_51) rfl (feq hc25).2 (by decide) (by decide) r) ?_
                refine Go.sp (g' := (mkF m 59 #[.val (.int p1)] [(.int (0 : Int32))])) (fun T A t r => XS.iconst A hx rfl (hb hby d_prog_2_m_3_58) r) ?_
                exact (own_alno (fun q => q.1 hc11) (fun q => q.2 hc21) (fun q => q.1 hc22) (hc23) (hc24) (hc25) hal).elim
        · skip
          refine Go.sp (g' := (mkF m 30 #[.val (.int p1)] [])) (fun T A t r => XS.icmpNo A hx rfl (hb hby d_prog_2_m_3_27) rfl (flt hc22).1 r) ?_
          refine Go.sp (g' := (mkF m 31 #[.val (.int p1)] [(.int p1)])) (fun T A t r => XS.iloadN A hx rfl (hb hby d_prog_2_m_3_30) rfl r) ?_
          refine Go.sp (g' := (mkF m 33 #[.val (.int p1)] [(.int (57 : Int32)), (.int p1)])) (fun T A t r => XS.bipush A hx rfl (hb hby d_prog_2_m_3_31) r) ?_
          by_cases hc26 : (57 : Int32) < p1
          · skip
            refine Go.sp (g' := (mkF m 36 #[.val (.int p1)] [])) (fun T A t r => XS.icmpNo A hx rfl (hb hby d_prog_2_m_3_33) rfl (tlt hc26).2.2.2 r) ?_
            refine Go.sp (g' := (mkF m 37 #[.val (.int p1)] [(.int p1)])) (fun T A t r => XS.iloadN A hx rfl (hb hby d_prog_2_m_3_36) rfl r) ?_
            refine Go.sp (g' := (mkF m 39 #[.val (.int p1)] [(.int (46 : Int32)), (.int p1)])) (fun T A t r => XS.bipush A hx rfl (hb hby d_prog_2_m_3_37) r) ?_
            by_cases hc27 : p1 = (46 : Int32)
            · skip
              refine Go.sp (g' := (mkF m 54 #[.val (.int p1)] [])) (fun T A t r => XS.icmpYes A hx rfl (pc0 := 39) (pc' := 54) rfl (hb hby d_prog_2_m_3_39) rfl (teq hc27).1 (by decide) (by decide) r) ?_
              refine Go.sp (g' := (mkF m 55 #[.val (.int p1)] [(.int (1 : Int32))])) (fun T A t r => XS.iconst A hx rfl (hb hby d_prog_2_m_3_54) r) ?_
              refine Go.sp (g' := (mkF m 59 #[.val (.int p1)] [(.int (1 : Int32))])) (fun T A t r => XS.goto A hx rfl (pc0 := 55) (pc' := 59) rfl (hb hby d_prog_2_m_3_55) (by decide) (by decide) r) ?_
              exact Go.ret (v := (some (.int (nar .boolean (1 : Int32))))) (fun s' T L fs X hr => retN X hx (t := .boolean) hret (by simp) (hb hby d_prog_2_m_3_59) hr) (fun h => by rw [hret] at h; cases h) (by decide) (by decide) ⟨rfl, rfl⟩
            · skip
              refine Go.sp (g' := (mkF m 42 #[.val (.int p1)] [])) (fun T A t r => XS.icmpNo A hx rfl (hb hby d_prog_2_m_3_39) rfl (feq hc27).1 r) ?_
              refine Go.sp (g' := (mkF m 43 #[.val (.int p1)] [(.int p1)])) (fun T A t r => XS.iloadN A hx rfl (hb hby d_prog_2_m_3_42) rfl r) ?_
              refine Go.sp (g' := (mkF m 45 #[.val (.int p1)] [(.int (45 : Int32)), (.int p1)])) (fun T A t r => XS.bipush A hx rfl (hb hby d_prog_2_m_3_43) r) ?_
              by_cases hc28 : p1 = (45 : Int32)
              · skip
                refine Go.sp (g' := (mkF m 54 #[.val (.int p1)] [])) (fun T A t r => XS.icmpYes A hx rfl (pc0 := 45) (pc' := 54) rfl (hb hby d_prog_2_m_3_45) rfl (teq hc28).1 (by decide) (by decide) r) ?_
                refine Go.sp (g' := (mkF m 55 #[.val (.int p1)] [(.int (1 : Int32))])) (fun T A t r => XS.iconst A hx rfl (hb hby d_prog_2_m_3_54) r) ?_
                refine Go.sp (g' := (mkF m 59 #[.val (.int p1)] [(.int (1 : Int32))])) (fun T A t r => XS.goto A hx rfl (pc0 := 55) (pc' := 59) rfl (hb hby d_prog_2_m_3_55) (by decide) (by decide) r) ?_
                exact Go.ret (v := (some (.int (nar .boolean (1 : Int32))))) (fun s' T L fs X hr => retN X hx (t := .boolean) hret (by simp) (hb hby d_prog_2_m_3_59) hr) (fun h => by rw [hret] at h; cases h) (by decide) (by decide) ⟨rfl, rfl⟩
              · skip
                refine Go.sp (g' := (mkF m 48 #[.val (.int p1)] [])) (fun T A t r => XS.icmpNo A hx rfl (hb hby d_prog_2_m_3_45) rfl (feq hc28).1 r) ?_
                refine Go.sp (g' := (mkF m 49 #[.val (.int p1)] [(.int p1)])) (fun T A t r => XS.iloadN A hx rfl (hb hby d_prog_2_m_3_48) rfl r) ?_
                refine Go.sp (g' := (mkF m 51 #[.val (.int p1)] [(.int (95 : Int32)), (.int p1)])) (fun T A t r => XS.bipush A hx rfl (hb hby d_prog_2_m_3_49) r) ?_
                by_cases hc29 : p1 = (95 : Int32)
                · skip
                  refine Go.sp (g' := (mkF m 54 #[.val (.int p1)] [])) (fun T A t r => XS.icmpNo A hx rfl (hb hby d_prog_2_m_3_51) rfl (teq hc29).2 r) ?_
                  refine Go.sp (g' := (mkF m 55 #[.val (.int p1)] [(.int (1 : Int32))])) (fun T A t r => XS.iconst A hx rfl (hb hby d_prog_2_m_3_54) r) ?_
                  refine Go.sp (g' := (mkF m 59 #[.val (.int p1)] [(.int (1 : Int32))])) (fun T A t r => XS.goto A hx rfl (pc0 := 55) (pc' := 59) rfl (hb hby d_prog_2_m_3_55) (by decide) (by decide) r) ?_
                  exact Go.ret (v := (some (.int (nar .boolean (1 : Int32))))) (fun s' T L fs X hr => retN X hx (t := .boolean) hret (by simp) (hb hby d_prog_2_m_3_59) hr) (fun h => by rw [hret] at h; cases h) (by decide) (by decide) ⟨rfl, rfl⟩
                · skip
                  refine Go.sp (g' := (mkF m 58 #[.val (.int p1)] [])) (fun T A t r => XS.icmpYes A hx rfl (pc0 := 51) (pc' := 58) rfl (hb hby d_prog_2_m_3_51) rfl (feq hc29).2 (by decide) (by decide) r) ?_
                  refine Go.sp (g' := (mkF m 59 #[.val (.int p1)] [(.int (0 : Int32))])) (fun T A t r => XS.iconst A hx rfl (hb hby d_prog_2_m_3_58) r) ?_
                  exact (own_alno (fun q => q.1 hc11) (fun q => q.2 hc21) (fun q => q.2 hc26) (hc27) (hc28) (hc29) hal).elim
          · skip
            refine Go.sp (g' := (mkF m 54 #[.val (.int p1)] [])) (fun T A t r => XS.icmpYes A hx rfl (pc0 := 33) (pc' := 54) rfl (hb hby d_prog_2_m_3_33) rfl (flt hc26).2.2.2 (by decide) (by decide) r) ?_
            refine Go.sp (g' := (mkF m 55 #[.val (.int p1)] [(.int (1 : Int32))])) (fun T A t r => XS.iconst A hx rfl (hb hby d_prog_2_m_3_54) r) ?_
            refine Go.sp (g' := (mkF m 59 #[.val (.int p1)] [(.int (1 : Int32))])) (fun T A t r => XS.goto A hx rfl (pc0 := 55) (pc' := 59) rfl (hb hby d_prog_2_m_3_55) (by decide) (by decide) r) ?_
            exact Go.ret (v := (some (.int (nar .boolean (1 : Int32))))) (fun s' T L fs X hr => retN X hx (t := .boolean) hret (by simp) (hb hby d_prog_2_m_3_59) hr) (fun h => by rw [hret] at h; cases h) (by decide) (by decide) ⟨rfl, rfl⟩
      · skip
        refine Go.sp (g' := (mkF m 54 #[.val (.int p1)] [])) (fun T A t r => XS.icmpYes A hx rfl (pc0 := 21) (pc' := 54) rfl (hb hby d_prog_2_m_3_21) rfl (flt hc21).2.2.2 (by decide) (by decide) r) ?_
        refine Go.sp (g' := (mkF m 55 #[.val (.int p1)] [(.int (1 : Int32))])) (fun T A t r => XS.iconst A hx rfl (hb hby d_prog_2_m_3_54) r) ?_
        refine Go.sp (g' := (mkF m 59 #[.val (.int p1)] [(.int (1 : Int32))])) (fun T A t r => XS.goto A hx rfl (pc0 := 55) (pc' := 59) rfl (hb hby d_prog_2_m_3_55) (by decide) (by decide) r) ?_
        exact Go.ret (v := (some (.int (nar .boolean (1 : Int32))))) (fun s' T L fs X hr => retN X hx (t := .boolean) hret (by simp) (hb hby d_prog_2_m_3_59) hr) (fun h => by rw [hret] at h; cases h) (by decide) (by decide) ⟨rfl, rfl⟩
  · skip
    refine Go.sp (g' := (mkF m 6 #[.val (.int p1)] [])) (fun T A t r => XS.icmpNo A hx rfl (hb hby d_prog_2_m_3_3) rfl (flt hc11).1 r) ?_
    refine Go.sp (g' := (mkF m 7 #[.val (.int p1)] [(.int p1)])) (fun T A t r => XS.iloadN A hx rfl (hb hby d_prog_2_m_3_6) rfl r) ?_
    refine Go.sp (g' := (mkF m 9 #[.val (.int p1)] [(.int (122 : Int32)), (.int p1)])) (fun T A t r => XS.bipush A hx rfl (hb hby d_prog_2_m_3_7) r) ?_
    by_cases hc30 : (122 : Int32) < p1
    · skip
      refine Go.sp (g' := (mkF m 12 #[.val (.int p1)] [])) (fun T A t r => XS.icmpNo A hx rfl (hb hby d_prog_2_m_3_9) rfl (tlt hc30).2.2.2 r) ?_
      refine Go.sp (g' := (mkF m 13 #[.val (.int p1)] [(.int p1)])) (fun T A t r => XS.iloadN A hx rfl (hb hby d_prog_2_m_3_12) rfl r) ?_
      refine Go.sp (g' := (mkF m 15 #[.val (.int p1)] [(.int (65 : Int32)), (.int p1)])) (fun T A t r => XS.bipush A hx rfl (hb hby d_prog_2_m_3_13) r) ?_
      by_cases hc31 : p1 < (65 : Int32)
      · skip
        refine Go.sp (g' := (mkF m 24 #[.val (.int p1)] [])) (fun T A t r => XS.icmpYes A hx rfl (pc0 := 15) (pc' := 24) rfl (hb hby d_prog_2_m_3_15) rfl (tlt hc31).1 (by decide) (by decide) r) ?_
        refine Go.sp (g' := (mkF m 25 #[.val (.int p1)] [(.int p1)])) (fun T A t r => XS.iloadN A hx rfl (hb hby d_prog_2_m_3_24) rfl r) ?_
        refine Go.sp (g' := (mkF m 27 #[.val (.int p1)] [(.int (48 : Int32)), (.int p1)])) (fun T A t r => XS.bipush A hx rfl (hb hby d_prog_2_m_3_25) r) ?_
        by_cases hc32 : p1 < (48 : Int32)
        · skip
          refine Go.sp (g' := (mkF m 36 #[.val (.int p1)] [])) (fun T A t r => XS.icmpYes A hx rfl (pc0 := 27) (pc' := 36) rfl (hb hby d_prog_2_m_3_27) rfl (tlt hc32).1 (by decide) (by decide) r) ?_
          refine Go.sp (g' := (mkF m 37 #[.val (.int p1)] [(.int p1)])) (fun T A t r => XS.iloadN A hx rfl (hb hby d_prog_2_m_3_36) rfl r) ?_
          refine Go.sp (g' := (mkF m 39 #[.val (.int p1)] [(.int (46 : Int32)), (.int p1)])) (fun T A t r => XS.bipush A hx rfl (hb hby d_prog_2_m_3_37) r) ?_
          by_cases hc33 : p1 = (46 : Int32)
          · skip
            refine Go.sp (g' := (mkF m 54 #[.val (.int p1)] [])) (fun T A t r => XS.icmpYes A hx rfl (pc0 := 39) (pc' := 54) rfl (hb hby d_prog_2_m_3_39) rfl (teq hc33).1 (by decide) (by decide) r) ?_
            refine Go.sp (g' := (mkF m 55 #[.val (.int p1)] [(.int (1 : Int32))])) (fun T A t r => XS.iconst A hx rfl (hb hby d_prog_2_m_3_54) r) ?_
            refine Go.sp (g' := (mkF m 59 #[.val (.int p1)] [(.int (1 : Int32))])) (fun T A t r => XS.goto A hx rfl (pc0 := 55) (pc' := 59) rfl (hb hby d_prog_2_m_3_55) (by decide) (by decide) r) ?_
            exact Go.ret (v := (some (.int (nar .boolean (1 : Int32))))) (fun s' T L fs X hr => retN X hx (t := .boolean) hret (by simp) (hb hby d_prog_2_m_3_59) hr) (fun h => by rw [hret] at h; cases h) (by decide) (by decide) ⟨rfl, rfl⟩
          · skip
            refine Go.sp (g' := (mkF m 42 #[.val (.int p1)] [])) (fun T A t r => XS.icmpNo A hx rfl (hb hby d_prog_2_m_3_39) rfl (feq hc33).1 r) ?_
            refine Go.sp (g' := (mkF m 43 #[.val (.int p1)] [(.int p1)])) (fun T A t r => XS.iloadN A hx rfl (hb hby d_prog_2_m_3_42) rfl r) ?_
            refine Go.sp (g' := (mkF m 45 #[.val (.int p1)] [(.int (45 : Int32)), (.int p1)])) (fun T A t r => XS.bipush A hx rfl (hb hby d_prog_2_m_3_43) r) ?_
            by_cases hc34 : p1 = (45 : Int32)
            · skip
              refine Go.sp (g' := (mkF m 54 #[.val (.int p1)] [])) (fun T A t r => XS.icmpYes A hx rfl (pc0 := 45) (pc' := 54) rfl (hb hby d_prog_2_m_3_45) rfl (teq hc34).1 (by decide) (by decide) r) ?_
              refine Go.sp (g' := (mkF m 55 #[.val (.int p1)] [(.int (1 : Int32))])) (fun T A t r => XS.iconst A hx rfl (hb hby d_prog_2_m_3_54) r) ?_
              refine Go.sp (g' := (mkF m 59 #[.val (.int p1)] [(.int (1 : Int32))])) (fun T A t r => XS.goto A hx rfl (pc0 := 55) (pc' := 59) rfl (hb hby d_prog_2_m_3_55) (by decide) (by decide) r) ?_
              exact Go.ret (v := (some (.int (nar .boolean (1 : Int32))))) (fun s' T L fs X hr => retN X hx (t := .boolean) hret (by simp) (hb hby d_prog_2_m_3_59) hr) (fun h => by rw [hret] at h; cases h) (by decide) (by decide) ⟨rfl, rfl⟩
            · skip
              refine Go.sp (g' := (mkF m 48 #[.val (.int p1)] [])) (fun T A t r => XS.icmpNo A hx rfl (hb hby d_prog_2_m_3_45) rfl (feq hc34).1 r) ?_
              refine Go.sp (g' := (mkF m 49 #[.val (.int p1)] [(.int p1)])) (fun T A t r => XS.iloadN A hx rfl (hb hby d_prog_2_m_3_48) rfl r) ?_
              refine Go.sp (g' := (mkF m 51 #[.val (.int p1)] [(.int (95 : Int32)), (.int p1)])) (fun T A t r => XS.bipush A hx rfl (hb hby d_prog_2_m_3_49) r) ?_
              by_cases hc35 : p1 = (95 : Int32)
              · skip
                refine Go.sp (g' := (mkF m 54 #[.val (.int p1)] [])) (fun T A t r => XS.icmpNo A hx rfl (hb hby d_prog_2_m_3_51) rfl (teq hc35).2 r) ?_
                refine Go.sp (g' := (mkF m 55 #[.val (.int p1)] [(.int (1 : Int32))])) (fun T A t r => XS.iconst A hx rfl (hb hby d_prog_2_m_3_54) r) ?_
                refine Go.sp (g' := (mkF m 59 #[.val (.int p1)] [(.int (1 : Int32))])) (fun T A t r => XS.goto A hx rfl (pc0 := 55) (pc' := 59) rfl (hb hby d_prog_2_m_3_55) (by decide) (by decide) r) ?_
                exact Go.ret (v := (some (.int (nar .boolean (1 : Int32))))) (fun s' T L fs X hr => retN X hx (t := .boolean) hret (by simp) (hb hby d_prog_2_m_3_59) hr) (fun h => by rw [hret] at h; cases h) (by decide) (by decide) ⟨rfl, rfl⟩
              · skip
                refine Go.sp (g' := (mkF m 58 #[.val (.int p1)] [])) (fun T A t r => XS.icmpYes A hx rfl (pc0 := 51) (pc' := 58) rfl (hb hby d_prog_2_m_3_51) rfl (feq hc35).2 (by decide) (by decide) r) ?_
                refine Go.sp (g' := (mkF m 59 #[.val (.int p1)] [(.int (0 : Int32))])) (fun T A t r => XS.iconst A hx rfl (hb hby d_prog_2_m_3_58) r) ?_
                exact (own_alno (fun q => q.2 hc30) (fun q => q.1 hc31) (fun q => q.1 hc32) (hc33) (hc34) (hc35) hal).elim
        · skip
          refine Go.sp (g' := (mkF m 30 #[.val (.int p1)] [])) (fun T A t r => XS.icmpNo A hx rfl (hb hby d_prog_2_m_3_27) rfl (flt hc32).1 r) ?_
          refine Go.sp (g' := (mkF m 31 #[.val (.int p1)] [(.int p1)])) (fun T A t r => XS.iloadN A hx rfl (hb hby d_prog_2_m_3_30) rfl r) ?_
          refine Go.sp (g' := (mkF m 33 #[.val (.int p1)] [(.int (57 : Int32)), (.int p1)])) (fun T A t r => XS.bipush A hx rfl (hb hby d_prog_2_m_3_31) r) ?_
          by_cases hc36 : (57 : Int32) < p1
          · skip
            refine Go.sp (g' := (mkF m 36 #[.val (.int p1)] [])) (fun T A t r => XS.icmpNo A hx rfl (hb hby d_prog_2_m_3_33) rfl (tlt hc36).2.2.2 r) ?_
            refine Go.sp (g' := (mkF m 37 #[.val (.int p1)] [(.int p1)])) (fun T A t r => XS.iloadN A hx rfl (hb hby d_prog_2_m_3_36) rfl r) ?_
            refine Go.sp (g' := (mkF m 39 #[.val (.int p1)] [(.int (46 : Int32)), (.int p1)])) (fun T A t r => XS.bipush A hx rfl (hb hby d_prog_2_m_3_37) r) ?_
            by_cases hc37 : p1 = (46 : Int32)
            · skip
              refine Go.sp (g' := (mkF m 54 #[.val (.int p1)] [])) (fun T A t r => XS.icmpYes A hx rfl (pc0 := 39) (pc' := 54) rfl (hb hby d_prog_2_m_3_39) rfl (teq hc37).1 (by decide) (by decide) r) ?_
              refine Go.sp (g' := (mkF m 55 #[.val (.int p1)] [(.int (1 : Int32))])) (fun T A t r => XS.iconst A hx rfl (hb hby d_prog_2_m_3_54) r) ?_
              refine Go.sp (g' := (mkF m 59 #[.val (.int p1)] [(.int (1 : Int32))])) (fun T A t r => XS.goto A hx rfl (pc0 := 55) (pc' := 59) rfl (hb hby d_prog_2_m_3_55) (by decide) (by decide) r) ?_
              exact Go.ret (v := (some (.int (nar .boolean (1 : Int32))))) (fun s' T L fs X hr => retN X hx (t := .boolean) hret (by simp) (hb hby d_prog_2_m_3_59) hr) (fun h => by rw [hret] at h; cases h) (by decide) (by decide) ⟨rfl, rfl⟩
            · skip
              refine Go.sp (g' := (mkF m 42 #[.val (.int p1)] [])) (fun T A t r => XS.icmpNo A hx rfl (hb hby d_prog_2_m_3_39) rfl (feq hc37).1 r) ?_
              refine Go.sp (g' := (mkF m 43 #[.val (.int p1)] [(.int p1)])) (fun T A t r => XS.iloadN A hx rfl (hb hby d_prog_2_m_3_42) rfl r) ?_
              refine Go.sp (g' := (mkF m 45 #[.val (.int p1)] [(.int (45 : Int32)), (.int p1)])) (fun T A t r => XS.bipush A hx rfl (hb hby d_prog_2_m_3_43) r) ?_
              by_cases hc38 : p1 = (45 : Int32)
              · skip
                refine Go.sp (g' := (mkF m 54 #[.val (.int p1)] [])) (fun T A t r => XS.icmpYes A hx rfl (pc0 := 45) (pc' := 54) rfl (hb hby d_prog_2_m_3_45) rfl (teq hc38).1 (by decide) (by decide) r) ?_
                refine Go.sp (g' := (mkF m 55 #[.val (.int p1)] [(.int (1 : Int32))])) (fun T A t r => XS.iconst A hx rfl (hb hby d_prog_2_m_3_54) r) ?_
                refine Go.sp (g' := (mkF m 59 #[.val (.int p1)] [(.int (1 : Int32))])) (fun T A t r => XS.goto A hx rfl (pc0 := 55) (pc' := 59) rfl (hb hby d_prog_2_m_3_55) (by decide) (by decide) r) ?_
                exact Go.ret (v := (some (.int (nar .boolean (1 : Int32))))) (fun s' T L fs X hr => retN X hx (t := .boolean) hret (by simp) (hb hby d_prog_2_m_3_59) hr) (fun h => by rw [hret] at h; cases h) (by decide) (by decide) ⟨rfl, rfl⟩
              · skip
                refine Go.sp (g' := (mkF m 48 #[.val (.int p1)] [])) (fun T A t r => XS.icmpNo A hx rfl (hb hby d_prog_2_m_3_45) rfl (feq hc38).1 r) ?_
                refine Go.sp (g' := (mkF m 49 #[.val (.int p1)] [(.int p1)])) (fun T A t r => XS.iloadN A hx rfl (hb hby d_prog_2_m_3_48) rfl r) ?_
                refine Go.sp (g' := (mkF m 51 #[.val (.int p1)] [(.int (95 : Int32)), (.int p1)])) (fun T A t r => XS.bipush A hx rfl (hb hby d_prog_2_m_3_49) r) ?_
                by_cases hc39 : p1 = (95 : Int32)
                · skip
                  refine Go.sp (g' := (mkF m 54 #[.val (.int p1)] [])) (fun T A t r => XS.icmpNo A hx rfl (hb hby d_prog_2_m_3_51) rfl (teq hc39).2 r) ?_
                  refine Go.sp (g' := (mkF m 55 #[.val (.int p1)] [(.int (1 : Int32))])) (fun T A t r => XS.iconst A hx rfl (hb hby d_prog_2_m_3_54) r) ?_
                  refine Go.sp (g' := (mkF m 59 #[.val (.int p1)] [(.int (1 : Int32))])) (fun T A t r => XS.goto A hx rfl (pc0 := 55) (pc' := 59) rfl (hb hby d_prog_2_m_3_55) (by decide) (by decide) r) ?_
                  exact Go.ret (v := (some (.int (nar .boolean (1 : Int32))))) (fun s' T L fs X hr => retN X hx (t := .boolean) hret (by simp) (hb hby d_prog_2_m_3_59) hr) (fun h => by rw [hret] at h; cases h) (by decide) (by decide) ⟨rfl, rfl⟩
                · skip
                  refine Go.sp (g' := (mkF m 58 #[.val (.int p1)] [])) (fun T A t r => XS.icmpYes A hx rfl (pc0 := 51) (pc' := 58) rfl (hb hby d_prog_2_m_3_51) rfl (feq hc39).2 (by decide) (by decide) r) ?_
                  refine Go.sp (g' := (mkF m 59 #[.val (.int p1)] [(.int (0 : Int32))])) (fun T A t r => XS.iconst A hx rfl (hb hby d_prog_2_m_3_58) r) ?_
                  exact (own_alno (fun q => q.2 hc30) (fun q => q.1 hc31) (fun q => q.2 hc36) (hc37) (hc38) (hc39) hal).elim
          · skip
            refine Go.sp (g' := (mkF m 54 #[.val (.int p1)] [])) (fun T A t r => XS.icmpYes A hx rfl (pc0 := 33) (pc' := 54) rfl (hb hby d_prog_2_m_3_33) rfl (flt hc36).2.2.2 (by decide) (by decide) r) ?_
            refine Go.sp (g' := (mkF m 55 #[.val (.int p1)] [(.int (1 : Int32))])) (fun T A t r => XS.iconst A hx rfl (hb hby d_prog_2_m_3_54) r) ?_
            refine Go.sp (g' := (mkF m 59 #[.val (.int p1)] [(.int (1 : Int32))])) (fun T A t r => XS.goto A hx rfl (pc0 := 55) (pc' := 59) rfl (hb hby d_prog_2_m_3_55) (by decide) (by decide) r) ?_
            exact Go.ret (v := (some (.int (nar .boolean (1 : Int32))))) (fun s' T L fs X hr => retN X hx (t := .boolean) hret (by simp) (hb hby d_prog_2_m_3_59) hr) (fun h => by rw [hret] at h; cases h) (by decide) (by decide) ⟨rfl, rfl⟩
      · skip
        refine Go.sp (g' := (mkF m 18 #[.val (.int p1)] [])) (fun T A t r => XS.icmpNo A hx rfl (hb hby d_prog_2_m_3_15) rfl (flt hc31).1 r) ?_
        refine Go.sp (g' := (mkF m 19 #[.val (.int p1)] [(.int p1)])) (fun T A t r => XS.iloadN A hx rfl (hb hby d_prog_2_m_3_18) rfl r) ?_
        refine Go.sp (g' := (mkF m 21 #[.val (.int p1)] [(.int (90 : Int32)), (.int p1)])) (fun T A t r => XS.bipush A hx rfl (hb hby d_prog_2_m_3_19) r) ?_
        by_cases hc40 : (90 : Int32) < p1
        · skip
          refine Go.sp (g' := (mkF m 24 #[.val (.int p1)] [])) (fun T A t r => XS.icmpNo A hx rfl (hb hby d_prog_2_m_3_21) rfl (tlt hc40).2.2.2 r) ?_
          refine Go.sp (g' := (mkF m 25 #[.val (.int p1)] [(.int p1)])) (fun T A t r => XS.iloadN A hx rfl (hb hby d_prog_2_m_3_24) rfl r) ?_
          refine Go.sp (g' := (mkF m 27 #[.val (.int p1)] [(.int (48 : Int32)), (.int p1)])) (fun T A t r => XS.bipush A hx rfl (hb hby d_prog_2_m_3_25) r) ?_
          by_cases hc41 : p1 < (48 : Int32)
          · skip
            refine Go.sp (g' := (mkF m 36 #[.val (.int p1)] [])) (fun T A t r => XS.icmpYes A hx rfl (pc0 := 27) (pc' := 36) rfl (hb hby d_prog_2_m_3_27) rfl (tlt hc41).1 (by decide) (by decide) r) ?_
            refine Go.sp (g' := (mkF m 37 #[.val (.int p1)] [(.int p1)])) (fun T A t r => XS.iloadN A hx rfl (hb hby d_prog_2_m_3_36) rfl r) ?_
            refine Go.sp (g' := (mkF m 39 #[.val (.int p1)] [(.int (46 : Int32)), (.int p1)])) (fun T A t r => XS.bipush A hx rfl (hb hby d_prog_2_m_3_37) r) ?_
            by_cases hc42 : p1 = (46 : Int32)
            · skip
              refine Go.sp (g' := (mkF m 54 #[.val (.int p1)] [])) (fun T A t r => XS.icmpYes A hx rfl (pc0 := 39) (pc' := 54) rfl (hb hby d_prog_2_m_3_39) rfl (teq hc42).1 (by decide) (by decide) r) ?_
              refine Go.sp (g' := (mkF m 55 #[.val (.int p1)] [(.int (1 : Int32))])) (fun T A t r => XS.iconst A hx rfl (hb hby d_prog_2_m_3_54) r) ?_
              refine Go.sp (g' := (mkF m 59 #[.val (.int p1)] [(.int (1 : Int32))])) (fun T A t r => XS.goto A hx rfl (pc0 := 55) (pc' := 59) rfl (hb hby d_prog_2_m_3_55) (by decide) (by decide) r) ?_
              exact Go.ret (v := (some (.int (nar .boolean (1 : Int32))))) (fun s' T L fs X hr => retN X hx (t := .boolean) hret (by simp) (hb hby d_prog_2_m_3_59) hr) (fun h => by rw [hret] at h; cases h) (by decide) (by decide) ⟨rfl, rfl⟩
            · skip
              refine Go.sp (g' := (mkF m 42 #[.val (.int p1)] [])) (fun T A t r => XS.icmpNo A hx rfl (hb hby d_prog_2_m_3_39) rfl (feq hc42).1 r) ?_
              refine Go.sp (g' := (mkF m 43 #[.val (.int p1)] [(.int p1)])) (fun T A t r => XS.iloadN A hx rfl (hb hby d_prog_2_m_3_42) rfl r) ?_
              refine Go.sp (g' := (mkF m 45 #[.val (.int p1)] [(.int (45 : Int32)), (.int p1)])) (fun T A t r => XS.bipush A hx rfl (hb hby d_prog_2_m_3_43) r) ?_
              by_cases hc43 : p1 = (45 : Int32)
              · skip
                refine Go.sp (g' := (mkF m 54 #[.val (.int p1)] [])) (fun T A t r => XS.icmpYes A hx rfl (pc0 := 45) (pc' := 54) rfl (hb hby d_prog_2_m_3_45) rfl (teq hc43).1 (by decide) (by decide) r) ?_
                refine Go.sp (g' := (mkF m 55 #[.val (.int p1)] [(.int (1 : Int32))])) (fun T A t r => XS.iconst A hx rfl (hb hby d_prog_2_m_3_54) r) ?_
                refine Go.sp (g' := (mkF m 59 #[.val (.int p1)] [(.int (1 : Int32))])) (fun T A t r => XS.goto A hx rfl (pc0 := 55) (pc' := 59) rfl (hb hby d_prog_2_m_3_55) (by decide) (by decide) r) ?_
                exact Go.ret (v := (some (.int (nar .boolean (1 : Int32))))) (fun s' T L fs X hr => retN X hx (t := .boolean) hret (by simp) (hb hby d_prog_2_m_3_59) hr) (fun h => by rw [hret] at h; cases h) (by decide) (by decide) ⟨rfl, rfl⟩
              · skip
                refine Go.sp (g' := (mkF m 48 #[.val (.int p1)] [])) (fun T A t r => XS.icmpNo A hx rfl (hb hby d_prog_2_m_3_45) rfl (feq hc43).1 r) ?_
                refine Go.sp (g' := (mkF m 49 #[.val (.int p1)] [(.int p1)])) (fun T A t r => XS.iloadN A hx rfl (hb hby d_prog_2_m_3_48) rfl r) ?_
                refine Go.sp (g' := (mkF m 51 #[.val (.int p1)] [(.int (95 : Int32)), (.int p1)])) (fun T A t r => XS.bipush A hx rfl (hb hby d_prog_2_m_3_49) r) ?_
                by_cases hc44 : p1 = (95 : Int32)
                · skip
                  refine Go.sp (g' := (mkF m 54 #[.val (.int p1)] [])) (fun T A t r => XS.icmpNo A hx rfl (hb hby d_prog_2_m_3_51) rfl (teq hc44).2 r) ?_
                  refine Go.sp (g' := (mkF m 55 #[.val (.int p1)] [(.int (1 : Int32))])) (fun T A t r => XS.iconst A hx rfl (hb hby d_prog_2_m_3_54) r) ?_
                  refine Go.sp (g' := (mkF m 59 #[.val (.int p1)] [(.int (1 : Int32))])) (fun T A t r => XS.goto A hx rfl (pc0 := 55) (pc' := 59) rfl (hb hby d_prog_2_m_3_55) (by decide) (by decide) r) ?_
                  exact Go.ret (v := (some (.int (nar .boolean (1 : Int32))))) (fun s' T L fs X hr => retN X hx (t := .boolean) hret (by simp) (hb hby d_prog_2_m_3_59) hr) (fun h => by rw [hret] at h; cases h) (by decide) (by decide) ⟨rfl, rfl⟩
                · skip
                  refine Go.sp (g' := (mkF m 58 #[.val (.int p1)] [])) (fun T A t r => XS.icmpYes A hx rfl (pc0 := 51) (pc' := 58) rfl (hb hby d_prog_2_m_3_51) rfl (feq hc44).2 (by decide) (by decide) r) ?_
                  refine Go.sp (g' := (mkF m 59 #[.val (.int p1)] [(.int (0 : Int32))])) (fun T A t r => XS.iconst A hx rfl (hb hby d_prog_2_m_3_58) r) ?_
                  exact (own_alno (fun q => q.2 hc30) (fun q => q.2 hc40) (fun q => q.1 hc41) (hc42) (hc43) (hc44) hal).elim
          · skip
            refine Go.sp (g' := (mkF m 30 #[.val (.int p1)] [])) (fun T A t r => XS.icmpNo A hx rfl (hb hby d_prog_2_m_3_27) rfl (flt hc41).1 r) ?_
            refine Go.sp (g' := (mkF m 31 #[.val (.int p1)] [(.int p1)])) (fun T A t r => XS.iloadN A hx rfl (hb hby d_prog_2_m_3_30) rfl r) ?_
            refine Go.sp (g' := (mkF m 33 #[.val (.int p1)] [(.int (57 : Int32)), (.int p1)])) (fun T A t r => XS.bipush A hx rfl (hb hby d_prog_2_m_3_31) r) ?_
            by_cases hc45 : (57 : Int32) < p1
            · skip
              refine Go.sp (g' := (mkF m 36 #[.val (.int p1)] [])) (fun T A t r => XS.icmpNo A hx rfl (hb hby d_prog_2_m_3_33) rfl (tlt hc45).2.2.2 r) ?_
              refine Go.sp (g' := (mkF m 37 #[.val (.int p1)] [(.int p1)])) (fun T A t r => XS.iloadN A hx rfl (hb hby d_prog_2_m_3_36) rfl r) ?_
              refine Go.sp (g' := (mkF m 39 #[.val (.int p1)] [(.int (46 : Int32)), (.int p1)])) (fun T A t r => XS.bipush A hx rfl (hb hby d_prog_2_m_3_37) r) ?_
              by_cases hc46 : p1 = (46 : Int32)
              · skip
                refine Go.sp (g' := (mkF m 54 #[.val (.int p1)] [])) (fun T A t r => XS.icmpYes A hx rfl (pc0 := 39) (pc' := 54) rfl (hb hby d_prog_2_m_3_39) rfl (teq hc46).1 (by decide) (by decide) r) ?_
                refine Go.sp (g' := (mkF m 55 #[.val (.int p1)] [(.int (1 : Int32))])) (fun T A t r => XS.iconst A hx rfl (hb hby d_prog_2_m_3_54) r) ?_
                refine Go.sp (g' := (mkF m 59 #[.val (.int p1)] [(.int (1 : Int32))])) (fun T A t r => XS.goto A hx rfl (pc0 := 55) (pc' := 59) rfl (hb hby d_prog_2_m_3_55) (by decide) (by decide) r) ?_
                exact Go.ret (v := (some (.int (nar .boolean (1 : Int32))))) (fun s' T L fs X hr => retN X hx (t := .boolean) hret (by simp) (hb hby d_prog_2_m_3_59) hr) (fun h => by rw [hret] at h; cases h) (by decide) (by decide) ⟨rfl, rfl⟩
              · skip
                refine Go.sp (g' := (mkF m 42 #[.val (.int p1)] [])) (fun T A t r => XS.icmpNo A hx rfl (hb hby d_prog_2_m_3_39) rfl (feq hc46).1 r) ?_
                refine Go.sp (g' := (mkF m 43 #[.val (.int p1)] [(.int p1)])) (fun T A t r => XS.iloadN A hx rfl (hb hby d_prog_2_m_3_42) rfl r) ?_
                refine Go.sp (g' := (mkF m 45 #[.val (.int p1)] [(.int (45 : Int32)), (.int p1)])) (fun T A t r => XS.bipush A hx rfl (hb hby d_prog_2_m_3_43) r) ?_
                by_cases hc47 : p1 = (45 : Int32)
                · skip
                  refine Go.sp (g' := (mkF m 54 #[.val (.int p1)] [])) (fun T A t r => XS.icmpYes A hx rfl (pc0 := 45) (pc' := 54) rfl (hb hby d_prog_2_m_3_45) rfl (teq hc47).1 (by decide) (by decide) r) ?_
                  refine Go.sp (g' := (mkF m 55 #[.val (.int p1)] [(.int (1 : Int32))])) (fun T A t r => XS.iconst A hx rfl (hb hby d_prog_2_m_3_54) r) ?_
                  refine Go.sp (g' := (mkF m 59 #[.val (.int p1)] [(.int (1 : Int32))])) (fun T A t r => XS.goto A hx rfl (pc0 := 55) (pc' := 59) rfl (hb hby d_prog_2_m_3_55) (by decide) (by decide) r) ?_
                  exact Go.ret (v := (some (.int (nar .boolean (1 : Int32))))) (fun s' T L fs X hr => retN X hx (t := .boolean) hret (by simp) (hb hby d_prog_2_m_3_59) hr) (fun h => by rw [hret] at h; cases h) (by decide) (by decide) ⟨rfl, rfl⟩
                · skip
                  refine Go.sp (g' := (mkF m 48 #[.val (.int p1)] [])) (fun T A t r => XS.icmpNo A hx rfl (hb hby d_prog_2_m_3_45) rfl (feq hc47).1 r) ?_
                  refine Go.sp (g' := (mkF m 49 #[.val (.int p1)] [(.int p1)])) (fun T A t r => XS.iloadN A hx rfl (hb hby d_prog_2_m_3_48) rfl r) ?_
                  refine Go.sp (g' := (mkF m 51 #[.val (.int p1)] [(.int (95 : Int32)), (.int p1)])) (fun T A t r => XS.bipush A hx rfl (hb hby d_prog_2_m_3_49) r) ?_
                  by_cases hc48 : p1 = (95 : Int32)
                  · skip
                    refine Go.sp (g' := (mkF m 54 #[.val (.int p1)] [])) (fun T A t r => XS.icmpNo A hx rfl (hb hby d_prog_2_m_3_51) rfl (teq hc48).2 r) ?_
                    refine Go.sp (g' := (mkF m 55 #[.val (.int p1)] [(.int (1 : Int32))])) (fun T A t r => XS.iconst A hx rfl (hb hby d_prog_2_m_3_54) r) ?_
                    refine Go.sp (g' := (mkF m 59 #[.val (.int p1)] [(.int (1 : Int32))])) (fun T A t r => XS.goto A hx rfl (pc0 := 55) (pc' := 59) rfl (hb hby d_prog_2_m_3_55) (by decide) (by decide) r) ?_
                    exact Go.ret (v := (some (.int (nar .boolean (1 : Int32))))) (fun s' T L fs X hr => retN X hx (t := .boolean) hret (by simp) (hb hby d_prog_2_m_3_59) hr) (fun h => by rw [hret] at h; cases h) (by decide) (by decide) ⟨rfl, rfl⟩
                  · skip
                    refine Go.sp (g' := (mkF m 58 #[.val (.int p1)] [])) (fun T A t r => XS.icmpYes A hx rfl (pc0 := 51) (pc' := 58) rfl (hb hby d_prog_2_m_3_51) rfl (feq hc48).2 (by decide) (by decide) r) ?_
                    refine Go.sp (g' := (mkF m 59 #[.val (.int p1)] [(.int (0 : Int32))])) (fun T A t r => XS.iconst A hx rfl (hb hby d_prog_2_m_3_58) r) ?_
                    exact (own_alno (fun q => q.2 hc30) (fun q => q.2 hc40) (fun q => q.2 hc45) (hc46) (hc47) (hc48) hal).elim
            · skip
              refine Go.sp (g' := (mkF m 54 #[.val (.int p1)] [])) (fun T A t r => XS.icmpYes A hx rfl (pc0 := 33) (pc' := 54) rfl (hb hby d_prog_2_m_3_33) rfl (flt hc45).2.2.2 (by decide) (by decide) r) ?_
              refine Go.sp (g' := (mkF m 55 #[.val (.int p1)] [(.int (1 : Int32))])) (fun T A t r => XS.iconst A hx rfl (hb hby d_prog_2_m_3_54) r) ?_
              refine Go.sp (g' := (mkF m 59 #[.val (.int p1)] [(.int (1 : Int32))])) (fun T A t r => XS.goto A hx rfl (pc0 := 55) (pc' := 59) rfl (hb hby d_prog_2_m_3_55) (by decide) (by decide) r) ?_
              exact Go.ret (v := (some (.int (nar .boolean (1 : Int32))))) (fun s' T L fs X hr => retN X hx (t := .boolean) hret (by simp) (hb hby d_prog_2_m_3_59) hr) (fun h => by rw [hret] at h; cases h) (by decide) (by decide) ⟨rfl, rfl⟩
        · skip
          refine Go.sp (g' := (mkF m 54 #[.val (.int p1)] [])) (fun T A t r => XS.icmpYes A hx rfl (pc0 := 21) (pc' := 54) rfl (hb hby d_prog_2_m_3_21) rfl (flt hc40).2.2.2 (by decide) (by decide) r) ?_
          refine Go.sp (g' := (mkF m 55 #[.val (.int p1)] [(.int (1 : Int32))])) (fun T A t r => XS.iconst A hx rfl (hb hby d_prog_2_m_3_54) r) ?_
          refine Go.sp (g' := (mkF m 59 #[.val (.int p1)] [(.int (1 : Int32))])) (fun T A t r => XS.goto A hx rfl (pc0 := 55) (pc' := 59) rfl (hb hby d_prog_2_m_3_55) (by decide) (by decide) r) ?_
          exact Go.ret (v := (some (.int (nar .boolean (1 : Int32))))) (fun s' T L fs X hr => retN X hx (t := .boolean) hret (by simp) (hb hby d_prog_2_m_3_59) hr) (fun h => by rw [hret] at h; cases h) (by decide) (by decide) ⟨rfl, rfl⟩
    · skip
      refine Go.sp (g' := (mkF m 54 #[.val (.int p1)] [])) (fun T A t r => XS.icmpYes A hx rfl (pc0 := 9) (pc' := 54) rfl (hb hby d_prog_2_m_3_9) rfl (flt hc30).2.2.2 (by decide) (by decide) r) ?_
      refine Go.sp (g' := (mkF m 55 #[.val (.int p1)] [(.int (1 : Int32))])) (fun T A t r => XS.iconst A hx rfl (hb hby d_prog_2_m_3_54) r) ?_
      refine Go.sp (g' := (mkF m 59 #[.val (.int p1)] [(.int (1 : Int32))])) (fun T A t r => XS.goto A hx rfl (pc0 := 55) (pc' := 59) rfl (hb hby d_prog_2_m_3_55) (by decide) (by decide) r) ?_
      exact Go.ret (v := (some (.int (nar .boolean (1 : Int32))))) (fun s' T L fs X hr => retN X hx (t := .boolean) hret (by simp) (hb hby d_prog_2_m_3_59) hr) (fun h => by rw [hret] at h; cases h) (by decide) (by decide) ⟨rfl, rfl⟩
theorem ef_rmR (m : MethodId) (x0 : Addr) (x1 : Addr) : entryFrame m #[(.ref x0), (.ref x1)] 2 = mkF m 0 #[.val (.ref x0), .val (.ref x1)] [] := by first | (simp [entryFrame, mkF, argsToLocals, Value.category]; done) | rfl
set_option maxRecDepth 65536 in
set_option maxHeartbeats 40000000 in
theorem rmR (l : Launch) (Z : State) (a0 : Array Value) (hw : ∀ d ∈ tables_1, d.before a0 Z = true) (wds : List Jvm.Cond) (a1 : Addr) (a2 : Addr) (h0 : Heap) (n0 : Nat) (O0 : Old Z n0 h0)   :
    Ct l Z a0 own_EL (⟨"java/util/Objects", "requireNonNull", "(Ljava/lang/Object;Ljava/lang/String;)Ljava/lang/Object;"⟩ : MethodName) jdk_31_method_11_code 2 (some (.object "java/lang/Object")) wds ({ frames := 0, cells := 0, slots := 0, locals := 0 } : Room) #[(.ref a1), (.ref a2)] n0 h0 [] (fun v h => v = some (.ref a1) ∧ h = h0) := by
  refine Ct.of (plainFor_of_name pn_java_util_Objects) O0 all0 (own_EW hw) ?_
  intro p e s m below meth c hx hby hml hret hnm
  refine Go.cast (ef_rmR m a1 a2) ?_
  refine Go.sp (g' := (mkF m 1 #[.val (.ref a1), .val (.ref a2)] [(.ref a1)])) (fun T A t r => XS.aloadN A hx rfl (hb hby d_jdk_31_m_11_0) rfl rfl r) ?_
  refine Go.sp (g' := (mkF m 13 #[.val (.ref a1), .val (.ref a2)] [])) (fun T A t r => XS.ifnonnullYes A hx rfl (pc0 := 1) (pc' := 13) rfl (hb hby d_jdk_31_m_11_1) rfl (by decide) (by decide) r) ?_
  refine Go.sp (g' := (mkF m 14 #[.val (.ref a1), .val (.ref a2)] [(.ref a1)])) (fun T A t r => XS.aloadN A hx rfl (hb hby d_jdk_31_m_11_13) rfl rfl r) ?_
  exact Go.ret (v := (some (.ref a1))) (fun s' T L fs X hr => own_retR X hx hret rfl rfl (hb hby d_jdk_31_m_11_14) hr) (fun h => by rw [hret] at h; cases h) (by decide) (by decide) ⟨rfl, rfl⟩
theorem ef_rmBI (m : MethodId) (x0 : Addr) (x1 : Addr) : entryFrame m #[(.ref x0), (.ref x1)] 2 = mkF m 0 #[.val (.ref x0), .val (.ref x1)] [] := by first | (simp [entryFrame, mkF, argsToLocals, Value.category]; done) | rfl
set_option maxRecDepth 65536 in
set_option maxHeartbeats 40000000 in
theorem rmBI (l : Launch) (Z : State) (a0 : Array Value) (hw : ∀ d ∈ tables_1, d.before a0 Z = true) (wds : List Jvm.Cond) (a1 : Addr) (a2 : Addr) (u0 : Value) (h0 : Heap) (n0 : Nat) (O0 : Old Z n0 h0) (g_a1 : n0 ≤ a1) (E_a1 : Exa Z h0 a1 "com/example/kept_outbox/keptoutbox/api/Message$Builder") (Fdestination : Fld Z h0 a1 "com/example/kept_outbox/keptoutbox/api/Message$Builder" "destination" "Ljava/lang/String;" u0) :
    OwnN.Ct l Z (⟨"com/example/kept_outbox/keptoutbox/api/Message$Builder", "<init>", "(Ljava/lang/String;)V"⟩ : MethodName) prog_7_method_1_code 2 none wds ({ frames := 1, cells := 0, slots := 0, locals := 12 } : Room) #[(.ref a1), (.ref a2)] n0 h0 [a1] (fun v h => v = none ∧ Fld Z h a1 "com/example/kept_outbox/keptoutbox/api/Message$Builder" "destination" "Ljava/lang/String;" (.ref a2)) := by
  refine OwnN.Ct.of (plainFor_of_name pn_com_example_kept_outbox_keptoutbox_api_Message_Builder) O0 (allS g_a1 all0) ?_
  intro p e s m below meth c hx hby hml hret hnm
  refine OwnN.Go.cast (ef_rmBI m a1 a2) ?_
  refine OwnN.Go.sp (g' := (mkF m 1 #[.val (.ref a1), .val (.ref a2)] [(.ref a1)])) (fun T A t r => XS.aloadN A hx rfl (hb hby d_prog_7_m_1_0) rfl rfl r) ?_
  refine OwnN.Go.v (g' := (mkF m 4 #[.val (.ref a1), .val (.ref a2)] [])) (fun s' T L X eT hZ hown => initO X hx hZ hown (own_w hw 96 rfl) (own_w hw 17 rfl) (own_w hw 18 rfl) eT (g := (mkF m 1 #[.val (.ref a1), .val (.ref a2)] [(.ref a1)])) rfl (by rw [hml]; rfl) rfl (hb hby d_prog_7_m_1_1) (by decide) (W := 0) (catOf (Nat.le_of_ble_eq_true rfl)) (by decide)) ?_
  refine OwnN.Go.sp (g' := (mkF m 5 #[.val (.ref a1), .val (.ref a2)] [(.ref a1)])) (fun T A t r => XS.aloadN A hx rfl (hb hby d_prog_7_m_1_4) rfl rfl r) ?_
  refine OwnN.Go.sp (g' := (mkF m 6 #[.val (.ref a1), .val (.ref a2)] [(.ref a2), (.ref a1)])) (fun T A t r => XS.aloadN A hx rfl (hb hby d_prog_7_m_1_5) rfl rfl r) ?_
  refine OwnN.Go.w (g' := (mkF m 9 #[.val (.ref a1), .val (.ref a2)] [])) (fun s' T L X eT hZ hown => putF X hx hZ hown (host := "") (Or.inl (own_w hw 97 rfl)) Via.refl eT Fdestination E_a1 (Or.inr ⟨(own_w hw 98 rfl), rfl, hnm⟩) (own_w hw 40 rfl) (ty := (.object "java/lang/String")) (by decide) rfl rfl (g := (mkF m 6 #[.val (.ref a1), .val (.ref a2)] [(.ref a2), (.ref a1)])) rfl rfl (hb hby d_prog_7_m_1_6)) (Or.inl (List.mem_of_getElem? (i := 0) rfl)) ?_
  intro h12 W12
  have F12 := Fdestination.same W12
  exact OwnN.Go.ret (v := none) (fun s' T L fs X hr => X.returnOut hx hret (hb hby d_prog_7_m_1_9) hr) (fun _ => rfl) (by decide) (by decide) ⟨rfl, F12⟩
theorem ef_rmK1 (m : MethodId) (x0 : Addr) : entryFrame m #[(.ref x0)] 2 = mkF m 0 #[.val (.ref x0), .unset] [] := by first | (simp [entryFrame, mkF, argsToLocals, Value.category]; done) | rfl
set_option maxRecDepth 65536 in
set_option maxHeartbeats 40000000 in
theorem rmK1 (l : Launch) (Z : State) (a0 : Array Value) (hw : ∀ d ∈ tables_1, d.before a0 Z = true) (wds : List Jvm.Cond) (a1 : Addr) (t1 : Addr) (k1 : ClassId) (z1 : Int32) (zS : Int32) (fm : Value) (h0 : Heap) (n0 : Nat) (O0 : Old Z n0 h0)  (E1 : Exa Z h0 a1 "java/lang/String") (C1 : Fld Z h0 a1 "java/lang/String" "coder" "B" (.int 0)) (V1 : Fld Z h0 a1 "java/lang/String" "value" "[B" (.ref t1)) (B1 : Arv Z h0 t1 k1 .byte (1 : Int32) (([z1].map fun c => c.toInt8.toInt32).map Value.int) (.int 0)) (al1 : own_al z1) (S0 : Sta Z Z.heap "java/lang/String" "COMPACT_STRINGS" "Z" (.int zS)) (P0 : ¬ zS = (0 : Int32)) (SF : Sta Z Z.heap "jdk/internal/util/Preconditions" "SIOOBE_FORMATTER" "Ljava/util/function/BiFunction;" fm) (RF : fm.isRef = true) :
    Ct l Z a0 own_EL (⟨"com/example/kept_outbox/keptoutbox/api/DestinationName", "check", "(Ljava/lang/String;)Ljava/lang/String;"⟩ : MethodName) prog_2_method_2_code 2 (some (.object "java/lang/String")) wds ({ frames := 4, cells := 2, slots := 136, locals := 53 } : Room) #[(.ref a1)] n0 h0 [] (fun v h => v = some (.ref a1)) := by
  refine Ct.of (plainFor_of_name pn_com_example_kept_outbox_keptoutbox_api_DestinationName) O0 all0 (own_EW hw) ?_
  intro p e s m below meth c hx hby hml hret hnm
  refine Go.cast (ef_rmK1 m a1) ?_
  have lat : ∀ c ∈ [z1], ¬ c < 0 ∧ ¬ (255 : Int32) < c := own_allc (own_alb al1) (own_allc0)
  refine Go.sp (g' := (mkF m 1 #[.val (.ref a1), .unset] [(.ref a1)])) (fun T A t r => XS.aloadN A hx rfl (hb hby d_prog_2_m_2_0) rfl rfl r) ?_
  refine Go.ldc0 (nn := 132) (k' := 2) (n' := 136) (pc' := 3) (hb hby d_prog_2_m_2_1) (own_w hw 46 rfl) (own_strA hw) (by decide) (by decide) rfl rfl rfl (by decide) (by decide) ?_
  intro a11 h11 E11
  refine Go.old fun O12 => ?_
  refine Go.callSPW (W := 0) (y := (⟨"java/util/Objects", "requireNonNull", "(Ljava/lang/Object;Ljava/lang/String;)Ljava/lang/Object;"⟩ : MethodName)) (argsL := [(.ref a1), (.ref a11)]) (rest := []) (pc' := 6) (k' := 2) (n' := 136) (hb hby d_prog_2_m_2_3) (own_w hw 49 rfl) (own_w hw 50 rfl) (own_w hw 51 rfl) (own_w hw 52 rfl) (by decide) (rmR l Z a0 hw [] a1 a11 h11 n0 O12) (own_w hw 52 rfl) (own_w hw 51 rfl) (by decide) (by decide) (by rw [hml]; rfl) (lenOf pd_0 rfl) rfl (Nat.le_of_ble_eq_true rfl) rfl rfl rfl (by decide) (by decide) ?_
  rintro v13 rfl
  refine Go.cast (g' := (mkF m 6 #[.val (.ref a1), .unset] [(.ref a1)])) rfl ?_
  refine Go.sp (g' := (mkF m 7 #[.val (.ref a1), .unset] [])) (fun T A t r => XS.pop A hx rfl (hb hby d_prog_2_m_2_6) rfl rfl r) ?_
  refine Go.sp (g' := (mkF m 8 #[.val (.ref a1), .unset] [(.ref a1)])) (fun T A t r => XS.aloadN A hx rfl (hb hby d_prog_2_m_2_7) rfl rfl r) ?_
  have f14 := (E1.ext E11)
  have f15 := (V1.ext E11)
  have f16 := (C1.ext E11)
  have f17 := (B1.ext E11)
  refine Go.callVP (a := a1) (z := (⟨"java/lang/String", "isEmpty", "()Z"⟩ : MethodName)) (W := 0) (y := (⟨"java/lang/String", "isEmpty", "()Z"⟩ : MethodName)) (argsL := []) (rest := []) (pc' := 11) (hb hby d_prog_2_m_2_8) (own_w hw 53 rfl) (own_w hw 54 rfl) (fun s' hZ => notFace_of_selects (args := #[]) (mvT hZ (own_w hw 56 rfl))) (own_w hw 56 rfl) (own_w hw 55 rfl) (by decide) (fun s' hZ => Bk.pure (StrChars.Road.empW (kI := 4) (cs := [z1]) hZ (own_empw hw) (own_w hw 7 rfl) f14 f15 f16 f17 (own_cod rfl lat) (own_up lat) (by show 1 ≤ 4000; decide) (by decide) (by decide))) f14 (by rw [hml]; rfl) (lenOf pd_1 rfl) rfl (Nat.le_of_ble_eq_true rfl) rfl (by decide) (by decide) ?_
  rintro v18 rfl
  refine Go.cast (g' := (mkF m 11 #[.val (.ref a1), .unset] [(.int (0 : Int32))])) rfl ?_
  refine Go.sp (g' := (mkF m 24 #[.val (.ref a1), .unset] [])) (fun T A t r => XS.ifYes A hx rfl (pc0 := 11) (pc' := 24) rfl (hb hby d_prog_2_m_2_11) rfl ((if0 _ _).trans (teq (by decide : ((0 : Int32) = (0 : Int32)))).1) (by decide) (by decide) r) ?_
  refine Go.sp (g' := (mkF m 25 #[.val (.ref a1), .unset] [(.int (0 : Int32))])) (fun T A t r => XS.iconst A hx rfl (hb hby d_prog_2_m_2_24) r) ?_
  refine Go.sp (g' := (mkF m 26 #[.val (.ref a1), .val (.int (0 : Int32))] [])) (fun T A t r => XS.istoreN A hx rfl (hb hby d_prog_2_m_2_25) rfl (l' := #[.val (.ref a1), .val (.int (0 : Int32))]) rfl r) ?_
  refine Go.sp (g' := (mkF m 27 #[.val (.ref a1), .val (.int (0 : Int32))] [(.int (0 : Int32))])) (fun T A t r => XS.iloadN A hx rfl (hb hby d_prog_2_m_2_26) rfl r) ?_
  refine Go.sp (g' := (mkF m 28 #[.val (.ref a1), .val (.int (0 : Int32))] [(.ref a1), (.int (0 : Int32))])) (fun T A t r => XS.aloadN A hx rfl (hb hby d_prog_2_m_2_27) rfl rfl r) ?_
  refine Go.callVP (a := a1) (z := (⟨"java/lang/String", "length", "()I"⟩ : MethodName)) (W := 1) (y := (⟨"java/lang/String", "length", "()I"⟩ : MethodName)) (argsL := []) (rest := [(.int (0 : Int32))]) (pc' := 31) (hb hby d_prog_2_m_2_28) (own_w hw 58 rfl) (own_w hw 59 rfl) (fun s' hZ => notFace_of_selects (args := #[]) (mvT hZ (own_w hw 61 rfl))) (own_w hw 61 rfl) (own_w hw 60 rfl) (by decide) (fun s' hZ => Bk.pure (StrChars.Road.lenW (kI := 4) (cs := [z1]) hZ (own_lenw hw) (own_w hw 7 rfl) f14 f15 f16 f17 (own_cod rfl lat) (own_up lat) (S0.ext O12.2) P0 (by show 1 ≤ 4000; decide) (by decide) (by decide))) f14 (by rw [hml]; rfl) (lenOf pd_2 rfl) rfl (Nat.le_of_ble_eq_true rfl) rfl (by decide) (by decide) ?_
  rintro v19 rfl
  refine Go.cast (g' := (mkF m 31 #[.val (.ref a1), .val (.int (0 : Int32))] [(.int (1 : Int32)), (.int (0 : Int32))])) rfl ?_
  refine Go.sp (g' := (mkF m 34 #[.val (.ref a1), .val (.int (0 : Int32))] [])) (fun T A t r => XS.icmpNo A hx rfl (hb hby d_prog_2_m_2_31) rfl (tlt (by decide : ((0 : Int32) < (1 : Int32)))).2.1 r) ?_
  refine Go.sp (g' := (mkF m 35 #[.val (.ref a1), .val (.int (0 : Int32))] [(.ref a1)])) (fun T A t r => XS.aloadN A hx rfl (hb hby d_prog_2_m_2_34) rfl rfl r) ?_
  refine Go.sp (g' := (mkF m 36 #[.val (.ref a1), .val (.int (0 : Int32))] [(.int (0 : Int32)), (.ref a1)])) (fun T A t r => XS.iloadN A hx rfl (hb hby d_prog_2_m_2_35) rfl r) ?_
  refine Go.callVP (a := a1) (z := (⟨"java/lang/String", "charAt", "(I)C"⟩ : MethodName)) (W := 0) (y := (⟨"java/lang/String", "charAt", "(I)C"⟩ : MethodName)) (argsL := [(.int (0 : Int32))]) (rest := []) (pc' := 39) (hb hby d_prog_2_m_2_36) (own_w hw 68 rfl) (own_w hw 69 rfl) (fun s' hZ => notFace_of_selects (args := #[]) (mvT hZ (own_w hw 71 rfl))) (own_w hw 71 rfl) (own_w hw 70 rfl) (by decide) (fun s' hZ => Bk.pure (StrChars.Road.chN (kI := 4) (cs := [z1]) (i := 0) hZ (own_chwd hw) (own_w hw 7 rfl) f14 f15 f16 f17 (own_cod rfl lat) (own_up lat) (S0.ext O12.2) P0 (SF.ext O12.2) RF (by show 1 ≤ 4000; decide) (by show 0 < 1; decide) rfl (by decide) (by decide))) f14 (by rw [hml]; rfl) (lenOf pd_3 rfl) rfl (Nat.le_of_ble_eq_true rfl) rfl (by decide) (by decide) ?_
  rintro v20 rfl
  refine Go.cast (g' := (mkF m 39 #[.val (.ref a1), .val (.int (0 : Int32))] [(.int z1)])) rfl ?_
  refine Go.callSPW (W := 0) (y := (⟨"com/example/kept_outbox/keptoutbox/api/DestinationName", "isAllowed", "(C)Z"⟩ : MethodName)) (argsL := [(.int z1)]) (rest := []) (pc' := 42) (k' := 2) (n' := 136) (hb hby d_prog_2_m_2_39) (own_w hw 90 rfl) (own_w hw 91 rfl) (own_w hw 44 rfl) (own_w hw 92 rfl) (by decide) (rmW l Z a0 hw [] z1 h11 n0 O12 al1) (own_w hw 92 rfl) (own_w hw 44 rfl) (by decide) (by decide) (by rw [hml]; rfl) (lenOf pd_4 rfl) rfl (Nat.le_of_ble_eq_true rfl) rfl rfl rfl (by decide) (by decide) ?_
  rintro v21 rfl
  refine Go.cast (g' := (mkF m 42 #[.val (.ref a1), .val (.int (0 : Int32))] [(.int (1 : Int32))])) rfl ?_
  refine Go.sp (g' := (mkF m 67 #[.val (.ref a1), .val (.int (0 : Int32))] [])) (fun T A t r => XS.ifYes A hx rfl (pc0 := 42) (pc' := 67) rfl (hb hby d_prog_2_m_2_42) rfl ((if0 _ _).trans (feq (by decide : ¬ ((1 : Int32) = (0 : Int32)))).2) (by decide) (by decide) r) ?_
  refine Go.sp (g' := (mkF m 70 #[.val (.ref a1), .val (.int (1 : Int32))] [])) (fun T A t r => XS.iinc A hx rfl (hb hby d_prog_2_m_2_67) rfl (l' := #[.val (.ref a1), .val (.int (1 : Int32))]) rfl r) ?_
  refine Go.sp (g' := (mkF m 26 #[.val (.ref a1), .val (.int (1 : Int32))] [])) (fun T A t r => XS.goto A hx rfl (pc0 := 70) (pc' := 26) rfl (hb hby d_prog_2_m_2_70) (by decide) (by decide) r) ?_
  refine Go.sp (g' := (mkF m 27 #[.val (.ref a1), .val (.int (1 : Int32))] [(.int (1 : Int32))])) (fun T A t r => XS.iloadN A hx rfl (hb hby d_prog_2_m_2_26) rfl r) ?_
  refine Go.sp (g' := (mkF m 28 #[.val (.ref a1), .val (.int (1 : Int32))] [(.ref a1), (.int (1 : Int32))])) (fun T A t r => XS.aloadN A hx rfl (hb hby d_prog_2_m_2_27) rfl rfl r) ?_
  refine Go.callVP (a := a1) (z := (⟨"java/lang/String", "length", "()I"⟩ : MethodName)) (W := 1) (y := (⟨"java/lang/String", "length", "()I"⟩ : MethodName)) (argsL := []) (rest := [(.int (1 : Int32))]) (pc' := 31) (hb hby d_prog_2_m_2_28) (own_w hw 58 rfl) (own_w hw 59 rfl) (fun s' hZ => notFace_of_selects (args := #[]) (mvT hZ (own_w hw 61 rfl))) (own_w hw 61 rfl) (own_w hw 60 rfl) (by decide) (fun s' hZ => Bk.pure (StrChars.Road.lenW (kI := 4) (cs := [z1]) hZ (own_lenw hw) (own_w hw 7 rfl) f14 f15 f16 f17 (own_cod rfl lat) (own_up lat) (S0.ext O12.2) P0 (by show 1 ≤ 4000; decide) (by decide) (by decide))) f14 (by rw [hml]; rfl) (lenOf pd_2 rfl) rfl (Nat.le_of_ble_eq_true rfl) rfl (by decide) (by decide) ?_
  rintro v22 rfl
  refine Go.cast (g' := (mkF m 31 #[.val (.ref a1), .val (.int (1 : Int32))] [(.int (1 : Int32)), (.int (1 : Int32))])) rfl ?_
  refine Go.sp (g' := (mkF m 73 #[.val (.ref a1), .val (.int (1 : Int32))] [])) (fun T A t r => XS.icmpYes A hx rfl (pc0 := 31) (pc' := 73) rfl (hb hby d_prog_2_m_2_31) rfl (flt (by decide : ¬ ((1 : Int32) < (1 : Int32)))).2.1 (by decide) (by decide) r) ?_
  refine Go.sp (g' := (mkF m 74 #[.val (.ref a1), .val (.int (1 : Int32))] [(.ref a1)])) (fun T A t r => XS.aloadN A hx rfl (hb hby d_prog_2_m_2_73) rfl rfl r) ?_
  refine Go.callVP (a := a1) (z := (⟨"java/lang/String", "length", "()I"⟩ : MethodName)) (W := 0) (y := (⟨"java/lang/String", "length", "()I"⟩ : MethodName)) (argsL := []) (rest := []) (pc' := 77) (hb hby d_prog_2_m_2_74) (own_w hw 58 rfl) (own_w hw 59 rfl) (fun s' hZ => notFace_of_selects (args := #[]) (mvT hZ (own_w hw 61 rfl))) (own_w hw 61 rfl) (own_w hw 60 rfl) (by decide) (fun s' hZ => Bk.pure (StrChars.Road.lenW (kI := 4) (cs := [z1]) hZ (own_lenw hw) (own_w hw 7 rfl) f14 f15 f16 f17 (own_cod rfl lat) (own_up lat) (S0.ext O12.2) P0 (by show 1 ≤ 4000; decide) (by decide) (by decide))) f14 (by rw [hml]; rfl) (lenOf pd_2 rfl) rfl (Nat.le_of_ble_eq_true rfl) rfl (by decide) (by decide) ?_
  rintro v23 rfl
  refine Go.cast (g' := (mkF m 77 #[.val (.ref a1), .val (.int (1 : Int32))] [(.int (1 : Int32))])) rfl ?_
  refine Go.sp (g' := (mkF m 79 #[.val (.ref a1), .val (.int (1 : Int32))] [(.int (100 : Int32)), (.int (1 : Int32))])) (fun T A t r => XS.bipush A hx rfl (hb hby d_prog_2_m_2_77) r) ?_
  refine Go.sp (g' := (mkF m 99 #[.val (.ref a1), .val (.int (1 : Int32))] [])) (fun T A t r => XS.icmpYes A hx rfl (pc0 := 79) (pc' := 99) rfl (hb hby d_prog_2_m_2_79) rfl (flt (by decide : ¬ ((100 : Int32) < (1 : Int32)))).2.2.2 (by decide) (by decide) r) ?_
  refine Go.sp (g' := (mkF m 100 #[.val (.ref a1), .val (.int (1 : Int32))] [(.ref a1)])) (fun T A t r => XS.aloadN A hx rfl (hb hby d_prog_2_m_2_99) rfl rfl r) ?_
  exact Go.ret (v := (some (.ref a1))) (fun s' T L fs X hr => own_retR X hx hret rfl rfl (hb hby d_prog_2_m_2_100) hr) (fun h => by rw [hret] at h; cases h) (by decide) (by decide) rfl
theorem ef_rmT1 (m : MethodId) (x0 : Addr) : entryFrame m #[(.ref x0)] 1 = mkF m 0 #[.val (.ref x0)] [] := by first | (simp [entryFrame, mkF, argsToLocals, Value.category]; done) | rfl
set_option maxRecDepth 65536 in
set_option maxHeartbeats 40000000 in
theorem rmT1 (l : Launch) (Z : State) (a0 : Array Value) (hw : ∀ d ∈ tables_1, d.before a0 Z = true) (wds : List Jvm.Cond) (a1 : Addr) (t1 : Addr) (k1 : ClassId) (z1 : Int32) (zS : Int32) (fm : Value) (h0 : Heap) (n0 : Nat) (O0 : Old Z n0 h0)  (E1 : Exa Z h0 a1 "java/lang/String") (C1 : Fld Z h0 a1 "java/lang/String" "coder" "B" (.int 0)) (V1 : Fld Z h0 a1 "java/lang/String" "value" "[B" (.ref t1)) (B1 : Arv Z h0 t1 k1 .byte (1 : Int32) (([z1].map fun c => c.toInt8.toInt32).map Value.int) (.int 0)) (al1 : own_al z1) (S0 : Sta Z Z.heap "java/lang/String" "COMPACT_STRINGS" "Z" (.int zS)) (P0 : ¬ zS = (0 : Int32)) (SF : Sta Z Z.heap "jdk/internal/util/Preconditions" "SIOOBE_FORMATTER" "Ljava/util/function/BiFunction;" fm) (RF : fm.isRef = true) :
    Ct l Z a0 own_EL (⟨"com/example/kept_outbox/keptoutbox/api/Message", "to", "(Ljava/lang/String;)Lcom/example/kept_outbox/keptoutbox/api/Message$Builder;"⟩ : MethodName) prog_6_method_2_code 1 (some (.object "com/example/kept_outbox/keptoutbox/api/Message$Builder")) wds ({ frames := 5, cells := 3, slots := 137, locals := 68 } : Room) #[(.ref a1)] n0 h0 [] (fun v h => ∃ b : Addr, v = some (.ref b) ∧ Exa Z h b "com/example/kept_outbox/keptoutbox/api/Message$Builder" ∧ Fld Z h b "com/example/kept_outbox/keptoutbox/api/Message$Builder" "destination" "Ljava/lang/String;" (.ref a1)) := by
  refine Ct.of (plainFor_of_name pn_com_example_kept_outbox_keptoutbox_api_Message) O0 all0 (own_EW hw) ?_
  intro p e s m below meth c hx hby hml hret hnm
  refine Go.cast (ef_rmT1 m a1) ?_
  refine Go.newO (k' := 1) (n' := 1) (pc' := 3) (hb hby d_prog_6_m_2_0) (own_w hw 39 rfl) (own_w hw 40 rfl) (own_w hw 41 rfl) rfl rfl rfl (by decide) (by decide) ?_
  intro b11 h11 g11 sz11 E11 A11 D11
  have F11_destination : Fld Z h11 b11 "com/example/kept_outbox/keptoutbox/api/Message$Builder" "destination" "Ljava/lang/String;" .null := D11 (Or.inr (own_w hw 98 rfl)) (ty := (.object "java/lang/String")) (by decide)
  refine Go.sp (g' := (mkF m 4 #[.val (.ref a1)] [(.ref b11), (.ref b11)])) (fun T A t r => XS.dup A hx rfl (hb hby d_prog_6_m_2_3) rfl rfl r) ?_
  refine Go.sp (g' := (mkF m 5 #[.val (.ref a1)] [(.ref a1), (.ref b11), (.ref b11)])) (fun T A t r => XS.aloadN A hx rfl (hb hby d_prog_6_m_2_4) rfl rfl r) ?_
  have f12 := (E1.ext E11)
  have f13 := (C1.ext E11)
  have f14 := (V1.ext E11)
  have f15 := (B1.ext E11)
  refine Go.old fun O16 => ?_
  refine Go.callSW (ws' := []) (W := 2) (y := (⟨"com/example/kept_outbox/keptoutbox/api/DestinationName", "check", "(Ljava/lang/String;)Ljava/lang/String;"⟩ : MethodName)) (argsL := [(.ref a1)]) (rest := [(.ref b11), (.ref b11)]) (pc' := 8) (k' := 3) (n' := 137) (hb hby d_prog_6_m_2_5) (own_w hw 42 rfl) (own_w hw 43 rfl) (own_w hw 44 rfl) (own_w hw 45 rfl) (by decide) (rmK1 l Z a0 hw [] a1 t1 k1 z1 zS fm h11 n0 O16 f12 f13 f14 f15 al1 S0 P0 SF RF) (own_w hw 45 rfl) (own_w hw 44 rfl) (by decide) (by decide) (by rw [hml]; rfl) (lenOf pd_5 rfl) rfl (Nat.le_of_ble_eq_true rfl) rfl rfl rfl (by decide) (by decide) all0 ?_
  rintro v17 h17 K17 rfl
  refine Go.cast (g' := (mkF m 8 #[.val (.ref a1)] [(.ref a1), (.ref b11), (.ref b11)])) rfl ?_
  refine Go.old fun O18 => ?_
  have f19 := (A11.keep K17)
  have f20 := (F11_destination.keep K17 nin0)
  refine Go.callR (a := b11) (ws' := [b11]) (W := 1) (y := (⟨"com/example/kept_outbox/keptoutbox/api/Message$Builder", "<init>", "(Ljava/lang/String;)V"⟩ : MethodName)) (argsL := [(.ref a1)]) (rest := [(.ref b11)]) (pc' := 11) (k' := 3) (n' := 137) (hb hby d_prog_6_m_2_8) (fun s' hZ hown => scallRef hx hZ hown rfl (own_w hw 93 rfl) (own_w hw 94 rfl) (own_w hw 95 rfl) (by decide)) (fun s' hZ => OwnN.Ct.bk (rmBI l Z a0 hw [] b11 a1 _ h17 n0 O18 (Nat.le_trans (Old.le O0) sz11) f19 f20) hZ (own_w hw 95 rfl) (own_w hw 41 rfl) (by decide) (by decide)) (by rw [hml]; rfl) (lenOf pd_6 rfl) rfl (Nat.le_of_ble_eq_true rfl) rfl rfl rfl (by decide) (by decide) (allS (Or.inr sz11) all0) (allS (Or.inr SafeA.nil) all0) ?_
  rintro v21 h21 K21 ⟨rfl, F21⟩
  refine Go.cast (g' := (mkF m 11 #[.val (.ref a1)] [(.ref b11)])) rfl ?_
  have f22 := (f19.keep K21)
  exact Go.ret (v := (some (.ref b11))) (fun s' T L fs X hr => own_retR X hx hret rfl rfl (hb hby d_prog_6_m_2_11) hr) (fun h => by rw [hret] at h; cases h) (by decide) (by decide) ⟨_, rfl, f22, F21⟩
theorem ef_rmK2 (m : MethodId) (x0 : Addr) : entryFrame m #[(.ref x0)] 2 = mkF m 0 #[.val (.ref x0), .unset] [] := by first | (simp [entryFrame, mkF, argsToLocals, Value.category]; done) | rfl
set_option maxRecDepth 65536 in
set_option maxHeartbeats 40000000 in
theorem rmK2 (l : Launch) (Z : State) (a0 : Array Value) (hw : ∀ d ∈ tables_1, d.before a0 Z = true) (wds : List Jvm.Cond) (a1 : Addr) (t1 : Addr) (k1 : ClassId) (z1 : Int32) (z2 : Int32) (zS : Int32) (fm : Value) (h0 : Heap) (n0 : Nat) (O0 : Old Z n0 h0)  (E1 : Exa Z h0 a1 "java/lang/String") (C1 : Fld Z h0 a1 "java/lang/String" "coder" "B" (.int 0)) (V1 : Fld Z h0 a1 "java/lang/String" "value" "[B" (.ref t1)) (B1 : Arv Z h0 t1 k1 .byte (2 : Int32) (([z1, z2].map fun c => c.toInt8.toInt32).map Value.int) (.int 0)) (al1 : own_al z1) (al2 : own_al z2) (S0 : Sta Z Z.heap "java/lang/String" "COMPACT_STRINGS" "Z" (.int zS)) (P0 : ¬ zS = (0 : Int32)) (SF : Sta Z Z.heap "jdk/internal/util/Preconditions" "SIOOBE_FORMATTER" "Ljava/util/function/BiFunction;" fm) (RF : fm.isRef = true) :
    Ct l Z a0 own_EL (⟨"com/example/kept_outbox/keptoutbox/api/DestinationName", "check", "(Ljava/lang/String;)Ljava/lang/String;"⟩ : MethodName) prog_2_method_2_code 2 (some (.object "java/lang/String")) wds ({ frames := 4, cells := 2, slots := 136, locals := 53 } : Room) #[(.ref a1)] n0 h0 [] (fun v h => v = some (.ref a1)) := by
  refine Ct.of (plainFor_of_name pn_com_example_kept_outbox_keptoutbox_api_DestinationName) O0 all0 (own_EW hw) ?_
  intro p e s m below meth c hx hby hml hret hnm
  refine Go.cast (ef_rmK2 m a1) ?_
  have lat : ∀ c ∈ [z1, z2], ¬ c < 0 ∧ ¬ (255 : Int32) < c := own_allc (own_alb al1) (own_allc (own_alb al2) (own_allc0))
  refine Go.sp (g' := (mkF m 1 #[.val (.ref a1), .unset] [(.ref a1)])) (fun T A t r => XS.aloadN A hx rfl (hb hby d_prog_2_m_2_0) rfl rfl r) ?_
  refine Go.ldc0 (nn := 132) (k' := 2) (n' := 136) (pc' := 3) (hb hby d_prog_2_m_2_1) (own_w hw 46 rfl) (own_strA hw) (by decide) (by decide) rfl rfl rfl (by decide) (by decide) ?_
  intro a11 h11 E11
  refine Go.old fun O12 => ?_
  refine Go.callSPW (W := 0) (y := (⟨"java/util/Objects", "requireNonNull", "(Ljava/lang/Object;Ljava/lang/String;)Ljava/lang/Object;"⟩ : MethodName)) (argsL := [(.ref a1), (.ref a11)]) (rest := []) (pc' := 6) (k' := 2) (n' := 136) (hb hby d_prog_2_m_2_3) (own_w hw 49 rfl) (own_w hw 50 rfl) (own_w hw 51 rfl) (own_w hw 52 rfl) (by decide) (rmR l Z a0 hw [] a1 a11 h11 n0 O12) (own_w hw 52 rfl) (own_w hw 51 rfl) (by decide) (by decide) (by rw [hml]; rfl) (lenOf pd_0 rfl) rfl (Nat.le_of_ble_eq_true rfl) rfl rfl rfl (by decide) (by decide) ?_
  rintro v13 rfl
  refine Go.cast (g' := (mkF m 6 #[.val (.ref a1), .unset] [(.ref a1)])) rfl ?_
  refine Go.sp (g' := (mkF m 7 #[.val (.ref a1), .unset] [])) (fun T A t r => XS.pop A hx rfl (hb hby d_prog_2_m_2_6) rfl rfl r) ?_
  refine Go.sp (g' := (mkF m 8 #[.val (.ref a1), .unset] [(.ref a1)])) (fun T A t r => XS.aloadN A hx rfl (hb hby d_prog_2_m_2_7) rfl rfl r) ?_
  have f14 := (E1.ext E11)
  have f15 := (V1.ext E11)
  have f16 := (C1.ext E11)
  have f17 := (B1.ext E11)
  refine Go.callVP (a := a1) (z := (⟨"java/lang/String", "isEmpty", "()Z"⟩ : MethodName)) (W := 0) (y := (⟨"java/lang/String", "isEmpty", "()Z"⟩ : MethodName)) (argsL := []) (rest := []) (pc' := 11) (hb hby d_prog_2_m_2_8) (own_w hw 53 rfl) (own_w hw 54 rfl) (fun s' hZ => notFace_of_selects (args := #[]) (mvT hZ (own_w hw 56 rfl))) (own_w hw 56 rfl) (own_w hw 55 rfl) (by decide) (fun s' hZ => Bk.pure (StrChars.Road.empW (kI := 4) (cs := [z1, z2]) hZ (own_empw hw) (own_w hw 7 rfl) f14 f15 f16 f17 (own_cod rfl lat) (own_up lat) (by show 2 ≤ 4000; decide) (by decide) (by decide))) f14 (by rw [hml]; rfl) (lenOf pd_1 rfl) rfl (Nat.le_of_ble_eq_true rfl) rfl (by decide) (by decide) ?_
  rintro v18 rfl
  refine Go.cast (g' := (mkF m 11 #[.val (.ref a1), .unset] [(.int (0 : Int32))])) rfl ?_
  refine Go.sp (g' := (mkF m 24 #[.val (.ref a1), .unset] [])) (fun T A t r => XS.ifYes A hx rfl (pc0 := 11) (pc' := 24) rfl (hb hby d_prog_2_m_2_11) rfl ((if0 _ _).trans (teq (by decide : ((0 : Int32) = (0 : Int32)))).1) (by decide) (by decide) r) ?_
  refine Go.sp (g' := (mkF m 25 #[.val (.ref a1), .unset] [(.int (0 : Int32))])) (fun T A t r => XS.iconst A hx rfl (hb hby d_prog_2_m_2_24) r) ?_
  refine Go.sp (g' := (mkF m 26 #[.val (.ref a1), .val (.int (0 : Int32))] [])) (fun T A t r => XS.istoreN A hx rfl (hb hby d_prog_2_m_2_25) rfl (l' := #[.val (.ref a1), .val (.int (0 : Int32))]) rfl r) ?_
  refine Go.sp (g' := (mkF m 27 #[.val (.ref a1), .val (.int (0 : Int32))] [(.int (0 : Int32))])) (fun T A t r => XS.iloadN A hx rfl (hb hby d_prog_2_m_2_26) rfl r) ?_
  refine Go.sp (g' := (mkF m 28 #[.val (.ref a1), .val (.int (0 : Int32))] [(.ref a1), (.int (0 : Int32))])) (fun T A t r => XS.aloadN A hx rfl (hb hby d_prog_2_m_2_27) rfl rfl r) ?_
  refine Go.callVP (a := a1) (z := (⟨"java/lang/String", "length", "()I"⟩ : MethodName)) (W := 1) (y := (⟨"java/lang/String", "length", "()I"⟩ : MethodName)) (argsL := []) (rest := [(.int (0 : Int32))]) (pc' := 31) (hb hby d_prog_2_m_2_28) (own_w hw 58 rfl) (own_w hw 59 rfl) (fun s' hZ => notFace_of_selects (args := #[]) (mvT hZ (own_w hw 61 rfl))) (own_w hw 61 rfl) (own_w hw 60 rfl) (by decide) (fun s' hZ => Bk.pure (StrChars.Road.lenW (kI := 4) (cs := [z1, z2]) hZ (own_lenw hw) (own_w hw 7 rfl) f14 f15 f16 f17 (own_cod rfl lat) (own_up lat) (S0.ext O12.2) P0 (by show 2 ≤ 4000; decide) (by decide) (by decide))) f14 (by rw [hml]; rfl) (lenOf pd_2 rfl) rfl (Nat.le_of_ble_eq_true rfl) rfl (by decide) (by decide) ?_
  rintro v19 rfl
  refine Go.cast (g' := (mkF m 31 #[.val (.ref a1), .val (.int (0 : Int32))] [(.int (2 : Int32)), (.int (0 : Int32))])) rfl ?_
  refine Go.sp (g' := (mkF m 34 #[.val (.ref a1), .val (.int (0 : Int32))] [])) (fun T A t r => XS.icmpNo A hx rfl (hb hby d_prog_2_m_2_31) rfl (tlt (by decide : ((0 : Int32) < (2 : Int32)))).2.1 r) ?_
  refine Go.sp (g' := (mkF m 35 #[.val (.ref a1), .val (.int (0 : Int32))] [(.ref a1)])) (fun T A t r => XS.aloadN A hx rfl (hb hby d_prog_2_m_2_34) rfl rfl r) ?_
  refine Go.sp (g' := (mkF m 36 #[.val (.ref a1), .val (.int (0 : Int32))] [(.int (0 : Int32)), (.ref a1)])) (fun T A t r => XS.iloadN A hx rfl (hb hby d_prog_2_m_2_35) rfl r) ?_
  refine Go.callVP (a := a1) (z := (⟨"java/lang/String", "charAt", "(I)C"⟩ : MethodName)) (W := 0) (y := (⟨"java/lang/String", "charAt", "(I)C"⟩ : MethodName)) (argsL := [(.int (0 : Int32))]) (rest := []) (pc' := 39) (hb hby d_prog_2_m_2_36) (own_w hw 68 rfl) (own_w hw 69 rfl) (fun s' hZ => notFace_of_selects (args := #[]) (mvT hZ (own_w hw 71 rfl))) (own_w hw 71 rfl) (own_w hw 70 rfl) (by decide) (fun s' hZ => Bk.pure (StrChars.Road.chN (kI := 4) (cs := [z1, z2]) (i := 0) hZ (own_chwd hw) (own_w hw 7 rfl) f14 f15 f16 f17 (own_cod rfl lat) (own_up lat) (S0.ext O12.2) P0 (SF.ext O12.2) RF (by show 2 ≤ 4000; decide) (by show 0 < 2; decide) rfl (by decide) (by decide))) f14 (by rw [hml]; rfl) (lenOf pd_3 rfl) rfl (Nat.le_of_ble_eq_true rfl) rfl (by decide) (by decide) ?_
  rintro v20 rfl
  refine Go.cast (g' := (mkF m 39 #[.val (.ref a1), .val (.int (0 : Int32))] [(.int z1)])) rfl ?_
  refine Go.callSPW (W := 0) (y := (⟨"com/example/kept_outbox/keptoutbox/api/DestinationName", "isAllowed", "(C)Z"⟩ : MethodName)) (argsL := [(.int z1)]) (rest := []) (pc' := 42) (k' := 2) (n' := 136) (hb hby d_prog_2_m_2_39) (own_w hw 90 rfl) (own_w hw 91 rfl) (own_w hw 44 rfl) (own_w hw 92 rfl) (by decide) (rmW l Z a0 hw [] z1 h11 n0 O12 al1) (own_w hw 92 rfl) (own_w hw 44 rfl) (by decide) (by decide) (by rw [hml]; rfl) (lenOf pd_4 rfl) rfl (Nat.le_of_ble_eq_true rfl) rfl rfl rfl (by decide) (by decide) ?_
  rintro v21 rfl
  refine Go.cast (g' := (mkF m 42 #[.val (.ref a1), .val (.int (0 : Int32))] [(.int (1 : Int32))])) rfl ?_
  refine Go.sp (g' := (mkF m 67 #[.val (.ref a1), .val (.int (0 : Int32))] [])) (fun T A t r => XS.ifYes A hx rfl (pc0 := 42) (pc' := 67) rfl (hb hby d_prog_2_m_2_42) rfl ((if0 _ _).trans (feq (by decide : ¬ ((1 : Int32) = (0 : Int32)))).2) (by decide) (by decide) r) ?_
  refine Go.sp (g' := (mkF m 70 #[.val (.ref a1), .val (.int (1 : Int32))] [])) (fun T A t r => XS.iinc A hx rfl (hb hby d_prog_2_m_2_67) rfl (l' := #[.val (.ref a1), .val (.int (1 : Int32))]) rfl r) ?_
  refine Go.sp (g' := (mkF m 26 #[.val (.ref a1), .val (.int (1 : Int32))] [])) (fun T A t r => XS.goto A hx rfl (pc0 := 70) (pc' := 26) rfl (hb hby d_prog_2_m_2_70) (by decide) (by decide) r) ?_
  refine Go.sp (g' := (mkF m 27 #[.val (.ref a1), .val (.int (1 : Int32))] [(.int (1 : Int32))])) (fun T A t r => XS.iloadN A hx rfl (hb hby d_prog_2_m_2_26) rfl r) ?_
  refine Go.sp (g' := (mkF m 28 #[.val (.ref a1), .val (.int (1 : Int32))] [(.ref a1), (.int (1 : Int32))])) (fun T A t r => XS.aloadN A hx rfl (hb hby d_prog_2_m_2_27) rfl rfl r) ?_
  refine Go.callVP (a := a1) (z := (⟨"java/lang/String", "length", "()I"⟩ : MethodName)) (W := 1) (y := (⟨"java/lang/String", "length", "()I"⟩ : MethodName)) (argsL := []) (rest := [(.int (1 : Int32))]) (pc' := 31) (hb hby d_prog_2_m_2_28) (own_w hw 58 rfl) (own_w hw 59 rfl) (fun s' hZ => notFace_of_selects (args := #[]) (mvT hZ (own_w hw 61 rfl))) (own_w hw 61 rfl) (own_w hw 60 rfl) (by decide) (fun s' hZ => Bk.pure (StrChars.Road.lenW (kI := 4) (cs := [z1, z2]) hZ (own_lenw hw) (own_w hw 7 rfl) f14 f15 f16 f17 (own_cod rfl lat) (own_up lat) (S0.ext O12.2) P0 (by show 2 ≤ 4000; decide) (by decide) (by decide))) f14 (by rw [hml]; rfl) (lenOf pd_2 rfl) rfl (Nat.le_of_ble_eq_true rfl) rfl (by decide) (by decide) ?_
  rintro v22 rfl
  refine Go.cast (g' := (mkF m 31 #[.val (.ref a1), .val (.int (1 : Int32))] [(.int (2 : Int32)), (.int (1 : Int32))])) rfl ?_
  refine Go.sp (g' := (mkF m 34 #[.val (.ref a1), .val (.int (1 : Int32))] [])) (fun T A t r => XS.icmpNo A hx rfl (hb hby d_prog_2_m_2_31) rfl (tlt (by decide : ((1 : Int32) < (2 : Int32)))).2.1 r) ?_
  refine Go.sp (g' := (mkF m 35 #[.val (.ref a1), .val (.int (1 : Int32))] [(.ref a1)])) (fun T A t r => XS.aloadN A hx rfl (hb hby d_prog_2_m_2_34) rfl rfl r) ?_
  refine Go.sp (g' := (mkF m 36 #[.val (.ref a1), .val (.int (1 : Int32))] [(.int (1 : Int32)), (.ref a1)])) (fun T A t r => XS.iloadN A hx rfl (hb hby d_prog_2_m_2_35) rfl r) ?_
  refine Go.callVP (a := a1) (z := (⟨"java/lang/String", "charAt", "(I)C"⟩ : MethodName)) (W := 0) (y := (⟨"java/lang/String", "charAt", "(I)C"⟩ : MethodName)) (argsL := [(.int (1 : Int32))]) (rest := []) (pc' := 39) (hb hby d_prog_2_m_2_36) (own_w hw 68 rfl) (own_w hw 69 rfl) (fun s' hZ => notFace_of_selects (args := #[]) (mvT hZ (own_w hw 71 rfl))) (own_w hw 71 rfl) (own_w hw 70 rfl) (by decide) (fun s' hZ => Bk.pure (StrChars.Road.chN (kI := 4) (cs := [z1, z2]) (i := 1) hZ (own_chwd hw) (own_w hw 7 rfl) f14 f15 f16 f17 (own_cod rfl lat) (own_up lat) (S0.ext O12.2) P0 (SF.ext O12.2) RF (by show 2 ≤ 4000; decide) (by show 1 < 2; decide) rfl (by decide) (by decide))) f14 (by rw [hml]; rfl) (lenOf pd_3 rfl) rfl (Nat.le_of_ble_eq_true rfl) rfl (by decide) (by decide) ?_
  rintro v23 rfl
  refine Go.cast (g' := (mkF m 39 #[.val (.ref a1), .val (.int (1 : Int32))] [(.int z2)])) rfl ?_
  refine Go.callSPW (W := 0) (y := (⟨"com/example/kept_outbox/keptoutbox/api/DestinationName", "isAllowed", "(C)Z"⟩ : MethodName)) (argsL := [(.int z2)]) (rest := []) (pc' := 42) (k' := 2) (n' := 136) (hb hby d_prog_2_m_2_39) (own_w hw 90 rfl) (own_w hw 91 rfl) (own_w hw 44 rfl) (own_w hw 92 rfl) (by decide) (rmW l Z a0 hw [] z2 h11 n0 O12 al2) (own_w hw 92 rfl) (own_w hw 44 rfl) (by decide) (by decide) (by rw [hml]; rfl) (lenOf pd_4 rfl) rfl (Nat.le_of_ble_eq_true rfl) rfl rfl rfl (by decide) (by decide) ?_
  rintro v24 rfl
  refine Go.cast (g' := (mkF m 42 #[.val (.ref a1), .val (.int (1 : Int32))] [(.int (1 : Int32))])) rfl ?_
  refine Go.sp (g' := (mkF m 67 #[.val (.ref a1), .val (.int (1 : Int32))] [])) (fun T A t r => XS.ifYes A hx rfl (pc0 := 42) (pc' := 67) rfl (hb hby d_prog_2_m_2_42) rfl ((if0 _ _).trans (feq (by decide : ¬ ((1 : Int32) = (0 : Int32)))).2) (by decide) (by decide) r) ?_
  refine Go.sp (g' := (mkF m 70 #[.val (.ref a1), .val (.int (2 : Int32))] [])) (fun T A t r => XS.iinc A hx rfl (hb hby d_prog_2_m_2_67) rfl (l' := #[.val (.ref a1), .val (.int (2 : Int32))]) rfl r) ?_
  refine Go.sp (g' := (mkF m 26 #[.val (.ref a1), .val (.int (2 : Int32))] [])) (fun T A t r => XS.goto A hx rfl (pc0 := 70) (pc' := 26) rfl (hb hby d_prog_2_m_2_70) (by decide) (by decide) r) ?_
  refine Go.sp (g' := (mkF m 27 #[.val (.ref a1), .val (.int (2 : Int32))] [(.int (2 : Int32))])) (fun T A t r => XS.iloadN A hx rfl (hb hby d_prog_2_m_2_26) rfl r) ?_
  refine Go.sp (g' := (mkF m 28 #[.val (.ref a1), .val (.int (2 : Int32))] [(.ref a1), (.int (2 : Int32))])) (fun T A t r => XS.aloadN A hx rfl (hb hby d_prog_2_m_2_27) rfl rfl r) ?_
  refine Go.callVP (a := a1) (z := (⟨"java/lang/String", "length", "()I"⟩ : MethodName)) (W := 1) (y := (⟨"java/lang/String", "length", "()I"⟩ : MethodName)) (argsL := []) (rest := [(.int (2 : Int32))]) (pc' := 31) (hb hby d_prog_2_m_2_28) (own_w hw 58 rfl) (own_w hw 59 rfl) (fun s' hZ => notFace_of_selects (args := #[]) (mvT hZ (own_w hw 61 rfl))) (own_w hw 61 rfl) (own_w hw 60 rfl) (by decide) (fun s' hZ => Bk.pure (StrChars.Road.lenW (kI := 4) (cs := [z1, z2]) hZ (own_lenw hw) (own_w hw 7 rfl) f14 f15 f16 f17 (own_cod rfl lat) (own_up lat) (S0.ext O12.2) P0 (by show 2 ≤ 4000; decide) (by decide) (by decide))) f14 (by rw [hml]; rfl) (lenOf pd_2 rfl) rfl (Nat.le_of_ble_eq_true rfl) rfl (by decide) (by decide) ?_
  rintro v25 rfl
  refine Go.cast (g' := (mkF m 31 #[.val (.ref a1), .val (.int (2 : Int32))] [(.int (2 : Int32)), (.int (2 : Int32))])) rfl ?_
  refine Go.sp (g' := (mkF m 73 #[.val (.ref a1), .val (.int (2 : Int32))] [])) (fun T A t r => XS.icmpYes A hx rfl (pc0 := 31) (pc' := 73) rfl (hb hby d_prog_2_m_2_31) rfl (flt (by decide : ¬ ((2 : Int32) < (2 : Int32)))).2.1 (by decide) (by decide) r) ?_
  refine Go.sp (g' := (mkF m 74 #[.val (.ref a1), .val (.int (2 : Int32))] [(.ref a1)])) (fun T A t r => XS.aloadN A hx rfl (hb hby d_prog_2_m_2_73) rfl rfl r) ?_
  refine Go.callVP (a := a1) (z := (⟨"java/lang/String", "length", "()I"⟩ : MethodName)) (W := 0) (y := (⟨"java/lang/String", "length", "()I"⟩ : MethodName)) (argsL := []) (rest := []) (pc' := 77) (hb hby d_prog_2_m_2_74) (own_w hw 58 rfl) (own_w hw 59 rfl) (fun s' hZ => notFace_of_selects (args := #[]) (mvT hZ (own_w hw 61 rfl))) (own_w hw 61 rfl) (own_w hw 60 rfl) (by decide) (fun s' hZ => Bk.pure (StrChars.Road.lenW (kI := 4) (cs := [z1, z2]) hZ (own_lenw hw) (own_w hw 7 rfl) f14 f15 f16 f17 (own_cod rfl lat) (own_up lat) (S0.ext O12.2) P0 (by show 2 ≤ 4000; decide) (by decide) (by decide))) f14 (by rw [hml]; rfl) (lenOf pd_2 rfl) rfl (Nat.le_of_ble_eq_true rfl) rfl (by decide) (by decide) ?_
  rintro v26 rfl
  refine Go.cast (g' := (mkF m 77 #[.val (.ref a1), .val (.int (2 : Int32))] [(.int (2 : Int32))])) rfl ?_
  refine Go.sp (g' := (mkF m 79 #[.val (.ref a1), .val (.int (2 : Int32))] [(.int (100 : Int32)), (.int (2 : Int32))])) (fun T A t r => XS.bipush A hx rfl (hb hby d_prog_2_m_2_77) r) ?_
  refine Go.sp (g' := (mkF m 99 #[.val (.ref a1), .val (.int (2 : Int32))] [])) (fun T A t r => XS.icmpYes A hx rfl (pc0 := 79) (pc' := 99) rfl (hb hby d_prog_2_m_2_79) rfl (flt (by decide : ¬ ((100 : Int32) < (2 : Int32)))).2.2.2 (by decide) (by decide) r) ?_
  refine Go.sp (g' := (mkF m 100 #[.val (.ref a1), .val (.int (2 : Int32))] [(.ref a1)])) (fun T A t r => XS.aloadN A hx rfl (hb hby d_prog_2_m_2_99) rfl rfl r) ?_
  exact Go.ret (v := (some (.ref a1))) (fun s' T L fs X hr => own_retR X hx hret rfl rfl (hb hby d_prog_2_m_2_100) hr) (fun h => by rw [hret] at h; cases h) (by decide) (by decide) rfl
theorem ef_rmT2 (m : MethodId) (x0 : Addr) : entryFrame m #[(.ref x0)] 1 = mkF m 0 #[.val (.ref x0)] [] := by first | (simp [entryFrame, mkF, argsToLocals, Value.category]; done) | rfl
set_option maxRecDepth 65536 in
set_option maxHeartbeats 40000000 in
theorem rmT2 (l : Launch) (Z : State) (a0 : Array Value) (hw : ∀ d ∈ tables_1, d.before a0 Z = true) (wds : List Jvm.Cond) (a1 : Addr) (t1 : Addr) (k1 : ClassId) (z1 : Int32) (z2 : Int32) (zS : Int32) (fm : Value) (h0 : Heap) (n0 : Nat) (O0 : Old Z n0 h0)  (E1 : Exa Z h0 a1 "java/lang/String") (C1 : Fld Z h0 a1 "java/lang/String" "coder" "B" (.int 0)) (V1 : Fld Z h0 a1 "java/lang/String" "value" "[B" (.ref t1)) (B1 : Arv Z h0 t1 k1 .byte (2 : Int32) (([z1, z2].map fun c => c.toInt8.toInt32).map Value.int) (.int 0)) (al1 : own_al z1) (al2 : own_al z2) (S0 : Sta Z Z.heap "java/lang/String" "COMPACT_STRINGS" "Z" (.int zS)) (P0 : ¬ zS = (0 : Int32)) (SF : Sta Z Z.heap "jdk/internal/util/Preconditions" "SIOOBE_FORMATTER" "Ljava/util/function/BiFunction;" fm) (RF : fm.isRef = true) :
    Ct l Z a0 own_EL (⟨"com/example/kept_outbox/keptoutbox/api/Message", "to", "(Ljava/lang/String;)Lcom/example/kept_outbox/keptoutbox/api/Message$Builder;"⟩ : MethodName) prog_6_method_2_code 1 (some (.object "com/example/kept_outbox/keptoutbox/api/Message$Builder")) wds ({ frames := 5, cells := 3, slots := 137, locals := 68 } : Room) #[(.ref a1)] n0 h0 [] (fun v h => ∃ b : Addr, v = some (.ref b) ∧ Exa Z h b "com/example/kept_outbox/keptoutbox/api/Message$Builder" ∧ Fld Z h b "com/example/kept_outbox/keptoutbox/api/Message$Builder" "destination" "Ljava/lang/String;" (.ref a1)) := by
  refine Ct.of (plainFor_of_name pn_com_example_kept_outbox_keptoutbox_api_Message) O0 all0 (own_EW hw) ?_
  intro p e s m below meth c hx hby hml hret hnm
  refine Go.cast (ef_rmT2 m a1) ?_
  refine Go.newO (k' := 1) (n' := 1) (pc' := 3) (hb hby d_prog_6_m_2_0) (own_w hw 39 rfl) (own_w hw 40 rfl) (own_w hw 41 rfl) rfl rfl rfl (by decide) (by decide) ?_
  intro b11 h11 g11 sz11 E11 A11 D11
  have F11_destination : Fld Z h11 b11 "com/example/kept_outbox/keptoutbox/api/Message$Builder" "destination" "Ljava/lang/String;" .null := D11 (Or.inr (own_w hw 98 rfl)) (ty := (.object "java/lang/String")) (by decide)
  refine Go.sp (g' := (mkF m 4 #[.val (.ref a1)] [(.ref b11), (.ref b11)])) (fun T A t r => XS.dup A hx rfl (hb hby d_prog_6_m_2_3) rfl rfl r) ?_
  refine Go.sp (g' := (mkF m 5 #[.val (.ref a1)] [(.ref a1), (.ref b11), (.ref b11)])) (fun T A t r => XS.aloadN A hx rfl (hb hby d_prog_6_m_2_4) rfl rfl r) ?_
  have f12 := (E1.ext E11)
  have f13 := (C1.ext E11)
  have f14 := (V1.ext E11)
  have f15 := (B1.ext E11)
  refine Go.old fun O16 => ?_
  refine Go.callSW (ws' := []) (W := 2) (y := (⟨"com/example/kept_outbox/keptoutbox/api/DestinationName", "check", "(Ljava/lang/String;)Ljava/lang/String;"⟩ : MethodName)) (argsL := [(.ref a1)]) (rest := [(.ref b11), (.ref b11)]) (pc' := 8) (k' := 3) (n' := 137) (hb hby d_prog_6_m_2_5) (own_w hw 42 rfl) (own_w hw 43 rfl) (own_w hw 44 rfl) (own_w hw 45 rfl) (by decide) (rmK2 l Z a0 hw [] a1 t1 k1 z1 z2 zS fm h11 n0 O16 f12 f13 f14 f15 al1 al2 S0 P0 SF RF) (own_w hw 45 rfl) (own_w hw 44 rfl) (by decide) (by decide) (by rw [hml]; rfl) (lenOf pd_5 rfl) rfl (Nat.le_of_ble_eq_true rfl) rfl rfl rfl (by decide) (by decide) all0 ?_
  rintro v17 h17 K17 rfl
  refine Go.cast (g' := (mkF m 8 #[.val (.ref a1)] [(.ref a1), (.ref b11), (.ref b11)])) rfl ?_
  refine Go.old fun O18 => ?_
  have f19 := (A11.keep K17)
  have f20 := (F11_destination.keep K17 nin0)
  refine Go.callR (a := b11) (ws' := [b11]) (W := 1) (y := (⟨"com/example/kept_outbox/keptoutbox/api/Message$Builder", "<init>", "(Ljava/lang/String;)V"⟩ : MethodName)) (argsL := [(.ref a1)]) (rest := [(.ref b11)]) (pc' := 11) (k' := 3) (n' := 137) (hb hby d_prog_6_m_2_8) (fun s' hZ hown => scallRef hx hZ hown rfl (own_w hw 93 rfl) (own_w hw 94 rfl) (own_w hw 95 rfl) (by decide)) (fun s' hZ => OwnN.Ct.bk (rmBI l Z a0 hw [] b11 a1 _ h17 n0 O18 (Nat.le_trans (Old.le O0) sz11) f19 f20) hZ (own_w hw 95 rfl) (own_w hw 41 rfl) (by decide) (by decide)) (by rw [hml]; rfl) (lenOf pd_6 rfl) rfl (Nat.le_of_ble_eq_true rfl) rfl rfl rfl (by decide) (by decide) (allS (Or.inr sz11) all0) (allS (Or.inr SafeA.nil) all0) ?_
  rintro v21 h21 K21 ⟨rfl, F21⟩
  refine Go.cast (g' := (mkF m 11 #[.val (.ref a1)] [(.ref b11)])) rfl ?_
  have f22 := (f19.keep K21)
  exact Go.ret (v := (some (.ref b11))) (fun s' T L fs X hr => own_retR X hx hret rfl rfl (hb hby d_prog_6_m_2_11) hr) (fun h => by rw [hret] at h; cases h) (by decide) (by decide) ⟨_, rfl, f22, F21⟩
theorem ef_rmK3 (m : MethodId) (x0 : Addr) : entryFrame m #[(.ref x0)] 2 = mkF m 0 #[.val (.ref x0), .unset] [] := by first | (simp [entryFrame, mkF, argsToLocals, Value.category]; done) | rfl
set_option maxRecDepth 65536 in
set_option maxHeartbeats 40000000 in
theorem rmK3 (l : Launch) (Z : State) (a0 : Array Value) (hw : ∀ d ∈ tables_1, d.before a0 Z = true) (wds : List Jvm.Cond) (a1 : Addr) (t1 : Addr) (k1 : ClassId) (z1 : Int32) (z2 : Int32) (z3 : Int32) (zS : Int32) (fm : Value) (h0 : Heap) (n0 : Nat) (O0 : Old Z n0 h0)  (E1 : Exa Z h0 a1 "java/lang/String") (C1 : Fld Z h0 a1 "java/lang/String" "coder" "B" (.int 0)) (V1 : Fld Z h0 a1 "java/lang/String" "value" "[B" (.ref t1)) (B1 : Arv Z h0 t1 k1 .byte (3 : Int32) (([z1, z2, z3].map fun c => c.toInt8.toInt32).map Value.int) (.int 0)) (al1 : own_al z1) (al2 : own_al z2) (al3 : own_al z3) (S0 : Sta Z Z.heap "java/lang/String" "COMPACT_STRINGS" "Z" (.int zS)) (P0 : ¬ zS = (0 : Int32)) (SF : Sta Z Z.heap "jdk/internal/util/Preconditions" "SIOOBE_FORMATTER" "Ljava/util/function/BiFunction;" fm) (RF : fm.isRef = true) :
    Ct l Z a0 own_EL (⟨"com/example/kept_outbox/keptoutbox/api/DestinationName", "check", "(Ljava/lang/String;)Ljava/lang/String;"⟩ : MethodName) prog_2_method_2_code 2 (some (.object "java/lang/String")) wds ({ frames := 4, cells := 2, slots := 136, locals := 53 } : Room) #[(.ref a1)] n0 h0 [] (fun v h => v = some (.ref a1)) := by
  refine Ct.of (plainFor_of_name pn_com_example_kept_outbox_keptoutbox_api_DestinationName) O0 all0 (own_EW hw) ?_
  intro p e s m below meth c hx hby hml hret hnm
  refine Go.cast (ef_rmK3 m a1) ?_
  have lat : ∀ c ∈ [z1, z2, z3], ¬ c < 0 ∧ ¬ (255 : Int32) < c := own_allc (own_alb al1) (own_allc (own_alb al2) (own_allc (own_alb al3) (own_allc0)))
  refine Go.sp (g' := (mkF m 1 #[.val (.ref a1), .unset] [(.ref a1)])) (fun T A t r => XS.aloadN A hx rfl (hb hby d_prog_2_m_2_0) rfl rfl r) ?_
  refine Go.ldc0 (nn := 132) (k' := 2) (n' := 136) (pc' := 3) (hb hby d_prog_2_m_2_1) (own_w hw 46 rfl) (own_strA hw) (by decide) (by decide) rfl rfl rfl (by decide) (by decide) ?_
  intro a11 h11 E11
  refine Go.old fun O12 => ?_
  refine Go.callSPW (W := 0) (y := (⟨"java/util/Objects", "requireNonNull", "(Ljava/lang/Object;Ljava/lang/String;)Ljava/lang/Object;"⟩ : MethodName)) (argsL := [(.ref a1), (.ref a11)]) (rest := []) (pc' := 6) (k' := 2) (n' := 136) (hb hby d_prog_2_m_2_3) (own_w hw 49 rfl) (own_w hw 50 rfl) (own_w hw 51 rfl) (own_w hw 52 rfl) (by decide) (rmR l Z a0 hw [] a1 a11 h11 n0 O12) (own_w hw 52 rfl) (own_w hw 51 rfl) (by decide) (by decide) (by rw [hml]; rfl) (lenOf pd_0 rfl) rfl (Nat.le_of_ble_eq_true rfl) rfl rfl rfl (by decide) (by decide) ?_
  rintro v13 rfl
  refine Go.cast (g' := (mkF m 6 #[.val (.ref a1), .unset] [(.ref a1)])) rfl ?_
  refine Go.sp (g' := (mkF m 7 #[.val (.ref a1), .unset] [])) (fun T A t r => XS.pop A hx rfl (hb hby d_prog_2_m_2_6) rfl rfl r) ?_
  refine Go.sp (g' := (mkF m 8 #[.val (.ref a1), .unset] [(.ref a1)])) (fun T A t r => XS.aloadN A hx rfl (hb hby d_prog_2_m_2_7) rfl rfl r) ?_
  have f14 := (E1.ext E11)
  have f15 := (V1.ext E11)
  have f16 := (C1.ext E11)
  have f17 := (B1.ext E11)
  refine Go.callVP (a := a1) (z := (⟨"java/lang/String", "isEmpty", "()Z"⟩ : MethodName)) (W := 0) (y := (⟨"java/lang/String", "isEmpty", "()Z"⟩ : MethodName)) (argsL := []) (rest := []) (pc' := 11) (hb hby d_prog_2_m_2_8) (own_w hw 53 rfl) (own_w hw 54 rfl) (fun s' hZ => notFace_of_selects (args := #[]) (mvT hZ (own_w hw 56 rfl))) (own_w hw 56 rfl) (own_w hw 55 rfl) (by decide) (fun s' hZ => Bk.pure (StrChars.Road.empW (kI := 4) (cs := [z1, z2, z3]) hZ (own_empw hw) (own_w hw 7 rfl) f14 f15 f16 f17 (own_cod rfl lat) (own_up lat) (by show 3 ≤ 4000; decide) (by decide) (by decide))) f14 (by rw [hml]; rfl) (lenOf pd_1 rfl) rfl (Nat.le_of_ble_eq_true rfl) rfl (by decide) (by decide) ?_
  rintro v18 rfl
  refine Go.cast (g' := (mkF m 11 #[.val (.ref a1), .unset] [(.int (0 : Int32))])) rfl ?_
  refine Go.sp (g' := (mkF m 24 #[.val (.ref a1), .unset] [])) (fun T A t r => XS.ifYes A hx rfl (pc0 := 11) (pc' := 24) rfl (hb hby d_prog_2_m_2_11) rfl ((if0 _ _).trans (teq (by decide : ((0 : Int32) = (0 : Int32)))).1) (by decide) (by decide) r) ?_
  refine Go.sp (g' := (mkF m 25 #[.val (.ref a1), .unset] [(.int (0 : Int32))])) (fun T A t r => XS.iconst A hx rfl (hb hby d_prog_2_m_2_24) r) ?_
  refine Go.sp (g' := (mkF m 26 #[.val (.ref a1), .val (.int (0 : Int32))] [])) (fun T A t r => XS.istoreN A hx rfl (hb hby d_prog_2_m_2_25) rfl (l' := #[.val (.ref a1), .val (.int (0 : Int32))]) rfl r) ?_
  refine Go.sp (g' := (mkF m 27 #[.val (.ref a1), .val (.int (0 : Int32))] [(.int (0 : Int32))])) (fun T A t r => XS.iloadN A hx rfl (hb hby d_prog_2_m_2_26) rfl r) ?_
  refine Go.sp (g' := (mkF m 28 #[.val (.ref a1), .val (.int (0 : Int32))] [(.ref a1), (.int (0 : Int32))])) (fun T A t r => XS.aloadN A hx rfl (hb hby d_prog_2_m_2_27) rfl rfl r) ?_
  refine Go.callVP (a := a1) (z := (⟨"java/lang/String", "length", "()I"⟩ : MethodName)) (W := 1) (y := (⟨"java/lang/String", "length", "()I"⟩ : MethodName)) (argsL := []) (rest := [(.int (0 : Int32))]) (pc' := 31) (hb hby d_prog_2_m_2_28) (own_w hw 58 rfl) (own_w hw 59 rfl) (fun s' hZ => notFace_of_selects (args := #[]) (mvT hZ (own_w hw 61 rfl))) (own_w hw 61 rfl) (own_w hw 60 rfl) (by decide) (fun s' hZ => Bk.pure (StrChars.Road.lenW (kI := 4) (cs := [z1, z2, z3]) hZ (own_lenw hw) (own_w hw 7 rfl) f14 f15 f16 f17 (own_cod rfl lat) (own_up lat) (S0.ext O12.2) P0 (by show 3 ≤ 4000; decide) (by decide) (by decide))) f14 (by rw [hml]; rfl) (lenOf pd_2 rfl) rfl (Nat.le_of_ble_eq_true rfl) rfl (by decide) (by decide) ?_
  rintro v19 rfl
  refine Go.cast (g' := (mkF m 31 #[.val (.ref a1), .val (.int (0 : Int32))] [(.int (3 : Int32)), (.int (0 : Int32))])) rfl ?_
  refine Go.sp (g' := (mkF m 34 #[.val (.ref a1), .val (.int (0 : Int32))] [])) (fun T A t r => XS.icmpNo A hx rfl (hb hby d_prog_2_m_2_31) rfl (tlt (by decide : ((0 : Int32) < (3 : Int32)))).2.1 r) ?_
  refine Go.sp (g' := (mkF m 35 #[.val (.ref a1), .val (.int (0 : Int32))] [(.ref a1)])) (fun T A t r => XS.aloadN A hx rfl (hb hby d_prog_2_m_2_34) rfl rfl r) ?_
  refine Go.sp (g' := (mkF m 36 #[.val (.ref a1), .val (.int (0 : Int32))] [(.int (0 : Int32)), (.ref a1)])) (fun T A t r => XS.iloadN A hx rfl (hb hby d_prog_2_m_2_35) rfl r) ?_
  refine Go.callVP (a := a1) (z := (⟨"java/lang/String", "charAt", "(I)C"⟩ : MethodName)) (W := 0) (y := (⟨"java/lang/String", "charAt", "(I)C"⟩ : MethodName)) (argsL := [(.int (0 : Int32))]) (rest := []) (pc' := 39) (hb hby d_prog_2_m_2_36) (own_w hw 68 rfl) (own_w hw 69 rfl) (fun s' hZ => notFace_of_selects (args := #[]) (mvT hZ (own_w hw 71 rfl))) (own_w hw 71 rfl) (own_w hw 70 rfl) (by decide) (fun s' hZ => Bk.pure (StrChars.Road.chN (kI := 4) (cs := [z1, z2, z3]) (i := 0) hZ (own_chwd hw) (own_w hw 7 rfl) f14 f15 f16 f17 (own_cod rfl lat) (own_up lat) (S0.ext O12.2) P0 (SF.ext O12.2) RF (by show 3 ≤ 4000; decide) (by show 0 < 3; decide) rfl (by decide) (by decide))) f14 (by rw [hml]; rfl) (lenOf pd_3 rfl) rfl (Nat.le_of_ble_eq_true rfl) rfl (by decide) (by decide) ?_
  rintro v20 rfl
  refine Go.cast (g' := (mkF m 39 #[.val (.ref a1), .val (.int (0 : Int32))] [(.int z1)])) rfl ?_
  refine Go.callSPW (W := 0) (y := (⟨"com/example/kept_outbox/keptoutbox/api/DestinationName", "isAllowed", "(C)Z"⟩ : MethodName)) (argsL := [(.int z1)]) (rest := []) (pc' := 42) (k' := 2) (n' := 136) (hb hby d_prog_2_m_2_39) (own_w hw 90 rfl) (own_w hw 91 rfl) (own_w hw 44 rfl) (own_w hw 92 rfl) (by decide) (rmW l Z a0 hw [] z1 h11 n0 O12 al1) (own_w hw 92 rfl) (own_w hw 44 rfl) (by decide) (by decide) (by rw [hml]; rfl) (lenOf pd_4 rfl) rfl (Nat.le_of_ble_eq_true rfl) rfl rfl rfl (by decide) (by decide) ?_
  rintro v21 rfl
  refine Go.cast (g' := (mkF m 42 #[.val (.ref a1), .val (.int (0 : Int32))] [(.int (1 : Int32))])) rfl ?_
  refine Go.sp (g' := (mkF m 67 #[.val (.ref a1), .val (.int (0 : Int32))] [])) (fun T A t r => XS.ifYes A hx rfl (pc0 := 42) (pc' := 67) rfl (hb hby d_prog_2_m_2_42) rfl ((if0 _ _).trans (feq (by decide : ¬ ((1 : Int32) = (0 : Int32)))).2) (by decide) (by decide) r) ?_
  refine Go.sp (g' := (mkF m 70 #[.val (.ref a1), .val (.int (1 : Int32))] [])) (fun T A t r => XS.iinc A hx rfl (hb hby d_prog_2_m_2_67) rfl (l' := #[.val (.ref a1), .val (.int (1 : Int32))]) rfl r) ?_
  refine Go.sp (g' := (mkF m 26 #[.val (.ref a1), .val (.int (1 : Int32))] [])) (fun T A t r => XS.goto A hx rfl (pc0 := 70) (pc' := 26) rfl (hb hby d_prog_2_m_2_70) (by decide) (by decide) r) ?_
  refine Go.sp (g' := (mkF m 27 #[.val (.ref a1), .val (.int (1 : Int32))] [(.int (1 : Int32))])) (fun T A t r => XS.iloadN A hx rfl (hb hby d_prog_2_m_2_26) rfl r) ?_
  refine Go.sp (g' := (mkF m 28 #[.val (.ref a1), .val (.int (1 : Int32))] [(.ref a1), (.int (1 : Int32))])) (fun T A t r => XS.aloadN A hx rfl (hb hby d_prog_2_m_2_27) rfl rfl r) ?_
  refine Go.callVP (a := a1) (z := (⟨"java/lang/String", "length", "()I"⟩ : MethodName)) (W := 1) (y := (⟨"java/lang/String", "length", "()I"⟩ : MethodName)) (argsL := []) (rest := [(.int (1 : Int32))]) (pc' := 31) (hb hby d_prog_2_m_2_28) (own_w hw 58 rfl) (own_w hw 59 rfl) (fun s' hZ => notFace_of_selects (args := #[]) (mvT hZ (own_w hw 61 rfl))) (own_w hw 61 rfl) (own_w hw 60 rfl) (by decide) (fun s' hZ => Bk.pure (StrChars.Road.lenW (kI := 4) (cs := [z1, z2, z3]) hZ (own_lenw hw) (own_w hw 7 rfl) f14 f15 f16 f17 (own_cod rfl lat) (own_up lat) (S0.ext O12.2) P0 (by show 3 ≤ 4000; decide) (by decide) (by decide))) f14 (by rw [hml]; rfl) (lenOf pd_2 rfl) rfl (Nat.le_of_ble_eq_true rfl) rfl (by decide) (by decide) ?_
  rintro v22 rfl
  refine Go.cast (g' := (mkF m 31 #[.val (.ref a1), .val (.int (1 : Int32))] [(.int (3 : Int32)), (.int (1 : Int32))])) rfl ?_
  refine Go.sp (g' := (mkF m 34 #[.val (.ref a1), .val (.int (1 : Int32))] [])) (fun T A t r => XS.icmpNo A hx rfl (hb hby d_prog_2_m_2_31) rfl (tlt (by decide : ((1 : Int32) < (3 : Int32)))).2.1 r) ?_
  refine Go.sp (g' := (mkF m 35 #[.val (.ref a1), .val (.int (1 : Int32))] [(.ref a1)])) (fun T A t r => XS.aloadN A hx rfl (hb hby d_prog_2_m_2_34) rfl rfl r) ?_
  refine Go.sp (g' := (mkF m 36 #[.val (.ref a1), .val (.int (1 : Int32))] [(.int (1 : Int32)), (.ref a1)])) (fun T A t r => XS.iloadN A hx rfl (hb hby d_prog_2_m_2_35) rfl r) ?_
  refine Go.callVP (a := a1) (z := (⟨"java/lang/String", "charAt", "(I)C"⟩ : MethodName)) (W := 0) (y := (⟨"java/lang/String", "charAt", "(I)C"⟩ : MethodName)) (argsL := [(.int (1 : Int32))]) (rest := []) (pc' := 39) (hb hby d_prog_2_m_2_36) (own_w hw 68 rfl) (own_w hw 69 rfl) (fun s' hZ => notFace_of_selects (args := #[]) (mvT hZ (own_w hw 71 rfl))) (own_w hw 71 rfl) (own_w hw 70 rfl) (by decide) (fun s' hZ => Bk.pure (StrChars.Road.chN (kI := 4) (cs := [z1, z2, z3]) (i := 1) hZ (own_chwd hw) (own_w hw 7 rfl) f14 f15 f16 f17 (own_cod rfl lat) (own_up lat) (S0.ext O12.2) P0 (SF.ext O12.2) RF (by show 3 ≤ 4000; decide) (by show 1 < 3; decide) rfl (by decide) (by decide))) f14 (by rw [hml]; rfl) (lenOf pd_3 rfl) rfl (Nat.le_of_ble_eq_true rfl) rfl (by decide) (by decide) ?_
  rintro v23 rfl
  refine Go.cast (g' := (mkF m 39 #[.val (.ref a1), .val (.int (1 : Int32))] [(.int z2)])) rfl ?_
  refine Go.callSPW (W := 0) (y := (⟨"com/example/kept_outbox/keptoutbox/api/DestinationName", "isAllowed", "(C)Z"⟩ : MethodName)) (argsL := [(.int z2)]) (rest := []) (pc' := 42) (k' := 2) (n' := 136) (hb hby d_prog_2_m_2_39) (own_w hw 90 rfl) (own_w hw 91 rfl) (own_w hw 44 rfl) (own_w hw 92 rfl) (by decide) (rmW l Z a0 hw [] z2 h11 n0 O12 al2) (own_w hw 92 rfl) (own_w hw 44 rfl) (by decide) (by decide) (by rw [hml]; rfl) (lenOf pd_4 rfl) rfl (Nat.le_of_ble_eq_true rfl) rfl rfl rfl (by decide) (by decide) ?_
  rintro v24 rfl
  refine Go.cast (g' := (mkF m 42 #[.val (.ref a1), .val (.int (1 : Int32))] [(.int (1 : Int32))])) rfl ?_
  refine Go.sp (g' := (mkF m 67 #[.val (.ref a1), .val (.int (1 : Int32))] [])) (fun T A t r => XS.ifYes A hx rfl (pc0 := 42) (pc' := 67) rfl (hb hby d_prog_2_m_2_42) rfl ((if0 _ _).trans (feq (by decide : ¬ ((1 : Int32) = (0 : Int32)))).2) (by decide) (by decide) r) ?_
  refine Go.sp (g' := (mkF m 70 #[.val (.ref a1), .val (.int (2 : Int32))] [])) (fun T A t r => XS.iinc A hx rfl (hb hby d_prog_2_m_2_67) rfl (l' := #[.val (.ref a1), .val (.int (2 : Int32))]) rfl r) ?_
  refine Go.sp (g' := (mkF m 26 #[.val (.ref a1), .val (.int (2 : Int32))] [])) (fun T A t r => XS.goto A hx rfl (pc0 := 70) (pc' := 26) rfl (hb hby d_prog_2_m_2_70) (by decide) (by decide) r) ?_
  refine Go.sp (g' := (mkF m 27 #[.val (.ref a1), .val (.int (2 : Int32))] [(.int (2 : Int32))])) (fun T A t r => XS.iloadN A hx rfl (hb hby d_prog_2_m_2_26) rfl r) ?_
  refine Go.sp (g' := (mkF m 28 #[.val (.ref a1), .val (.int (2 : Int32))] [(.ref a1), (.int (2 : Int32))])) (fun T A t r => XS.aloadN A hx rfl (hb hby d_prog_2_m_2_27) rfl rfl r) ?_
  refine Go.callVP (a := a1) (z := (⟨"java/lang/String", "length", "()I"⟩ : MethodName)) (W := 1) (y := (⟨"java/lang/String", "length", "()I"⟩ : MethodName)) (argsL := []) (rest := [(.int (2 : Int32))]) (pc' := 31) (hb hby d_prog_2_m_2_28) (own_w hw 58 rfl) (own_w hw 59 rfl) (fun s' hZ => notFace_of_selects (args := #[]) (mvT hZ (own_w hw 61 rfl))) (own_w hw 61 rfl) (own_w hw 60 rfl) (by decide) (fun s' hZ => Bk.pure (StrChars.Road.lenW (kI := 4) (cs := [z1, z2, z3]) hZ (own_lenw hw) (own_w hw 7 rfl) f14 f15 f16 f17 (own_cod rfl lat) (own_up lat) (S0.ext O12.2) P0 (by show 3 ≤ 4000; decide) (by decide) (by decide))) f14 (by rw [hml]; rfl) (lenOf pd_2 rfl) rfl (Nat.le_of_ble_eq_true rfl) rfl (by decide) (by decide) ?_
  rintro v25 rfl
  refine Go.cast (g' := (mkF m 31 #[.val (.ref a1), .val (.int (2 : Int32))] [(.int (3 : Int32)), (.int (2 : Int32))])) rfl ?_
  refine Go.sp (g' := (mkF m 34 #[.val (.ref a1), .val (.int (2 : Int32))] [])) (fun T A t r => XS.icmpNo A hx rfl (hb hby d_prog_2_m_2_31) rfl (tlt (by decide : ((2 : Int32) < (3 : Int32)))).2.1 r) ?_
  refine Go.sp (g' := (mkF m 35 #[.val (.ref a1), .val (.int (2 : Int32))] [(.ref a1)])) (fun T A t r => XS.aloadN A hx rfl (hb hby d_prog_2_m_2_34) rfl rfl r) ?_
  refine Go.sp (g' := (mkF m 36 #[.val (.ref a1), .val (.int (2 : Int32))] [(.int (2 : Int32)), (.ref a1)])) (fun T A t r => XS.iloadN A hx rfl (hb hby d_prog_2_m_2_35) rfl r) ?_
  refine Go.callVP (a := a1) (z := (⟨"java/lang/String", "charAt", "(I)C"⟩ : MethodName)) (W := 0) (y := (⟨"java/lang/String", "charAt", "(I)C"⟩ : MethodName)) (argsL := [(.int (2 : Int32))]) (rest := []) (pc' := 39) (hb hby d_prog_2_m_2_36) (own_w hw 68 rfl) (own_w hw 69 rfl) (fun s' hZ => notFace_of_selects (args := #[]) (mvT hZ (own_w hw 71 rfl))) (own_w hw 71 rfl) (own_w hw 70 rfl) (by decide) (fun s' hZ => Bk.pure (StrChars.Road.chN (kI := 4) (cs := [z1, z2, z3]) (i := 2) hZ (own_chwd hw) (own_w hw 7 rfl) f14 f15 f16 f17 (own_cod rfl lat) (own_up lat) (S0.ext O12.2) P0 (SF.ext O12.2) RF (by show 3 ≤ 4000; decide) (by show 2 < 3; decide) rfl (by decide) (by decide))) f14 (by rw [hml]; rfl) (lenOf pd_3 rfl) rfl (Nat.le_of_ble_eq_true rfl) rfl (by decide) (by decide) ?_
  rintro v26 rfl
  refine Go.cast (g' := (mkF m 39 #[.val (.ref a1), .val (.int (2 : Int32))] [(.int z3)])) rfl ?_
  refine Go.callSPW (W := 0) (y := (⟨"com/example/kept_outbox/keptoutbox/api/DestinationName", "isAllowed", "(C)Z"⟩ : MethodName)) (argsL := [(.int z3)]) (rest := []) (pc' := 42) (k' := 2) (n' := 136) (hb hby d_prog_2_m_2_39) (own_w hw 90 rfl) (own_w hw 91 rfl) (own_w hw 44 rfl) (own_w hw 92 rfl) (by decide) (rmW l Z a0 hw [] z3 h11 n0 O12 al3) (own_w hw 92 rfl) (own_w hw 44 rfl) (by decide) (by decide) (by rw [hml]; rfl) (lenOf pd_4 rfl) rfl (Nat.le_of_ble_eq_true rfl) rfl rfl rfl (by decide) (by decide) ?_
  rintro v27 rfl
  refine Go.cast (g' := (mkF m 42 #[.val (.ref a1), .val (.int (2 : Int32))] [(.int (1 : Int32))])) rfl ?_
  refine Go.sp (g' := (mkF m 67 #[.val (.ref a1), .val (.int (2 : Int32))] [])) (fun T A t r => XS.ifYes A hx rfl (pc0 := 42) (pc' := 67) rfl (hb hby d_prog_2_m_2_42) rfl ((if0 _ _).trans (feq (by decide : ¬ ((1 : Int32) = (0 : Int32)))).2) (by decide) (by decide) r) ?_
  refine Go.sp (g' := (mkF m 70 #[.val (.ref a1), .val (.int (3 : Int32))] [])) (fun T A t r => XS.iinc A hx rfl (hb hby d_prog_2_m_2_67) rfl (l' := #[.val (.ref a1), .val (.int (3 : Int32))]) rfl r) ?_
  refine Go.sp (g' := (mkF m 26 #[.val (.ref a1), .val (.int (3 : Int32))] [])) (fun T A t r => XS.goto A hx rfl (pc0 := 70) (pc' := 26) rfl (hb hby d_prog_2_m_2_70) (by decide) (by decide) r) ?_
  refine Go.sp (g' := (mkF m 27 #[.val (.ref a1), .val (.int (3 : Int32))] [(.int (3 : Int32))])) (fun T A t r => XS.iloadN A hx rfl (hb hby d_prog_2_m_2_26) rfl r) ?_
  refine Go.sp (g' := (mkF m 28 #[.val (.ref a1), .val (.int (3 : Int32))] [(.ref a1), (.int (3 : Int32))])) (fun T A t r => XS.aloadN A hx rfl (hb hby d_prog_2_m_2_27) rfl rfl r) ?_
  refine Go.callVP (a := a1) (z := (⟨"java/lang/String", "length", "()I"⟩ : MethodName)) (W := 1) (y := (⟨"java/lang/String", "length", "()I"⟩ : MethodName)) (argsL := []) (rest := [(.int (3 : Int32))]) (pc' := 31) (hb hby d_prog_2_m_2_28) (own_w hw 58 rfl) (own_w hw 59 rfl) (fun s' hZ => notFace_of_selects (args := #[]) (mvT hZ (own_w hw 61 rfl))) (own_w hw 61 rfl) (own_w hw 60 rfl) (by decide) (fun s' hZ => Bk.pure (StrChars.Road.lenW (kI := 4) (cs := [z1, z2, z3]) hZ (own_lenw hw) (own_w hw 7 rfl) f14 f15 f16 f17 (own_cod rfl lat) (own_up lat) (S0.ext O12.2) P0 (by show 3 ≤ 4000; decide) (by decide) (by decide))) f14 (by rw [hml]; rfl) (lenOf pd_2 rfl) rfl (Nat.le_of_ble_eq_true rfl) rfl (by decide) (by decide) ?_
  rintro v28 rfl
  refine Go.cast (g' := (mkF m 31 #[.val (.ref a1), .val (.int (3 : Int32))] [(.int (3 : Int32)), (.int (3 : Int32))])) rfl ?_
  refine Go.sp (g' := (mkF m 73 #[.val (.ref a1), .val (.int (3 : Int32))] [])) (fun T A t r => XS.icmpYes A hx rfl (pc0 := 31) (pc' := 73) rfl (hb hby d_prog_2_m_2_31) rfl (flt (by decide : ¬ ((3 : Int32) < (3 : Int32)))).2.1 (by decide) (by decide) r) ?_
  refine Go.sp (g' := (mkF m 74 #[.val (.ref a1), .val (.int (3 : Int32))] [(.ref a1)])) (fun T A t r => XS.aloadN A hx rfl (hb hby d_prog_2_m_2_73) rfl rfl r) ?_
  refine Go.callVP (a := a1) (z := (⟨"java/lang/String", "length", "()I"⟩ : MethodName)) (W := 0) (y := (⟨"java/lang/String", "length", "()I"⟩ : MethodName)) (argsL := []) (rest := []) (pc' := 77) (hb hby d_prog_2_m_2_74) (own_w hw 58 rfl) (own_w hw 59 rfl) (fun s' hZ => notFace_of_selects (args := #[]) (mvT hZ (own_w hw 61 rfl))) (own_w hw 61 rfl) (own_w hw 60 rfl) (by decide) (fun s' hZ => Bk.pure (StrChars.Road.lenW (kI := 4) (cs := [z1, z2, z3]) hZ (own_lenw hw) (own_w hw 7 rfl) f14 f15 f16 f17 (own_cod rfl lat) (own_up lat) (S0.ext O12.2) P0 (by show 3 ≤ 4000; decide) (by decide) (by decide))) f14 (by rw [hml]; rfl) (lenOf pd_2 rfl) rfl (Nat.le_of_ble_eq_true rfl) rfl (by decide) (by decide) ?_
  rintro v29 rfl
  refine Go.cast (g' := (mkF m 77 #[.val (.ref a1), .val (.int (3 : Int32))] [(.int (3 : Int32))])) rfl ?_
  refine Go.sp (g' := (mkF m 79 #[.val (.ref a1), .val (.int (3 : Int32))] [(.int (100 : Int32)), (.int (3 : Int32))])) (fun T A t r => XS.bipush A hx rfl (hb hby d_prog_2_m_2_77) r) ?_
  refine Go.sp (g' := (mkF m 99 #[.val (.ref a1), .val (.int (3 : Int32))] [])) (fun T A t r => XS.icmpYes A hx rfl (pc0 := 79) (pc' := 99) rfl (hb hby d_prog_2_m_2_79) rfl (flt (by decide : ¬ ((100 : Int32) < (3 : Int32)))).2.2.2 (by decide) (by decide) r) ?_
  refine Go.sp (g' := (mkF m 100 #[.val (.ref a1), .val (.int (3 : Int32))] [(.ref a1)])) (fun T A t r => XS.aloadN A hx rfl (hb hby d_prog_2_m_2_99) rfl rfl r) ?_
  exact Go.ret (v := (some (.ref a1))) (fun s' T L fs X hr => own_retR X hx hret rfl rfl (hb hby d_prog_2_m_2_100) hr) (fun h => by rw [hret] at h; cases h) (by decide) (by decide) rfl
theorem ef_rmT3 (m : MethodId) (x0 : Addr) : entryFrame m #[(.ref x0)] 1 = mkF m 0 #[.val (.ref x0)] [] := by first | (simp [entryFrame, mkF, argsToLocals, Value.category]; done) | rfl
set_option maxRecDepth 65536 in
set_option maxHeartbeats 40000000 in
theorem rmT3 (l : Launch) (Z : State) (a0 : Array Value) (hw : ∀ d ∈ tables_1, d.before a0 Z = true) (wds : List Jvm.Cond) (a1 : Addr) (t1 : Addr) (k1 : ClassId) (z1 : Int32) (z2 : Int32) (z3 : Int32) (zS : Int32) (fm : Value) (h0 : Heap) (n0 : Nat) (O0 : Old Z n0 h0)  (E1 : Exa Z h0 a1 "java/lang/String") (C1 : Fld Z h0 a1 "java/lang/String" "coder" "B" (.int 0)) (V1 : Fld Z h0 a1 "java/lang/String" "value" "[B" (.ref t1)) (B1 : Arv Z h0 t1 k1 .byte (3 : Int32) (([z1, z2, z3].map fun c => c.toInt8.toInt32).map Value.int) (.int 0)) (al1 : own_al z1) (al2 : own_al z2) (al3 : own_al z3) (S0 : Sta Z Z.heap "java/lang/String" "COMPACT_STRINGS" "Z" (.int zS)) (P0 : ¬ zS = (0 : Int32)) (SF : Sta Z Z.heap "jdk/internal/util/Preconditions" "SIOOBE_FORMATTER" "Ljava/util/function/BiFunction;" fm) (RF : fm.isRef = true) :
    Ct l Z a0 own_EL (⟨"com/example/kept_outbox/keptoutbox/api/Message", "to", "(Ljava/lang/String;)Lcom/example/kept_outbox/keptoutbox/api/Message$Builder;"⟩ : MethodName) prog_6_method_2_code 1 (some (.object "com/example/kept_outbox/keptoutbox/api/Message$Builder")) wds ({ frames := 5, cells := 3, slots := 137, locals := 68 } : Room) #[(.ref a1)] n0 h0 [] (fun v h => ∃ b : Addr, v = some (.ref b) ∧ Exa Z h b "com/example/kept_outbox/keptoutbox/api/Message$Builder" ∧ Fld Z h b "com/example/kept_outbox/keptoutbox/api/Message$Builder" "destination" "Ljava/lang/String;" (.ref a1)) := by
  refine Ct.of (plainFor_of_name pn_com_example_kept_outbox_keptoutbox_api_Message) O0 all0 (own_EW hw) ?_
  intro p e s m below meth c hx hby hml hret hnm
  refine Go.cast (ef_rmT3 m a1) ?_
  refine Go.newO (k' := 1) (n' := 1) (pc' := 3) (hb hby d_prog_6_m_2_0) (own_w hw 39 rfl) (own_w hw 40 rfl) (own_w hw 41 rfl) rfl rfl rfl (by decide) (by decide) ?_
  intro b11 h11 g11 sz11 E11 A11 D11
  have F11_destination : Fld Z h11 b11 "com/example/kept_outbox/keptoutbox/api/Message$Builder" "destination" "Ljava/lang/String;" .null := D11 (Or.inr (own_w hw 98 rfl)) (ty := (.object "java/lang/String")) (by decide)
  refine Go.sp (g' := (mkF m 4 #[.val (.ref a1)] [(.ref b11), (.ref b11)])) (fun T A t r => XS.dup A hx rfl (hb hby d_prog_6_m_2_3) rfl rfl r) ?_
  refine Go.sp (g' := (mkF m 5 #[.val (.ref a1)] [(.ref a1), (.ref b11), (.ref b11)])) (fun T A t r => XS.aloadN A hx rfl (hb hby d_prog_6_m_2_4) rfl rfl r) ?_
  have f12 := (E1.ext E11)
  have f13 := (C1.ext E11)
  have f14 := (V1.ext E11)
  have f15 := (B1.ext E11)
  refine Go.old fun O16 => ?_
  refine Go.callSW (ws' := []) (W := 2) (y := (⟨"com/example/kept_outbox/keptoutbox/api/DestinationName", "check", "(Ljava/lang/String;)Ljava/lang/String;"⟩ : MethodName)) (argsL := [(.ref a1)]) (rest := [(.ref b11), (.ref b11)]) (pc' := 8) (k' := 3) (n' := 137) (hb hby d_prog_6_m_2_5) (own_w hw 42 rfl) (own_w hw 43 rfl) (own_w hw 44 rfl) (own_w hw 45 rfl) (by decide) (rmK3 l Z a0 hw [] a1 t1 k1 z1 z2 z3 zS fm h11 n0 O16 f12 f13 f14 f15 al1 al2 al3 S0 P0 SF RF) (own_w hw 45 rfl) (own_w hw 44 rfl) (by decide) (by decide) (by rw [hml]; rfl) (lenOf pd_5 rfl) rfl (Nat.le_of_ble_eq_true rfl) rfl rfl rfl (by decide) (by decide) all0 ?_
  rintro v17 h17 K17 rfl
  refine Go.cast (g' := (mkF m 8 #[.val (.ref a1)] [(.ref a1), (.ref b11), (.ref b11)])) rfl ?_
  refine Go.old fun O18 => ?_
  have f19 := (A11.keep K17)
  have f20 := (F11_destination.keep K17 nin0)
  refine Go.callR (a := b11) (ws' := [b11]) (W := 1) (y := (⟨"com/example/kept_outbox/keptoutbox/api/Message$Builder", "<init>", "(Ljava/lang/String;)V"⟩ : MethodName)) (argsL := [(.ref a1)]) (rest := [(.ref b11)]) (pc' := 11) (k' := 3) (n' := 137) (hb hby d_prog_6_m_2_8) (fun s' hZ hown => scallRef hx hZ hown rfl (own_w hw 93 rfl) (own_w hw 94 rfl) (own_w hw 95 rfl) (by decide)) (fun s' hZ => OwnN.Ct.bk (rmBI l Z a0 hw [] b11 a1 _ h17 n0 O18 (Nat.le_trans (Old.le O0) sz11) f19 f20) hZ (own_w hw 95 rfl) (own_w hw 41 rfl) (by decide) (by decide)) (by rw [hml]; rfl) (lenOf pd_6 rfl) rfl (Nat.le_of_ble_eq_true rfl) rfl rfl rfl (by decide) (by decide) (allS (Or.inr sz11) all0) (allS (Or.inr SafeA.nil) all0) ?_
  rintro v21 h21 K21 ⟨rfl, F21⟩
  refine Go.cast (g' := (mkF m 11 #[.val (.ref a1)] [(.ref b11)])) rfl ?_
  have f22 := (f19.keep K21)
  exact Go.ret (v := (some (.ref b11))) (fun s' T L fs X hr => own_retR X hx hret rfl rfl (hb hby d_prog_6_m_2_11) hr) (fun h => by rw [hret] at h; cases h) (by decide) (by decide) ⟨_, rfl, f22, F21⟩
theorem ef_rmK4 (m : MethodId) (x0 : Addr) : entryFrame m #[(.ref x0)] 2 = mkF m 0 #[.val (.ref x0), .unset] [] := by first | (simp [entryFrame, mkF, argsToLocals, Value.category]; done) | rfl
set_option maxRecDepth 65536 in
set_option maxHeartbeats 40000000 in
theorem rmK4 (l : Launch) (Z : State) (a0 : Array Value) (hw : ∀ d ∈ tables_1, d.before a0 Z = true) (wds : List Jvm.Cond) (a1 : Addr) (t1 : Addr) (k1 : ClassId) (z1 : Int32) (z2 : Int32) (z3 : Int32) (z4 : Int32) (zS : Int32) (fm : Value) (h0 : Heap) (n0 : Nat) (O0 : Old Z n0 h0)  (E1 : Exa Z h0 a1 "java/lang/String") (C1 : Fld Z h0 a1 "java/lang/String" "coder" "B" (.int 0)) (V1 : Fld Z h0 a1 "java/lang/String" "value" "[B" (.ref t1)) (B1 : Arv Z h0 t1 k1 .byte (4 : Int32) (([z1, z2, z3, z4].map fun c => c.toInt8.toInt32).map Value.int) (.int 0)) (al1 : own_al z1) (al2 : own_al z2) (al3 : own_al z3) (al4 : own_al z4) (S0 : Sta Z Z.heap "java/lang/String" "COMPACT_STRINGS" "Z" (.int zS)) (P0 : ¬ zS = (0 : Int32)) (SF : Sta Z Z.heap "jdk/internal/util/Preconditions" "SIOOBE_FORMATTER" "Ljava/util/function/BiFunction;" fm) (RF : fm.isRef = true) :
    Ct l Z a0 own_EL (⟨"com/example/kept_outbox/keptoutbox/api/DestinationName", "check", "(Ljava/lang/String;)Ljava/lang/String;"⟩ : MethodName) prog_2_method_2_code 2 (some (.object "java/lang/String")) wds ({ frames := 4, cells := 2, slots := 136, locals := 53 } : Room) #[(.ref a1)] n0 h0 [] (fun v h => v = some (.ref a1)) := by
  refine Ct.of (plainFor_of_name pn_com_example_kept_outbox_keptoutbox_api_DestinationName) O0 all0 (own_EW hw) ?_
  intro p e s m below meth c hx hby hml hret hnm
  refine Go.cast (ef_rmK4 m a1) ?_
  have lat : ∀ c ∈ [z1, z2, z3, z4], ¬ c < 0 ∧ ¬ (255 : Int32) < c := own_allc (own_alb al1) (own_allc (own_alb al2) (own_allc (own_alb al3) (own_allc (own_alb al4) (own_allc0))))
  refine Go.sp (g' := (mkF m 1 #[.val (.ref a1), .unset] [(.ref a1)])) (fun T A t r => XS.aloadN A hx rfl (hb hby d_prog_2_m_2_0) rfl rfl r) ?_
  refine Go.ldc0 (nn := 132) (k' := 2) (n' := 136) (pc' := 3) (hb hby d_prog_2_m_2_1) (own_w hw 46 rfl) (own_strA hw) (by decide) (by decide) rfl rfl rfl (by decide) (by decide) ?_
  intro a11 h11 E11
  refine Go.old fun O12 => ?_
  refine Go.callSPW (W := 0) (y := (⟨"java/util/Objects", "requireNonNull", "(Ljava/lang/Object;Ljava/lang/String;)Ljava/lang/Object;"⟩ : MethodName)) (argsL := [(.ref a1), (.ref a11)]) (rest := []) (pc' := 6) (k' := 2) (n' := 136) (hb hby d_prog_2_m_2_3) (own_w hw 49 rfl) (own_w hw 50 rfl) (own_w hw 51 rfl) (own_w hw 52 rfl) (by decide) (rmR l Z a0 hw [] a1 a11 h11 n0 O12) (own_w hw 52 rfl) (own_w hw 51 rfl) (by decide) (by decide) (by rw [hml]; rfl) (lenOf pd_0 rfl) rfl (Nat.le_of_ble_eq_true rfl) rfl rfl rfl (by decide) (by decide) ?_
  rintro v13 rfl
  refine Go.cast (g' := (mkF m 6 #[.val (.ref a1), .unset] [(.ref a1)])) rfl ?_
  refine Go.sp (g' := (mkF m 7 #[.val (.ref a1), .unset] [])) (fun T A t r => XS.pop A hx rfl (hb hby d_prog_2_m_2_6) rfl rfl r) ?_
  refine Go.sp (g' := (mkF m 8 #[.val (.ref a1), .unset] [(.ref a1)])) (fun T A t r => XS.aloadN A hx rfl (hb hby d_prog_2_m_2_7) rfl rfl r) ?_
  have f14 := (E1.ext E11)
  have f15 := (V1.ext E11)
  have f16 := (C1.ext E11)
  have f17 := (B1.ext E11)
  refine Go.callVP (a := a1) (z := (⟨"java/lang/String", "isEmpty", "()Z"⟩ : MethodName)) (W := 0) (y := (⟨"java/lang/String", "isEmpty", "()Z"⟩ : MethodName)) (argsL := []) (rest := []) (pc' := 11) (hb hby d_prog_2_m_2_8) (own_w hw 53 rfl) (own_w hw 54 rfl) (fun s' hZ => notFace_of_selects (args := #[]) (mvT hZ (own_w hw 56 rfl))) (own_w hw 56 rfl) (own_w hw 55 rfl) (by decide) (fun s' hZ => Bk.pure (StrChars.Road.empW (kI := 4) (cs := [z1, z2, z3, z4]) hZ (own_empw hw) (own_w hw 7 rfl) f14 f15 f16 f17 (own_cod rfl lat) (own_up lat) (by show 4 ≤ 4000; decide) (by decide) (by decide))) f14 (by rw [hml]; rfl) (lenOf pd_1 rfl) rfl (Nat.le_of_ble_eq_true rfl) rfl (by decide) (by decide) ?_
  rintro v18 rfl
  refine Go.cast (g' := (mkF m 11 #[.val (.ref a1), .unset] [(.int (0 : Int32))])) rfl ?_
  refine Go.sp (g' := (mkF m 24 #[.val (.ref a1), .unset] [])) (fun T A t r => XS.ifYes A hx rfl (pc0 := 11) (pc' := 24) rfl (hb hby d_prog_2_m_2_11) rfl ((if0 _ _).trans (teq (by decide : ((0 : Int32) = (0 : Int32)))).1) (by decide) (by decide) r) ?_
  refine Go.sp (g' := (mkF m 25 #[.val (.ref a1), .unset] [(.int (0 : Int32))])) (fun T A t r => XS.iconst A hx rfl (hb hby d_prog_2_m_2_24) r) ?_
  refine Go.sp (g' := (mkF m 26 #[.val (.ref a1), .val (.int (0 : Int32))] [])) (fun T A t r => XS.istoreN A hx rfl (hb hby d_prog_2_m_2_25) rfl (l' := #[.val (.ref a1), .val (.int (0 : Int32))]) rfl r) ?_
  refine Go.sp (g' := (mkF m 27 #[.val (.ref a1), .val (.int (0 : Int32))] [(.int (0 : Int32))])) (fun T A t r => XS.iloadN A hx rfl (hb hby d_prog_2_m_2_26) rfl r) ?_
  refine Go.sp (g' := (mkF m 28 #[.val (.ref a1), .val (.int (0 : Int32))] [(.ref a1), (.int (0 : Int32))])) (fun T A t r => XS.aloadN A hx rfl (hb hby d_prog_2_m_2_27) rfl rfl r) ?_
  refine Go.callVP (a := a1) (z := (⟨"java/lang/String", "length", "()I"⟩ : MethodName)) (W := 1) (y := (⟨"java/lang/String", "length", "()I"⟩ : MethodName)) (argsL := []) (rest := [(.int (0 : Int32))]) (pc' := 31) (hb hby d_prog_2_m_2_28) (own_w hw 58 rfl) (own_w hw 59 rfl) (fun s' hZ => notFace_of_selects (args := #[]) (mvT hZ (own_w hw 61 rfl))) (own_w hw 61 rfl) (own_w hw 60 rfl) (by decide) (fun s' hZ => Bk.pure (StrChars.Road.lenW (kI := 4) (cs := [z1, z2, z3, z4]) hZ (own_lenw hw) (own_w hw 7 rfl) f14 f15 f16 f17 (own_cod rfl lat) (own_up lat) (S0.ext O12.2) P0 (by show 4 ≤ 4000; decide) (by decide) (by decide))) f14 (by rw [hml]; rfl) (lenOf pd_2 rfl) rfl (Nat.le_of_ble_eq_true rfl) rfl (by decide) (by decide) ?_
  rintro v19 rfl
  refine Go.cast (g' := (mkF m 31 #[.val (.ref a1), .val (.int (0 : Int32))] [(.int (4 : Int32)), (.int (0 : Int32))])) rfl ?_
  refine Go.sp (g' := (mkF m 34 #[.val (.ref a1), .val (.int (0 : Int32))] [])) (fun T A t r => XS.icmpNo A hx rfl (hb hby d_prog_2_m_2_31) rfl (tlt (by decide : ((0 : Int32) < (4 : Int32)))).2.1 r) ?_
  refine Go.sp (g' := (mkF m 35 #[.val (.ref a1), .val (.int (0 : Int32))] [(.ref a1)])) (fun T A t r => XS.aloadN A hx rfl (hb hby d_prog_2_m_2_34) rfl rfl r) ?_
  refine Go.sp (g' := (mkF m 36 #[.val (.ref a1), .val (.int (0 : Int32))] [(.int (0 : Int32)), (.ref a1)])) (fun T A t r => XS.iloadN A hx rfl (hb hby d_prog_2_m_2_35) rfl r) ?_
  refine Go.callVP (a := a1) (z := (⟨"java/lang/String", "charAt", "(I)C"⟩ : MethodName)) (W := 0) (y := (⟨"java/lang/String", "charAt", "(I)C"⟩ : MethodName)) (argsL := [(.int (0 : Int32))]) (rest := []) (pc' := 39) (hb hby d_prog_2_m_2_36) (own_w hw 68 rfl) (own_w hw 69 rfl) (fun s' hZ => notFace_of_selects (args := #[]) (mvT hZ (own_w hw 71 rfl))) (own_w hw 71 rfl) (own_w hw 70 rfl) (by decide) (fun s' hZ => Bk.pure (StrChars.Road.chN (kI := 4) (cs := [z1, z2, z3, z4]) (i := 0) hZ (own_chwd hw) (own_w hw 7 rfl) f14 f15 f16 f17 (own_cod rfl lat) (own_up lat) (S0.ext O12.2) P0 (SF.ext O12.2) RF (by show 4 ≤ 4000; decide) (by show 0 < 4; decide) rfl (by decide) (by decide))) f14 (by rw [hml]; rfl) (lenOf pd_3 rfl) rfl (Nat.le_of_ble_eq_true rfl) rfl (by decide) (by decide) ?_
  rintro v20 rfl
  refine Go.cast (g' := (mkF m 39 #[.val (.ref a1), .val (.int (0 : Int32))] [(.int z1)])) rfl ?_
  refine Go.callSPW (W := 0) (y := (⟨"com/example/kept_outbox/keptoutbox/api/DestinationName", "isAllowed", "(C)Z"⟩ : MethodName)) (argsL := [(.int z1)]) (rest := []) (pc' := 42) (k' := 2) (n' := 136) (hb hby d_prog_2_m_2_39) (own_w hw 90 rfl) (own_w hw 91 rfl) (own_w hw 44 rfl) (own_w hw 92 rfl) (by decide) (rmW l Z a0 hw [] z1 h11 n0 O12 al1) (own_w hw 92 rfl) (own_w hw 44 rfl) (by decide) (by decide) (by rw [hml]; rfl) (lenOf pd_4 rfl) rfl (Nat.le_of_ble_eq_true rfl) rfl rfl rfl (by decide) (by decide) ?_
  rintro v21 rfl
  refine Go.cast (g' := (mkF m 42 #[.val (.ref a1), .val (.int (0 : Int32))] [(.int (1 : Int32))])) rfl ?_
  refine Go.sp (g' := (mkF m 67 #[.val (.ref a1), .val (.int (0 : Int32))] [])) (fun T A t r => XS.ifYes A hx rfl (pc0 := 42) (pc' := 67) rfl (hb hby d_prog_2_m_2_42) rfl ((if0 _ _).trans (feq (by decide : ¬ ((1 : Int32) = (0 : Int32)))).2) (by decide) (by decide) r) ?_
  refine Go.sp (g' := (mkF m 70 #[.val (.ref a1), .val (.int (1 : Int32))] [])) (fun T A t r => XS.iinc A hx rfl (hb hby d_prog_2_m_2_67) rfl (l' := #[.val (.ref a1), .val (.int (1 : Int32))]) rfl r) ?_
  refine Go.sp (g' := (mkF m 26 #[.val (.ref a1), .val (.int (1 : Int32))] [])) (fun T A t r => XS.goto A hx rfl (pc0 := 70) (pc' := 26) rfl (hb hby d_prog_2_m_2_70) (by decide) (by decide) r) ?_
  refine Go.sp (g' := (mkF m 27 #[.val (.ref a1), .val (.int (1 : Int32))] [(.int (1 : Int32))])) (fun T A t r => XS.iloadN A hx rfl (hb hby d_prog_2_m_2_26) rfl r) ?_
  refine Go.sp (g' := (mkF m 28 #[.val (.ref a1), .val (.int (1 : Int32))] [(.ref a1), (.int (1 : Int32))])) (fun T A t r => XS.aloadN A hx rfl (hb hby d_prog_2_m_2_27) rfl rfl r) ?_
  refine Go.callVP (a := a1) (z := (⟨"java/lang/String", "length", "()I"⟩ : MethodName)) (W := 1) (y := (⟨"java/lang/String", "length", "()I"⟩ : MethodName)) (argsL := []) (rest := [(.int (1 : Int32))]) (pc' := 31) (hb hby d_prog_2_m_2_28) (own_w hw 58 rfl) (own_w hw 59 rfl) (fun s' hZ => notFace_of_selects (args := #[]) (mvT hZ (own_w hw 61 rfl))) (own_w hw 61 rfl) (own_w hw 60 rfl) (by decide) (fun s' hZ => Bk.pure (StrChars.Road.lenW (kI := 4) (cs := [z1, z2, z3, z4]) hZ (own_lenw hw) (own_w hw 7 rfl) f14 f15 f16 f17 (own_cod rfl lat) (own_up lat) (S0.ext O12.2) P0 (by show 4 ≤ 4000; decide) (by decide) (by decide))) f14 (by rw [hml]; rfl) (lenOf pd_2 rfl) rfl (Nat.le_of_ble_eq_true rfl) rfl (by decide) (by decide) ?_
  rintro v22 rfl
  refine Go.cast (g' := (mkF m 31 #[.val (.ref a1), .val (.int (1 : Int32))] [(.int (4 : Int32)), (.int (1 : Int32))])) rfl ?_
  refine Go.sp (g' := (mkF m 34 #[.val (.ref a1), .val (.int (1 : Int32))] [])) (fun T A t r => XS.icmpNo A hx rfl (hb hby d_prog_2_m_2_31) rfl (tlt (by decide : ((1 : Int32) < (4 : Int32)))).2.1 r) ?_
  refine Go.sp (g' := (mkF m 35 #[.val (.ref a1), .val (.int (1 : Int32))] [(.ref a1)])) (fun T A t r => XS.aloadN A hx rfl (hb hby d_prog_2_m_2_34) rfl rfl r) ?_
  refine Go.sp (g' := (mkF m 36 #[.val (.ref a1), .val (.int (1 : Int32))] [(.int (1 : Int32)), (.ref a1)])) (fun T A t r => XS.iloadN A hx rfl (hb hby d_prog_2_m_2_35) rfl r) ?_
  refine Go.callVP (a := a1) (z := (⟨"java/lang/String", "charAt", "(I)C"⟩ : MethodName)) (W := 0) (y := (⟨"java/lang/String", "charAt", "(I)C"⟩ : MethodName)) (argsL := [(.int (1 : Int32))]) (rest := []) (pc' := 39) (hb hby d_prog_2_m_2_36) (own_w hw 68 rfl) (own_w hw 69 rfl) (fun s' hZ => notFace_of_selects (args := #[]) (mvT hZ (own_w hw 71 rfl))) (own_w hw 71 rfl) (own_w hw 70 rfl) (by decide) (fun s' hZ => Bk.pure (StrChars.Road.chN (kI := 4) (cs := [z1, z2, z3, z4]) (i := 1) hZ (own_chwd hw) (own_w hw 7 rfl) f14 f15 f16 f17 (own_cod rfl lat) (own_up lat) (S0.ext O12.2) P0 (SF.ext O12.2) RF (by show 4 ≤ 4000; decide) (by show 1 < 4; decide) rfl (by decide) (by decide))) f14 (by rw [hml]; rfl) (lenOf pd_3 rfl) rfl (Nat.le_of_ble_eq_true rfl) rfl (by decide) (by decide) ?_
  rintro v23 rfl
  refine Go.cast (g' := (mkF m 39 #[.val (.ref a1), .val (.int (1 : Int32))] [(.int z2)])) rfl ?_
  refine Go.callSPW (W := 0) (y := (⟨"com/example/kept_outbox/keptoutbox/api/DestinationName", "isAllowed", "(C)Z"⟩ : MethodName)) (argsL := [(.int z2)]) (rest := []) (pc' := 42) (k' := 2) (n' := 136) (hb hby d_prog_2_m_2_39) (own_w hw 90 rfl) (own_w hw 91 rfl) (own_w hw 44 rfl) (own_w hw 92 rfl) (by decide) (rmW l Z a0 hw [] z2 h11 n0 O12 al2) (own_w hw 92 rfl) (own_w hw 44 rfl) (by decide) (by decide) (by rw [hml]; rfl) (lenOf pd_4 rfl) rfl (Nat.le_of_ble_eq_true rfl) rfl rfl rfl (by decide) (by decide) ?_
  rintro v24 rfl
  refine Go.cast (g' := (mkF m 42 #[.val (.ref a1), .val (.int (1 : Int32))] [(.int (1 : Int32))])) rfl ?_
  refine Go.sp (g' := (mkF m 67 #[.val (.ref a1), .val (.int (1 : Int32))] [])) (fun T A t r => XS.ifYes A hx rfl (pc0 := 42) (pc' := 67) rfl (hb hby d_prog_2_m_2_42) rfl ((if0 _ _).trans (feq (by decide : ¬ ((1 : Int32) = (0 : Int32)))).2) (by decide) (by decide) r) ?_
  refine Go.sp (g' := (mkF m 70 #[.val (.ref a1), .val (.int (2 : Int32))] [])) (fun T A t r => XS.iinc A hx rfl (hb hby d_prog_2_m_2_67) rfl (l' := #[.val (.ref a1), .val (.int (2 : Int32))]) rfl r) ?_
  refine Go.sp (g' := (mkF m 26 #[.val (.ref a1), .val (.int (2 : Int32))] [])) (fun T A t r => XS.goto A hx rfl (pc0 := 70) (pc' := 26) rfl (hb hby d_prog_2_m_2_70) (by decide) (by decide) r) ?_
  refine Go.sp (g' := (mkF m 27 #[.val (.ref a1), .val (.int (2 : Int32))] [(.int (2 : Int32))])) (fun T A t r => XS.iloadN A hx rfl (hb hby d_prog_2_m_2_26) rfl r) ?_
  refine Go.sp (g' := (mkF m 28 #[.val (.ref a1), .val (.int (2 : Int32))] [(.ref a1), (.int (2 : Int32))])) (fun T A t r => XS.aloadN A hx rfl (hb hby d_prog_2_m_2_27) rfl rfl r) ?_
  refine Go.callVP (a := a1) (z := (⟨"java/lang/String", "length", "()I"⟩ : MethodName)) (W := 1) (y := (⟨"java/lang/String", "length", "()I"⟩ : MethodName)) (argsL := []) (rest := [(.int (2 : Int32))]) (pc' := 31) (hb hby d_prog_2_m_2_28) (own_w hw 58 rfl) (own_w hw 59 rfl) (fun s' hZ => notFace_of_selects (args := #[]) (mvT hZ (own_w hw 61 rfl))) (own_w hw 61 rfl) (own_w hw 60 rfl) (by decide) (fun s' hZ => Bk.pure (StrChars.Road.lenW (kI := 4) (cs := [z1, z2, z3, z4]) hZ (own_lenw hw) (own_w hw 7 rfl) f14 f15 f16 f17 (own_cod rfl lat) (own_up lat) (S0.ext O12.2) P0 (by show 4 ≤ 4000; decide) (by decide) (by decide))) f14 (by rw [hml]; rfl) (lenOf pd_2 rfl) rfl (Nat.le_of_ble_eq_true rfl) rfl (by decide) (by decide) ?_
  rintro v25 rfl
  refine Go.cast (g' := (mkF m 31 #[.val (.ref a1), .val (.int (2 : Int32))] [(.int (4 : Int32)), (.int (2 : Int32))])) rfl ?_
  refine Go.sp (g' := (mkF m 34 #[.val (.ref a1), .val (.int (2 : Int32))] [])) (fun T A t r => XS.icmpNo A hx rfl (hb hby d_prog_2_m_2_31) rfl (tlt (by decide : ((2 : Int32) < (4 : Int32)))).2.1 r) ?_
  refine Go.sp (g' := (mkF m 35 #[.val (.ref a1), .val (.int (2 : Int32))] [(.ref a1)])) (fun T A t r => XS.aloadN A hx rfl (hb hby d_prog_2_m_2_34) rfl rfl r) ?_
  refine Go.sp (g' := (mkF m 36 #[.val (.ref a1), .val (.int (2 : Int32))] [(.int (2 : Int32)), (.ref a1)])) (fun T A t r => XS.iloadN A hx rfl (hb hby d_prog_2_m_2_35) rfl r) ?_
  refine Go.callVP (a := a1) (z := (⟨"java/lang/String", "charAt", "(I)C"⟩ : MethodName)) (W := 0) (y := (⟨"java/lang/String", "charAt", "(I)C"⟩ : MethodName)) (argsL := [(.int (2 : Int32))]) (rest := []) (pc' := 39) (hb hby d_prog_2_m_2_36) (own_w hw 68 rfl) (own_w hw 69 rfl) (fun s' hZ => notFace_of_selects (args := #[]) (mvT hZ (own_w hw 71 rfl))) (own_w hw 71 rfl) (own_w hw 70 rfl) (by decide) (fun s' hZ => Bk.pure (StrChars.Road.chN (kI := 4) (cs := [z1, z2, z3, z4]) (i := 2) hZ (own_chwd hw) (own_w hw 7 rfl) f14 f15 f16 f17 (own_cod rfl lat) (own_up lat) (S0.ext O12.2) P0 (SF.ext O12.2) RF (by show 4 ≤ 4000; decide) (by show 2 < 4; decide) rfl (by decide) (by decide))) f14 (by rw [hml]; rfl) (lenOf pd_3 rfl) rfl (Nat.le_of_ble_eq_true rfl) rfl (by decide) (by decide) ?_
  rintro v26 rfl
  refine Go.cast (g' := (mkF m 39 #[.val (.ref a1), .val (.int (2 : Int32))] [(.int z3)])) rfl ?_
  refine Go.callSPW (W := 0) (y := (⟨"com/example/kept_outbox/keptoutbox/api/DestinationName", "isAllowed", "(C)Z"⟩ : MethodName)) (argsL := [(.int z3)]) (rest := []) (pc' := 42) (k' := 2) (n' := 136) (hb hby d_prog_2_m_2_39) (own_w hw 90 rfl) (own_w hw 91 rfl) (own_w hw 44 rfl) (own_w hw 92 rfl) (by decide) (rmW l Z a0 hw [] z3 h11 n0 O12 al3) (own_w hw 92 rfl) (own_w hw 44 rfl) (by decide) (by decide) (by rw [hml]; rfl) (lenOf pd_4 rfl) rfl (Nat.le_of_ble_eq_true rfl) rfl rfl rfl (by decide) (by decide) ?_
  rintro v27 rfl
  refine Go.cast (g' := (mkF m 42 #[.val (.ref a1), .val (.int (2 : Int32))] [(.int (1 : Int32))])) rfl ?_
  refine Go.sp (g' := (mkF m 67 #[.val (.ref a1), .val (.int (2 : Int32))] [])) (fun T A t r => XS.ifYes A hx rfl (pc0 := 42) (pc' := 67) rfl (hb hby d_prog_2_m_2_42) rfl ((if0 _ _).trans (feq (by decide : ¬ ((1 : Int32) = (0 : Int32)))).2) (by decide) (by decide) r) ?_
  refine Go.sp (g' := (mkF m 70 #[.val (.ref a1), .val (.int (3 : Int32))] [])) (fun T A t r => XS.iinc A hx rfl (hb hby d_prog_2_m_2_67) rfl (l' := #[.val (.ref a1), .val (.int (3 : Int32))]) rfl r) ?_
  refine Go.sp (g' := (mkF m 26 #[.val (.ref a1), .val (.int (3 : Int32))] [])) (fun T A t r => XS.goto A hx rfl (pc0 := 70) (pc' := 26) rfl (hb hby d_prog_2_m_2_70) (by decide) (by decide) r) ?_
  refine Go.sp (g' := (mkF m 27 #[.val (.ref a1), .val (.int (3 : Int32))] [(.int (3 : Int32))])) (fun T A t r => XS.iloadN A hx rfl (hb hby d_prog_2_m_2_26) rfl r) ?_
  refine Go.sp (g' := (mkF m 28 #[.val (.ref a1), .val (.int (3 : Int32))] [(.ref a1), (.int (3 : Int32))])) (fun T A t r => XS.aloadN A hx rfl (hb hby d_prog_2_m_2_27) rfl rfl r) ?_
  refine Go.callVP (a := a1) (z := (⟨"java/lang/String", "length", "()I"⟩ : MethodName)) (W := 1) (y := (⟨"java/lang/String", "length", "()I"⟩ : MethodName)) (argsL := []) (rest := [(.int (3 : Int32))]) (pc' := 31) (hb hby d_prog_2_m_2_28) (own_w hw 58 rfl) (own_w hw 59 rfl) (fun s' hZ => notFace_of_selects (args := #[]) (mvT hZ (own_w hw 61 rfl))) (own_w hw 61 rfl) (own_w hw 60 rfl) (by decide) (fun s' hZ => Bk.pure (StrChars.Road.lenW (kI := 4) (cs := [z1, z2, z3, z4]) hZ (own_lenw hw) (own_w hw 7 rfl) f14 f15 f16 f17 (own_cod rfl lat) (own_up lat) (S0.ext O12.2) P0 (by show 4 ≤ 4000; decide) (by decide) (by decide))) f14 (by rw [hml]; rfl) (lenOf pd_2 rfl) rfl (Nat.le_of_ble_eq_true rfl) rfl (by decide) (by decide) ?_
  rintro v28 rfl
  refine Go.cast (g' := (mkF m 31 #[.val (.ref a1), .val (.int (3 : Int32))] [(.int (4 : Int32)), (.int (3 : Int32))])) rfl ?_
  refine Go.sp (g' := (mkF m 34 #[.val (.ref a1), .val (.int (3 : Int32))] [])) (fun T A t r => XS.icmpNo A hx rfl (hb hby d_prog_2_m_2_31) rfl (tlt (by decide : ((3 : Int32) < (4 : Int32)))).2.1 r) ?_
  refine Go.sp (g' := (mkF m 35 #[.val (.ref a1), .val (.int (3 : Int32))] [(.ref a1)])) (fun T A t r => XS.aloadN A hx rfl (hb hby d_prog_2_m_2_34) rfl rfl r) ?_
  refine Go.sp (g' := (mkF m 36 #[.val (.ref a1), .val (.int (3 : Int32))] [(.int (3 : Int32)), (.ref a1)])) (fun T A t r => XS.iloadN A hx rfl (hb hby d_prog_2_m_2_35) rfl r) ?_
  refine Go.callVP (a := a1) (z := (⟨"java/lang/String", "charAt", "(I)C"⟩ : MethodName)) (W := 0) (y := (⟨"java/lang/String", "charAt", "(I)C"⟩ : MethodName)) (argsL := [(.int (3 : Int32))]) (rest := []) (pc' := 39) (hb hby d_prog_2_m_2_36) (own_w hw 68 rfl) (own_w hw 69 rfl) (fun s' hZ => notFace_of_selects (args := #[]) (mvT hZ (own_w hw 71 rfl))) (own_w hw 71 rfl) (own_w hw 70 rfl) (by decide) (fun s' hZ => Bk.pure (StrChars.Road.chN (kI := 4) (cs := [z1, z2, z3, z4]) (i := 3) hZ (own_chwd hw) (own_w hw 7 rfl) f14 f15 f16 f17 (own_cod rfl lat) (own_up lat) (S0.ext O12.2) P0 (SF.ext O12.2) RF (by show 4 ≤ 4000; decide) (by show 3 < 4; decide) rfl (by decide) (by decide))) f14 (by rw [hml]; rfl) (lenOf pd_3 rfl) rfl (Nat.le_of_ble_eq_true rfl) rfl (by decide) (by decide) ?_
  rintro v29 rfl
  refine Go.cast (g' := (mkF m 39 #[.val (.ref a1), .val (.int (3 : Int32))] [(.int z4)])) rfl ?_
  refine Go.callSPW (W := 0) (y := (⟨"com/example/kept_outbox/keptoutbox/api/DestinationName", "isAllowed", "(C)Z"⟩ : MethodName)) (argsL := [(.int z4)]) (rest := []) (pc' := 42) (k' := 2) (n' := 136) (hb hby d_prog_2_m_2_39) (own_w hw 90 rfl) (own_w hw 91 rfl) (own_w hw 44 rfl) (own_w hw 92 rfl) (by decide) (rmW l Z a0 hw [] z4 h11 n0 O12 al4) (own_w hw 92 rfl) (own_w hw 44 rfl) (by decide) (by decide) (by rw [hml]; rfl) (lenOf pd_4 rfl) rfl (Nat.le_of_ble_eq_true rfl) rfl rfl rfl (by decide) (by decide) ?_
  rintro v30 rfl
  refine Go.cast (g' := (mkF m 42 #[.val (.ref a1), .val (.int (3 : Int32))] [(.int (1 : Int32))])) rfl ?_
  refine Go.sp (g' := (mkF m 67 #[.val (.ref a1), .val (.int (3 : Int32))] [])) (fun T A t r => XS.ifYes A hx rfl (pc0 := 42) (pc' := 67) rfl (hb hby d_prog_2_m_2_42) rfl ((if0 _ _).trans (feq (by decide : ¬ ((1 : Int32) = (0 : Int32)))).2) (by decide) (by decide) r) ?_
  refine Go.sp (g' := (mkF m 70 #[.val (.ref a1), .val (.int (4 : Int32))] [])) (fun T A t r => XS.iinc A hx rfl (hb hby d_prog_2_m_2_67) rfl (l' := #[.val (.ref a1), .val (.int (4 : Int32))]) rfl r) ?_
  refine Go.sp (g' := (mkF m 26 #[.val (.ref a1), .val (.int (4 : Int32))] [])) (fun T A t r => XS.goto A hx rfl (pc0 := 70) (pc' := 26) rfl (hb hby d_prog_2_m_2_70) (by decide) (by decide) r) ?_
  refine Go.sp (g' := (mkF m 27 #[.val (.ref a1), .val (.int (4 : Int32))] [(.int (4 : Int32))])) (fun T A t r => XS.iloadN A hx rfl (hb hby d_prog_2_m_2_26) rfl r) ?_
  refine Go.sp (g' := (mkF m 28 #[.val (.ref a1), .val (.int (4 : Int32))] [(.ref a1), (.int (4 : Int32))])) (fun T A t r => XS.aloadN A hx rfl (hb hby d_prog_2_m_2_27) rfl rfl r) ?_
  refine Go.callVP (a := a1) (z := (⟨"java/lang/String", "length", "()I"⟩ : MethodName)) (W := 1) (y := (⟨"java/lang/String", "length", "()I"⟩ : MethodName)) (argsL := []) (rest := [(.int (4 : Int32))]) (pc' := 31) (hb hby d_prog_2_m_2_28) (own_w hw 58 rfl) (own_w hw 59 rfl) (fun s' hZ => notFace_of_selects (args := #[]) (mvT hZ (own_w hw 61 rfl))) (own_w hw 61 rfl) (own_w hw 60 rfl) (by decide) (fun s' hZ => Bk.pure (StrChars.Road.lenW (kI := 4) (cs := [z1, z2, z3, z4]) hZ (own_lenw hw) (own_w hw 7 rfl) f14 f15 f16 f17 (own_cod rfl lat) (own_up lat) (S0.ext O12.2) P0 (by show 4 ≤ 4000; decide) (by decide) (by decide))) f14 (by rw [hml]; rfl) (lenOf pd_2 rfl) rfl (Nat.le_of_ble_eq_true rfl) rfl (by decide) (by decide) ?_
  rintro v31 rfl
  refine Go.cast (g' := (mkF m 31 #[.val (.ref a1), .val (.int (4 : Int32))] [(.int (4 : Int32)), (.int (4 : Int32))])) rfl ?_
  refine Go.sp (g' := (mkF m 73 #[.val (.ref a1), .val (.int (4 : Int32))] [])) (fun T A t r => XS.icmpYes A hx rfl (pc0 := 31) (pc' := 73) rfl (hb hby d_prog_2_m_2_31) rfl (flt (by decide : ¬ ((4 : Int32) < (4 : Int32)))).2.1 (by decide) (by decide) r) ?_
  refine Go.sp (g' := (mkF m 74 #[.val (.ref a1), .val (.int (4 : Int32))] [(.ref a1)])) (fun T A t r => XS.aloadN A hx rfl (hb hby d_prog_2_m_2_73) rfl rfl r) ?_
  refine Go.callVP (a := a1) (z := (⟨"java/lang/String", "length", "()I"⟩ : MethodName)) (W := 0) (y := (⟨"java/lang/String", "length", "()I"⟩ : MethodName)) (argsL := []) (rest := []) (pc' := 77) (hb hby d_prog_2_m_2_74) (own_w hw 58 rfl) (own_w hw 59 rfl) (fun s' hZ => notFace_of_selects (args := #[]) (mvT hZ (own_w hw 61 rfl))) (own_w hw 61 rfl) (own_w hw 60 rfl) (by decide) (fun s' hZ => Bk.pure (StrChars.Road.lenW (kI := 4) (cs := [z1, z2, z3, z4]) hZ (own_lenw hw) (own_w hw 7 rfl) f14 f15 f16 f17 (own_cod rfl lat) (own_up lat) (S0.ext O12.2) P0 (by show 4 ≤ 4000; decide) (by decide) (by decide))) f14 (by rw [hml]; rfl) (lenOf pd_2 rfl) rfl (Nat.le_of_ble_eq_true rfl) rfl (by decide) (by decide) ?_
  rintro v32 rfl
  refine Go.cast (g' := (mkF m 77 #[.val (.ref a1), .val (.int (4 : Int32))] [(.int (4 : Int32))])) rfl ?_
  refine Go.sp (g' := (mkF m 79 #[.val (.ref a1), .val (.int (4 : Int32))] [(.int (100 : Int32)), (.int (4 : Int32))])) (fun T A t r => XS.bipush A hx rfl (hb hby d_prog_2_m_2_77) r) ?_
  refine Go.sp (g' := (mkF m 99 #[.val (.ref a1), .val (.int (4 : Int32))] [])) (fun T A t r => XS.icmpYes A hx rfl (pc0 := 79) (pc' := 99) rfl (hb hby d_prog_2_m_2_79) rfl (flt (by decide : ¬ ((100 : Int32) < (4 : Int32)))).2.2.2 (by decide) (by decide) r) ?_
  refine Go.sp (g' := (mkF m 100 #[.val (.ref a1), .val (.int (4 : Int32))] [(.ref a1)])) (fun T A t r => XS.aloadN A hx rfl (hb hby d_prog_2_m_2_99) rfl rfl r) ?_
  exact Go.ret (v := (some (.ref a1))) (fun s' T L fs X hr => own_retR X hx hret rfl rfl (hb hby d_prog_2_m_2_100) hr) (fun h => by rw [hret] at h; cases h) (by decide) (by decide) rfl
theorem ef_rmT4 (m : MethodId) (x0 : Addr) : entryFrame m #[(.ref x0)] 1 = mkF m 0 #[.val (.ref x0)] [] := by first | (simp [entryFrame, mkF, argsToLocals, Value.category]; done) | rfl
set_option maxRecDepth 65536 in
set_option maxHeartbeats 40000000 in
theorem rmT4 (l : Launch) (Z : State) (a0 : Array Value) (hw : ∀ d ∈ tables_1, d.before a0 Z = true) (wds : List Jvm.Cond) (a1 : Addr) (t1 : Addr) (k1 : ClassId) (z1 : Int32) (z2 : Int32) (z3 : Int32) (z4 : Int32) (zS : Int32) (fm : Value) (h0 : Heap) (n0 : Nat) (O0 : Old Z n0 h0)  (E1 : Exa Z h0 a1 "java/lang/String") (C1 : Fld Z h0 a1 "java/lang/String" "coder" "B" (.int 0)) (V1 : Fld Z h0 a1 "java/lang/String" "value" "[B" (.ref t1)) (B1 : Arv Z h0 t1 k1 .byte (4 : Int32) (([z1, z2, z3, z4].map fun c => c.toInt8.toInt32).map Value.int) (.int 0)) (al1 : own_al z1) (al2 : own_al z2) (al3 : own_al z3) (al4 : own_al z4) (S0 : Sta Z Z.heap "java/lang/String" "COMPACT_STRINGS" "Z" (.int zS)) (P0 : ¬ zS = (0 : Int32)) (SF : Sta Z Z.heap "jdk/internal/util/Preconditions" "SIOOBE_FORMATTER" "Ljava/util/function/BiFunction;" fm) (RF : fm.isRef = true) :
    Ct l Z a0 own_EL (⟨"com/example/kept_outbox/keptoutbox/api/Message", "to", "(Ljava/lang/String;)Lcom/example/kept_outbox/keptoutbox/api/Message$Builder;"⟩ : MethodName) prog_6_method_2_code 1 (some (.object "com/example/kept_outbox/keptoutbox/api/Message$Builder")) wds ({ frames := 5, cells := 3, slots := 137, locals := 68 } : Room) #[(.ref a1)] n0 h0 [] (fun v h => ∃ b : Addr, v = some (.ref b) ∧ Exa Z h b "com/example/kept_outbox/keptoutbox/api/Message$Builder" ∧ Fld Z h b "com/example/kept_outbox/keptoutbox/api/Message$Builder" "destination" "Ljava/lang/String;" (.ref a1)) := by
  refine Ct.of (plainFor_of_name pn_com_example_kept_outbox_keptoutbox_api_Message) O0 all0 (own_EW hw) ?_
  intro p e s m below meth c hx hby hml hret hnm
  refine Go.cast (ef_rmT4 m a1) ?_
  refine Go.newO (k' := 1) (n' := 1) (pc' := 3) (hb hby d_prog_6_m_2_0) (own_w hw 39 rfl) (own_w hw 40 rfl) (own_w hw 41 rfl) rfl rfl rfl (by decide) (by decide) ?_
  intro b11 h11 g11 sz11 E11 A11 D11
  have F11_destination : Fld Z h11 b11 "com/example/kept_outbox/keptoutbox/api/Message$Builder" "destination" "Ljava/lang/String;" .null := D11 (Or.inr (own_w hw 98 rfl)) (ty := (.object "java/lang/String")) (by decide)
  refine Go.sp (g' := (mkF m 4 #[.val (.ref a1)] [(.ref b11), (.ref b11)])) (fun T A t r => XS.dup A hx rfl (hb hby d_prog_6_m_2_3) rfl rfl r) ?_
  refine Go.sp (g' := (mkF m 5 #[.val (.ref a1)] [(.ref a1), (.ref b11), (.ref b11)])) (fun T A t r => XS.aloadN A hx rfl (hb hby d_prog_6_m_2_4) rfl rfl r) ?_
  have f12 := (E1.ext E11)
  have f13 := (C1.ext E11)
  have f14 := (V1.ext E11)
  have f15 := (B1.ext E11)
  refine Go.old fun O16 => ?_
  refine Go.callSW (ws' := []) (W := 2) (y := (⟨"com/example/kept_outbox/keptoutbox/api/DestinationName", "check", "(Ljava/lang/String;)Ljava/lang/String;"⟩ : MethodName)) (argsL := [(.ref a1)]) (rest := [(.ref b11), (.ref b11)]) (pc' := 8) (k' := 3) (n' := 137) (hb hby d_prog_6_m_2_5) (own_w hw 42 rfl) (own_w hw 43 rfl) (own_w hw 44 rfl) (own_w hw 45 rfl) (by decide) (rmK4 l Z a0 hw [] a1 t1 k1 z1 z2 z3 z4 zS fm h11 n0 O16 f12 f13 f14 f15 al1 al2 al3 al4 S0 P0 SF RF) (own_w hw 45 rfl) (own_w hw 44 rfl) (by decide) (by decide) (by rw [hml]; rfl) (lenOf pd_5 rfl) rfl (Nat.le_of_ble_eq_true rfl) rfl rfl rfl (by decide) (by decide) all0 ?_
  rintro v17 h17 K17 rfl
  refine Go.cast (g' := (mkF m 8 #[.val (.ref a1)] [(.ref a1), (.ref b11), (.ref b11)])) rfl ?_
  refine Go.old fun O18 => ?_
  have f19 := (A11.keep K17)
  have f20 := (F11_destination.keep K17 nin0)
  refine Go.callR (a := b11) (ws' := [b11]) (W := 1) (y := (⟨"com/example/kept_outbox/keptoutbox/api/Message$Builder", "<init>", "(Ljava/lang/String;)V"⟩ : MethodName)) (argsL := [(.ref a1)]) (rest := [(.ref b11)]) (pc' := 11) (k' := 3) (n' := 137) (hb hby d_prog_6_m_2_8) (fun s' hZ hown => scallRef hx hZ hown rfl (own_w hw 93 rfl) (own_w hw 94 rfl) (own_w hw 95 rfl) (by decide)) (fun s' hZ => OwnN.Ct.bk (rmBI l Z a0 hw [] b11 a1 _ h17 n0 O18 (Nat.le_trans (Old.le O0) sz11) f19 f20) hZ (own_w hw 95 rfl) (own_w hw 41 rfl) (by decide) (by decide)) (by rw [hml]; rfl) (lenOf pd_6 rfl) rfl (Nat.le_of_ble_eq_true rfl) rfl rfl rfl (by decide) (by decide) (allS (Or.inr sz11) all0) (allS (Or.inr SafeA.nil) all0) ?_
  rintro v21 h21 K21 ⟨rfl, F21⟩
  refine Go.cast (g' := (mkF m 11 #[.val (.ref a1)] [(.ref b11)])) rfl ?_
  have f22 := (f19.keep K21)
  exact Go.ret (v := (some (.ref b11))) (fun s' T L fs X hr => own_retR X hx hret rfl rfl (hb hby d_prog_6_m_2_11) hr) (fun h => by rw [hret] at h; cases h) (by decide) (by decide) ⟨_, rfl, f22, F21⟩
theorem ef_rmMI (m : MethodId) (x0 : Addr) (x1 : Addr) (x2 : Addr) : entryFrame m #[(.ref x0), (.ref x1), (.ref x2)] 3 = mkF m 0 #[.val (.ref x0), .val (.ref x1), .val (.ref x2)] [] := by first | (simp [entryFrame, mkF, argsToLocals, Value.category]; done) | rfl
set_option maxRecDepth 65536 in
set_option maxHeartbeats 40000000 in
theorem rmMI (l : Launch) (Z : State) (a0 : Array Value) (hw : ∀ d ∈ tables_1, d.before a0 Z = true) (wds : List Jvm.Cond) (a1 : Addr) (a2 : Addr) (a3 : Addr) (u0 : Value) (u1 : Value) (h0 : Heap) (n0 : Nat) (O0 : Old Z n0 h0) (g_a1 : n0 ≤ a1) (E_a1 : Exa Z h0 a1 "com/example/kept_outbox/keptoutbox/api/Message") (Fdestination : Fld Z h0 a1 "com/example/kept_outbox/keptoutbox/api/Message" "destination" "Ljava/lang/String;" u0) (Fpayload : Fld Z h0 a1 "com/example/kept_outbox/keptoutbox/api/Message" "payload" "[B" u1) :
    Ct l Z a0 own_EL (⟨"com/example/kept_outbox/keptoutbox/api/Message", "<init>", "(Ljava/lang/String;[B)V"⟩ : MethodName) prog_6_method_1_code 3 none wds ({ frames := 1, cells := 0, slots := 0, locals := 12 } : Room) #[(.ref a1), (.ref a2), (.ref a3)] n0 h0 [a1] (fun v h => v = none ∧ Fld Z h a1 "com/example/kept_outbox/keptoutbox/api/Message" "destination" "Ljava/lang/String;" (.ref a2) ∧ Fld Z h a1 "com/example/kept_outbox/keptoutbox/api/Message" "payload" "[B" (.ref a3)) := by
  refine Ct.of (plainFor_of_name pn_com_example_kept_outbox_keptoutbox_api_Message) O0 (allS g_a1 all0) (own_EW hw) ?_
  intro p e s m below meth c hx hby hml hret hnm
  refine Go.cast (ef_rmMI m a1 a2 a3) ?_
  refine Go.sp (g' := (mkF m 1 #[.val (.ref a1), .val (.ref a2), .val (.ref a3)] [(.ref a1)])) (fun T A t r => XS.aloadN A hx rfl (hb hby d_prog_6_m_1_0) rfl rfl r) ?_
  refine Go.v (g' := (mkF m 4 #[.val (.ref a1), .val (.ref a2), .val (.ref a3)] [])) (fun s' T L X eT hZ hown => initO X hx hZ hown (own_w hw 125 rfl) (own_w hw 17 rfl) (own_w hw 18 rfl) eT (g := (mkF m 1 #[.val (.ref a1), .val (.ref a2), .val (.ref a3)] [(.ref a1)])) rfl (by rw [hml]; rfl) rfl (hb hby d_prog_6_m_1_1) (by decide) (W := 0) (catOf (Nat.le_of_ble_eq_true rfl)) (by decide)) ?_
  refine Go.sp (g' := (mkF m 5 #[.val (.ref a1), .val (.ref a2), .val (.ref a3)] [(.ref a1)])) (fun T A t r => XS.aloadN A hx rfl (hb hby d_prog_6_m_1_4) rfl rfl r) ?_
  refine Go.sp (g' := (mkF m 6 #[.val (.ref a1), .val (.ref a2), .val (.ref a3)] [(.ref a2), (.ref a1)])) (fun T A t r => XS.aloadN A hx rfl (hb hby d_prog_6_m_1_5) rfl rfl r) ?_
  refine Go.w (g' := (mkF m 9 #[.val (.ref a1), .val (.ref a2), .val (.ref a3)] [])) (fun s' T L X eT hZ hown => putF X hx hZ hown (host := "") (Or.inl (own_w hw 126 rfl)) Via.refl eT Fdestination E_a1 (Or.inr ⟨(own_w hw 127 rfl), rfl, hnm⟩) (own_w hw 121 rfl) (ty := (.object "java/lang/String")) (by decide) rfl rfl (g := (mkF m 6 #[.val (.ref a1), .val (.ref a2), .val (.ref a3)] [(.ref a2), (.ref a1)])) rfl rfl (hb hby d_prog_6_m_1_6)) (Or.inl (List.mem_of_getElem? (i := 0) rfl)) (Or.inr SafeA.nil) ?_
  intro h12 W12
  have F12 := Fdestination.same W12
  refine Go.sp (g' := (mkF m 10 #[.val (.ref a1), .val (.ref a2), .val (.ref a3)] [(.ref a1)])) (fun T A t r => XS.aloadN A hx rfl (hb hby d_prog_6_m_1_9) rfl rfl r) ?_
  refine Go.sp (g' := (mkF m 11 #[.val (.ref a1), .val (.ref a2), .val (.ref a3)] [(.ref a3), (.ref a1)])) (fun T A t r => XS.aloadN A hx rfl (hb hby d_prog_6_m_1_10) rfl rfl r) ?_
  have f13 := (E_a1.wr W12)
  have f14 := (Fpayload.other W12 (Or.inr (slot_ne (Or.inr (own_w hw 129 rfl)) (Or.inr (own_w hw 127 rfl)) (by decide) (t := (.array .byte)) (t' := (.object "java/lang/String")) (by decide) (by decide))))
  refine Go.w (g' := (mkF m 14 #[.val (.ref a1), .val (.ref a2), .val (.ref a3)] [])) (fun s' T L X eT hZ hown => putF X hx hZ hown (host := "") (Or.inl (own_w hw 128 rfl)) Via.refl eT f14 f13 (Or.inr ⟨(own_w hw 129 rfl), rfl, hnm⟩) (own_w hw 121 rfl) (ty := (.array .byte)) (by decide) rfl rfl (g := (mkF m 11 #[.val (.ref a1), .val (.ref a2), .val (.ref a3)] [(.ref a3), (.ref a1)])) rfl rfl (hb hby d_prog_6_m_1_11)) (Or.inl (List.mem_of_getElem? (i := 0) rfl)) (Or.inr SafeA.nil) ?_
  intro h16 W16
  have F16 := f14.same W16
  have f17 := (F12.other W16 (Or.inr (slot_ne (Or.inr (own_w hw 127 rfl)) (Or.inr (own_w hw 129 rfl)) (by decide) (t := (.object "java/lang/String")) (t' := (.array .byte)) (by decide) (by decide))))
  exact Go.ret (v := none) (fun s' T L fs X hr => X.returnOut hx hret (hb hby d_prog_6_m_1_14) hr) (fun _ => rfl) (by decide) (by decide) ⟨rfl, f17, F16⟩
theorem ef_rmMK (m : MethodId) (x0 : Addr) (x1 : Addr) : entryFrame m #[(.ref x0), (.ref x1)] 2 = mkF m 0 #[.val (.ref x0), .val (.ref x1)] [] := by first | (simp [entryFrame, mkF, argsToLocals, Value.category]; done) | rfl
set_option maxRecDepth 65536 in
set_option maxHeartbeats 40000000 in
theorem rmMK (l : Launch) (Z : State) (a0 : Array Value) (hw : ∀ d ∈ tables_1, d.before a0 Z = true) (wds : List Jvm.Cond) (a1 : Addr) (d1 : Addr) (a2 : Addr) (kA : ClassId) (v1 : Int32) (v2 : Int32) (h0 : Heap) (n0 : Nat) (O0 : Old Z n0 h0)  (E1 : Exa Z h0 a1 "com/example/kept_outbox/keptoutbox/api/Message$Builder") (F1 : Fld Z h0 a1 "com/example/kept_outbox/keptoutbox/api/Message$Builder" "destination" "Ljava/lang/String;" (.ref d1)) (EA : Exa Z h0 a2 "[B") (VA : Arv Z h0 a2 kA .byte (2 : Int32) [.int v1, .int v2] (.int 0)) :
    Ct l Z a0 own_EL (⟨"com/example/kept_outbox/keptoutbox/api/Message$Builder", "make", "([B)Lcom/example/kept_outbox/keptoutbox/api/Message;"⟩ : MethodName) prog_7_method_4_code 2 (some (.object "com/example/kept_outbox/keptoutbox/api/Message")) wds ({ frames := 2, cells := 1, slots := 2, locals := 27 } : Room) #[(.ref a1), (.ref a2)] n0 h0 [] (fun v h => ∃ b : Addr, v = some (.ref b) ∧ Exa Z h b "com/example/kept_outbox/keptoutbox/api/Message" ∧ Fld Z h b "com/example/kept_outbox/keptoutbox/api/Message" "destination" "Ljava/lang/String;" (.ref d1) ∧ Fld Z h b "com/example/kept_outbox/keptoutbox/api/Message" "payload" "[B" (.ref a2)) := by
  refine Ct.of (plainFor_of_name pn_com_example_kept_outbox_keptoutbox_api_Message_Builder) O0 all0 (own_EW hw) ?_
  intro p e s m below meth c hx hby hml hret hnm
  refine Go.cast (ef_rmMK m a1 a2) ?_
  refine Go.sp (g' := (mkF m 1 #[.val (.ref a1), .val (.ref a2)] [(.ref a2)])) (fun T A t r => XS.aloadN A hx rfl (hb hby d_prog_7_m_4_0) rfl rfl r) ?_
  refine Go.r (g' := (mkF m 2 #[.val (.ref a1), .val (.ref a2)] [(.int (2 : Int32))])) (fun s' T L X eT hZ t r => own_len X hx hZ eT VA (g := (mkF m 1 #[.val (.ref a1), .val (.ref a2)] [(.ref a2)])) rfl rfl (hb hby d_prog_7_m_4_1) t r) ?_
  refine Go.v (g' := (mkF m 4 #[.val (.ref a1), .val (.ref a2)] [(.int (1048576 : Int32)), (.int (2 : Int32))])) (fun s' T L X eT hZ hown => own_ldcI X hx hZ hown (own_w hw 119 rfl) eT (g := (mkF m 2 #[.val (.ref a1), .val (.ref a2)] [(.int (2 : Int32))])) rfl (hb hby d_prog_7_m_4_2)) ?_
  refine Go.sp (g' := (mkF m 22 #[.val (.ref a1), .val (.ref a2)] [])) (fun T A t r => XS.icmpYes A hx rfl (pc0 := 4) (pc' := 22) rfl (hb hby d_prog_7_m_4_4) rfl (flt (by decide : ¬ ((1048576 : Int32) < (2 : Int32)))).2.2.2 (by decide) (by decide) r) ?_
  refine Go.newO (k' := 1) (n' := 2) (pc' := 25) (hb hby d_prog_7_m_4_22) (own_w hw 120 rfl) (own_w hw 121 rfl) (own_w hw 37 rfl) rfl rfl rfl (by decide) (by decide) ?_
  intro b11 h11 g11 sz11 E11 A11 D11
  have F11_destination : Fld Z h11 b11 "com/example/kept_outbox/keptoutbox/api/Message" "destination" "Ljava/lang/String;" .null := D11 (Or.inr (own_w hw 127 rfl)) (ty := (.object "java/lang/String")) (by decide)
  have F11_payload : Fld Z h11 b11 "com/example/kept_outbox/keptoutbox/api/Message" "payload" "[B" .null := D11 (Or.inr (own_w hw 129 rfl)) (ty := (.array .byte)) (by decide)
  refine Go.sp (g' := (mkF m 26 #[.val (.ref a1), .val (.ref a2)] [(.ref b11), (.ref b11)])) (fun T A t r => XS.dup A hx rfl (hb hby d_prog_7_m_4_25) rfl rfl r) ?_
  refine Go.sp (g' := (mkF m 27 #[.val (.ref a1), .val (.ref a2)] [(.ref a1), (.ref b11), (.ref b11)])) (fun T A t r => XS.aloadN A hx rfl (hb hby d_prog_7_m_4_26) rfl rfl r) ?_
  have f12 := (F1.ext E11)
  refine Go.v (g' := (mkF m 30 #[.val (.ref a1), .val (.ref a2)] [(.ref d1), (.ref b11), (.ref b11)])) (fun s' T L X eT hZ hown => getF X hx hZ hown (host := "") (Or.inl (own_w hw 97 rfl)) Via.refl eT f12 (g := (mkF m 27 #[.val (.ref a1), .val (.ref a2)] [(.ref a1), (.ref b11), (.ref b11)])) rfl rfl (hb hby d_prog_7_m_4_27)) ?_
  refine Go.sp (g' := (mkF m 31 #[.val (.ref a1), .val (.ref a2)] [(.ref a2), (.ref d1), (.ref b11), (.ref b11)])) (fun T A t r => XS.aloadN A hx rfl (hb hby d_prog_7_m_4_30) rfl rfl r) ?_
  refine Go.old fun O13 => ?_
  refine Go.callNW (a := b11) (ws' := [b11]) (W := 1) (y := (⟨"com/example/kept_outbox/keptoutbox/api/Message", "<init>", "(Ljava/lang/String;[B)V"⟩ : MethodName)) (argsL := [(.ref d1), (.ref a2)]) (rest := [(.ref b11)]) (pc' := 34) (k' := 1) (n' := 2) (hb hby d_prog_7_m_4_31) rfl (own_w hw 122 rfl) (own_w hw 123 rfl) (own_w hw 124 rfl) (by decide) (rmMI l Z a0 hw [] b11 d1 a2 _ _ h11 n0 O13 (Nat.le_trans (Old.le O0) sz11) A11 F11_destination F11_payload) (own_w hw 124 rfl) (own_w hw 37 rfl) (by decide) (by decide) (by rw [hml]; rfl) (lenOf pd_7 rfl) rfl (Nat.le_of_ble_eq_true rfl) rfl rfl rfl (by decide) (by decide) (allS (Or.inr sz11) all0) ?_
  rintro v14 h14 K14 ⟨rfl, F14, G14⟩
  refine Go.cast (g' := (mkF m 34 #[.val (.ref a1), .val (.ref a2)] [(.ref b11)])) rfl ?_
  have f15 := (A11.keep K14)
  exact Go.ret (v := (some (.ref b11))) (fun s' T L fs X hr => own_retR X hx hret rfl rfl (hb hby d_prog_7_m_4_34) hr) (fun h => by rw [hret] at h; cases h) (by decide) (by decide) ⟨_, rfl, f15, F14, G14⟩
theorem ef_rmP (m : MethodId) (x0 : Addr) (x1 : Addr) : entryFrame m #[(.ref x0), (.ref x1)] 2 = mkF m 0 #[.val (.ref x0), .val (.ref x1)] [] := by first | (simp [entryFrame, mkF, argsToLocals, Value.category]; done) | rfl
set_option maxRecDepth 65536 in
set_option maxHeartbeats 40000000 in
theorem rmP (l : Launch) (Z : State) (a0 : Array Value) (hw : ∀ d ∈ tables_1, d.before a0 Z = true) (wds : List Jvm.Cond) (a1 : Addr) (d1 : Addr) (a2 : Addr) (kA : ClassId) (v1 : Int32) (v2 : Int32) (h0 : Heap) (n0 : Nat) (O0 : Old Z n0 h0)  (E1 : Exa Z h0 a1 "com/example/kept_outbox/keptoutbox/api/Message$Builder") (F1 : Fld Z h0 a1 "com/example/kept_outbox/keptoutbox/api/Message$Builder" "destination" "Ljava/lang/String;" (.ref d1)) (EA : Exa Z h0 a2 "[B") (VA : Arv Z h0 a2 kA .byte (2 : Int32) [.int v1, .int v2] (.int 0)) :
    Ct l Z a0 own_EL (⟨"com/example/kept_outbox/keptoutbox/api/Message$Builder", "payload", "([B)Lcom/example/kept_outbox/keptoutbox/api/Message;"⟩ : MethodName) prog_7_method_3_code 2 (some (.object "com/example/kept_outbox/keptoutbox/api/Message")) wds ({ frames := 3, cells := 4, slots := 104, locals := 40 } : Room) #[(.ref a1), (.ref a2)] n0 h0 [] (fun v h => ∃ b c : Addr, v = some (.ref b) ∧ Exa Z h b "com/example/kept_outbox/keptoutbox/api/Message" ∧ Fld Z h b "com/example/kept_outbox/keptoutbox/api/Message" "destination" "Ljava/lang/String;" (.ref d1) ∧ Fld Z h b "com/example/kept_outbox/keptoutbox/api/Message" "payload" "[B" (.ref c) ∧ Exa Z h c "[B" ∧ Arv Z h c kA .byte (2 : Int32) [.int v1, .int v2] (.int 0)) := by
  refine Ct.of (plainFor_of_name pn_com_example_kept_outbox_keptoutbox_api_Message_Builder) O0 all0 (own_EW hw) ?_
  intro p e s m below meth c hx hby hml hret hnm
  refine Go.cast (ef_rmP m a1 a2) ?_
  refine Go.sp (g' := (mkF m 1 #[.val (.ref a1), .val (.ref a2)] [(.ref a2)])) (fun T A t r => XS.aloadN A hx rfl (hb hby d_prog_7_m_3_0) rfl rfl r) ?_
  refine Go.ldc0 (nn := 96) (k' := 2) (n' := 100) (pc' := 3) (hb hby d_prog_7_m_3_1) (own_w hw 104 rfl) (own_strA hw) (by decide) (by decide) rfl rfl rfl (by decide) (by decide) ?_
  intro a11 h11 E11
  refine Go.old fun O12 => ?_
  refine Go.callSPW (W := 0) (y := (⟨"java/util/Objects", "requireNonNull", "(Ljava/lang/Object;Ljava/lang/String;)Ljava/lang/Object;"⟩ : MethodName)) (argsL := [(.ref a2), (.ref a11)]) (rest := []) (pc' := 6) (k' := 2) (n' := 100) (hb hby d_prog_7_m_3_3) (own_w hw 105 rfl) (own_w hw 50 rfl) (own_w hw 51 rfl) (own_w hw 52 rfl) (by decide) (rmR l Z a0 hw [] a2 a11 h11 n0 O12) (own_w hw 52 rfl) (own_w hw 51 rfl) (by decide) (by decide) (by rw [hml]; rfl) (lenOf pd_0 rfl) rfl (Nat.le_of_ble_eq_true rfl) rfl rfl rfl (by decide) (by decide) ?_
  rintro v13 rfl
  refine Go.cast (g' := (mkF m 6 #[.val (.ref a1), .val (.ref a2)] [(.ref a2)])) rfl ?_
  refine Go.sp (g' := (mkF m 7 #[.val (.ref a1), .val (.ref a2)] [])) (fun T A t r => XS.pop A hx rfl (hb hby d_prog_7_m_3_6) rfl rfl r) ?_
  refine Go.sp (g' := (mkF m 8 #[.val (.ref a1), .val (.ref a2)] [(.ref a1)])) (fun T A t r => XS.aloadN A hx rfl (hb hby d_prog_7_m_3_7) rfl rfl r) ?_
  refine Go.sp (g' := (mkF m 9 #[.val (.ref a1), .val (.ref a2)] [(.ref a2), (.ref a1)])) (fun T A t r => XS.aloadN A hx rfl (hb hby d_prog_7_m_3_8) rfl rfl r) ?_
  have f14 := (VA.ext E11)
  have f15 := (EA.ext E11)
  refine Go.clone (k' := 3) (n' := 102) (pc' := 12) (W := 1) (cap := 2) (hb hby d_prog_7_m_3_9) (own_w hw 106 rfl) (own_w hw 107 rfl) (own_w hw 111 rfl) (own_w hw 109 rfl) (own_w hw 110 rfl) (own_w hw 112 rfl) f14 f15 (by rw [hml]; rfl) (by decide) (Nat.le_of_ble_eq_true rfl) (by decide) (by decide) rfl rfl rfl (by decide) (by decide) ?_
  intro b16 h16 g16 sz16 E16 A16 D16
  refine Go.v (g' := (mkF m 15 #[.val (.ref a1), .val (.ref a2)] [(.ref b16), (.ref a1)])) (fun s' T L X eT hZ hown => castY X hx hZ hown (own_w hw 113 rfl) eT (Ins.self D16) (g := (mkF m 12 #[.val (.ref a1), .val (.ref a2)] [(.ref b16), (.ref a1)])) rfl rfl (hb hby d_prog_7_m_3_12)) ?_
  refine Go.old fun O17 => ?_
  have f18 := ((E1.ext E11).ext E16)
  have f19 := ((F1.ext E11).ext E16)
  refine Go.callPW (a := a1) (ws' := []) (W := 0) (y := (⟨"com/example/kept_outbox/keptoutbox/api/Message$Builder", "make", "([B)Lcom/example/kept_outbox/keptoutbox/api/Message;"⟩ : MethodName)) (argsL := [(.ref b16)]) (rest := []) (pc' := 18) (k' := 4) (n' := 104) (hb hby d_prog_7_m_3_15) (own_w hw 115 rfl) (own_w hw 117 rfl) (own_w hw 40 rfl) (own_w hw 116 rfl) (by decide) (rmMK l Z a0 hw [] a1 d1 b16 kA v1 v2 h16 n0 O17 f18 f19 D16 A16) (own_w hw 118 rfl) (own_w hw 41 rfl) (by decide) (by decide) f18 (by rw [hml]; rfl) (lenOf pd_8 rfl) rfl (Nat.le_of_ble_eq_true rfl) rfl rfl rfl (by decide) (by decide) all0 ?_
  rintro v20 h20 K20 ⟨b20, rfl, E20, F20, G20⟩
  refine Go.cast (g' := (mkF m 18 #[.val (.ref a1), .val (.ref a2)] [(.ref b20)])) rfl ?_
  have f21 := (D16.keep K20)
  have f22 := (A16.keep K20 nin0)
  exact Go.ret (v := (some (.ref b20))) (fun s' T L fs X hr => own_retR X hx hret rfl rfl (hb hby d_prog_7_m_3_18) hr) (fun h => by rw [hret] at h; cases h) (by decide) (by decide) ⟨_, _, rfl, E20, F20, G20, f21, f22⟩
theorem ef_rmD (m : MethodId) (x0 : Addr) : entryFrame m #[(.ref x0)] 1 = mkF m 0 #[.val (.ref x0)] [] := by first | (simp [entryFrame, mkF, argsToLocals, Value.category]; done) | rfl
set_option maxRecDepth 65536 in
set_option maxHeartbeats 40000000 in
theorem rmD (l : Launch) (Z : State) (a0 : Array Value) (hw : ∀ d ∈ tables_1, d.before a0 Z = true) (wds : List Jvm.Cond) (a1 : Addr) (d1 : Addr) (h0 : Heap) (n0 : Nat) (O0 : Old Z n0 h0)  (F1 : Fld Z h0 a1 "com/example/kept_outbox/keptoutbox/api/Message" "destination" "Ljava/lang/String;" (.ref d1)) :
    Ct l Z a0 own_EL (⟨"com/example/kept_outbox/keptoutbox/api/Message", "destination", "()Ljava/lang/String;"⟩ : MethodName) prog_6_method_3_code 1 (some (.object "java/lang/String")) wds ({ frames := 0, cells := 0, slots := 0, locals := 0 } : Room) #[(.ref a1)] n0 h0 [] (fun v h => v = some (.ref d1) ∧ h = h0) := by
  refine Ct.of (plainFor_of_name pn_com_example_kept_outbox_keptoutbox_api_Message) O0 all0 (own_EW hw) ?_
  intro p e s m below meth c hx hby hml hret hnm
  refine Go.cast (ef_rmD m a1) ?_
  refine Go.sp (g' := (mkF m 1 #[.val (.ref a1)] [(.ref a1)])) (fun T A t r => XS.aloadN A hx rfl (hb hby d_prog_6_m_3_0) rfl rfl r) ?_
  refine Go.v (g' := (mkF m 4 #[.val (.ref a1)] [(.ref d1)])) (fun s' T L X eT hZ hown => getF X hx hZ hown (host := "") (Or.inl (own_w hw 126 rfl)) Via.refl eT F1 (g := (mkF m 1 #[.val (.ref a1)] [(.ref a1)])) rfl rfl (hb hby d_prog_6_m_3_1)) ?_
  exact Go.ret (v := (some (.ref d1))) (fun s' T L fs X hr => own_retR X hx hret rfl rfl (hb hby d_prog_6_m_3_4) hr) (fun h => by rw [hret] at h; cases h) (by decide) (by decide) ⟨rfl, rfl⟩
theorem ef_rmQ (m : MethodId) (x0 : Addr) : entryFrame m #[(.ref x0)] 1 = mkF m 0 #[.val (.ref x0)] [] := by first | (simp [entryFrame, mkF, argsToLocals, Value.category]; done) | rfl
set_option maxRecDepth 65536 in
set_option maxHeartbeats 40000000 in
theorem rmQ (l : Launch) (Z : State) (a0 : Array Value) (hw : ∀ d ∈ tables_1, d.before a0 Z = true) (wds : List Jvm.Cond) (a1 : Addr) (c1 : Addr) (kA : ClassId) (v1 : Int32) (v2 : Int32) (h0 : Heap) (n0 : Nat) (O0 : Old Z n0 h0)  (F1 : Fld Z h0 a1 "com/example/kept_outbox/keptoutbox/api/Message" "payload" "[B" (.ref c1)) (EA : Exa Z h0 c1 "[B") (VA : Arv Z h0 c1 kA .byte (2 : Int32) [.int v1, .int v2] (.int 0)) :
    Ct l Z a0 own_EL (⟨"com/example/kept_outbox/keptoutbox/api/Message", "payload", "()[B"⟩ : MethodName) prog_6_method_4_code 1 (some (.array .byte)) wds ({ frames := 1, cells := 1, slots := 2, locals := 14 } : Room) #[(.ref a1)] n0 h0 [] (fun v h => ∃ b : Addr, v = some (.ref b) ∧ Arv Z h b kA .byte (2 : Int32) [.int v1, .int v2] (.int 0)) := by
  refine Ct.of (plainFor_of_name pn_com_example_kept_outbox_keptoutbox_api_Message) O0 all0 (own_EW hw) ?_
  intro p e s m below meth c hx hby hml hret hnm
  refine Go.cast (ef_rmQ m a1) ?_
  refine Go.sp (g' := (mkF m 1 #[.val (.ref a1)] [(.ref a1)])) (fun T A t r => XS.aloadN A hx rfl (hb hby d_prog_6_m_4_0) rfl rfl r) ?_
  refine Go.v (g' := (mkF m 4 #[.val (.ref a1)] [(.ref c1)])) (fun s' T L X eT hZ hown => getF X hx hZ hown (host := "") (Or.inl (own_w hw 128 rfl)) Via.refl eT F1 (g := (mkF m 1 #[.val (.ref a1)] [(.ref a1)])) rfl rfl (hb hby d_prog_6_m_4_1)) ?_
  refine Go.clone (k' := 1) (n' := 2) (pc' := 7) (W := 0) (cap := 2) (hb hby d_prog_6_m_4_4) (own_w hw 140 rfl) (own_w hw 107 rfl) (own_w hw 111 rfl) (own_w hw 109 rfl) (own_w hw 110 rfl) (own_w hw 112 rfl) VA EA (by rw [hml]; rfl) (by decide) (Nat.le_of_ble_eq_true rfl) (by decide) (by decide) rfl rfl rfl (by decide) (by decide) ?_
  intro b11 h11 g11 sz11 E11 A11 D11
  refine Go.v (g' := (mkF m 10 #[.val (.ref a1)] [(.ref b11)])) (fun s' T L X eT hZ hown => castY X hx hZ hown (own_w hw 141 rfl) eT (Ins.self D11) (g := (mkF m 7 #[.val (.ref a1)] [(.ref b11)])) rfl rfl (hb hby d_prog_6_m_4_7)) ?_
  exact Go.ret (v := (some (.ref b11))) (fun s' T L fs X hr => own_retR X hx hret rfl rfl (hb hby d_prog_6_m_4_10) hr) (fun h => by rw [hret] at h; cases h) (by decide) (by decide) ⟨_, rfl, A11⟩
theorem ef_rmE (m : MethodId) (x0 : Addr) (x1 : Addr) : entryFrame m #[(.ref x0), (.ref x1)] 3 = mkF m 0 #[.val (.ref x0), .val (.ref x1), .unset] [] := by first | (simp [entryFrame, mkF, argsToLocals, Value.category]; done) | rfl
set_option maxRecDepth 65536 in
set_option maxHeartbeats 40000000 in
theorem rmE (l : Launch) (Z : State) (a0 : Array Value) (hw : ∀ d ∈ tables_1, d.before a0 Z = true) (wds : List Jvm.Cond) (a1 : Addr) (h0 : Heap) (n0 : Nat) (O0 : Old Z n0 h0)   :
    Ct l Z a0 own_EL (⟨"java/lang/String", "equals", "(Ljava/lang/Object;)Z"⟩ : MethodName) jdk_42_method_66_code 3 (some .boolean) wds ({ frames := 0, cells := 0, slots := 0, locals := 0 } : Room) #[(.ref a1), (.ref a1)] n0 h0 [] (fun v h => v = some (.int 1) ∧ h = h0) := by
  refine Ct.of (plainFor_of_name pn_java_lang_String) O0 all0 (own_EW hw) ?_
  intro p e s m below meth c hx hby hml hret hnm
  refine Go.cast (ef_rmE m a1 a1) ?_
  refine Go.sp (g' := (mkF m 1 #[.val (.ref a1), .val (.ref a1), .unset] [(.ref a1)])) (fun T A t r => XS.aloadN A hx rfl (hb hby d_jdk_42_m_66_0) rfl rfl r) ?_
  refine Go.sp (g' := (mkF m 2 #[.val (.ref a1), .val (.ref a1), .unset] [(.ref a1), (.ref a1)])) (fun T A t r => XS.aloadN A hx rfl (hb hby d_jdk_42_m_66_1) rfl rfl r) ?_
  refine Go.r (g' := (mkF m 5 #[.val (.ref a1), .val (.ref a1), .unset] [])) (fun s' T L X eT hZ t r => Jvm.RoadKit.acmp (g := (mkF m 2 #[.val (.ref a1), .val (.ref a1), .unset] [(.ref a1), (.ref a1)])) X hx rfl rfl rfl (pc0 := 2) (pc' := 5) (same := true) rfl (hb hby d_jdk_42_m_66_2) rfl (decide_eq_true rfl) (by decide) (by decide) r) ?_
  refine Go.sp (g' := (mkF m 6 #[.val (.ref a1), .val (.ref a1), .unset] [(.int (1 : Int32))])) (fun T A t r => XS.iconst A hx rfl (hb hby d_jdk_42_m_66_5) r) ?_
  exact Go.ret (v := (some (.int (nar .boolean (1 : Int32))))) (fun s' T L fs X hr => retN X hx (t := .boolean) hret (by simp) (hb hby d_jdk_42_m_66_6) hr) (fun h => by rw [hret] at h; cases h) (by decide) (by decide) ⟨rfl, rfl⟩
theorem ef_rm0 (m : MethodId) (x0 : Int32) (x1 : Int32) (x2 : Int32) (x3 : Int32) (x4 : Int32) (x5 : Int32) : entryFrame m #[(.int x0), (.int x1), (.int x2), (.int x3), (.int x4), (.int x5)] maxLocals = mkF m 0 #[.val (.int x0), .val (.int x1), .val (.int x2), .val (.int x3), .val (.int x4), .val (.int x5), .unset, .unset, .unset, .unset, .unset, .unset, .unset, .unset] [] := by first | (simp [entryFrame, mkF, argsToLocals, Value.category, maxLocals]; done) | rfl
set_option maxRecDepth 65536 in
set_option maxHeartbeats 40000000 in
theorem rm0 (l : Launch) (Z : State) (a0 : Array Value) (hw : ∀ d ∈ tables_1, d.before a0 Z = true) (wds : List Jvm.Cond) (p1 : Int32) (p2 : Int32) (p3 : Int32) (p4 : Int32) (p5 : Int32) (p6 : Int32) (zS : Int32) (fm : Value) (h0 : Heap) (n0 : Nat) (O0 : Old Z n0 h0)  (S0 : Sta Z Z.heap "java/lang/String" "COMPACT_STRINGS" "Z" (.int zS)) (P0 : ¬ zS = (0 : Int32)) (SF : Sta Z Z.heap "jdk/internal/util/Preconditions" "SIOOBE_FORMATTER" "Ljava/util/function/BiFunction;" fm) (RF : fm.isRef = true) :
    Ct l Z a0 own_EL x code maxLocals ret wds room_1 #[(.int p1), (.int p2), (.int p3), (.int p4), (.int p5), (.int p6)] n0 h0 [] (fun v h => v = some (.int 1)) := by
  refine Ct.of (plainFor_of_name pn_com_example_kept_outbox_keptoutbox_api_MessageToPinLaw) O0 all0 (own_EW hw) ?_
  intro p e s m below meth c hx hby hml hret hnm
  refine Go.cast (ef_rm0 m p1 p2 p3 p4 p5 p6) ?_
  refine Go.sp (g' := (mkF m 2 #[.val (.int p1), .val (.int p2), .val (.int p3), .val (.int p4), .val (.int p5), .val (.int p6), .unset, .unset, .unset, .unset, .unset, .unset, .unset, .unset] [(.int p5)])) (fun T A t r => XS.iload A hx rfl (hb hby at_0) rfl r) ?_
  refine Go.sp (g' := (mkF m 3 #[.val (.int p1), .val (.int p2), .val (.int p3), .val (.int p4), .val (.int p5), .val (.int p6), .unset, .unset, .unset, .unset, .unset, .unset, .unset, .unset] [(.int (3 : Int32)), (.int p5)])) (fun T A t r => XS.iconst A hx rfl (hb hby at_2) r) ?_
  refine Go.sp (g' := (mkF m 4 #[.val (.int p1), .val (.int p2), .val (.int p3), .val (.int p4), .val (.int p5), .val (.int p6), .unset, .unset, .unset, .unset, .unset, .unset, .unset, .unset] [(.int (p5 &&& (3 : Int32)))])) (fun T A t r => XS.iand A hx rfl (hb hby at_3) rfl r) ?_
  rcases own_and3 p5 with hn | hn | hn | hn
  · skip
    refine Go.cast (g' := (mkF m 4 #[.val (.int p1), .val (.int p2), .val (.int p3), .val (.int p4), .val (.int p5), .val (.int p6), .unset, .unset, .unset, .unset, .unset, .unset, .unset, .unset] [(.int (0 : Int32))])) (by rw [hn]) ?_
    refine Go.sp (g' := (mkF m 5 #[.val (.int p1), .val (.int p2), .val (.int p3), .val (.int p4), .val (.int p5), .val (.int p6), .unset, .unset, .unset, .unset, .unset, .unset, .unset, .unset] [(.int (1 : Int32)), (.int (0 : Int32))])) (fun T A t r => XS.iconst A hx rfl (hb hby at_4) r) ?_
    refine Go.sp (g' := (mkF m 6 #[.val (.int p1), .val (.int p2), .val (.int p3), .val (.int p4), .val (.int p5), .val (.int p6), .unset, .unset, .unset, .unset, .unset, .unset, .unset, .unset] [(.int (1 : Int32))])) (fun T A t r => XS.iadd A hx rfl (hb hby at_5) rfl r) ?_
    refine Go.sp (g' := (mkF m 8 #[.val (.int p1), .val (.int p2), .val (.int p3), .val (.int p4), .val (.int p5), .val (.int p6), .val (.int (1 : Int32)), .unset, .unset, .unset, .unset, .unset, .unset, .unset] [])) (fun T A t r => XS.istore A hx rfl (hb hby at_6) rfl (l' := #[.val (.int p1), .val (.int p2), .val (.int p3), .val (.int p4), .val (.int p5), .val (.int p6), .val (.int (1 : Int32)), .unset, .unset, .unset, .unset, .unset, .unset, .unset]) rfl r) ?_
    refine Go.sp (g' := (mkF m 10 #[.val (.int p1), .val (.int p2), .val (.int p3), .val (.int p4), .val (.int p5), .val (.int p6), .val (.int (1 : Int32)), .unset, .unset, .unset, .unset, .unset, .unset, .unset] [(.int (1 : Int32))])) (fun T A t r => XS.iload A hx rfl (hb hby at_8) rfl r) ?_
    refine Go.sp (g' := (mkF m 11 #[.val (.int p1), .val (.int p2), .val (.int p3), .val (.int p4), .val (.int p5), .val (.int p6), .val (.int (1 : Int32)), .unset, .unset, .unset, .unset, .unset, .unset, .unset] [(.int (1 : Int32)), (.int (1 : Int32))])) (fun T A t r => XS.iconst A hx rfl (hb hby at_10) r) ?_
    refine Go.sp (g' := (mkF m 14 #[.val (.int p1), .val (.int p2), .val (.int p3), .val (.int p4), .val (.int p5), .val (.int p6), .val (.int (1 : Int32)), .unset, .unset, .unset, .unset, .unset, .unset, .unset] [])) (fun T A t r => XS.icmpNo A hx rfl (hb hby at_11) rfl (teq (by decide : ((1 : Int32) = (1 : Int32)))).2 r) ?_
    refine Go.sp (g' := (mkF m 15 #[.val (.int p1), .val (.int p2), .val (.int p3), .val (.int p4), .val (.int p5), .val (.int p6), .val (.int (1 : Int32)), .unset, .unset, .unset, .unset, .unset, .unset, .unset] [(.int (1 : Int32))])) (fun T A t r => XS.iconst A hx rfl (hb hby at_14) r) ?_
    refine Go.newP (ty := .char) (dv := (.int (0 : Int32))) (cap := 1) (k' := 1) (n' := 1) (pc' := 17) (hb hby at_15) rfl rfl (own_w hw 0 rfl) (by decide) (by decide) (by decide) rfl rfl rfl (by decide) (by decide) ?_
    intro b11 h11 k11 g11 sz11 E11 A11
    have V11 : Arv Z h11 b11 k11 .char (1 : Int32) [(.int (0 : Int32))] (.int (0 : Int32)) := A11.pad (pad_rep [] (.int (0 : Int32)) 1)
    refine Go.sp (g' := (mkF m 18 #[.val (.int p1), .val (.int p2), .val (.int p3), .val (.int p4), .val (.int p5), .val (.int p6), .val (.int (1 : Int32)), .unset, .unset, .unset, .unset, .unset, .unset, .unset] [(.ref b11), (.ref b11)])) (fun T A t r => XS.dup A hx rfl (hb hby at_17) rfl rfl r) ?_
    refine Go.sp (g' := (mkF m 19 #[.val (.int p1), .val (.int p2), .val (.int p3), .val (.int p4), .val (.int p5), .val (.int p6), .val (.int (1 : Int32)), .unset, .unset, .unset, .unset, .unset, .unset, .unset] [(.int (0 : Int32)), (.ref b11), (.ref b11)])) (fun T A t r => XS.iconst A hx rfl (hb hby at_18) r) ?_
    refine Go.sp (g' := (mkF m 20 #[.val (.int p1), .val (.int p2), .val (.int p3), .val (.int p4), .val (.int p5), .val (.int p6), .val (.int (1 : Int32)), .unset, .unset, .unset, .unset, .unset, .unset, .unset] [(.int p1), (.int (0 : Int32)), (.ref b11), (.ref b11)])) (fun T A t r => XS.iloadN A hx rfl (hb hby at_19) rfl r) ?_
    refine Go.old fun O12 => ?_
    refine Go.callSPW (W := 3) (y := (⟨"com/example/kept_outbox/keptoutbox/api/MessageToPinLaw", "allowed", "(I)C"⟩ : MethodName)) (argsL := [(.int p1)]) (rest := [(.int (0 : Int32)), (.ref b11), (.ref b11)]) (pc' := 23) (k' := 1) (n' := 1) (hb hby at_20) (own_w hw 1 rfl) (own_w hw 2 rfl) (own_w hw 3 rfl) (own_w hw 4 rfl) (by decide) (rmA l Z a0 hw [] p1 h11 n0 O12) (own_w hw 4 rfl) (own_w hw 3 rfl) (by decide) (by decide) (by rw [hml]; rfl) (lenOf pd_3 rfl) rfl (Nat.le_of_ble_eq_true rfl) rfl rfl rfl (by decide) (by decide) ?_
    rintro v13 ⟨z13, rfl, al13⟩
    refine Go.cast (g' := (mkF m 23 #[.val (.int p1), .val (.int p2), .val (.int p3), .val (.int p4), .val (.int p5), .val (.int p6), .val (.int (1 : Int32)), .unset, .unset, .unset, .unset, .unset, .unset, .unset] [(.int z13), (.int (0 : Int32)), (.ref b11), (.ref b11)])) rfl ?_
    refine Go.w (g' := (mkF m 24 #[.val (.int p1), .val (.int p2), .val (.int p3), .val (.int p4), .val (.int p5), .val (.int p6), .val (.int (1 : Int32)), .unset, .unset, .unset, .unset, .unset, .unset, .unset] [(.ref b11)])) (fun s' T L X eT hZ hown => own_stC X hx hZ eT V11 (j := (0 : Int32)) ⟨by decide, by decide⟩ (g := (mkF m 23 #[.val (.int p1), .val (.int p2), .val (.int p3), .val (.int p4), .val (.int p5), .val (.int p6), .val (.int (1 : Int32)), .unset, .unset, .unset, .unset, .unset, .unset, .unset] [(.int z13), (.int (0 : Int32)), (.ref b11), (.ref b11)])) rfl rfl (hb hby at_23)) (Or.inr sz11) (Or.inr SafeA.nil) ?_
    intro h14 W14
    have V14 : Arv Z h14 b11 k11 .char (1 : Int32) [(.int z13)] (.int (0 : Int32)) := own_set V11 (fits_nar_char _) W14 (congrArg Value.int (own_nar (own_alb al13))) 0 rfl (Nat.le_of_ble_eq_true rfl)
    refine Go.sp (g' := (mkF m 26 #[.val (.int p1), .val (.int p2), .val (.int p3), .val (.int p4), .val (.int p5), .val (.int p6), .val (.int (1 : Int32)), .val (.ref b11), .unset, .unset, .unset, .unset, .unset, .unset] [])) (fun T A t r => XS.astore A hx rfl (hb hby at_24) rfl rfl (l' := #[.val (.int p1), .val (.int p2), .val (.int p3), .val (.int p4), .val (.int p5), .val (.int p6), .val (.int (1 : Int32)), .val (.ref b11), .unset, .unset, .unset, .unset, .unset, .unset]) rfl r) ?_
    refine Go.sp (g' := (mkF m 125 #[.val (.int p1), .val (.int p2), .val (.int p3), .val (.int p4), .val (.int p5), .val (.int p6), .val (.int (1 : Int32)), .val (.ref b11), .unset, .unset, .unset, .unset, .unset, .unset] [])) (fun T A t r => XS.goto A hx rfl (pc0 := 26) (pc' := 125) rfl (hb hby at_26) (by decide) (by decide) r) ?_
    refine Go.newO (k' := 2) (n' := 5) (pc' := 128) (hb hby at_125) (own_w hw 6 rfl) (own_w hw 7 rfl) (own_w hw 8 rfl) rfl rfl rfl (by decide) (by decide) ?_
    intro b15 h15 g15 sz15 E15 A15 D15
    have F15_coder : Fld Z h15 b15 "java/lang/String" "coder" "B" (.int (0 : Int32)) := D15 (Or.inr (own_w hw 32 rfl)) (ty := .byte) (by decide)
    have F15_value : Fld Z h15 b15 "java/lang/String" "value" "[B" .null := D15 (Or.inr (own_w hw 34 rfl)) (ty := (.array .byte)) (by decide)
    refine Go.sp (g' := (mkF m 129 #[.val (.int p1), .val (.int p2), .val (.int p3), .val (.int p4), .val (.int p5), .val (.int p6), .val (.int (1 : Int32)), .val (.ref b11), .unset, .unset, .unset, .unset, .unset, .unset] [(.ref b15), (.ref b15)])) (fun T A t r => XS.dup A hx rfl (hb hby at_128) rfl rfl r) ?_
    refine Go.sp (g' := (mkF m 131 #[.val (.int p1), .val (.int p2), .val (.int p3), .val (.int p4), .val (.int p5), .val (.int p6), .val (.int (1 : Int32)), .val (.ref b11), .unset, .unset, .unset, .unset, .unset, .unset] [(.ref b11), (.ref b15), (.ref b15)])) (fun T A t r => XS.aload A hx rfl (hb hby at_129) rfl rfl r) ?_
    have f16 := (V14.ext E15)
    refine Go.old fun O17 => ?_
    have lat18 : ∀ c ∈ [z13], ¬ c < 0 ∧ ¬ (255 : Int32) < c := own_allc (own_alb al13) (own_allc0)
    refine Go.callC (a := b15) (ws' := [b15]) (W := 1) (y := (⟨"java/lang/String", "<init>", "([C)V"⟩ : MethodName)) (argsL := [(.ref b11)]) (rest := [(.ref b15)]) (pc' := 134) (k' := 3) (n' := 6) (hb hby at_131) rfl (own_w hw 9 rfl) (own_w hw 10 rfl) (own_w hw 11 rfl) (by decide) (fun s' hZ => own_str hw (own_w hw 7 rfl) hZ (cs := [z13]) (n := 1) (Nat.le_trans (Old.le O0) sz15) O17 A15 F15_value F15_coder f16 S0 P0 rfl rfl (by decide) (by decide) lat18 (by decide) (by decide)) (by rw [hml]; rfl) (lenOf pd_9 rfl) rfl (Nat.le_of_ble_eq_true rfl) rfl rfl rfl (by decide) (by decide) (allS (Or.inr sz15) all0) (allS (Or.inr SafeA.nil) all0) ?_
    rintro v19 h19 K19 ⟨rfl, E19, C19, t19, kb19, ge19, V19, B19⟩
    refine Go.cast (g' := (mkF m 134 #[.val (.int p1), .val (.int p2), .val (.int p3), .val (.int p4), .val (.int p5), .val (.int p6), .val (.int (1 : Int32)), .val (.ref b11), .unset, .unset, .unset, .unset, .unset, .unset] [(.ref b15)])) rfl ?_
    refine Go.sp (g' := (mkF m 136 #[.val (.int p1), .val (.int p2), .val (.int p3), .val (.int p4), .val (.int p5), .val (.int p6), .val (.int (1 : Int32)), .val (.ref b11), .val (.ref b15), .unset, .unset, .unset, .unset, .unset] [])) (fun T A t r => XS.astore A hx rfl (hb hby at_134) rfl rfl (l' := #[.val (.int p1), .val (.int p2), .val (.int p3), .val (.int p4), .val (.int p5), .val (.int p6), .val (.int (1 : Int32)), .val (.ref b11), .val (.ref b15), .unset, .unset, .unset, .unset, .unset]) rfl r) ?_
    refine Go.sp (g' := (mkF m 138 #[.val (.int p1), .val (.int p2), .val (.int p3), .val (.int p4), .val (.int p5), .val (.int p6), .val (.int (1 : Int32)), .val (.ref b11), .val (.ref b15), .unset, .unset, .unset, .unset, .unset] [(.int p6)])) (fun T A t r => XS.iload A hx rfl (hb hby at_136) rfl r) ?_
    refine Go.sp (g' := (mkF m 139 #[.val (.int p1), .val (.int p2), .val (.int p3), .val (.int p4), .val (.int p5), .val (.int p6), .val (.int (1 : Int32)), .val (.ref b11), .val (.ref b15), .unset, .unset, .unset, .unset, .unset] [(.int (p6.toInt8.toInt32))])) (fun T A t r => XS.i2b A hx rfl (hb hby at_138) rfl r) ?_
    refine Go.sp (g' := (mkF m 141 #[.val (.int p1), .val (.int p2), .val (.int p3), .val (.int p4), .val (.int p5), .val (.int p6), .val (.int (1 : Int32)), .val (.ref b11), .val (.ref b15), .val (.int (p6.toInt8.toInt32)), .unset, .unset, .unset, .unset] [])) (fun T A t r => XS.istore A hx rfl (hb hby at_139) rfl (l' := #[.val (.int p1), .val (.int p2), .val (.int p3), .val (.int p4), .val (.int p5), .val (.int p6), .val (.int (1 : Int32)), .val (.ref b11), .val (.ref b15), .val (.int (p6.toInt8.toInt32)), .unset, .unset, .unset, .unset]) rfl r) ?_
    refine Go.sp (g' := (mkF m 143 #[.val (.int p1), .val (.int p2), .val (.int p3), .val (.int p4), .val (.int p5), .val (.int p6), .val (.int (1 : Int32)), .val (.ref b11), .val (.ref b15), .val (.int (p6.toInt8.toInt32)), .unset, .unset, .unset, .unset] [(.int p6)])) (fun T A t r => XS.iload A hx rfl (hb hby at_141) rfl r) ?_
    refine Go.sp (g' := (mkF m 145 #[.val (.int p1), .val (.int p2), .val (.int p3), .val (.int p4), .val (.int p5), .val (.int p6), .val (.int (1 : Int32)), .val (.ref b11), .val (.ref b15), .val (.int (p6.toInt8.toInt32)), .unset, .unset, .unset, .unset] [(.int (8 : Int32)), (.int p6)])) (fun T A t r => XS.bipush A hx rfl (hb hby at_143) r) ?_
    refine Go.sp (g' := (mkF m 146 #[.val (.int p1), .val (.int p2), .val (.int p3), .val (.int p4), .val (.int p5), .val (.int p6), .val (.int (1 : Int32)), .val (.ref b11), .val (.ref b15), .val (.int (p6.toInt8.toInt32)), .unset, .unset, .unset, .unset] [(.int ((p6.toUInt32 >>> ((8 : Int32) &&& 31).toUInt32).toInt32))])) (fun T A t r => XS.iushr A hx rfl (hb hby at_145) rfl r) ?_
    refine Go.sp (g' := (mkF m 147 #[.val (.int p1), .val (.int p2), .val (.int p3), .val (.int p4), .val (.int p5), .val (.int p6), .val (.int (1 : Int32)), .val (.ref b11), .val (.ref b15), .val (.int (p6.toInt8.toInt32)), .unset, .unset, .unset, .unset] [(.int (((p6.toUInt32 >>> ((8 : Int32) &&& 31).toUInt32).toInt32).toInt8.toInt32))])) (fun T A t r => XS.i2b A hx rfl (hb hby at_146) rfl r) ?_
    refine Go.sp (g' := (mkF m 149 #[.val (.int p1), .val (.int p2), .val (.int p3), .val (.int p4), .val (.int p5), .val (.int p6), .val (.int (1 : Int32)), .val (.ref b11), .val (.ref b15), .val (.int (p6.toInt8.toInt32)), .val (.int (((p6.toUInt32 >>> ((8 : Int32) &&& 31).toUInt32).toInt32).toInt8.toInt32)), .unset, .unset, .unset] [])) (fun T A t r => XS.istore A hx rfl (hb hby at_147) rfl (l' := #[.val (.int p1), .val (.int p2), .val (.int p3), .val (.int p4), .val (.int p5), .val (.int p6), .val (.int (1 : Int32)), .val (.ref b11), .val (.ref b15), .val (.int (p6.toInt8.toInt32)), .val (.int (((p6.toUInt32 >>> ((8 : Int32) &&& 31).toUInt32).toInt32).toInt8.toInt32)), .unset, .unset, .unset]) rfl r) ?_
    refine Go.sp (g' := (mkF m 151 #[.val (.int p1), .val (.int p2), .val (.int p3), .val (.int p4), .val (.int p5), .val (.int p6), .val (.int (1 : Int32)), .val (.ref b11), .val (.ref b15), .val (.int (p6.toInt8.toInt32)), .val (.int (((p6.toUInt32 >>> ((8 : Int32) &&& 31).toUInt32).toInt32).toInt8.toInt32)), .unset, .unset, .unset] [(.ref b15)])) (fun T A t r => XS.aload A hx rfl (hb hby at_149) rfl rfl r) ?_
    refine Go.old fun O20 => ?_
    refine Go.callSW (ws' := []) (W := 0) (y := (⟨"com/example/kept_outbox/keptoutbox/api/Message", "to", "(Ljava/lang/String;)Lcom/example/kept_outbox/keptoutbox/api/Message$Builder;"⟩ : MethodName)) (argsL := [(.ref b15)]) (rest := []) (pc' := 154) (k' := 6) (n' := 143) (hb hby at_151) (own_w hw 35 rfl) (own_w hw 36 rfl) (own_w hw 37 rfl) (own_w hw 38 rfl) (by decide) (rmT1 l Z a0 hw [] b15 t19 kb19 z13 zS fm h19 n0 O20 E19 C19 V19 B19 al13 S0 P0 SF RF) (own_w hw 38 rfl) (own_w hw 37 rfl) (by decide) (by decide) (by rw [hml]; rfl) (lenOf pd_10 rfl) rfl (Nat.le_of_ble_eq_true rfl) rfl rfl rfl (by decide) (by decide) all0 ?_
    rintro v21 h21 K21 ⟨b21, rfl, E21, F21⟩
    refine Go.cast (g' := (mkF m 154 #[.val (.int p1), .val (.int p2), .val (.int p3), .val (.int p4), .val (.int p5), .val (.int p6), .val (.int (1 : Int32)), .val (.ref b11), .val (.ref b15), .val (.int (p6.toInt8.toInt32)), .val (.int (((p6.toUInt32 >>> ((8 : Int32) &&& 31).toUInt32).toInt32).toInt8.toInt32)), .unset, .unset, .unset] [(.ref b21)])) rfl ?_
    refine Go.sp (g' := (mkF m 155 #[.val (.int p1), .val (.int p2), .val (.int p3), .val (.int p4), .val (.int p5), .val (.int p6), .val (.int (1 : Int32)), .val (.ref b11), .val (.ref b15), .val (.int (p6.toInt8.toInt32)), .val (.int (((p6.toUInt32 >>> ((8 : Int32) &&& 31).toUInt32).toInt32).toInt8.toInt32)), .unset, .unset, .unset] [(.int (2 : Int32)), (.ref b21)])) (fun T A t r => XS.iconst A hx rfl (hb hby at_154) r) ?_
    refine Go.newPE (ty := .byte) (dv := (.int (0 : Int32))) (ad := "[B") (cap := 2) (k' := 7) (n' := 145) (pc' := 157) (hb hby at_155) rfl rfl (by decide) (own_w hw 24 rfl) (by decide) (by decide) (by decide) rfl rfl rfl (by decide) (by decide) ?_
    intro b22 h22 k22 g22 sz22 E22 A22 D22
    have V22 : Arv Z h22 b22 k22 .byte (2 : Int32) [(.int (0 : Int32)), (.int (0 : Int32))] (.int (0 : Int32)) := A22.pad (pad_rep [] (.int (0 : Int32)) 2)
    refine Go.sp (g' := (mkF m 158 #[.val (.int p1), .val (.int p2), .val (.int p3), .val (.int p4), .val (.int p5), .val (.int p6), .val (.int (1 : Int32)), .val (.ref b11), .val (.ref b15), .val (.int (p6.toInt8.toInt32)), .val (.int (((p6.toUInt32 >>> ((8 : Int32) &&& 31).toUInt32).toInt32).toInt8.toInt32)), .unset, .unset, .unset] [(.ref b22), (.ref b22), (.ref b21)])) (fun T A t r => XS.dup A hx rfl (hb hby at_157) rfl rfl r) ?_
    refine Go.sp (g' := (mkF m 159 #[.val (.int p1), .val (.int p2), .val (.int p3), .val (.int p4), .val (.int p5), .val (.int p6), .val (.int (1 : Int32)), .val (.ref b11), .val (.ref b15), .val (.int (p6.toInt8.toInt32)), .val (.int (((p6.toUInt32 >>> ((8 : Int32) &&& 31).toUInt32).toInt32).toInt8.toInt32)), .unset, .unset, .unset] [(.int (0 : Int32)), (.ref b22), (.ref b22), (.ref b21)])) (fun T A t r => XS.iconst A hx rfl (hb hby at_158) r) ?_
    refine Go.sp (g' := (mkF m 161 #[.val (.int p1), .val (.int p2), .val (.int p3), .val (.int p4), .val (.int p5), .val (.int p6), .val (.int (1 : Int32)), .val (.ref b11), .val (.ref b15), .val (.int (p6.toInt8.toInt32)), .val (.int (((p6.toUInt32 >>> ((8 : Int32) &&& 31).toUInt32).toInt32).toInt8.toInt32)), .unset, .unset, .unset] [(.int (p6.toInt8.toInt32)), (.int (0 : Int32)), (.ref b22), (.ref b22), (.ref b21)])) (fun T A t r => XS.iload A hx rfl (hb hby at_159) rfl r) ?_
    refine Go.w (g' := (mkF m 162 #[.val (.int p1), .val (.int p2), .val (.int p3), .val (.int p4), .val (.int p5), .val (.int p6), .val (.int (1 : Int32)), .val (.ref b11), .val (.ref b15), .val (.int (p6.toInt8.toInt32)), .val (.int (((p6.toUInt32 >>> ((8 : Int32) &&& 31).toUInt32).toInt32).toInt8.toInt32)), .unset, .unset, .unset] [(.ref b22), (.ref b21)])) (fun s' T L X eT hZ hown => own_stB X hx hZ eT V22 (j := (0 : Int32)) ⟨by decide, by decide⟩ (g := (mkF m 161 #[.val (.int p1), .val (.int p2), .val (.int p3), .val (.int p4), .val (.int p5), .val (.int p6), .val (.int (1 : Int32)), .val (.ref b11), .val (.ref b15), .val (.int (p6.toInt8.toInt32)), .val (.int (((p6.toUInt32 >>> ((8 : Int32) &&& 31).toUInt32).toInt32).toInt8.toInt32)), .unset, .unset, .unset] [(.int (p6.toInt8.toInt32)), (.int (0 : Int32)), (.ref b22), (.ref b22), (.ref b21)])) rfl rfl (hb hby at_161)) (Or.inr sz22) (Or.inr SafeA.nil) ?_
    intro h23 W23
    have V23 : Arv Z h23 b22 k22 .byte (2 : Int32) [(.int (p6.toInt8.toInt32)), (.int (0 : Int32))] (.int (0 : Int32)) := own_set V22 (fits_nar_byte _) W23 (congrArg Value.int (own_narB _)) 0 rfl (Nat.le_of_ble_eq_true rfl)
    refine Go.sp (g' := (mkF m 163 #[.val (.int p1), .val (.int p2), .val (.int p3), .val (.int p4), .val (.int p5), .val (.int p6), .val (.int (1 : Int32)), .val (.ref b11), .val (.ref b15), .val (.int (p6.toInt8.toInt32)), .val (.int (((p6.toUInt32 >>> ((8 : Int32) &&& 31).toUInt32).toInt32).toInt8.toInt32)), .unset, .unset, .unset] [(.ref b22), (.ref b22), (.ref b21)])) (fun T A t r => XS.dup A hx rfl (hb hby at_162) rfl rfl r) ?_
    refine Go.sp (g' := (mkF m 164 #[.val (.int p1), .val (.int p2), .val (.int p3), .val (.int p4), .val (.int p5), .val (.int p6), .val (.int (1 : Int32)), .val (.ref b11), .val (.ref b15), .val (.int (p6.toInt8.toInt32)), .val (.int (((p6.toUInt32 >>> ((8 : Int32) &&& 31).toUInt32).toInt32).toInt8.toInt32)), .unset, .unset, .unset] [(.int (1 : Int32)), (.ref b22), (.ref b22), (.ref b21)])) (fun T A t r => XS.iconst A hx rfl (hb hby at_163) r) ?_
    refine Go.sp (g' := (mkF m 166 #[.val (.int p1), .val (.int p2), .val (.int p3), .val (.int p4), .val (.int p5), .val (.int p6), .val (.int (1 : Int32)), .val (.ref b11), .val (.ref b15), .val (.int (p6.toInt8.toInt32)), .val (.int (((p6.toUInt32 >>> ((8 : Int32) &&& 31).toUInt32).toInt32).toInt8.toInt32)), .unset, .unset, .unset] [(.int (((p6.toUInt32 >>> ((8 : Int32) &&& 31).toUInt32).toInt32).toInt8.toInt32)), (.int (1 : Int32)), (.ref b22), (.ref b22), (.ref b21)])) (fun T A t r => XS.iload A hx rfl (hb hby at_164) rfl r) ?_
    refine Go.w (g' := (mkF m 167 #[.val (.int p1), .val (.int p2), .val (.int p3), .val (.int p4), .val (.int p5), .val (.int p6), .val (.int (1 : Int32)), .val (.ref b11), .val (.ref b15), .val (.int (p6.toInt8.toInt32)), .val (.int (((p6.toUInt32 >>> ((8 : Int32) &&& 31).toUInt32).toInt32).toInt8.toInt32)), .unset, .unset, .unset] [(.ref b22), (.ref b21)])) (fun s' T L X eT hZ hown => own_stB X hx hZ eT V23 (j := (1 : Int32)) ⟨by decide, by decide⟩ (g := (mkF m 166 #[.val (.int p1), .val (.int p2), .val (.int p3), .val (.int p4), .val (.int p5), .val (.int p6), .val (.int (1 : Int32)), .val (.ref b11), .val (.ref b15), .val (.int (p6.toInt8.toInt32)), .val (.int (((p6.toUInt32 >>> ((8 : Int32) &&& 31).toUInt32).toInt32).toInt8.toInt32)), .unset, .unset, .unset] [(.int (((p6.toUInt32 >>> ((8 : Int32) &&& 31).toUInt32).toInt32).toInt8.toInt32)), (.int (1 : Int32)), (.ref b22), (.ref b22), (.ref b21)])) rfl rfl (hb hby at_166)) (Or.inr sz22) (Or.inr SafeA.nil) ?_
    intro h24 W24
    have V24 : Arv Z h24 b22 k22 .byte (2 : Int32) [(.int (p6.toInt8.toInt32)), (.int (((p6.toUInt32 >>> ((8 : Int32) &&& 31).toUInt32).toInt32).toInt8.toInt32))] (.int (0 : Int32)) := own_set V23 (fits_nar_byte _) W24 (congrArg Value.int (own_narB _)) 1 rfl (Nat.le_of_ble_eq_true rfl)
    refine Go.old fun O25 => ?_
    have f26 := (((E21.ext E22).wr W23).wr W24)
    have ne27 : b21 ≠ b22 := Nat.ne_of_lt (Nat.lt_of_lt_of_le E21.lt (Nat.le_of_eq g22.symm))
    have f28 := (((F21.ext E22).other W23 (Or.inl ne27)).other W24 (Or.inl ne27))
    have f29 := ((D22.wr W23).wr W24)
    refine Go.callVW (a := b21) (z := (⟨"com/example/kept_outbox/keptoutbox/api/Message$Builder", "payload", "([B)Lcom/example/kept_outbox/keptoutbox/api/Message;"⟩ : MethodName)) (ws' := []) (W := 0) (y := (⟨"com/example/kept_outbox/keptoutbox/api/Message$Builder", "payload", "([B)Lcom/example/kept_outbox/keptoutbox/api/Message;"⟩ : MethodName)) (argsL := [(.ref b22)]) (rest := []) (pc' := 170) (k' := 11) (n' := 249) (hb hby at_167) (own_w hw 99 rfl) (own_w hw 100 rfl) (fun s' hZ => notFace_of_selects (args := #[]) (mvT hZ (own_w hw 102 rfl))) (own_w hw 102 rfl) (own_w hw 101 rfl) (by decide) (rmP l Z a0 hw [] b21 b15 b22 k22 (p6.toInt8.toInt32) (((p6.toUInt32 >>> ((8 : Int32) &&& 31).toUInt32).toInt32).toInt8.toInt32) h24 n0 O25 f26 f28 f29 V24) (own_w hw 103 rfl) (own_w hw 41 rfl) (by decide) (by decide) f26 (by rw [hml]; rfl) (lenOf pd_8 rfl) rfl (Nat.le_of_ble_eq_true rfl) rfl rfl rfl (by decide) (by decide) all0 ?_
    rintro v30 h30 K30 ⟨b30, c30, rfl, E30, F30, G30, D30, A30⟩
    refine Go.cast (g' := (mkF m 170 #[.val (.int p1), .val (.int p2), .val (.int p3), .val (.int p4), .val (.int p5), .val (.int p6), .val (.int (1 : Int32)), .val (.ref b11), .val (.ref b15), .val (.int (p6.toInt8.toInt32)), .val (.int (((p6.toUInt32 >>> ((8 : Int32) &&& 31).toUInt32).toInt32).toInt8.toInt32)), .unset, .unset, .unset] [(.ref b30)])) rfl ?_
    refine Go.sp (g' := (mkF m 172 #[.val (.int p1), .val (.int p2), .val (.int p3), .val (.int p4), .val (.int p5), .val (.int p6), .val (.int (1 : Int32)), .val (.ref b11), .val (.ref b15), .val (.int (p6.toInt8.toInt32)), .val (.int (((p6.toUInt32 >>> ((8 : Int32) &&& 31).toUInt32).toInt32).toInt8.toInt32)), .val (.ref b30), .unset, .unset] [])) (fun T A t r => XS.astore A hx rfl (hb hby at_170) rfl rfl (l' := #[.val (.int p1), .val (.int p2), .val (.int p3), .val (.int p4), .val (.int p5), .val (.int p6), .val (.int (1 : Int32)), .val (.ref b11), .val (.ref b15), .val (.int (p6.toInt8.toInt32)), .val (.int (((p6.toUInt32 >>> ((8 : Int32) &&& 31).toUInt32).toInt32).toInt8.toInt32)), .val (.ref b30), .unset, .unset]) rfl r) ?_
    refine Go.sp (g' := (mkF m 174 #[.val (.int p1), .val (.int p2), .val (.int p3), .val (.int p4), .val (.int p5), .val (.int p6), .val (.int (1 : Int32)), .val (.ref b11), .val (.ref b15), .val (.int (p6.toInt8.toInt32)), .val (.int (((p6.toUInt32 >>> ((8 : Int32) &&& 31).toUInt32).toInt32).toInt8.toInt32)), .val (.ref b30), .unset, .unset] [(.ref b30)])) (fun T A t r => XS.aload A hx rfl (hb hby at_172) rfl rfl r) ?_
    refine Go.old fun O31 => ?_
    refine Go.callVPW (a := b30) (z := (⟨"com/example/kept_outbox/keptoutbox/api/Message", "destination", "()Ljava/lang/String;"⟩ : MethodName)) (W := 0) (y := (⟨"com/example/kept_outbox/keptoutbox/api/Message", "destination", "()Ljava/lang/String;"⟩ : MethodName)) (argsL := []) (rest := []) (pc' := 177) (k' := 11) (n' := 249) (hb hby at_174) (own_w hw 130 rfl) (own_w hw 131 rfl) (fun s' hZ => notFace_of_selects (args := #[]) (mvT hZ (own_w hw 133 rfl))) (own_w hw 133 rfl) (own_w hw 132 rfl) (by decide) (rmD l Z a0 hw [] b30 b15 h30 n0 O31 F30) (own_w hw 134 rfl) (own_w hw 37 rfl) (by decide) (by decide) E30 (by rw [hml]; rfl) (lenOf pd_11 rfl) rfl (Nat.le_of_ble_eq_true rfl) rfl rfl rfl (by decide) (by decide) ?_
    rintro v32 rfl
    refine Go.cast (g' := (mkF m 177 #[.val (.int p1), .val (.int p2), .val (.int p3), .val (.int p4), .val (.int p5), .val (.int p6), .val (.int (1 : Int32)), .val (.ref b11), .val (.ref b15), .val (.int (p6.toInt8.toInt32)), .val (.int (((p6.toUInt32 >>> ((8 : Int32) &&& 31).toUInt32).toInt32).toInt8.toInt32)), .val (.ref b30), .unset, .unset] [(.ref b15)])) rfl ?_
    refine Go.sp (g' := (mkF m 179 #[.val (.int p1), .val (.int p2), .val (.int p3), .val (.int p4), .val (.int p5), .val (.int p6), .val (.int (1 : Int32)), .val (.ref b11), .val (.ref b15), .val (.int (p6.toInt8.toInt32)), .val (.int (((p6.toUInt32 >>> ((8 : Int32) &&& 31).toUInt32).toInt32).toInt8.toInt32)), .val (.ref b30), .val (.ref b15), .unset] [])) (fun T A t r => XS.astore A hx rfl (hb hby at_177) rfl rfl (l' := #[.val (.int p1), .val (.int p2), .val (.int p3), .val (.int p4), .val (.int p5), .val (.int p6), .val (.int (1 : Int32)), .val (.ref b11), .val (.ref b15), .val (.int (p6.toInt8.toInt32)), .val (.int (((p6.toUInt32 >>> ((8 : Int32) &&& 31).toUInt32).toInt32).toInt8.toInt32)), .val (.ref b30), .val (.ref b15), .unset]) rfl r) ?_
    refine Go.sp (g' := (mkF m 181 #[.val (.int p1), .val (.int p2), .val (.int p3), .val (.int p4), .val (.int p5), .val (.int p6), .val (.int (1 : Int32)), .val (.ref b11), .val (.ref b15), .val (.int (p6.toInt8.toInt32)), .val (.int (((p6.toUInt32 >>> ((8 : Int32) &&& 31).toUInt32).toInt32).toInt8.toInt32)), .val (.ref b30), .val (.ref b15), .unset] [(.ref b30)])) (fun T A t r => XS.aload A hx rfl (hb hby at_179) rfl rfl r) ?_
    refine Go.callVW (a := b30) (z := (⟨"com/example/kept_outbox/keptoutbox/api/Message", "payload", "()[B"⟩ : MethodName)) (ws' := []) (W := 0) (y := (⟨"com/example/kept_outbox/keptoutbox/api/Message", "payload", "()[B"⟩ : MethodName)) (argsL := []) (rest := []) (pc' := 184) (k' := 12) (n' := 251) (hb hby at_181) (own_w hw 135 rfl) (own_w hw 136 rfl) (fun s' hZ => notFace_of_selects (args := #[]) (mvT hZ (own_w hw 138 rfl))) (own_w hw 138 rfl) (own_w hw 137 rfl) (by decide) (rmQ l Z a0 hw [] b30 c30 k22 (p6.toInt8.toInt32) (((p6.toUInt32 >>> ((8 : Int32) &&& 31).toUInt32).toInt32).toInt8.toInt32) h30 n0 O31 G30 D30 A30) (own_w hw 139 rfl) (own_w hw 37 rfl) (by decide) (by decide) E30 (by rw [hml]; rfl) (lenOf pd_12 rfl) rfl (Nat.le_of_ble_eq_true rfl) rfl rfl rfl (by decide) (by decide) all0 ?_
    rintro v33 h33 K33 ⟨b33, rfl, A33⟩
    refine Go.cast (g' := (mkF m 184 #[.val (.int p1), .val (.int p2), .val (.int p3), .val (.int p4), .val (.int p5), .val (.int p6), .val (.int (1 : Int32)), .val (.ref b11), .val (.ref b15), .val (.int (p6.toInt8.toInt32)), .val (.int (((p6.toUInt32 >>> ((8 : Int32) &&& 31).toUInt32).toInt32).toInt8.toInt32)), .val (.ref b30), .val (.ref b15), .unset] [(.ref b33)])) rfl ?_
    refine Go.sp (g' := (mkF m 186 #[.val (.int p1), .val (.int p2), .val (.int p3), .val (.int p4), .val (.int p5), .val (.int p6), .val (.int (1 : Int32)), .val (.ref b11), .val (.ref b15), .val (.int (p6.toInt8.toInt32)), .val (.int (((p6.toUInt32 >>> ((8 : Int32) &&& 31).toUInt32).toInt32).toInt8.toInt32)), .val (.ref b30), .val (.ref b15), .val (.ref b33)] [])) (fun T A t r => XS.astore A hx rfl (hb hby at_184) rfl rfl (l' := #[.val (.int p1), .val (.int p2), .val (.int p3), .val (.int p4), .val (.int p5), .val (.int p6), .val (.int (1 : Int32)), .val (.ref b11), .val (.ref b15), .val (.int (p6.toInt8.toInt32)), .val (.int (((p6.toUInt32 >>> ((8 : Int32) &&& 31).toUInt32).toInt32).toInt8.toInt32)), .val (.ref b30), .val (.ref b15), .val (.ref b33)]) rfl r) ?_
    refine Go.sp (g' := (mkF m 188 #[.val (.int p1), .val (.int p2), .val (.int p3), .val (.int p4), .val (.int p5), .val (.int p6), .val (.int (1 : Int32)), .val (.ref b11), .val (.ref b15), .val (.int (p6.toInt8.toInt32)), .val (.int (((p6.toUInt32 >>> ((8 : Int32) &&& 31).toUInt32).toInt32).toInt8.toInt32)), .val (.ref b30), .val (.ref b15), .val (.ref b33)] [(.ref b15)])) (fun T A t r => XS.aload A hx rfl (hb hby at_186) rfl rfl r) ?_
    refine Go.sp (g' := (mkF m 190 #[.val (.int p1), .val (.int p2), .val (.int p3), .val (.int p4), .val (.int p5), .val (.int p6), .val (.int (1 : Int32)), .val (.ref b11), .val (.ref b15), .val (.int (p6.toInt8.toInt32)), .val (.int (((p6.toUInt32 >>> ((8 : Int32) &&& 31).toUInt32).toInt32).toInt8.toInt32)), .val (.ref b30), .val (.ref b15), .val (.ref b33)] [(.ref b15), (.ref b15)])) (fun T A t r => XS.aload A hx rfl (hb hby at_188) rfl rfl r) ?_
    refine Go.old fun O34 => ?_
    have f36 := ((((((E19.keep K21).ext E22).wr W23).wr W24).keep K30).keep K33)
    refine Go.callVPW (a := b15) (z := (⟨"java/lang/String", "equals", "(Ljava/lang/Object;)Z"⟩ : MethodName)) (W := 0) (y := (⟨"java/lang/String", "equals", "(Ljava/lang/Object;)Z"⟩ : MethodName)) (argsL := [(.ref b15)]) (rest := []) (pc' := 193) (k' := 12) (n' := 251) (hb hby at_190) (own_w hw 142 rfl) (own_w hw 143 rfl) (fun s' hZ => notFace_of_selects (args := #[]) (mvT hZ (own_w hw 145 rfl))) (own_w hw 145 rfl) (own_w hw 144 rfl) (by decide) (rmE l Z a0 hw [] b15 h33 n0 O34) (own_w hw 146 rfl) (own_w hw 8 rfl) (by decide) (by decide) f36 (by rw [hml]; rfl) (lenOf pd_13 rfl) rfl (Nat.le_of_ble_eq_true rfl) rfl rfl rfl (by decide) (by decide) ?_
    rintro v35 rfl
    refine Go.cast (g' := (mkF m 193 #[.val (.int p1), .val (.int p2), .val (.int p3), .val (.int p4), .val (.int p5), .val (.int p6), .val (.int (1 : Int32)), .val (.ref b11), .val (.ref b15), .val (.int (p6.toInt8.toInt32)), .val (.int (((p6.toUInt32 >>> ((8 : Int32) &&& 31).toUInt32).toInt32).toInt8.toInt32)), .val (.ref b30), .val (.ref b15), .val (.ref b33)] [(.int (1 : Int32))])) rfl ?_
    refine Go.sp (g' := (mkF m 196 #[.val (.int p1), .val (.int p2), .val (.int p3), .val (.int p4), .val (.int p5), .val (.int p6), .val (.int (1 : Int32)), .val (.ref b11), .val (.ref b15), .val (.int (p6.toInt8.toInt32)), .val (.int (((p6.toUInt32 >>> ((8 : Int32) &&& 31).toUInt32).toInt32).toInt8.toInt32)), .val (.ref b30), .val (.ref b15), .val (.ref b33)] [])) (fun T A t r => XS.ifNo A hx rfl (hb hby at_193) rfl ((if0 _ _).trans (feq (by decide : ¬ ((1 : Int32) = (0 : Int32)))).1) r) ?_
    refine Go.sp (g' := (mkF m 198 #[.val (.int p1), .val (.int p2), .val (.int p3), .val (.int p4), .val (.int p5), .val (.int p6), .val (.int (1 : Int32)), .val (.ref b11), .val (.ref b15), .val (.int (p6.toInt8.toInt32)), .val (.int (((p6.toUInt32 >>> ((8 : Int32) &&& 31).toUInt32).toInt32).toInt8.toInt32)), .val (.ref b30), .val (.ref b15), .val (.ref b33)] [(.ref b15)])) (fun T A t r => XS.aload A hx rfl (hb hby at_196) rfl rfl r) ?_
    have f37 := (E19.keep K21)
    have ne38 : b15 ≠ b22 := Nat.ne_of_lt (Nat.lt_of_lt_of_le f37.lt (Nat.le_of_eq g22.symm))
    have f39 := ((((((V19.keep K21 nin0).ext E22).other W23 (Or.inl ne38)).other W24 (Or.inl ne38)).keep K30 nin0).keep K33 nin0)
    have f40 := ((((((C19.keep K21 nin0).ext E22).other W23 (Or.inl ne38)).other W24 (Or.inl ne38)).keep K30 nin0).keep K33 nin0)
    have f41 := (B19.keep K21 nin0)
    have ne42 : t19 ≠ b22 := Nat.ne_of_lt (Nat.lt_of_lt_of_le f41.lt (Nat.le_of_eq g22.symm))
    have f43 := ((((((B19.keep K21 nin0).ext E22).other W23 ne42).other W24 ne42).keep K30 nin0).keep K33 nin0)
    refine Go.callVP (a := b15) (z := (⟨"java/lang/String", "length", "()I"⟩ : MethodName)) (W := 0) (y := (⟨"java/lang/String", "length", "()I"⟩ : MethodName)) (argsL := []) (rest := []) (pc' := 201) (hb hby at_198) (own_w hw 147 rfl) (own_w hw 59 rfl) (fun s' hZ => notFace_of_selects (args := #[]) (mvT hZ (own_w hw 61 rfl))) (own_w hw 61 rfl) (own_w hw 60 rfl) (by decide) (fun s' hZ => Bk.pure (StrChars.Road.lenW (kI := 4) (cs := [z13]) hZ (own_lenw hw) (own_w hw 7 rfl) f36 f39 f40 f43 (own_cod rfl lat18) (own_up lat18) (S0.ext O34.2) P0 (by show 1 ≤ 4000; decide) (by decide) (by decide))) f36 (by rw [hml]; rfl) (lenOf pd_2 rfl) rfl (Nat.le_of_ble_eq_true rfl) rfl (by decide) (by decide) ?_
    rintro v44 rfl
    refine Go.cast (g' := (mkF m 201 #[.val (.int p1), .val (.int p2), .val (.int p3), .val (.int p4), .val (.int p5), .val (.int p6), .val (.int (1 : Int32)), .val (.ref b11), .val (.ref b15), .val (.int (p6.toInt8.toInt32)), .val (.int (((p6.toUInt32 >>> ((8 : Int32) &&& 31).toUInt32).toInt32).toInt8.toInt32)), .val (.ref b30), .val (.ref b15), .val (.ref b33)] [(.int (1 : Int32))])) rfl ?_
    refine Go.sp (g' := (mkF m 203 #[.val (.int p1), .val (.int p2), .val (.int p3), .val (.int p4), .val (.int p5), .val (.int p6), .val (.int (1 : Int32)), .val (.ref b11), .val (.ref b15), .val (.int (p6.toInt8.toInt32)), .val (.int (((p6.toUInt32 >>> ((8 : Int32) &&& 31).toUInt32).toInt32).toInt8.toInt32)), .val (.ref b30), .val (.ref b15), .val (.ref b33)] [(.int (1 : Int32)), (.int (1 : Int32))])) (fun T A t r => XS.iload A hx rfl (hb hby at_201) rfl r) ?_
    refine Go.sp (g' := (mkF m 206 #[.val (.int p1), .val (.int p2), .val (.int p3), .val (.int p4), .val (.int p5), .val (.int p6), .val (.int (1 : Int32)), .val (.ref b11), .val (.ref b15), .val (.int (p6.toInt8.toInt32)), .val (.int (((p6.toUInt32 >>> ((8 : Int32) &&& 31).toUInt32).toInt32).toInt8.toInt32)), .val (.ref b30), .val (.ref b15), .val (.ref b33)] [])) (fun T A t r => XS.icmpNo A hx rfl (hb hby at_203) rfl (teq (by decide : ((1 : Int32) = (1 : Int32)))).2 r) ?_
    refine Go.sp (g' := (mkF m 208 #[.val (.int p1), .val (.int p2), .val (.int p3), .val (.int p4), .val (.int p5), .val (.int p6), .val (.int (1 : Int32)), .val (.ref b11), .val (.ref b15), .val (.int (p6.toInt8.toInt32)), .val (.int (((p6.toUInt32 >>> ((8 : Int32) &&& 31).toUInt32).toInt32).toInt8.toInt32)), .val (.ref b30), .val (.ref b15), .val (.ref b33)] [(.ref b15)])) (fun T A t r => XS.aload A hx rfl (hb hby at_206) rfl rfl r) ?_
    refine Go.sp (g' := (mkF m 209 #[.val (.int p1), .val (.int p2), .val (.int p3), .val (.int p4), .val (.int p5), .val (.int p6), .val (.int (1 : Int32)), .val (.ref b11), .val (.ref b15), .val (.int (p6.toInt8.toInt32)), .val (.int (((p6.toUInt32 >>> ((8 : Int32) &&& 31).toUInt32).toInt32).toInt8.toInt32)), .val (.ref b30), .val (.ref b15), .val (.ref b33)] [(.int (0 : Int32)), (.ref b15)])) (fun T A t r => XS.iconst A hx rfl (hb hby at_208) r) ?_
    refine Go.callVP (a := b15) (z := (⟨"java/lang/String", "charAt", "(I)C"⟩ : MethodName)) (W := 0) (y := (⟨"java/lang/String", "charAt", "(I)C"⟩ : MethodName)) (argsL := [(.int (0 : Int32))]) (rest := []) (pc' := 212) (hb hby at_209) (own_w hw 148 rfl) (own_w hw 69 rfl) (fun s' hZ => notFace_of_selects (args := #[]) (mvT hZ (own_w hw 71 rfl))) (own_w hw 71 rfl) (own_w hw 70 rfl) (by decide) (fun s' hZ => Bk.pure (StrChars.Road.chN (kI := 4) (cs := [z13]) (i := 0) hZ (own_chwd hw) (own_w hw 7 rfl) f36 f39 f40 f43 (own_cod rfl lat18) (own_up lat18) (S0.ext O34.2) P0 (SF.ext O34.2) RF (by show 1 ≤ 4000; decide) (by show 0 < 1; decide) rfl (by decide) (by decide))) f36 (by rw [hml]; rfl) (lenOf pd_3 rfl) rfl (Nat.le_of_ble_eq_true rfl) rfl (by decide) (by decide) ?_
    rintro v45 rfl
    refine Go.cast (g' := (mkF m 212 #[.val (.int p1), .val (.int p2), .val (.int p3), .val (.int p4), .val (.int p5), .val (.int p6), .val (.int (1 : Int32)), .val (.ref b11), .val (.ref b15), .val (.int (p6.toInt8.toInt32)), .val (.int (((p6.toUInt32 >>> ((8 : Int32) &&& 31).toUInt32).toInt32).toInt8.toInt32)), .val (.ref b30), .val (.ref b15), .val (.ref b33)] [(.int z13)])) rfl ?_
    refine Go.sp (g' := (mkF m 214 #[.val (.int p1), .val (.int p2), .val (.int p3), .val (.int p4), .val (.int p5), .val (.int p6), .val (.int (1 : Int32)), .val (.ref b11), .val (.ref b15), .val (.int (p6.toInt8.toInt32)), .val (.int (((p6.toUInt32 >>> ((8 : Int32) &&& 31).toUInt32).toInt32).toInt8.toInt32)), .val (.ref b30), .val (.ref b15), .val (.ref b33)] [(.ref b11), (.int z13)])) (fun T A t r => XS.aload A hx rfl (hb hby at_212) rfl rfl r) ?_
    refine Go.sp (g' := (mkF m 215 #[.val (.int p1), .val (.int p2), .val (.int p3), .val (.int p4), .val (.int p5), .val (.int p6), .val (.int (1 : Int32)), .val (.ref b11), .val (.ref b15), .val (.int (p6.toInt8.toInt32)), .val (.int (((p6.toUInt32 >>> ((8 : Int32) &&& 31).toUInt32).toInt32).toInt8.toInt32)), .val (.ref b30), .val (.ref b15), .val (.ref b33)] [(.int (0 : Int32)), (.ref b11), (.int z13)])) (fun T A t r => XS.iconst A hx rfl (hb hby at_214) r) ?_
    have ne46 : b11 ≠ b15 := Nat.ne_of_lt (Nat.lt_of_lt_of_le V14.lt (Nat.le_of_eq g15.symm))
    have f47 := ((f16.keep K19 (ninS ne46 nin0)).keep K21 nin0)
    have ne48 : b11 ≠ b22 := Nat.ne_of_lt (Nat.lt_of_lt_of_le f47.lt (Nat.le_of_eq g22.symm))
    have f49 := (((((((f16.keep K19 (ninS ne46 nin0)).keep K21 nin0).ext E22).other W23 ne48).other W24 ne48).keep K30 nin0).keep K33 nin0)
    refine Go.r (g' := (mkF m 216 #[.val (.int p1), .val (.int p2), .val (.int p3), .val (.int p4), .val (.int p5), .val (.int p6), .val (.int (1 : Int32)), .val (.ref b11), .val (.ref b15), .val (.int (p6.toInt8.toInt32)), .val (.int (((p6.toUInt32 >>> ((8 : Int32) &&& 31).toUInt32).toInt32).toInt8.toInt32)), .val (.ref b30), .val (.ref b15), .val (.ref b33)] [(.int z13), (.int z13)])) (fun s' T L X eT hZ t r => own_ldC X hx hZ eT f49 (j := (0 : Int32)) ⟨by decide, by decide⟩ (v := (.int z13)) rfl (g := (mkF m 215 #[.val (.int p1), .val (.int p2), .val (.int p3), .val (.int p4), .val (.int p5), .val (.int p6), .val (.int (1 : Int32)), .val (.ref b11), .val (.ref b15), .val (.int (p6.toInt8.toInt32)), .val (.int (((p6.toUInt32 >>> ((8 : Int32) &&& 31).toUInt32).toInt32).toInt8.toInt32)), .val (.ref b30), .val (.ref b15), .val (.ref b33)] [(.int (0 : Int32)), (.ref b11), (.int z13)])) rfl rfl (hb hby at_215) t r) ?_
    refine Go.sp (g' := (mkF m 219 #[.val (.int p1), .val (.int p2), .val (.int p3), .val (.int p4), .val (.int p5), .val (.int p6), .val (.int (1 : Int32)), .val (.ref b11), .val (.ref b15), .val (.int (p6.toInt8.toInt32)), .val (.int (((p6.toUInt32 >>> ((8 : Int32) &&& 31).toUInt32).toInt32).toInt8.toInt32)), .val (.ref b30), .val (.ref b15), .val (.ref b33)] [])) (fun T A t r => XS.icmpNo A hx rfl (hb hby at_216) rfl (teq (rfl : z13 = z13)).2 r) ?_
    refine Go.sp (g' := (mkF m 221 #[.val (.int p1), .val (.int p2), .val (.int p3), .val (.int p4), .val (.int p5), .val (.int p6), .val (.int (1 : Int32)), .val (.ref b11), .val (.ref b15), .val (.int (p6.toInt8.toInt32)), .val (.int (((p6.toUInt32 >>> ((8 : Int32) &&& 31).toUInt32).toInt32).toInt8.toInt32)), .val (.ref b30), .val (.ref b15), .val (.ref b33)] [(.ref b15)])) (fun T A t r => XS.aload A hx rfl (hb hby at_219) rfl rfl r) ?_
    refine Go.sp (g' := (mkF m 223 #[.val (.int p1), .val (.int p2), .val (.int p3), .val (.int p4), .val (.int p5), .val (.int p6), .val (.int (1 : Int32)), .val (.ref b11), .val (.ref b15), .val (.int (p6.toInt8.toInt32)), .val (.int (((p6.toUInt32 >>> ((8 : Int32) &&& 31).toUInt32).toInt32).toInt8.toInt32)), .val (.ref b30), .val (.ref b15), .val (.ref b33)] [(.int (1 : Int32)), (.ref b15)])) (fun T A t r => XS.iload A hx rfl (hb hby at_221) rfl r) ?_
    refine Go.sp (g' := (mkF m 224 #[.val (.int p1), .val (.int p2), .val (.int p3), .val (.int p4), .val (.int p5), .val (.int p6), .val (.int (1 : Int32)), .val (.ref b11), .val (.ref b15), .val (.int (p6.toInt8.toInt32)), .val (.int (((p6.toUInt32 >>> ((8 : Int32) &&& 31).toUInt32).toInt32).toInt8.toInt32)), .val (.ref b30), .val (.ref b15), .val (.ref b33)] [(.int (1 : Int32)), (.int (1 : Int32)), (.ref b15)])) (fun T A t r => XS.iconst A hx rfl (hb hby at_223) r) ?_
    refine Go.sp (g' := (mkF m 225 #[.val (.int p1), .val (.int p2), .val (.int p3), .val (.int p4), .val (.int p5), .val (.int p6), .val (.int (1 : Int32)), .val (.ref b11), .val (.ref b15), .val (.int (p6.toInt8.toInt32)), .val (.int (((p6.toUInt32 >>> ((8 : Int32) &&& 31).toUInt32).toInt32).toInt8.toInt32)), .val (.ref b30), .val (.ref b15), .val (.ref b33)] [(.int (0 : Int32)), (.ref b15)])) (fun T A t r => XS.isub A hx rfl (hb hby at_224) rfl r) ?_
    refine Go.callVP (a := b15) (z := (⟨"java/lang/String", "charAt", "(I)C"⟩ : MethodName)) (W := 0) (y := (⟨"java/lang/String", "charAt", "(I)C"⟩ : MethodName)) (argsL := [(.int (0 : Int32))]) (rest := []) (pc' := 228) (hb hby at_225) (own_w hw 148 rfl) (own_w hw 69 rfl) (fun s' hZ => notFace_of_selects (args := #[]) (mvT hZ (own_w hw 71 rfl))) (own_w hw 71 rfl) (own_w hw 70 rfl) (by decide) (fun s' hZ => Bk.pure (StrChars.Road.chN (kI := 4) (cs := [z13]) (i := 0) hZ (own_chwd hw) (own_w hw 7 rfl) f36 f39 f40 f43 (own_cod rfl lat18) (own_up lat18) (S0.ext O34.2) P0 (SF.ext O34.2) RF (by show 1 ≤ 4000; decide) (by show 0 < 1; decide) rfl (by decide) (by decide))) f36 (by rw [hml]; rfl) (lenOf pd_3 rfl) rfl (Nat.le_of_ble_eq_true rfl) rfl (by decide) (by decide) ?_
    rintro v50 rfl
    refine Go.cast (g' := (mkF m 228 #[.val (.int p1), .val (.int p2), .val (.int p3), .val (.int p4), .val (.int p5), .val (.int p6), .val (.int (1 : Int32)), .val (.ref b11), .val (.ref b15), .val (.int (p6.toInt8.toInt32)), .val (.int (((p6.toUInt32 >>> ((8 : Int32) &&& 31).toUInt32).toInt32).toInt8.toInt32)), .val (.ref b30), .val (.ref b15), .val (.ref b33)] [(.int z13)])) rfl ?_
    refine Go.sp (g' := (mkF m 230 #[.val (.int p1), .val (.int p2), .val (.int p3), .val (.int p4), .val (.int p5), .val (.int p6), .val (.int (1 : Int32)), .val (.ref b11), .val (.ref b15), .val (.int (p6.toInt8.toInt32)), .val (.int (((p6.toUInt32 >>> ((8 : Int32) &&& 31).toUInt32).toInt32).toInt8.toInt32)), .val (.ref b30), .val (.ref b15), .val (.ref b33)] [(.ref b11), (.int z13)])) (fun T A t r => XS.aload A hx rfl (hb hby at_228) rfl rfl r) ?_
    refine Go.sp (g' := (mkF m 232 #[.val (.int p1), .val (.int p2), .val (.int p3), .val (.int p4), .val (.int p5), .val (.int p6), .val (.int (1 : Int32)), .val (.ref b11), .val (.ref b15), .val (.int (p6.toInt8.toInt32)), .val (.int (((p6.toUInt32 >>> ((8 : Int32) &&& 31).toUInt32).toInt32).toInt8.toInt32)), .val (.ref b30), .val (.ref b15), .val (.ref b33)] [(.int (1 : Int32)), (.ref b11), (.int z13)])) (fun T A t r => XS.iload A hx rfl (hb hby at_230) rfl r) ?_
    refine Go.sp (g' := (mkF m 233 #[.val (.int p1), .val (.int p2), .val (.int p3), .val (.int p4), .val (.int p5), .val (.int p6), .val (.int (1 : Int32)), .val (.ref b11), .val (.ref b15), .val (.int (p6.toInt8.toInt32)), .val (.int (((p6.toUInt32 >>> ((8 : Int32) &&& 31).toUInt32).toInt32).toInt8.toInt32)), .val (.ref b30), .val (.ref b15), .val (.ref b33)] [(.int (1 : Int32)), (.int (1 : Int32)), (.ref b11), (.int z13)])) (fun T A t r => XS.iconst A hx rfl (hb hby at_232) r) ?_
    refine Go.sp (g' := (mkF m 234 #[.val (.int p1), .val (.int p2), .val (.int p3), .val (.int p4), .val (.int p5), .val (.int p6), .val (.int (1 : Int32)), .val (.ref b11), .val (.ref b15), .val (.int (p6.toInt8.toInt32)), .val (.int (((p6.toUInt32 >>> ((8 : Int32) &&& 31).toUInt32).toInt32).toInt8.toInt32)), .val (.ref b30), .val (.ref b15), .val (.ref b33)] [(.int (0 : Int32)), (.ref b11), (.int z13)])) (fun T A t r => XS.isub A hx rfl (hb hby at_233) rfl r) ?_
    refine Go.r (g' := (mkF m 235 #[.val (.int p1), .val (.int p2), .val (.int p3), .val (.int p4), .val (.int p5), .val (.int p6), .val (.int (1 : Int32)), .val (.ref b11), .val (.ref b15), .val (.int (p6.toInt8.toInt32)), .val (.int (((p6.toUInt32 >>> ((8 : Int32) &&& 31).toUInt32).toInt32).toInt8.toInt32)), .val (.ref b30), .val (.ref b15), .val (.ref b33)] [(.int z13), (.int z13)])) (fun s' T L X eT hZ t r => own_ldC X hx hZ eT f49 (j := (0 : Int32)) ⟨by decide, by decide⟩ (v := (.int z13)) rfl (g := (mkF m 234 #[.val (.int p1), .val (.int p2), .val (.int p3), .val (.int p4), .val (.int p5), .val (.int p6), .val (.int (1 : Int32)), .val (.ref b11), .val (.ref b15), .val (.int (p6.toInt8.toInt32)), .val (.int (((p6.toUInt32 >>> ((8 : Int32) &&& 31).toUInt32).toInt32).toInt8.toInt32)), .val (.ref b30), .val (.ref b15), .val (.ref b33)] [(.int (0 : Int32)), (.ref b11), (.int z13)])) rfl rfl (hb hby at_234) t r) ?_
    refine Go.sp (g' := (mkF m 238 #[.val (.int p1), .val (.int p2), .val (.int p3), .val (.int p4), .val (.int p5), .val (.int p6), .val (.int (1 : Int32)), .val (.ref b11), .val (.ref b15), .val (.int (p6.toInt8.toInt32)), .val (.int (((p6.toUInt32 >>> ((8 : Int32) &&& 31).toUInt32).toInt32).toInt8.toInt32)), .val (.ref b30), .val (.ref b15), .val (.ref b33)] [])) (fun T A t r => XS.icmpNo A hx rfl (hb hby at_235) rfl (teq (rfl : z13 = z13)).2 r) ?_
    refine Go.sp (g' := (mkF m 240 #[.val (.int p1), .val (.int p2), .val (.int p3), .val (.int p4), .val (.int p5), .val (.int p6), .val (.int (1 : Int32)), .val (.ref b11), .val (.ref b15), .val (.int (p6.toInt8.toInt32)), .val (.int (((p6.toUInt32 >>> ((8 : Int32) &&& 31).toUInt32).toInt32).toInt8.toInt32)), .val (.ref b30), .val (.ref b15), .val (.ref b33)] [(.ref b33)])) (fun T A t r => XS.aload A hx rfl (hb hby at_238) rfl rfl r) ?_
    refine Go.r (g' := (mkF m 241 #[.val (.int p1), .val (.int p2), .val (.int p3), .val (.int p4), .val (.int p5), .val (.int p6), .val (.int (1 : Int32)), .val (.ref b11), .val (.ref b15), .val (.int (p6.toInt8.toInt32)), .val (.int (((p6.toUInt32 >>> ((8 : Int32) &&& 31).toUInt32).toInt32).toInt8.toInt32)), .val (.ref b30), .val (.ref b15), .val (.ref b33)] [(.int (2 : Int32))])) (fun s' T L X eT hZ t r => own_len X hx hZ eT A33 (g := (mkF m 240 #[.val (.int p1), .val (.int p2), .val (.int p3), .val (.int p4), .val (.int p5), .val (.int p6), .val (.int (1 : Int32)), .val (.ref b11), .val (.ref b15), .val (.int (p6.toInt8.toInt32)), .val (.int (((p6.toUInt32 >>> ((8 : Int32) &&& 31).toUInt32).toInt32).toInt8.toInt32)), .val (.ref b30), .val (.ref b15), .val (.ref b33)] [(.ref b33)])) rfl rfl (hb hby at_240) t r) ?_
    refine Go.sp (g' := (mkF m 242 #[.val (.int p1), .val (.int p2), .val (.int p3), .val (.int p4), .val (.int p5), .val (.int p6), .val (.int (1 : Int32)), .val (.ref b11), .val (.ref b15), .val (.int (p6.toInt8.toInt32)), .val (.int (((p6.toUInt32 >>> ((8 : Int32) &&& 31).toUInt32).toInt32).toInt8.toInt32)), .val (.ref b30), .val (.ref b15), .val (.ref b33)] [(.int (2 : Int32)), (.int (2 : Int32))])) (fun T A t r => XS.iconst A hx rfl (hb hby at_241) r) ?_
    refine Go.sp (g' := (mkF m 245 #[.val (.int p1), .val (.int p2), .val (.int p3), .val (.int p4), .val (.int p5), .val (.int p6), .val (.int (1 : Int32)), .val (.ref b11), .val (.ref b15), .val (.int (p6.toInt8.toInt32)), .val (.int (((p6.toUInt32 >>> ((8 : Int32) &&& 31).toUInt32).toInt32).toInt8.toInt32)), .val (.ref b30), .val (.ref b15), .val (.ref b33)] [])) (fun T A t r => XS.icmpNo A hx rfl (hb hby at_242) rfl (teq (by decide : ((2 : Int32) = (2 : Int32)))).2 r) ?_
    refine Go.sp (g' := (mkF m 247 #[.val (.int p1), .val (.int p2), .val (.int p3), .val (.int p4), .val (.int p5), .val (.int p6), .val (.int (1 : Int32)), .val (.ref b11), .val (.ref b15), .val (.int (p6.toInt8.toInt32)), .val (.int (((p6.toUInt32 >>> ((8 : Int32) &&& 31).toUInt32).toInt32).toInt8.toInt32)), .val (.ref b30), .val (.ref b15), .val (.ref b33)] [(.ref b33)])) (fun T A t r => XS.aload A hx rfl (hb hby at_245) rfl rfl r) ?_
    refine Go.sp (g' := (mkF m 248 #[.val (.int p1), .val (.int p2), .val (.int p3), .val (.int p4), .val (.int p5), .val (.int p6), .val (.int (1 : Int32)), .val (.ref b11), .val (.ref b15), .val (.int (p6.toInt8.toInt32)), .val (.int (((p6.toUInt32 >>> ((8 : Int32) &&& 31).toUInt32).toInt32).toInt8.toInt32)), .val (.ref b30), .val (.ref b15), .val (.ref b33)] [(.int (0 : Int32)), (.ref b33)])) (fun T A t r => XS.iconst A hx rfl (hb hby at_247) r) ?_
    refine Go.r (g' := (mkF m 249 #[.val (.int p1), .val (.int p2), .val (.int p3), .val (.int p4), .val (.int p5), .val (.int p6), .val (.int (1 : Int32)), .val (.ref b11), .val (.ref b15), .val (.int (p6.toInt8.toInt32)), .val (.int (((p6.toUInt32 >>> ((8 : Int32) &&& 31).toUInt32).toInt32).toInt8.toInt32)), .val (.ref b30), .val (.ref b15), .val (.ref b33)] [(.int (p6.toInt8.toInt32))])) (fun s' T L X eT hZ t r => own_ldB X hx hZ eT A33 (j := (0 : Int32)) ⟨by decide, by decide⟩ (v := (.int (p6.toInt8.toInt32))) rfl (g := (mkF m 248 #[.val (.int p1), .val (.int p2), .val (.int p3), .val (.int p4), .val (.int p5), .val (.int p6), .val (.int (1 : Int32)), .val (.ref b11), .val (.ref b15), .val (.int (p6.toInt8.toInt32)), .val (.int (((p6.toUInt32 >>> ((8 : Int32) &&& 31).toUInt32).toInt32).toInt8.toInt32)), .val (.ref b30), .val (.ref b15), .val (.ref b33)] [(.int (0 : Int32)), (.ref b33)])) rfl rfl (hb hby at_248) t r) ?_
    refine Go.sp (g' := (mkF m 251 #[.val (.int p1), .val (.int p2), .val (.int p3), .val (.int p4), .val (.int p5), .val (.int p6), .val (.int (1 : Int32)), .val (.ref b11), .val (.ref b15), .val (.int (p6.toInt8.toInt32)), .val (.int (((p6.toUInt32 >>> ((8 : Int32) &&& 31).toUInt32).toInt32).toInt8.toInt32)), .val (.ref b30), .val (.ref b15), .val (.ref b33)] [(.int (p6.toInt8.toInt32)), (.int (p6.toInt8.toInt32))])) (fun T A t r => XS.iload A hx rfl (hb hby at_249) rfl r) ?_
    refine Go.sp (g' := (mkF m 254 #[.val (.int p1), .val (.int p2), .val (.int p3), .val (.int p4), .val (.int p5), .val (.int p6), .val (.int (1 : Int32)), .val (.ref b11), .val (.ref b15), .val (.int (p6.toInt8.toInt32)), .val (.int (((p6.toUInt32 >>> ((8 : Int32) &&& 31).toUInt32).toInt32).toInt8.toInt32)), .val (.ref b30), .val (.ref b15), .val (.ref b33)] [])) (fun T A t r => XS.icmpNo A hx rfl (hb hby at_251) rfl (teq (rfl : (p6.toInt8.toInt32) = (p6.toInt8.toInt32))).2 r) ?_
    refine Go.sp (g' := (mkF m 256 #[.val (.int p1), .val (.int p2), .val (.int p3), .val (.int p4), .val (.int p5), .val (.int p6), .val (.int (1 : Int32)), .val (.ref b11), .val (.ref b15), .val (.int (p6.toInt8.toInt32)), .val (.int (((p6.toUInt32 >>> ((8 : Int32) &&& 31).toUInt32).toInt32).toInt8.toInt32)), .val (.ref b30), .val (.ref b15), .val (.ref b33)] [(.ref b33)])) (fun T A t r => XS.aload A hx rfl (hb hby at_254) rfl rfl r) ?_
    refine Go.sp (g' := (mkF m 257 #[.val (.int p1), .val (.int p2), .val (.int p3), .val (.int p4), .val (.int p5), .val (.int p6), .val (.int (1 : Int32)), .val (.ref b11), .val (.ref b15), .val (.int (p6.toInt8.toInt32)), .val (.int (((p6.toUInt32 >>> ((8 : Int32) &&& 31).toUInt32).toInt32).toInt8.toInt32)), .val (.ref b30), .val (.ref b15), .val (.ref b33)] [(.int (1 : Int32)), (.ref b33)])) (fun T A t r => XS.iconst A hx rfl (hb hby at_256) r) ?_
    refine Go.r (g' := (mkF m 258 #[.val (.int p1), .val (.int p2), .val (.int p3), .val (.int p4), .val (.int p5), .val (.int p6), .val (.int (1 : Int32)), .val (.ref b11), .val (.ref b15), .val (.int (p6.toInt8.toInt32)), .val (.int (((p6.toUInt32 >>> ((8 : Int32) &&& 31).toUInt32).toInt32).toInt8.toInt32)), .val (.ref b30), .val (.ref b15), .val (.ref b33)] [(.int (((p6.toUInt32 >>> ((8 : Int32) &&& 31).toUInt32).toInt32).toInt8.toInt32))])) (fun s' T L X eT hZ t r => own_ldB X hx hZ eT A33 (j := (1 : Int32)) ⟨by decide, by decide⟩ (v := (.int (((p6.toUInt32 >>> ((8 : Int32) &&& 31).toUInt32).toInt32).toInt8.toInt32))) rfl (g := (mkF m 257 #[.val (.int p1), .val (.int p2), .val (.int p3), .val (.int p4), .val (.int p5), .val (.int p6), .val (.int (1 : Int32)), .val (.ref b11), .val (.ref b15), .val (.int (p6.toInt8.toInt32)), .val (.int (((p6.toUInt32 >>> ((8 : Int32) &&& 31).toUInt32).toInt32).toInt8.toInt32)), .val (.ref b30), .val (.ref b15), .val (.ref b33)] [(.int (1 : Int32)), (.ref b33)])) rfl rfl (hb hby at_257) t r) ?_
    refine Go.sp (g' := (mkF m 260 #[.val (.int p1), .val (.int p2), .val (.int p3), .val (.int p4), .val (.int p5), .val (.int p6), .val (.int (1 : Int32)), .val (.ref b11), .val (.ref b15), .val (.int (p6.toInt8.toInt32)), .val (.int (((p6.toUInt32 >>> ((8 : Int32) &&& 31).toUInt32).toInt32).toInt8.toInt32)), .val (.ref b30), .val (.ref b15), .val (.ref b33)] [(.int (((p6.toUInt32 >>> ((8 : Int32) &&& 31).toUInt32).toInt32).toInt8.toInt32)), (.int (((p6.toUInt32 >>> ((8 : Int32) &&& 31).toUInt32).toInt32).toInt8.toInt32))])) (fun T A t r => XS.iload A hx rfl (hb hby at_258) rfl r) ?_
    refine Go.sp (g' := (mkF m 263 #[.val (.int p1), .val (.int p2), .val (.int p3), .val (.int p4), .val (.int p5), .val (.int p6), .val (.int (1 : Int32)), .val (.ref b11), .val (.ref b15), .val (.int (p6.toInt8.toInt32)), .val (.int (((p6.toUInt32 >>> ((8 : Int32) &&& 31).toUInt32).toInt32).toInt8.toInt32)), .val (.ref b30), .val (.ref b15), .val (.ref b33)] [])) (fun T A t r => XS.icmpNo A hx rfl (hb hby at_260) rfl (teq (rfl : (((p6.toUInt32 >>> ((8 : Int32) &&& 31).toUInt32).toInt32).toInt8.toInt32) = (((p6.toUInt32 >>> ((8 : Int32) &&& 31).toUInt32).toInt32).toInt8.toInt32))).2 r) ?_
    refine Go.sp (g' := (mkF m 264 #[.val (.int p1), .val (.int p2), .val (.int p3), .val (.int p4), .val (.int p5), .val (.int p6), .val (.int (1 : Int32)), .val (.ref b11), .val (.ref b15), .val (.int (p6.toInt8.toInt32)), .val (.int (((p6.toUInt32 >>> ((8 : Int32) &&& 31).toUInt32).toInt32).toInt8.toInt32)), .val (.ref b30), .val (.ref b15), .val (.ref b33)] [(.int (1 : Int32))])) (fun T A t r => XS.iconst A hx rfl (hb hby at_263) r) ?_
    refine Go.sp (g' := (mkF m 268 #[.val (.int p1), .val (.int p2), .val (.int p3), .val (.int p4), .val (.int p5), .val (.int p6), .val (.int (1 : Int32)), .val (.ref b11), .val (.ref b15), .val (.int (p6.toInt8.toInt32)), .val (.int (((p6.toUInt32 >>> ((8 : Int32) &&& 31).toUInt32).toInt32).toInt8.toInt32)), .val (.ref b30), .val (.ref b15), .val (.ref b33)] [(.int (1 : Int32))])) (fun T A t r => XS.goto A hx rfl (pc0 := 264) (pc' := 268) rfl (hb hby at_264) (by decide) (by decide) r) ?_
    exact Go.ret (v := (some (.int (nar .boolean (1 : Int32))))) (fun s' T L fs X hr => retN X hx (t := .boolean) hret (by simp) (hb hby at_268) hr) (fun h => by rw [hret] at h; cases h) (by decide) (by decide) rfl
  · skip
    refine Go.cast (g' := (mkF m 4 #[.val (.int p1), .val (.int p2), .val (.int p3), .val (.int p4), .val (.int p5), .val (.int p6), .unset, .unset, .unset, .unset, .unset, .unset, .unset, .unset] [(.int (1 : Int32))])) (by rw [hn]) ?_
    refine Go.sp (g' := (mkF m 5 #[.val (.int p1), .val (.int p2), .val (.int p3), .val (.int p4), .val (.int p5), .val (.int p6), .unset, .unset, .unset, .unset, .unset, .unset, .unset, .unset] [(.int (1 : Int32)), (.int (1 : Int32))])) (fun T A t r => XS.iconst A hx rfl (hb hby at_4) r) ?_
    refine Go.sp (g' := (mkF m 6 #[.val (.int p1), .val (.int p2), .val (.int p3), .val (.int p4), .val (.int p5), .val (.int p6), .unset, .unset, .unset, .unset, .unset, .unset, .unset, .unset] [(.int (2 : Int32))])) (fun T A t r => XS.iadd A hx rfl (hb hby at_5) rfl r) ?_
    refine Go.sp (g' := (mkF m 8 #[.val (.int p1), .val (.int p2), .val (.int p3), .val (.int p4), .val (.int p5), .val (.int p6), .val (.int (2 : Int32)), .unset, .unset, .unset, .unset, .unset, .unset, .unset] [])) (fun T A t r => XS.istore A hx rfl (hb hby at_6) rfl (l' := #[.val (.int p1), .val (.int p2), .val (.int p3), .val (.int p4), .val (.int p5), .val (.int p6), .val (.int (2 : Int32)), .unset, .unset, .unset, .unset, .unset, .unset, .unset]) rfl r) ?_
    refine Go.sp (g' := (mkF m 10 #[.val (.int p1), .val (.int p2), .val (.int p3), .val (.int p4), .val (.int p5), .val (.int p6), .val (.int (2 : Int32)), .unset, .unset, .unset, .unset, .unset, .unset, .unset] [(.int (2 : Int32))])) (fun T A t r => XS.iload A hx rfl (hb hby at_8) rfl r) ?_
    refine Go.sp (g' := (mkF m 11 #[.val (.int p1), .val (.int p2), .val (.int p3), .val (.int p4), .val (.int p5), .val (.int p6), .val (.int (2 : Int32)), .unset, .unset, .unset, .unset, .unset, .unset, .unset] [(.int (1 : Int32)), (.int (2 : Int32))])) (fun T A t r => XS.iconst A hx rfl (hb hby at_10) r) ?_
    refine Go.sp (g' := (mkF m 29 #[.val (.int p1), .val (.int p2), .val (.int p3), .val (.int p4), .val (.int p5), .val (.int p6), .val (.int (2 : Int32)), .unset, .unset, .unset, .unset, .unset, .unset, .unset] [])) (fun T A t r => XS.icmpYes A hx rfl (pc0 := 11) (pc' := 29) rfl (hb hby at_11) rfl (feq (by decide : ¬ ((2 : Int32) = (1 : Int32)))).2 (by decide) (by decide) r) ?_
    refine Go.sp (g' := (mkF m 31 #[.val (.int p1), .val (.int p2), .val (.int p3), .val (.int p4), .val (.int p5), .val (.int p6), .val (.int (2 : Int32)), .unset, .unset, .unset, .unset, .unset, .unset, .unset] [(.int (2 : Int32))])) (fun T A t r => XS.iload A hx rfl (hb hby at_29) rfl r) ?_
    refine Go.sp (g' := (mkF m 32 #[.val (.int p1), .val (.int p2), .val (.int p3), .val (.int p4), .val (.int p5), .val (.int p6), .val (.int (2 : Int32)), .unset, .unset, .unset, .unset, .unset, .unset, .unset] [(.int (2 : Int32)), (.int (2 : Int32))])) (fun T A t r => XS.iconst A hx rfl (hb hby at_31) r) ?_
    refine Go.sp (g' := (mkF m 35 #[.val (.int p1), .val (.int p2), .val (.int p3), .val (.int p4), .val (.int p5), .val (.int p6), .val (.int (2 : Int32)), .unset, .unset, .unset, .unset, .unset, .unset, .unset] [])) (fun T A t r => XS.icmpNo A hx rfl (hb hby at_32) rfl (teq (by decide : ((2 : Int32) = (2 : Int32)))).2 r) ?_
    refine Go.sp (g' := (mkF m 36 #[.val (.int p1), .val (.int p2), .val (.int p3), .val (.int p4), .val (.int p5), .val (.int p6), .val (.int (2 : Int32)), .unset, .unset, .unset, .unset, .unset, .unset, .unset] [(.int (2 : Int32))])) (fun T A t r => XS.iconst A hx rfl (hb hby at_35) r) ?_
    refine Go.newP (ty := .char) (dv := (.int (0 : Int32))) (cap := 2) (k' := 1) (n' := 2) (pc' := 38) (hb hby at_36) rfl rfl (own_w hw 0 rfl) (by decide) (by decide) (by decide) rfl rfl rfl (by decide) (by decide) ?_
    intro b51 h51 k51 g51 sz51 E51 A51
    have V51 : Arv Z h51 b51 k51 .char (2 : Int32) [(.int (0 : Int32)), (.int (0 : Int32))] (.int (0 : Int32)) := A51.pad (pad_rep [] (.int (0 : Int32)) 2)
    refine Go.sp (g' := (mkF m 39 #[.val (.int p1), .val (.int p2), .val (.int p3), .val (.int p4), .val (.int p5), .val (.int p6), .val (.int (2 : Int32)), .unset, .unset, .unset, .unset, .unset, .unset, .unset] [(.ref b51), (.ref b51)])) (fun T A t r => XS.dup A hx rfl (hb hby at_38) rfl rfl r) ?_
    refine Go.sp (g' := (mkF m 40 #[.val (.int p1), .val (.int p2), .val (.int p3), .val (.int p4), .val (.int p5), .val (.int p6), .val (.int (2 : Int32)), .unset, .unset, .unset, .unset, .unset, .unset, .unset] [(.int (0 : Int32)), (.ref b51), (.ref b51)])) (fun T A t r => XS.iconst A hx rfl (hb hby at_39) r) ?_
    refine Go.sp (g' := (mkF m 41 #[.val (.int p1), .val (.int p2), .val (.int p3), .val (.int p4), .val (.int p5), .val (.int p6), .val (.int (2 : Int32)), .unset, .unset, .unset, .unset, .unset, .unset, .unset] [(.int p1), (.int (0 : Int32)), (.ref b51), (.ref b51)])) (fun T A t r => XS.iloadN A hx rfl (hb hby at_40) rfl r) ?_
    refine Go.old fun O52 => ?_
    refine Go.callSPW (W := 3) (y := (⟨"com/example/kept_outbox/keptoutbox/api/MessageToPinLaw", "allowed", "(I)C"⟩ : MethodName)) (argsL := [(.int p1)]) (rest := [(.int (0 : Int32)), (.ref b51), (.ref b51)]) (pc' := 44) (k' := 1) (n' := 2) (hb hby at_41) (own_w hw 1 rfl) (own_w hw 2 rfl) (own_w hw 3 rfl) (own_w hw 4 rfl) (by decide) (rmA l Z a0 hw [] p1 h51 n0 O52) (own_w hw 4 rfl) (own_w hw 3 rfl) (by decide) (by decide) (by rw [hml]; rfl) (lenOf pd_3 rfl) rfl (Nat.le_of_ble_eq_true rfl) rfl rfl rfl (by decide) (by decide) ?_
    rintro v53 ⟨z53, rfl, al53⟩
    refine Go.cast (g' := (mkF m 44 #[.val (.int p1), .val (.int p2), .val (.int p3), .val (.int p4), .val (.int p5), .val (.int p6), .val (.int (2 : Int32)), .unset, .unset, .unset, .unset, .unset, .unset, .unset] [(.int z53), (.int (0 : Int32)), (.ref b51), (.ref b51)])) rfl ?_
    refine Go.w (g' := (mkF m 45 #[.val (.int p1), .val (.int p2), .val (.int p3), .val (.int p4), .val (.int p5), .val (.int p6), .val (.int (2 : Int32)), .unset, .unset, .unset, .unset, .unset, .unset, .unset] [(.ref b51)])) (fun s' T L X eT hZ hown => own_stC X hx hZ eT V51 (j := (0 : Int32)) ⟨by decide, by decide⟩ (g := (mkF m 44 #[.val (.int p1), .val (.int p2), .val (.int p3), .val (.int p4), .val (.int p5), .val (.int p6), .val (.int (2 : Int32)), .unset, .unset, .unset, .unset, .unset, .unset, .unset] [(.int z53), (.int (0 : Int32)), (.ref b51), (.ref b51)])) rfl rfl (hb hby at_44)) (Or.inr sz51) (Or.inr SafeA.nil) ?_
    intro h54 W54
    have V54 : Arv Z h54 b51 k51 .char (2 : Int32) [(.int z53), (.int (0 : Int32))] (.int (0 : Int32)) := own_set V51 (fits_nar_char _) W54 (congrArg Value.int (own_nar (own_alb al53))) 0 rfl (Nat.le_of_ble_eq_true rfl)
    refine Go.sp (g' := (mkF m 46 #[.val (.int p1), .val (.int p2), .val (.int p3), .val (.int p4), .val (.int p5), .val (.int p6), .val (.int (2 : Int32)), .unset, .unset, .unset, .unset, .unset, .unset, .unset] [(.ref b51), (.ref b51)])) (fun T A t r => XS.dup A hx rfl (hb hby at_45) rfl rfl r) ?_
    refine Go.sp (g' := (mkF m 47 #[.val (.int p1), .val (.int p2), .val (.int p3), .val (.int p4), .val (.int p5), .val (.int p6), .val (.int (2 : Int32)), .unset, .unset, .unset, .unset, .unset, .unset, .unset] [(.int (1 : Int32)), (.ref b51), (.ref b51)])) (fun T A t r => XS.iconst A hx rfl (hb hby at_46) r) ?_
    refine Go.sp (g' := (mkF m 48 #[.val (.int p1), .val (.int p2), .val (.int p3), .val (.int p4), .val (.int p5), .val (.int p6), .val (.int (2 : Int32)), .unset, .unset, .unset, .unset, .unset, .unset, .unset] [(.int p2), (.int (1 : Int32)), (.ref b51), (.ref b51)])) (fun T A t r => XS.iloadN A hx rfl (hb hby at_47) rfl r) ?_
    refine Go.old fun O55 => ?_
    refine Go.callSPW (W := 3) (y := (⟨"com/example/kept_outbox/keptoutbox/api/MessageToPinLaw", "allowed", "(I)C"⟩ : MethodName)) (argsL := [(.int p2)]) (rest := [(.int (1 : Int32)), (.ref b51), (.ref b51)]) (pc' := 51) (k' := 1) (n' := 2) (hb hby at_48) (own_w hw 1 rfl) (own_w hw 2 rfl) (own_w hw 3 rfl) (own_w hw 4 rfl) (by decide) (rmA l Z a0 hw [] p2 h54 n0 O55) (own_w hw 4 rfl) (own_w hw 3 rfl) (by decide) (by decide) (by rw [hml]; rfl) (lenOf pd_3 rfl) rfl (Nat.le_of_ble_eq_true rfl) rfl rfl rfl (by decide) (by decide) ?_
    rintro v56 ⟨z56, rfl, al56⟩
    refine Go.cast (g' := (mkF m 51 #[.val (.int p1), .val (.int p2), .val (.int p3), .val (.int p4), .val (.int p5), .val (.int p6), .val (.int (2 : Int32)), .unset, .unset, .unset, .unset, .unset, .unset, .unset] [(.int z56), (.int (1 : Int32)), (.ref b51), (.ref b51)])) rfl ?_
    refine Go.w (g' := (mkF m 52 #[.val (.int p1), .val (.int p2), .val (.int p3), .val (.int p4), .val (.int p5), .val (.int p6), .val (.int (2 : Int32)), .unset, .unset, .unset, .unset, .unset, .unset, .unset] [(.ref b51)])) (fun s' T L X eT hZ hown => own_stC X hx hZ eT V54 (j := (1 : Int32)) ⟨by decide, by decide⟩ (g := (mkF m 51 #[.val (.int p1), .val (.int p2), .val (.int p3), .val (.int p4), .val (.int p5), .val (.int p6), .val (.int (2 : Int32)), .unset, .unset, .unset, .unset, .unset, .unset, .unset] [(.int z56), (.int (1 : Int32)), (.ref b51), (.ref b51)])) rfl rfl (hb hby at_51)) (Or.inr sz51) (Or.inr SafeA.nil) ?_
    intro h57 W57
    have V57 : Arv Z h57 b51 k51 .char (2 : Int32) [(.int z53), (.int z56)] (.int (0 : Int32)) := own_set V54 (fits_nar_char _) W57 (congrArg Value.int (own_nar (own_alb al56))) 1 rfl (Nat.le_of_ble_eq_true rfl)
    refine Go.sp (g' := (mkF m 54 #[.val (.int p1), .val (.int p2), .val (.int p3), .val (.int p4), .val (.int p5), .val (.int p6), .val (.int (2 : Int32)), .val (.ref b51), .unset, .unset, .unset, .unset, .unset, .unset] [])) (fun T A t r => XS.astore A hx rfl (hb hby at_52) rfl rfl (l' := #[.val (.int p1), .val (.int p2), .val (.int p3), .val (.int p4), .val (.int p5), .val (.int p6), .val (.int (2 : Int32)), .val (.ref b51), .unset, .unset, .unset, .unset, .unset, .unset]) rfl r) ?_
    refine Go.sp (g' := (mkF m 125 #[.val (.int p1), .val (.int p2), .val (.int p3), .val (.int p4), .val (.int p5), .val (.int p6), .val (.int (2 : Int32)), .val (.ref b51), .unset, .unset, .unset, .unset, .unset, .unset] [])) (fun T A t r => XS.goto A hx rfl (pc0 := 54) (pc' := 125) rfl (hb hby at_54) (by decide) (by decide) r) ?_
    refine Go.newO (k' := 2) (n' := 6) (pc' := 128) (hb hby at_125) (own_w hw 6 rfl) (own_w hw 7 rfl) (own_w hw 8 rfl) rfl rfl rfl (by decide) (by decide) ?_
    intro b58 h58 g58 sz58 E58 A58 D58
    have F58_coder : Fld Z h58 b58 "java/lang/String" "coder" "B" (.int (0 : Int32)) := D58 (Or.inr (own_w hw 32 rfl)) (ty := .byte) (by decide)
    have F58_value : Fld Z h58 b58 "java/lang/String" "value" "[B" .null := D58 (Or.inr (own_w hw 34 rfl)) (ty := (.array .byte)) (by decide)
    refine Go.sp (g' := (mkF m 129 #[.val (.int p1), .val (.int p2), .val (.int p3), .val (.int p4), .val (.int p5), .val (.int p6), .val (.int (2 : Int32)), .val (.ref b51), .unset, .unset, .unset, .unset, .unset, .unset] [(.ref b58), (.ref b58)])) (fun T A t r => XS.dup A hx rfl (hb hby at_128) rfl rfl r) ?_
    refine Go.sp (g' := (mkF m 131 #[.val (.int p1), .val (.int p2), .val (.int p3), .val (.int p4), .val (.int p5), .val (.int p6), .val (.int (2 : Int32)), .val (.ref b51), .unset, .unset, .unset, .unset, .unset, .unset] [(.ref b51), (.ref b58), (.ref b58)])) (fun T A t r => XS.aload A hx rfl (hb hby at_129) rfl rfl r) ?_
    have f59 := (V57.ext E58)
    refine Go.old fun O60 => ?_
    have lat61 : ∀ c ∈ [z53, z56], ¬ c < 0 ∧ ¬ (255 : Int32) < c := own_allc (own_alb al53) (own_allc (own_alb al56) (own_allc0))
    refine Go.callC (a := b58) (ws' := [b58]) (W := 1) (y := (⟨"java/lang/String", "<init>", "([C)V"⟩ : MethodName)) (argsL := [(.ref b51)]) (rest := [(.ref b58)]) (pc' := 134) (k' := 3) (n' := 8) (hb hby at_131) rfl (own_w hw 9 rfl) (own_w hw 10 rfl) (own_w hw 11 rfl) (by decide) (fun s' hZ => own_str hw (own_w hw 7 rfl) hZ (cs := [z53, z56]) (n := 2) (Nat.le_trans (Old.le O0) sz58) O60 A58 F58_value F58_coder f59 S0 P0 rfl rfl (by decide) (by decide) lat61 (by decide) (by decide)) (by rw [hml]; rfl) (lenOf pd_9 rfl) rfl (Nat.le_of_ble_eq_true rfl) rfl rfl rfl (by decide) (by decide) (allS (Or.inr sz58) all0) (allS (Or.inr SafeA.nil) all0) ?_
    rintro v62 h62 K62 ⟨rfl, E62, C62, t62, kb62, ge62, V62, B62⟩
    refine Go.cast (g' := (mkF m 134 #[.val (.int p1), .val (.int p2), .val (.int p3), .val (.int p4), .val (.int p5), .val (.int p6), .val (.int (2 : Int32)), .val (.ref b51), .unset, .unset, .unset, .unset, .unset, .unset] [(.ref b58)])) rfl ?_
    refine Go.sp (g' := (mkF m 136 #[.val (.int p1), .val (.int p2), .val (.int p3), .val (.int p4), .val (.int p5), .val (.int p6), .val (.int (2 : Int32)), .val (.ref b51), .val (.ref b58), .unset, .unset, .unset, .unset, .unset] [])) (fun T A t r => XS.astore A hx rfl (hb hby at_134) rfl rfl (l' := #[.val (.int p1), .val (.int p2), .val (.int p3), .val (.int p4), .val (.int p5), .val (.int p6), .val (.int (2 : Int32)), .val (.ref b51), .val (.ref b58), .unset, .unset, .unset, .unset, .unset]) rfl r) ?_
    refine Go.sp (g' := (mkF m 138 #[.val (.int p1), .val (.int p2), .val (.int p3), .val (.int p4), .val (.int p5), .val (.int p6), .val (.int (2 : Int32)), .val (.ref b51), .val (.ref b58), .unset, .unset, .unset, .unset, .unset] [(.int p6)])) (fun T A t r => XS.iload A hx rfl (hb hby at_136) rfl r) ?_
    refine Go.sp (g' := (mkF m 139 #[.val (.int p1), .val (.int p2), .val (.int p3), .val (.int p4), .val (.int p5), .val (.int p6), .val (.int (2 : Int32)), .val (.ref b51), .val (.ref b58), .unset, .unset, .unset, .unset, .unset] [(.int (p6.toInt8.toInt32))])) (fun T A t r => XS.i2b A hx rfl (hb hby at_138) rfl r) ?_
    refine Go.sp (g' := (mkF m 141 #[.val (.int p1), .val (.int p2), .val (.int p3), .val (.int p4), .val (.int p5), .val (.int p6), .val (.int (2 : Int32)), .val (.ref b51), .val (.ref b58), .val (.int (p6.toInt8.toInt32)), .unset, .unset, .unset, .unset] [])) (fun T A t r => XS.istore A hx rfl (hb hby at_139) rfl (l' := #[.val (.int p1), .val (.int p2), .val (.int p3), .val (.int p4), .val (.int p5), .val (.int p6), .val (.int (2 : Int32)), .val (.ref b51), .val (.ref b58), .val (.int (p6.toInt8.toInt32)), .unset, .unset, .unset, .unset]) rfl r) ?_
    refine Go.sp (g' := (mkF m 143 #[.val (.int p1), .val (.int p2), .val (.int p3), .val (.int p4), .val (.int p5), .val (.int p6), .val (.int (2 : Int32)), .val (.ref b51), .val (.ref b58), .val (.int (p6.toInt8.toInt32)), .unset, .unset, .unset, .unset] [(.int p6)])) (fun T A t r => XS.iload A hx rfl (hb hby at_141) rfl r) ?_
    refine Go.sp (g' := (mkF m 145 #[.val (.int p1), .val (.int p2), .val (.int p3), .val (.int p4), .val (.int p5), .val (.int p6), .val (.int (2 : Int32)), .val (.ref b51), .val (.ref b58), .val (.int (p6.toInt8.toInt32)), .unset, .unset, .unset, .unset] [(.int (8 : Int32)), (.int p6)])) (fun T A t r => XS.bipush A hx rfl (hb hby at_143) r) ?_
    refine Go.sp (g' := (mkF m 146 #[.val (.int p1), .val (.int p2), .val (.int p3), .val (.int p4), .val (.int p5), .val (.int p6), .val (.int (2 : Int32)), .val (.ref b51), .val (.ref b58), .val (.int (p6.toInt8.toInt32)), .unset, .unset, .unset, .unset] [(.int ((p6.toUInt32 >>> ((8 : Int32) &&& 31).toUInt32).toInt32))])) (fun T A t r => XS.iushr A hx rfl (hb hby at_145) rfl r) ?_
    refine Go.sp (g' := (mkF m 147 #[.val (.int p1), .val (.int p2), .val (.int p3), .val (.int p4), .val (.int p5), .val (.int p6), .val (.int (2 : Int32)), .val (.ref b51), .val (.ref b58), .val (.int (p6.toInt8.toInt32)), .unset, .unset, .unset, .unset] [(.int (((p6.toUInt32 >>> ((8 : Int32) &&& 31).toUInt32).toInt32).toInt8.toInt32))])) (fun T A t r => XS.i2b A hx rfl (hb hby at_146) rfl r) ?_
    refine Go.sp (g' := (mkF m 149 #[.val (.int p1), .val (.int p2), .val (.int p3), .val (.int p4), .val (.int p5), .val (.int p6), .val (.int (2 : Int32)), .val (.ref b51), .val (.ref b58), .val (.int (p6.toInt8.toInt32)), .val (.int (((p6.toUInt32 >>> ((8 : Int32) &&& 31).toUInt32).toInt32).toInt8.toInt32)), .unset, .unset, .unset] [])) (fun T A t r => XS.istore A hx rfl (hb hby at_147) rfl (l' := #[.val (.int p1), .val (.int p2), .val (.int p3), .val (.int p4), .val (.int p5), .val (.int p6), .val (.int (2 : Int32)), .val (.ref b51), .val (.ref b58), .val (.int (p6.toInt8.toInt32)), .val (.int (((p6.toUInt32 >>> ((8 : Int32) &&& 31).toUInt32).toInt32).toInt8.toInt32)), .unset, .unset, .unset]) rfl r) ?_
    refine Go.sp (g' := (mkF m 151 #[.val (.int p1), .val (.int p2), .val (.int p3), .val (.int p4), .val (.int p5), .val (.int p6), .val (.int (2 : Int32)), .val (.ref b51), .val (.ref b58), .val (.int (p6.toInt8.toInt32)), .val (.int (((p6.toUInt32 >>> ((8 : Int32) &&& 31).toUInt32).toInt32).toInt8.toInt32)), .unset, .unset, .unset] [(.ref b58)])) (fun T A t r => XS.aload A hx rfl (hb hby at_149) rfl rfl r) ?_
    refine Go.old fun O63 => ?_
    refine Go.callSW (ws' := []) (W := 0) (y := (⟨"com/example/kept_outbox/keptoutbox/api/Message", "to", "(Ljava/lang/String;)Lcom/example/kept_outbox/keptoutbox/api/Message$Builder;"⟩ : MethodName)) (argsL := [(.ref b58)]) (rest := []) (pc' := 154) (k' := 6) (n' := 145) (hb hby at_151) (own_w hw 35 rfl) (own_w hw 36 rfl) (own_w hw 37 rfl) (own_w hw 38 rfl) (by decide) (rmT2 l Z a0 hw [] b58 t62 kb62 z53 z56 zS fm h62 n0 O63 E62 C62 V62 B62 al53 al56 S0 P0 SF RF) (own_w hw 38 rfl) (own_w hw 37 rfl) (by decide) (by decide) (by rw [hml]; rfl) (lenOf pd_10 rfl) rfl (Nat.le_of_ble_eq_true rfl) rfl rfl rfl (by decide) (by decide) all0 ?_
    rintro v64 h64 K64 ⟨b64, rfl, E64, F64⟩
    refine Go.cast (g' := (mkF m 154 #[.val (.int p1), .val (.int p2), .val (.int p3), .val (.int p4), .val (.int p5), .val (.int p6), .val (.int (2 : Int32)), .val (.ref b51), .val (.ref b58), .val (.int (p6.toInt8.toInt32)), .val (.int (((p6.toUInt32 >>> ((8 : Int32) &&& 31).toUInt32).toInt32).toInt8.toInt32)), .unset, .unset, .unset] [(.ref b64)])) rfl ?_
    refine Go.sp (g' := (mkF m 155 #[.val (.int p1), .val (.int p2), .val (.int p3), .val (.int p4), .val (.int p5), .val (.int p6), .val (.int (2 : Int32)), .val (.ref b51), .val (.ref b58), .val (.int (p6.toInt8.toInt32)), .val (.int (((p6.toUInt32 >>> ((8 : Int32) &&& 31).toUInt32).toInt32).toInt8.toInt32)), .unset, .unset, .unset] [(.int (2 : Int32)), (.ref b64)])) (fun T A t r => XS.iconst A hx rfl (hb hby at_154) r) ?_
    refine Go.newPE (ty := .byte) (dv := (.int (0 : Int32))) (ad := "[B") (cap := 2) (k' := 7) (n' := 147) (pc' := 157) (hb hby at_155) rfl rfl (by decide) (own_w hw 24 rfl) (by decide) (by decide) (by decide) rfl rfl rfl (by decide) (by decide) ?_
    intro b65 h65 k65 g65 sz65 E65 A65 D65
    have V65 : Arv Z h65 b65 k65 .byte (2 : Int32) [(.int (0 : Int32)), (.int (0 : Int32))] (.int (0 : Int32)) := A65.pad (pad_rep [] (.int (0 : Int32)) 2)
    refine Go.sp (g' := (mkF m 158 #[.val (.int p1), .val (.int p2), .val (.int p3), .val (.int p4), .val (.int p5), .val (.int p6), .val (.int (2 : Int32)), .val (.ref b51), .val (.ref b58), .val (.int (p6.toInt8.toInt32)), .val (.int (((p6.toUInt32 >>> ((8 : Int32) &&& 31).toUInt32).toInt32).toInt8.toInt32)), .unset, .unset, .unset] [(.ref b65), (.ref b65), (.ref b64)])) (fun T A t r => XS.dup A hx rfl (hb hby at_157) rfl rfl r) ?_
    refine Go.sp (g' := (mkF m 159 #[.val (.int p1), .val (.int p2), .val (.int p3), .val (.int p4), .val (.int p5), .val (.int p6), .val (.int (2 : Int32)), .val (.ref b51), .val (.ref b58), .val (.int (p6.toInt8.toInt32)), .val (.int (((p6.toUInt32 >>> ((8 : Int32) &&& 31).toUInt32).toInt32).toInt8.toInt32)), .unset, .unset, .unset] [(.int (0 : Int32)), (.ref b65), (.ref b65), (.ref b64)])) (fun T A t r => XS.iconst A hx rfl (hb hby at_158) r) ?_
    refine Go.sp (g' := (mkF m 161 #[.val (.int p1), .val (.int p2), .val (.int p3), .val (.int p4), .val (.int p5), .val (.int p6), .val (.int (2 : Int32)), .val (.ref b51), .val (.ref b58), .val (.int (p6.toInt8.toInt32)), .val (.int (((p6.toUInt32 >>> ((8 : Int32) &&& 31).toUInt32).toInt32).toInt8.toInt32)), .unset, .unset, .unset] [(.int (p6.toInt8.toInt32)), (.int (0 : Int32)), (.ref b65), (.ref b65), (.ref b64)])) (fun T A t r => XS.iload A hx rfl (hb hby at_159) rfl r) ?_
    refine Go.w (g' := (mkF m 162 #[.val (.int p1), .val (.int p2), .val (.int p3), .val (.int p4), .val (.int p5), .val (.int p6), .val (.int (2 : Int32)), .val (.ref b51), .val (.ref b58), .val (.int (p6.toInt8.toInt32)), .val (.int (((p6.toUInt32 >>> ((8 : Int32) &&& 31).toUInt32).toInt32).toInt8.toInt32)), .unset, .unset, .unset] [(.ref b65), (.ref b64)])) (fun s' T L X eT hZ hown => own_stB X hx hZ eT V65 (j := (0 : Int32)) ⟨by decide, by decide⟩ (g := (mkF m 161 #[.val (.int p1), .val (.int p2), .val (.int p3), .val (.int p4), .val (.int p5), .val (.int p6), .val (.int (2 : Int32)), .val (.ref b51), .val (.ref b58), .val (.int (p6.toInt8.toInt32)), .val (.int (((p6.toUInt32 >>> ((8 : Int32) &&& 31).toUInt32).toInt32).toInt8.toInt32)), .unset, .unset, .unset] [(.int (p6.toInt8.toInt32)), (.int (0 : Int32)), (.ref b65), (.ref b65), (.ref b64)])) rfl rfl (hb hby at_161)) (Or.inr sz65) (Or.inr SafeA.nil) ?_
    intro h66 W66
    have V66 : Arv Z h66 b65 k65 .byte (2 : Int32) [(.int (p6.toInt8.toInt32)), (.int (0 : Int32))] (.int (0 : Int32)) := own_set V65 (fits_nar_byte _) W66 (congrArg Value.int (own_narB _)) 0 rfl (Nat.le_of_ble_eq_true rfl)
    refine Go.sp (g' := (mkF m 163 #[.val (.int p1), .val (.int p2), .val (.int p3), .val (.int p4), .val (.int p5), .val (.int p6), .val (.int (2 : Int32)), .val (.ref b51), .val (.ref b58), .val (.int (p6.toInt8.toInt32)), .val (.int (((p6.toUInt32 >>> ((8 : Int32) &&& 31).toUInt32).toInt32).toInt8.toInt32)), .unset, .unset, .unset] [(.ref b65), (.ref b65), (.ref b64)])) (fun T A t r => XS.dup A hx rfl (hb hby at_162) rfl rfl r) ?_
    refine Go.sp (g' := (mkF m 164 #[.val (.int p1), .val (.int p2), .val (.int p3), .val (.int p4), .val (.int p5), .val (.int p6), .val (.int (2 : Int32)), .val (.ref b51), .val (.ref b58), .val (.int (p6.toInt8.toInt32)), .val (.int (((p6.toUInt32 >>> ((8 : Int32) &&& 31).toUInt32).toInt32).toInt8.toInt32)), .unset, .unset, .unset] [(.int (1 : Int32)), (.ref b65), (.ref b65), (.ref b64)])) (fun T A t r => XS.iconst A hx rfl (hb hby at_163) r) ?_
    refine Go.sp (g' := (mkF m 166 #[.val (.int p1), .val (.int p2), .val (.int p3), .val (.int p4), .val (.int p5), .val (.int p6), .val (.int (2 : Int32)), .val (.ref b51), .val (.ref b58), .val (.int (p6.toInt8.toInt32)), .val (.int (((p6.toUInt32 >>> ((8 : Int32) &&& 31).toUInt32).toInt32).toInt8.toInt32)), .unset, .unset, .unset] [(.int (((p6.toUInt32 >>> ((8 : Int32) &&& 31).toUInt32).toInt32).toInt8.toInt32)), (.int (1 : Int32)), (.ref b65), (.ref b65), (.ref b64)])) (fun T A t r => XS.iload A hx rfl (hb hby at_164) rfl r) ?_
    refine Go.w (g' := (mkF m 167 #[.val (.int p1), .val (.int p2), .val (.int p3), .val (.int p4), .val (.int p5), .val (.int p6), .val (.int (2 : Int32)), .val (.ref b51), .val (.ref b58), .val (.int (p6.toInt8.toInt32)), .val (.int (((p6.toUInt32 >>> ((8 : Int32) &&& 31).toUInt32).toInt32).toInt8.toInt32)), .unset, .unset, .unset] [(.ref b65), (.ref b64)])) (fun s' T L X eT hZ hown => own_stB X hx hZ eT V66 (j := (1 : Int32)) ⟨by decide, by decide⟩ (g := (mkF m 166 #[.val (.int p1), .val (.int p2), .val (.int p3), .val (.int p4), .val (.int p5), .val (.int p6), .val (.int (2 : Int32)), .val (.ref b51), .val (.ref b58), .val (.int (p6.toInt8.toInt32)), .val (.int (((p6.toUInt32 >>> ((8 : Int32) &&& 31).toUInt32).toInt32).toInt8.toInt32)), .unset, .unset, .unset] [(.int (((p6.toUInt32 >>> ((8 : Int32) &&& 31).toUInt32).toInt32).toInt8.toInt32)), (.int (1 : Int32)), (.ref b65), (.ref b65), (.ref b64)])) rfl rfl (hb hby at_166)) (Or.inr sz65) (Or.inr SafeA.nil) ?_
    intro h67 W67
    have V67 : Arv Z h67 b65 k65 .byte (2 : Int32) [(.int (p6.toInt8.toInt32)), (.int (((p6.toUInt32 >>> ((8 : Int32) &&& 31).toUInt32).toInt32).toInt8.toInt32))] (.int (0 : Int32)) := own_set V66 (fits_nar_byte _) W67 (congrArg Value.int (own_narB _)) 1 rfl (Nat.le_of_ble_eq_true rfl)
    refine Go.old fun O68 => ?_
    have f69 := (((E64.ext E65).wr W66).wr W67)
    have ne70 : b64 ≠ b65 := Nat.ne_of_lt (Nat.lt_of_lt_of_le E64.lt (Nat.le_of_eq g65.symm))
    have f71 := (((F64.ext E65).other W66 (Or.inl ne70)).other W67 (Or.inl ne70))
    have f72 := ((D65.wr W66).wr W67)
    refine Go.callVW (a := b64) (z := (⟨"com/example/kept_outbox/keptoutbox/api/Message$Builder", "payload", "([B)Lcom/example/kept_outbox/keptoutbox/api/Message;"⟩ : MethodName)) (ws' := []) (W := 0) (y := (⟨"com/example/kept_outbox/keptoutbox/api/Message$Builder", "payload", "([B)Lcom/example/kept_outbox/keptoutbox/api/Message;"⟩ : MethodName)) (argsL := [(.ref b65)]) (rest := []) (pc' := 170) (k' := 11) (n' := 251) (hb hby at_167) (own_w hw 99 rfl) (own_w hw 100 rfl) (fun s' hZ => notFace_of_selects (args := #[]) (mvT hZ (own_w hw 102 rfl))) (own_w hw 102 rfl) (own_w hw 101 rfl) (by decide) (rmP l Z a0 hw [] b64 b58 b65 k65 (p6.toInt8.toInt32) (((p6.toUInt32 >>> ((8 : Int32) &&& 31).toUInt32).toInt32).toInt8.toInt32) h67 n0 O68 f69 f71 f72 V67) (own_w hw 103 rfl) (own_w hw 41 rfl) (by decide) (by decide) f69 (by rw [hml]; rfl) (lenOf pd_8 rfl) rfl (Nat.le_of_ble_eq_true rfl) rfl rfl rfl (by decide) (by decide) all0 ?_
    rintro v73 h73 K73 ⟨b73, c73, rfl, E73, F73, G73, D73, A73⟩
    refine Go.cast (g' := (mkF m 170 #[.val (.int p1), .val (.int p2), .val (.int p3), .val (.int p4), .val (.int p5), .val (.int p6), .val (.int (2 : Int32)), .val (.ref b51), .val (.ref b58), .val (.int (p6.toInt8.toInt32)), .val (.int (((p6.toUInt32 >>> ((8 : Int32) &&& 31).toUInt32).toInt32).toInt8.toInt32)), .unset, .unset, .unset] [(.ref b73)])) rfl ?_
    refine Go.sp (g' := (mkF m 172 #[.val (.int p1), .val (.int p2), .val (.int p3), .val (.int p4), .val (.int p5), .val (.int p6), .val (.int (2 : Int32)), .val (.ref b51), .val (.ref b58), .val (.int (p6.toInt8.toInt32)), .val (.int (((p6.toUInt32 >>> ((8 : Int32) &&& 31).toUInt32).toInt32).toInt8.toInt32)), .val (.ref b73), .unset, .unset] [])) (fun T A t r => XS.astore A hx rfl (hb hby at_170) rfl rfl (l' := #[.val (.int p1), .val (.int p2), .val (.int p3), .val (.int p4), .val (.int p5), .val (.int p6), .val (.int (2 : Int32)), .val (.ref b51), .val (.ref b58), .val (.int (p6.toInt8.toInt32)), .val (.int (((p6.toUInt32 >>> ((8 : Int32) &&& 31).toUInt32).toInt32).toInt8.toInt32)), .val (.ref b73), .unset, .unset]) rfl r) ?_
    refine Go.sp (g' := (mkF m 174 #[.val (.int p1), .val (.int p2), .val (.int p3), .val (.int p4), .val (.int p5), .val (.int p6), .val (.int (2 : Int32)), .val (.ref b51), .val (.ref b58), .val (.int (p6.toInt8.toInt32)), .val (.int (((p6.toUInt32 >>> ((8 : Int32) &&& 31).toUInt32).toInt32).toInt8.toInt32)), .val (.ref b73), .unset, .unset] [(.ref b73)])) (fun T A t r => XS.aload A hx rfl (hb hby at_172) rfl rfl r) ?_
    refine Go.old fun O74 => ?_
    refine Go.callVPW (a := b73) (z := (⟨"com/example/kept_outbox/keptoutbox/api/Message", "destination", "()Ljava/lang/String;"⟩ : MethodName)) (W := 0) (y := (⟨"com/example/kept_outbox/keptoutbox/api/Message", "destination", "()Ljava/lang/String;"⟩ : MethodName)) (argsL := []) (rest := []) (pc' := 177) (k' := 11) (n' := 251) (hb hby at_174) (own_w hw 130 rfl) (own_w hw 131 rfl) (fun s' hZ => notFace_of_selects (args := #[]) (mvT hZ (own_w hw 133 rfl))) (own_w hw 133 rfl) (own_w hw 132 rfl) (by decide) (rmD l Z a0 hw [] b73 b58 h73 n0 O74 F73) (own_w hw 134 rfl) (own_w hw 37 rfl) (by decide) (by decide) E73 (by rw [hml]; rfl) (lenOf pd_11 rfl) rfl (Nat.le_of_ble_eq_true rfl) rfl rfl rfl (by decide) (by decide) ?_
    rintro v75 rfl
    refine Go.cast (g' := (mkF m 177 #[.val (.int p1), .val (.int p2), .val (.int p3), .val (.int p4), .val (.int p5), .val (.int p6), .val (.int (2 : Int32)), .val (.ref b51), .val (.ref b58), .val (.int (p6.toInt8.toInt32)), .val (.int (((p6.toUInt32 >>> ((8 : Int32) &&& 31).toUInt32).toInt32).toInt8.toInt32)), .val (.ref b73), .unset, .unset] [(.ref b58)])) rfl ?_
    refine Go.sp (g' := (mkF m 179 #[.val (.int p1), .val (.int p2), .val (.int p3), .val (.int p4), .val (.int p5), .val (.int p6), .val (.int (2 : Int32)), .val (.ref b51), .val (.ref b58), .val (.int (p6.toInt8.toInt32)), .val (.int (((p6.toUInt32 >>> ((8 : Int32) &&& 31).toUInt32).toInt32).toInt8.toInt32)), .val (.ref b73), .val (.ref b58), .unset] [])) (fun T A t r => XS.astore A hx rfl (hb hby at_177) rfl rfl (l' := #[.val (.int p1), .val (.int p2), .val (.int p3), .val (.int p4), .val (.int p5), .val (.int p6), .val (.int (2 : Int32)), .val (.ref b51), .val (.ref b58), .val (.int (p6.toInt8.toInt32)), .val (.int (((p6.toUInt32 >>> ((8 : Int32) &&& 31).toUInt32).toInt32).toInt8.toInt32)), .val (.ref b73), .val (.ref b58), .unset]) rfl r) ?_
    refine Go.sp (g' := (mkF m 181 #[.val (.int p1), .val (.int p2), .val (.int p3), .val (.int p4), .val (.int p5), .val (.int p6), .val (.int (2 : Int32)), .val (.ref b51), .val (.ref b58), .val (.int (p6.toInt8.toInt32)), .val (.int (((p6.toUInt32 >>> ((8 : Int32) &&& 31).toUInt32).toInt32).toInt8.toInt32)), .val (.ref b73), .val (.ref b58), .unset] [(.ref b73)])) (fun T A t r => XS.aload A hx rfl (hb hby at_179) rfl rfl r) ?_
    refine Go.callVW (a := b73) (z := (⟨"com/example/kept_outbox/keptoutbox/api/Message", "payload", "()[B"⟩ : MethodName)) (ws' := []) (W := 0) (y := (⟨"com/example/kept_outbox/keptoutbox/api/Message", "payload", "()[B"⟩ : MethodName)) (argsL := []) (rest := []) (pc' := 184) (k' := 12) (n' := 253) (hb hby at_181) (own_w hw 135 rfl) (own_w hw 136 rfl) (fun s' hZ => notFace_of_selects (args := #[]) (mvT hZ (own_w hw 138 rfl))) (own_w hw 138 rfl) (own_w hw 137 rfl) (by decide) (rmQ l Z a0 hw [] b73 c73 k65 (p6.toInt8.toInt32) (((p6.toUInt32 >>> ((8 : Int32) &&& 31).toUInt32).toInt32).toInt8.toInt32) h73 n0 O74 G73 D73 A73) (own_w hw 139 rfl) (own_w hw 37 rfl) (by decide) (by decide) E73 (by rw [hml]; rfl) (lenOf pd_12 rfl) rfl (Nat.le_of_ble_eq_true rfl) rfl rfl rfl (by decide) (by decide) all0 ?_
    rintro v76 h76 K76 ⟨b76, rfl, A76⟩
    refine Go.cast (g' := (mkF m 184 #[.val (.int p1), .val (.int p2), .val (.int p3), .val (.int p4), .val (.int p5), .val (.int p6), .val (.int (2 : Int32)), .val (.ref b51), .val (.ref b58), .val (.int (p6.toInt8.toInt32)), .val (.int (((p6.toUInt32 >>> ((8 : Int32) &&& 31).toUInt32).toInt32).toInt8.toInt32)), .val (.ref b73), .val (.ref b58), .unset] [(.ref b76)])) rfl ?_
    refine Go.sp (g' := (mkF m 186 #[.val (.int p1), .val (.int p2), .val (.int p3), .val (.int p4), .val (.int p5), .val (.int p6), .val (.int (2 : Int32)), .val (.ref b51), .val (.ref b58), .val (.int (p6.toInt8.toInt32)), .val (.int (((p6.toUInt32 >>> ((8 : Int32) &&& 31).toUInt32).toInt32).toInt8.toInt32)), .val (.ref b73), .val (.ref b58), .val (.ref b76)] [])) (fun T A t r => XS.astore A hx rfl (hb hby at_184) rfl rfl (l' := #[.val (.int p1), .val (.int p2), .val (.int p3), .val (.int p4), .val (.int p5), .val (.int p6), .val (.int (2 : Int32)), .val (.ref b51), .val (.ref b58), .val (.int (p6.toInt8.toInt32)), .val (.int (((p6.toUInt32 >>> ((8 : Int32) &&& 31).toUInt32).toInt32).toInt8.toInt32)), .val (.ref b73), .val (.ref b58), .val (.ref b76)]) rfl r) ?_
    refine Go.sp (g' := (mkF m 188 #[.val (.int p1), .val (.int p2), .val (.int p3), .val (.int p4), .val (.int p5), .val (.int p6), .val (.int (2 : Int32)), .val (.ref b51), .val (.ref b58), .val (.int (p6.toInt8.toInt32)), .val (.int (((p6.toUInt32 >>> ((8 : Int32) &&& 31).toUInt32).toInt32).toInt8.toInt32)), .val (.ref b73), .val (.ref b58), .val (.ref b76)] [(.ref b58)])) (fun T A t r => XS.aload A hx rfl (hb hby at_186) rfl rfl r) ?_
    refine Go.sp (g' := (mkF m 190 #[.val (.int p1), .val (.int p2), .val (.int p3), .val (.int p4), .val (.int p5), .val (.int p6), .val (.int (2 : Int32)), .val (.ref b51), .val (.ref b58), .val (.int (p6.toInt8.toInt32)), .val (.int (((p6.toUInt32 >>> ((8 : Int32) &&& 31).toUInt32).toInt32).toInt8.toInt32)), .val (.ref b73), .val (.ref b58), .val (.ref b76)] [(.ref b58), (.ref b58)])) (fun T A t r => XS.aload A hx rfl (hb hby at_188) rfl rfl r) ?_
    refine Go.old fun O77 => ?_
    have f79 := ((((((E62.keep K64).ext E65).wr W66).wr W67).keep K73).keep K76)
    refine Go.callVPW (a := b58) (z := (⟨"java/lang/String", "equals", "(Ljava/lang/Object;)Z"⟩ : MethodName)) (W := 0) (y := (⟨"java/lang/String", "equals", "(Ljava/lang/Object;)Z"⟩ : MethodName)) (argsL := [(.ref b58)]) (rest := []) (pc' := 193) (k' := 12) (n' := 253) (hb hby at_190) (own_w hw 142 rfl) (own_w hw 143 rfl) (fun s' hZ => notFace_of_selects (args := #[]) (mvT hZ (own_w hw 145 rfl))) (own_w hw 145 rfl) (own_w hw 144 rfl) (by decide) (rmE l Z a0 hw [] b58 h76 n0 O77) (own_w hw 146 rfl) (own_w hw 8 rfl) (by decide) (by decide) f79 (by rw [hml]; rfl) (lenOf pd_13 rfl) rfl (Nat.le_of_ble_eq_true rfl) rfl rfl rfl (by decide) (by decide) ?_
    rintro v78 rfl
    refine Go.cast (g' := (mkF m 193 #[.val (.int p1), .val (.int p2), .val (.int p3), .val (.int p4), .val (.int p5), .val (.int p6), .val (.int (2 : Int32)), .val (.ref b51), .val (.ref b58), .val (.int (p6.toInt8.toInt32)), .val (.int (((p6.toUInt32 >>> ((8 : Int32) &&& 31).toUInt32).toInt32).toInt8.toInt32)), .val (.ref b73), .val (.ref b58), .val (.ref b76)] [(.int (1 : Int32))])) rfl ?_
    refine Go.sp (g' := (mkF m 196 #[.val (.int p1), .val (.int p2), .val (.int p3), .val (.int p4), .val (.int p5), .val (.int p6), .val (.int (2 : Int32)), .val (.ref b51), .val (.ref b58), .val (.int (p6.toInt8.toInt32)), .val (.int (((p6.toUInt32 >>> ((8 : Int32) &&& 31).toUInt32).toInt32).toInt8.toInt32)), .val (.ref b73), .val (.ref b58), .val (.ref b76)] [])) (fun T A t r => XS.ifNo A hx rfl (hb hby at_193) rfl ((if0 _ _).trans (feq (by decide : ¬ ((1 : Int32) = (0 : Int32)))).1) r) ?_
    refine Go.sp (g' := (mkF m 198 #[.val (.int p1), .val (.int p2), .val (.int p3), .val (.int p4), .val (.int p5), .val (.int p6), .val (.int (2 : Int32)), .val (.ref b51), .val (.ref b58), .val (.int (p6.toInt8.toInt32)), .val (.int (((p6.toUInt32 >>> ((8 : Int32) &&& 31).toUInt32).toInt32).toInt8.toInt32)), .val (.ref b73), .val (.ref b58), .val (.ref b76)] [(.ref b58)])) (fun T A t r => XS.aload A hx rfl (hb hby at_196) rfl rfl r) ?_
    have f80 := (E62.keep K64)
    have ne81 : b58 ≠ b65 := Nat.ne_of_lt (Nat.lt_of_lt_of_le f80.lt (Nat.le_of_eq g65.symm))
    have f82 := ((((((V62.keep K64 nin0).ext E65).other W66 (Or.inl ne81)).other W67 (Or.inl ne81)).keep K73 nin0).keep K76 nin0)
    have f83 := ((((((C62.keep K64 nin0).ext E65).other W66 (Or.inl ne81)).other W67 (Or.inl ne81)).keep K73 nin0).keep K76 nin0)
    have f84 := (B62.keep K64 nin0)
    have ne85 : t62 ≠ b65 := Nat.ne_of_lt (Nat.lt_of_lt_of_le f84.lt (Nat.le_of_eq g65.symm))
    have f86 := ((((((B62.keep K64 nin0).ext E65).other W66 ne85).other W67 ne85).keep K73 nin0).keep K76 nin0)
    refine Go.callVP (a := b58) (z := (⟨"java/lang/String", "length", "()I"⟩ : MethodName)) (W := 0) (y := (⟨"java/lang/String", "length", "()I"⟩ : MethodName)) (argsL := []) (rest := []) (pc' := 201) (hb hby at_198) (own_w hw 147 rfl) (own_w hw 59 rfl) (fun s' hZ => notFace_of_selects (args := #[]) (mvT hZ (own_w hw 61 rfl))) (own_w hw 61 rfl) (own_w hw 60 rfl) (by decide) (fun s' hZ => Bk.pure (StrChars.Road.lenW (kI := 4) (cs := [z53, z56]) hZ (own_lenw hw) (own_w hw 7 rfl) f79 f82 f83 f86 (own_cod rfl lat61) (own_up lat61) (S0.ext O77.2) P0 (by show 2 ≤ 4000; decide) (by decide) (by decide))) f79 (by rw [hml]; rfl) (lenOf pd_2 rfl) rfl (Nat.le_of_ble_eq_true rfl) rfl (by decide) (by decide) ?_
    rintro v87 rfl
    refine Go.cast (g' := (mkF m 201 #[.val (.int p1), .val (.int p2), .val (.int p3), .val (.int p4), .val (.int p5), .val (.int p6), .val (.int (2 : Int32)), .val (.ref b51), .val (.ref b58), .val (.int (p6.toInt8.toInt32)), .val (.int (((p6.toUInt32 >>> ((8 : Int32) &&& 31).toUInt32).toInt32).toInt8.toInt32)), .val (.ref b73), .val (.ref b58), .val (.ref b76)] [(.int (2 : Int32))])) rfl ?_
    refine Go.sp (g' := (mkF m 203 #[.val (.int p1), .val (.int p2), .val (.int p3), .val (.int p4), .val (.int p5), .val (.int p6), .val (.int (2 : Int32)), .val (.ref b51), .val (.ref b58), .val (.int (p6.toInt8.toInt32)), .val (.int (((p6.toUInt32 >>> ((8 : Int32) &&& 31).toUInt32).toInt32).toInt8.toInt32)), .val (.ref b73), .val (.ref b58), .val (.ref b76)] [(.int (2 : Int32)), (.int (2 : Int32))])) (fun T A t r => XS.iload A hx rfl (hb hby at_201) rfl r) ?_
    refine Go.sp (g' := (mkF m 206 #[.val (.int p1), .val (.int p2), .val (.int p3), .val (.int p4), .val (.int p5), .val (.int p6), .val (.int (2 : Int32)), .val (.ref b51), .val (.ref b58), .val (.int (p6.toInt8.toInt32)), .val (.int (((p6.toUInt32 >>> ((8 : Int32) &&& 31).toUInt32).toInt32).toInt8.toInt32)), .val (.ref b73), .val (.ref b58), .val (.ref b76)] [])) (fun T A t r => XS.icmpNo A hx rfl (hb hby at_203) rfl (teq (by decide : ((2 : Int32) = (2 : Int32)))).2 r) ?_
    refine Go.sp (g' := (mkF m 208 #[.val (.int p1), .val (.int p2), .val (.int p3), .val (.int p4), .val (.int p5), .val (.int p6), .val (.int (2 : Int32)), .val (.ref b51), .val (.ref b58), .val (.int (p6.toInt8.toInt32)), .val (.int (((p6.toUInt32 >>> ((8 : Int32) &&& 31).toUInt32).toInt32).toInt8.toInt32)), .val (.ref b73), .val (.ref b58), .val (.ref b76)] [(.ref b58)])) (fun T A t r => XS.aload A hx rfl (hb hby at_206) rfl rfl r) ?_
    refine Go.sp (g' := (mkF m 209 #[.val (.int p1), .val (.int p2), .val (.int p3), .val (.int p4), .val (.int p5), .val (.int p6), .val (.int (2 : Int32)), .val (.ref b51), .val (.ref b58), .val (.int (p6.toInt8.toInt32)), .val (.int (((p6.toUInt32 >>> ((8 : Int32) &&& 31).toUInt32).toInt32).toInt8.toInt32)), .val (.ref b73), .val (.ref b58), .val (.ref b76)] [(.int (0 : Int32)), (.ref b58)])) (fun T A t r => XS.iconst A hx rfl (hb hby at_208) r) ?_
    refine Go.callVP (a := b58) (z := (⟨"java/lang/String", "charAt", "(I)C"⟩ : MethodName)) (W := 0) (y := (⟨"java/lang/String", "charAt", "(I)C"⟩ : MethodName)) (argsL := [(.int (0 : Int32))]) (rest := []) (pc' := 212) (hb hby at_209) (own_w hw 148 rfl) (own_w hw 69 rfl) (fun s' hZ => notFace_of_selects (args := #[]) (mvT hZ (own_w hw 71 rfl))) (own_w hw 71 rfl) (own_w hw 70 rfl) (by decide) (fun s' hZ => Bk.pure (StrChars.Road.chN (kI := 4) (cs := [z53, z56]) (i := 0) hZ (own_chwd hw) (own_w hw 7 rfl) f79 f82 f83 f86 (own_cod rfl lat61) (own_up lat61) (S0.ext O77.2) P0 (SF.ext O77.2) RF (by show 2 ≤ 4000; decide) (by show 0 < 2; decide) rfl (by decide) (by decide))) f79 (by rw [hml]; rfl) (lenOf pd_3 rfl) rfl (Nat.le_of_ble_eq_true rfl) rfl (by decide) (by decide) ?_
    rintro v88 rfl
    refine Go.cast (g' := (mkF m 212 #[.val (.int p1), .val (.int p2), .val (.int p3), .val (.int p4), .val (.int p5), .val (.int p6), .val (.int (2 : Int32)), .val (.ref b51), .val (.ref b58), .val (.int (p6.toInt8.toInt32)), .val (.int (((p6.toUInt32 >>> ((8 : Int32) &&& 31).toUInt32).toInt32).toInt8.toInt32)), .val (.ref b73), .val (.ref b58), .val (.ref b76)] [(.int z53)])) rfl ?_
    refine Go.sp (g' := (mkF m 214 #[.val (.int p1), .val (.int p2), .val (.int p3), .val (.int p4), .val (.int p5), .val (.int p6), .val (.int (2 : Int32)), .val (.ref b51), .val (.ref b58), .val (.int (p6.toInt8.toInt32)), .val (.int (((p6.toUInt32 >>> ((8 : Int32) &&& 31).toUInt32).toInt32).toInt8.toInt32)), .val (.ref b73), .val (.ref b58), .val (.ref b76)] [(.ref b51), (.int z53)])) (fun T A t r => XS.aload A hx rfl (hb hby at_212) rfl rfl r) ?_
    refine Go.sp (g' := (mkF m 215 #[.val (.int p1), .val (.int p2), .val (.int p3), .val (.int p4), .val (.int p5), .val (.int p6), .val (.int (2 : Int32)), .val (.ref b51), .val (.ref b58), .val (.int (p6.toInt8.toInt32)), .val (.int (((p6.toUInt32 >>> ((8 : Int32) &&& 31).toUInt32).toInt32).toInt8.toInt32)), .val (.ref b73), .val (.ref b58), .val (.ref b76)] [(.int (0 : Int32)), (.ref b51), (.int z53)])) (fun T A t r => XS.iconst A hx rfl (hb hby at_214) r) ?_
    have ne89 : b51 ≠ b58 := Nat.ne_of_lt (Nat.lt_of_lt_of_le V57.lt (Nat.le_of_eq g58.symm))
    have f90 := ((f59.keep K62 (ninS ne89 nin0)).keep K64 nin0)
    have ne91 : b51 ≠ b65 := Nat.ne_of_lt (Nat.lt_of_lt_of_le f90.lt (Nat.le_of_eq g65.symm))
    have f92 := (((((((f59.keep K62 (ninS ne89 nin0)).keep K64 nin0).ext E65).other W66 ne91).other W67 ne91).keep K73 nin0).keep K76 nin0)
    refine Go.r (g' := (mkF m 216 #[.val (.int p1), .val (.int p2), .val (.int p3), .val (.int p4), .val (.int p5), .val (.int p6), .val (.int (2 : Int32)), .val (.ref b51), .val (.ref b58), .val (.int (p6.toInt8.toInt32)), .val (.int (((p6.toUInt32 >>> ((8 : Int32) &&& 31).toUInt32).toInt32).toInt8.toInt32)), .val (.ref b73), .val (.ref b58), .val (.ref b76)] [(.int z53), (.int z53)])) (fun s' T L X eT hZ t r => own_ldC X hx hZ eT f92 (j := (0 : Int32)) ⟨by decide, by decide⟩ (v := (.int z53)) rfl (g := (mkF m 215 #[.val (.int p1), .val (.int p2), .val (.int p3), .val (.int p4), .val (.int p5), .val (.int p6), .val (.int (2 : Int32)), .val (.ref b51), .val (.ref b58), .val (.int (p6.toInt8.toInt32)), .val (.int (((p6.toUInt32 >>> ((8 : Int32) &&& 31).toUInt32).toInt32).toInt8.toInt32)), .val (.ref b73), .val (.ref b58), .val (.ref b76)] [(.int (0 : Int32)), (.ref b51), (.int z53)])) rfl rfl (hb hby at_215) t r) ?_
    refine Go.sp (g' := (mkF m 219 #[.val (.int p1), .val (.int p2), .val (.int p3), .val (.int p4), .val (.int p5), .val (.int p6), .val (.int (2 : Int32)), .val (.ref b51), .val (.ref b58), .val (.int (p6.toInt8.toInt32)), .val (.int (((p6.toUInt32 >>> ((8 : Int32) &&& 31).toUInt32).toInt32).toInt8.toInt32)), .val (.ref b73), .val (.ref b58), .val (.ref b76)] [])) (fun T A t r => XS.icmpNo A hx rfl (hb hby at_216) rfl (teq (rfl : z53 = z53)).2 r) ?_
    refine Go.sp (g' := (mkF m 221 #[.val (.int p1), .val (.int p2), .val (.int p3), .val (.int p4), .val (.int p5), .val (.int p6), .val (.int (2 : Int32)), .val (.ref b51), .val (.ref b58), .val (.int (p6.toInt8.toInt32)), .val (.int (((p6.toUInt32 >>> ((8 : Int32) &&& 31).toUInt32).toInt32).toInt8.toInt32)), .val (.ref b73), .val (.ref b58), .val (.ref b76)] [(.ref b58)])) (fun T A t r => XS.aload A hx rfl (hb hby at_219) rfl rfl r) ?_
    refine Go.sp (g' := (mkF m 223 #[.val (.int p1), .val (.int p2), .val (.int p3), .val (.int p4), .val (.int p5), .val (.int p6), .val (.int (2 : Int32)), .val (.ref b51), .val (.ref b58), .val (.int (p6.toInt8.toInt32)), .val (.int (((p6.toUInt32 >>> ((8 : Int32) &&& 31).toUInt32).toInt32).toInt8.toInt32)), .val (.ref b73), .val (.ref b58), .val (.ref b76)] [(.int (2 : Int32)), (.ref b58)])) (fun T A t r => XS.iload A hx rfl (hb hby at_221) rfl r) ?_
    refine Go.sp (g' := (mkF m 224 #[.val (.int p1), .val (.int p2), .val (.int p3), .val (.int p4), .val (.int p5), .val (.int p6), .val (.int (2 : Int32)), .val (.ref b51), .val (.ref b58), .val (.int (p6.toInt8.toInt32)), .val (.int (((p6.toUInt32 >>> ((8 : Int32) &&& 31).toUInt32).toInt32).toInt8.toInt32)), .val (.ref b73), .val (.ref b58), .val (.ref b76)] [(.int (1 : Int32)), (.int (2 : Int32)), (.ref b58)])) (fun T A t r => XS.iconst A hx rfl (hb hby at_223) r) ?_
    refine Go.sp (g' := (mkF m 225 #[.val (.int p1), .val (.int p2), .val (.int p3), .val (.int p4), .val (.int p5), .val (.int p6), .val (.int (2 : Int32)), .val (.ref b51), .val (.ref b58), .val (.int (p6.toInt8.toInt32)), .val (.int (((p6.toUInt32 >>> ((8 : Int32) &&& 31).toUInt32).toInt32).toInt8.toInt32)), .val (.ref b73), .val (.ref b58), .val (.ref b76)] [(.int (1 : Int32)), (.ref b58)])) (fun T A t r => XS.isub A hx rfl (hb hby at_224) rfl r) ?_
    refine Go.callVP (a := b58) (z := (⟨"java/lang/String", "charAt", "(I)C"⟩ : MethodName)) (W := 0) (y := (⟨"java/lang/String", "charAt", "(I)C"⟩ : MethodName)) (argsL := [(.int (1 : Int32))]) (rest := []) (pc' := 228) (hb hby at_225) (own_w hw 148 rfl) (own_w hw 69 rfl) (fun s' hZ => notFace_of_selects (args := #[]) (mvT hZ (own_w hw 71 rfl))) (own_w hw 71 rfl) (own_w hw 70 rfl) (by decide) (fun s' hZ => Bk.pure (StrChars.Road.chN (kI := 4) (cs := [z53, z56]) (i := 1) hZ (own_chwd hw) (own_w hw 7 rfl) f79 f82 f83 f86 (own_cod rfl lat61) (own_up lat61) (S0.ext O77.2) P0 (SF.ext O77.2) RF (by show 2 ≤ 4000; decide) (by show 1 < 2; decide) rfl (by decide) (by decide))) f79 (by rw [hml]; rfl) (lenOf pd_3 rfl) rfl (Nat.le_of_ble_eq_true rfl) rfl (by decide) (by decide) ?_
    rintro v93 rfl
    refine Go.cast (g' := (mkF m 228 #[.val (.int p1), .val (.int p2), .val (.int p3), .val (.int p4), .val (.int p5), .val (.int p6), .val (.int (2 : Int32)), .val (.ref b51), .val (.ref b58), .val (.int (p6.toInt8.toInt32)), .val (.int (((p6.toUInt32 >>> ((8 : Int32) &&& 31).toUInt32).toInt32).toInt8.toInt32)), .val (.ref b73), .val (.ref b58), .val (.ref b76)] [(.int z56)])) rfl ?_
    refine Go.sp (g' := (mkF m 230 #[.val (.int p1), .val (.int p2), .val (.int p3), .val (.int p4), .val (.int p5), .val (.int p6), .val (.int (2 : Int32)), .val (.ref b51), .val (.ref b58), .val (.int (p6.toInt8.toInt32)), .val (.int (((p6.toUInt32 >>> ((8 : Int32) &&& 31).toUInt32).toInt32).toInt8.toInt32)), .val (.ref b73), .val (.ref b58), .val (.ref b76)] [(.ref b51), (.int z56)])) (fun T A t r => XS.aload A hx rfl (hb hby at_228) rfl rfl r) ?_
    refine Go.sp (g' := (mkF m 232 #[.val (.int p1), .val (.int p2), .val (.int p3), .val (.int p4), .val (.int p5), .val (.int p6), .val (.int (2 : Int32)), .val (.ref b51), .val (.ref b58), .val (.int (p6.toInt8.toInt32)), .val (.int (((p6.toUInt32 >>> ((8 : Int32) &&& 31).toUInt32).toInt32).toInt8.toInt32)), .val (.ref b73), .val (.ref b58), .val (.ref b76)] [(.int (2 : Int32)), (.ref b51), (.int z56)])) (fun T A t r => XS.iload A hx rfl (hb hby at_230) rfl r) ?_
    refine Go.sp (g' := (mkF m 233 #[.val (.int p1), .val (.int p2), .val (.int p3), .val (.int p4), .val (.int p5), .val (.int p6), .val (.int (2 : Int32)), .val (.ref b51), .val (.ref b58), .val (.int (p6.toInt8.toInt32)), .val (.int (((p6.toUInt32 >>> ((8 : Int32) &&& 31).toUInt32).toInt32).toInt8.toInt32)), .val (.ref b73), .val (.ref b58), .val (.ref b76)] [(.int (1 : Int32)), (.int (2 : Int32)), (.ref b51), (.int z56)])) (fun T A t r => XS.iconst A hx rfl (hb hby at_232) r) ?_
    refine Go.sp (g' := (mkF m 234 #[.val (.int p1), .val (.int p2), .val (.int p3), .val (.int p4), .val (.int p5), .val (.int p6), .val (.int (2 : Int32)), .val (.ref b51), .val (.ref b58), .val (.int (p6.toInt8.toInt32)), .val (.int (((p6.toUInt32 >>> ((8 : Int32) &&& 31).toUInt32).toInt32).toInt8.toInt32)), .val (.ref b73), .val (.ref b58), .val (.ref b76)] [(.int (1 : Int32)), (.ref b51), (.int z56)])) (fun T A t r => XS.isub A hx rfl (hb hby at_233) rfl r) ?_
    refine Go.r (g' := (mkF m 235 #[.val (.int p1), .val (.int p2), .val (.int p3), .val (.int p4), .val (.int p5), .val (.int p6), .val (.int (2 : Int32)), .val (.ref b51), .val (.ref b58), .val (.int (p6.toInt8.toInt32)), .val (.int (((p6.toUInt32 >>> ((8 : Int32) &&& 31).toUInt32).toInt32).toInt8.toInt32)), .val (.ref b73), .val (.ref b58), .val (.ref b76)] [(.int z56), (.int z56)])) (fun s' T L X eT hZ t r => own_ldC X hx hZ eT f92 (j := (1 : Int32)) ⟨by decide, by decide⟩ (v := (.int z56)) rfl (g := (mkF m 234 #[.val (.int p1), .val (.int p2), .val (.int p3), .val (.int p4), .val (.int p5), .val (.int p6), .val (.int (2 : Int32)), .val (.ref b51), .val (.ref b58), .val (.int (p6.toInt8.toInt32)), .val (.int (((p6.toUInt32 >>> ((8 : Int32) &&& 31).toUInt32).toInt32).toInt8.toInt32)), .val (.ref b73), .val (.ref b58), .val (.ref b76)] [(.int (1 : Int32)), (.ref b51), (.int z56)])) rfl rfl (hb hby at_234) t r) ?_
    refine Go.sp (g' := (mkF m 238 #[.val (.int p1), .val (.int p2), .val (.int p3), .val (.int p4), .val (.int p5), .val (.int p6), .val (.int (2 : Int32)), .val (.ref b51), .val (.ref b58), .val (.int (p6.toInt8.toInt32)), .val (.int (((p6.toUInt32 >>> ((8 : Int32) &&& 31).toUInt32).toInt32).toInt8.toInt32)), .val (.ref b73), .val (.ref b58), .val (.ref b76)] [])) (fun T A t r => XS.icmpNo A hx rfl (hb hby at_235) rfl (teq (rfl : z56 = z56)).2 r) ?_
    refine Go.sp (g' := (mkF m 240 #[.val (.int p1), .val (.int p2), .val (.int p3), .val (.int p4), .val (.int p5), .val (.int p6), .val (.int (2 : Int32)), .val (.ref b51), .val (.ref b58), .val (.int (p6.toInt8.toInt32)), .val (.int (((p6.toUInt32 >>> ((8 : Int32) &&& 31).toUInt32).toInt32).toInt8.toInt32)), .val (.ref b73), .val (.ref b58), .val (.ref b76)] [(.ref b76)])) (fun T A t r => XS.aload A hx rfl (hb hby at_238) rfl rfl r) ?_
    refine Go.r (g' := (mkF m 241 #[.val (.int p1), .val (.int p2), .val (.int p3), .val (.int p4), .val (.int p5), .val (.int p6), .val (.int (2 : Int32)), .val (.ref b51), .val (.ref b58), .val (.int (p6.toInt8.toInt32)), .val (.int (((p6.toUInt32 >>> ((8 : Int32) &&& 31).toUInt32).toInt32).toInt8.toInt32)), .val (.ref b73), .val (.ref b58), .val (.ref b76)] [(.int (2 : Int32))])) (fun s' T L X eT hZ t r => own_len X hx hZ eT A76 (g := (mkF m 240 #[.val (.int p1), .val (.int p2), .val (.int p3), .val (.int p4), .val (.int p5), .val (.int p6), .val (.int (2 : Int32)), .val (.ref b51), .val (.ref b58), .val (.int (p6.toInt8.toInt32)), .val (.int (((p6.toUInt32 >>> ((8 : Int32) &&& 31).toUInt32).toInt32).toInt8.toInt32)), .val (.ref b73), .val (.ref b58), .val (.ref b76)] [(.ref b76)])) rfl rfl (hb hby at_240) t r) ?_
    refine Go.sp (g' := (mkF m 242 #[.val (.int p1), .val (.int p2), .val (.int p3), .val (.int p4), .val (.int p5), .val (.int p6), .val (.int (2 : Int32)), .val (.ref b51), .val (.ref b58), .val (.int (p6.toInt8.toInt32)), .val (.int (((p6.toUInt32 >>> ((8 : Int32) &&& 31).toUInt32).toInt32).toInt8.toInt32)), .val (.ref b73), .val (.ref b58), .val (.ref b76)] [(.int (2 : Int32)), (.int (2 : Int32))])) (fun T A t r => XS.iconst A hx rfl (hb hby at_241) r) ?_
    refine Go.sp (g' := (mkF m 245 #[.val (.int p1), .val (.int p2), .val (.int p3), .val (.int p4), .val (.int p5), .val (.int p6), .val (.int (2 : Int32)), .val (.ref b51), .val (.ref b58), .val (.int (p6.toInt8.toInt32)), .val (.int (((p6.toUInt32 >>> ((8 : Int32) &&& 31).toUInt32).toInt32).toInt8.toInt32)), .val (.ref b73), .val (.ref b58), .val (.ref b76)] [])) (fun T A t r => XS.icmpNo A hx rfl (hb hby at_242) rfl (teq (by decide : ((2 : Int32) = (2 : Int32)))).2 r) ?_
    refine Go.sp (g' := (mkF m 247 #[.val (.int p1), .val (.int p2), .val (.int p3), .val (.int p4), .val (.int p5), .val (.int p6), .val (.int (2 : Int32)), .val (.ref b51), .val (.ref b58), .val (.int (p6.toInt8.toInt32)), .val (.int (((p6.toUInt32 >>> ((8 : Int32) &&& 31).toUInt32).toInt32).toInt8.toInt32)), .val (.ref b73), .val (.ref b58), .val (.ref b76)] [(.ref b76)])) (fun T A t r => XS.aload A hx rfl (hb hby at_245) rfl rfl r) ?_
    refine Go.sp (g' := (mkF m 248 #[.val (.int p1), .val (.int p2), .val (.int p3), .val (.int p4), .val (.int p5), .val (.int p6), .val (.int (2 : Int32)), .val (.ref b51), .val (.ref b58), .val (.int (p6.toInt8.toInt32)), .val (.int (((p6.toUInt32 >>> ((8 : Int32) &&& 31).toUInt32).toInt32).toInt8.toInt32)), .val (.ref b73), .val (.ref b58), .val (.ref b76)] [(.int (0 : Int32)), (.ref b76)])) (fun T A t r => XS.iconst A hx rfl (hb hby at_247) r) ?_
    refine Go.r (g' := (mkF m 249 #[.val (.int p1), .val (.int p2), .val (.int p3), .val (.int p4), .val (.int p5), .val (.int p6), .val (.int (2 : Int32)), .val (.ref b51), .val (.ref b58), .val (.int (p6.toInt8.toInt32)), .val (.int (((p6.toUInt32 >>> ((8 : Int32) &&& 31).toUInt32).toInt32).toInt8.toInt32)), .val (.ref b73), .val (.ref b58), .val (.ref b76)] [(.int (p6.toInt8.toInt32))])) (fun s' T L X eT hZ t r => own_ldB X hx hZ eT A76 (j := (0 : Int32)) ⟨by decide, by decide⟩ (v := (.int (p6.toInt8.toInt32))) rfl (g := (mkF m 248 #[.val (.int p1), .val (.int p2), .val (.int p3), .val (.int p4), .val (.int p5), .val (.int p6), .val (.int (2 : Int32)), .val (.ref b51), .val (.ref b58), .val (.int (p6.toInt8.toInt32)), .val (.int (((p6.toUInt32 >>> ((8 : Int32) &&& 31).toUInt32).toInt32).toInt8.toInt32)), .val (.ref b73), .val (.ref b58), .val (.ref b76)] [(.int (0 : Int32)), (.ref b76)])) rfl rfl (hb hby at_248) t r) ?_
    refine Go.sp (g' := (mkF m 251 #[.val (.int p1), .val (.int p2), .val (.int p3), .val (.int p4), .val (.int p5), .val (.int p6), .val (.int (2 : Int32)), .val (.ref b51), .val (.ref b58), .val (.int (p6.toInt8.toInt32)), .val (.int (((p6.toUInt32 >>> ((8 : Int32) &&& 31).toUInt32).toInt32).toInt8.toInt32)), .val (.ref b73), .val (.ref b58), .val (.ref b76)] [(.int (p6.toInt8.toInt32)), (.int (p6.toInt8.toInt32))])) (fun T A t r => XS.iload A hx rfl (hb hby at_249) rfl r) ?_
    refine Go.sp (g' := (mkF m 254 #[.val (.int p1), .val (.int p2), .val (.int p3), .val (.int p4), .val (.int p5), .val (.int p6), .val (.int (2 : Int32)), .val (.ref b51), .val (.ref b58), .val (.int (p6.toInt8.toInt32)), .val (.int (((p6.toUInt32 >>> ((8 : Int32) &&& 31).toUInt32).toInt32).toInt8.toInt32)), .val (.ref b73), .val (.ref b58), .val (.ref b76)] [])) (fun T A t r => XS.icmpNo A hx rfl (hb hby at_251) rfl (teq (rfl : (p6.toInt8.toInt32) = (p6.toInt8.toInt32))).2 r) ?_
    refine Go.sp (g' := (mkF m 256 #[.val (.int p1), .val (.int p2), .val (.int p3), .val (.int p4), .val (.int p5), .val (.int p6), .val (.int (2 : Int32)), .val (.ref b51), .val (.ref b58), .val (.int (p6.toInt8.toInt32)), .val (.int (((p6.toUInt32 >>> ((8 : Int32) &&& 31).toUInt32).toInt32).toInt8.toInt32)), .val (.ref b73), .val (.ref b58), .val (.ref b76)] [(.ref b76)])) (fun T A t r => XS.aload A hx rfl (hb hby at_254) rfl rfl r) ?_
    refine Go.sp (g' := (mkF m 257 #[.val (.int p1), .val (.int p2), .val (.int p3), .val (.int p4), .val (.int p5), .val (.int p6), .val (.int (2 : Int32)), .val (.ref b51), .val (.ref b58), .val (.int (p6.toInt8.toInt32)), .val (.int (((p6.toUInt32 >>> ((8 : Int32) &&& 31).toUInt32).toInt32).toInt8.toInt32)), .val (.ref b73), .val (.ref b58), .val (.ref b76)] [(.int (1 : Int32)), (.ref b76)])) (fun T A t r => XS.iconst A hx rfl (hb hby at_256) r) ?_
    refine Go.r (g' := (mkF m 258 #[.val (.int p1), .val (.int p2), .val (.int p3), .val (.int p4), .val (.int p5), .val (.int p6), .val (.int (2 : Int32)), .val (.ref b51), .val (.ref b58), .val (.int (p6.toInt8.toInt32)), .val (.int (((p6.toUInt32 >>> ((8 : Int32) &&& 31).toUInt32).toInt32).toInt8.toInt32)), .val (.ref b73), .val (.ref b58), .val (.ref b76)] [(.int (((p6.toUInt32 >>> ((8 : Int32) &&& 31).toUInt32).toInt32).toInt8.toInt32))])) (fun s' T L X eT hZ t r => own_ldB X hx hZ eT A76 (j := (1 : Int32)) ⟨by decide, by decide⟩ (v := (.int (((p6.toUInt32 >>> ((8 : Int32) &&& 31).toUInt32).toInt32).toInt8.toInt32))) rfl (g := (mkF m 257 #[.val (.int p1), .val (.int p2), .val (.int p3), .val (.int p4), .val (.int p5), .val (.int p6), .val (.int (2 : Int32)), .val (.ref b51), .val (.ref b58), .val (.int (p6.toInt8.toInt32)), .val (.int (((p6.toUInt32 >>> ((8 : Int32) &&& 31).toUInt32).toInt32).toInt8.toInt32)), .val (.ref b73), .val (.ref b58), .val (.ref b76)] [(.int (1 : Int32)), (.ref b76)])) rfl rfl (hb hby at_257) t r) ?_
    refine Go.sp (g' := (mkF m 260 #[.val (.int p1), .val (.int p2), .val (.int p3), .val (.int p4), .val (.int p5), .val (.int p6), .val (.int (2 : Int32)), .val (.ref b51), .val (.ref b58), .val (.int (p6.toInt8.toInt32)), .val (.int (((p6.toUInt32 >>> ((8 : Int32) &&& 31).toUInt32).toInt32).toInt8.toInt32)), .val (.ref b73), .val (.ref b58), .val (.ref b76)] [(.int (((p6.toUInt32 >>> ((8 : Int32) &&& 31).toUInt32).toInt32).toInt8.toInt32)), (.int (((p6.toUInt32 >>> ((8 : Int32) &&& 31).toUInt32).toInt32).toInt8.toInt32))])) (fun T A t r => XS.iload A hx rfl (hb hby at_258) rfl r) ?_
    refine Go.sp (g' := (mkF m 263 #[.val (.int p1), .val (.int p2), .val (.int p3), .val (.int p4), .val (.int p5), .val (.int p6), .val (.int (2 : Int32)), .val (.ref b51), .val (.ref b58), .val (.int (p6.toInt8.toInt32)), .val (.int (((p6.toUInt32 >>> ((8 : Int32) &&& 31).toUInt32).toInt32).toInt8.toInt32)), .val (.ref b73), .val (.ref b58), .val (.ref b76)] [])) (fun T A t r => XS.icmpNo A hx rfl (hb hby at_260) rfl (teq (rfl : (((p6.toUInt32 >>> ((8 : Int32) &&& 31).toUInt32).toInt32).toInt8.toInt32) = (((p6.toUInt32 >>> ((8 : Int32) &&& 31).toUInt32).toInt32).toInt8.toInt32))).2 r) ?_
    refine Go.sp (g' := (mkF m 264 #[.val (.int p1), .val (.int p2), .val (.int p3), .val (.int p4), .val (.int p5), .val (.int p6), .val (.int (2 : Int32)), .val (.ref b51), .val (.ref b58), .val (.int (p6.toInt8.toInt32)), .val (.int (((p6.toUInt32 >>> ((8 : Int32) &&& 31).toUInt32).toInt32).toInt8.toInt32)), .val (.ref b73), .val (.ref b58), .val (.ref b76)] [(.int (1 : Int32))])) (fun T A t r => XS.iconst A hx rfl (hb hby at_263) r) ?_
    refine Go.sp (g' := (mkF m 268 #[.val (.int p1), .val (.int p2), .val (.int p3), .val (.int p4), .val (.int p5), .val (.int p6), .val (.int (2 : Int32)), .val (.ref b51), .val (.ref b58), .val (.int (p6.toInt8.toInt32)), .val (.int (((p6.toUInt32 >>> ((8 : Int32) &&& 31).toUInt32).toInt32).toInt8.toInt32)), .val (.ref b73), .val (.ref b58), .val (.ref b76)] [(.int (1 : Int32))])) (fun T A t r => XS.goto A hx rfl (pc0 := 264) (pc' := 268) rfl (hb hby at_264) (by decide) (by decide) r) ?_
    exact Go.ret (v := (some (.int (nar .boolean (1 : Int32))))) (fun s' T L fs X hr => retN X hx (t := .boolean) hret (by simp) (hb hby at_268) hr) (fun h => by rw [hret] at h; cases h) (by decide) (by decide) rfl
  · skip
    refine Go.cast (g' := (mkF m 4 #[.val (.int p1), .val (.int p2), .val (.int p3), .val (.int p4), .val (.int p5), .val (.int p6), .unset, .unset, .unset, .unset, .unset, .unset, .unset, .unset] [(.int (2 : Int32))])) (by rw [hn]) ?_
    refine Go.sp (g' := (mkF m 5 #[.val (.int p1), .val (.int p2), .val (.int p3), .val (.int p4), .val (.int p5), .val (.int p6), .unset, .unset, .unset, .unset, .unset, .unset, .unset, .unset] [(.int (1 : Int32)), (.int (2 : Int32))])) (fun T A t r => XS.iconst A hx rfl (hb hby at_4) r) ?_
    refine Go.sp (g' := (mkF m 6 #[.val (.int p1), .val (.int p2), .val (.int p3), .val (.int p4), .val (.int p5), .val (.int p6), .unset, .unset, .unset, .unset, .unset, .unset, .unset, .unset] [(.int (3 : Int32))])) (fun T A t r => XS.iadd A hx rfl (hb hby at_5) rfl r) ?_
    refine Go.sp (g' := (mkF m 8 #[.val (.int p1), .val (.int p2), .val (.int p3), .val (.int p4), .val (.int p5), .val (.int p6), .val (.int (3 : Int32)), .unset, .unset, .unset, .unset, .unset, .unset, .unset] [])) (fun T A t r => XS.istore A hx rfl (hb hby at_6) rfl (l' := #[.val (.int p1), .val (.int p2), .val (.int p3), .val (.int p4), .val (.int p5), .val (.int p6), .val (.int (3 : Int32)), .unset, .unset, .unset, .unset, .unset, .unset, .unset]) rfl r) ?_
    refine Go.sp (g' := (mkF m 10 #[.val (.int p1), .val (.int p2), .val (.int p3), .val (.int p4), .val (.int p5), .val (.int p6), .val (.int (3 : Int32)), .unset, .unset, .unset, .unset, .unset, .unset, .unset] [(.int (3 : Int32))])) (fun T A t r => XS.iload A hx rfl (hb hby at_8) rfl r) ?_
    refine Go.sp (g' := (mkF m 11 #[.val (.int p1), .val (.int p2), .val (.int p3), .val (.int p4), .val (.int p5), .val (.int p6), .val (.int (3 : Int32)), .unset, .unset, .unset, .unset, .unset, .unset, .unset] [(.int (1 : Int32)), (.int (3 : Int32))])) (fun T A t r => XS.iconst A hx rfl (hb hby at_10) r) ?_
    refine Go.sp (g' := (mkF m 29 #[.val (.int p1), .val (.int p2), .val (.int p3), .val (.int p4), .val (.int p5), .val (.int p6), .val (.int (3 : Int32)), .unset, .unset, .unset, .unset, .unset, .unset, .unset] [])) (fun T A t r => XS.icmpYes A hx rfl (pc0 := 11) (pc' := 29) rfl (hb hby at_11) rfl (feq (by decide : ¬ ((3 : Int32) = (1 : Int32)))).2 (by decide) (by decide) r) ?_
    refine Go.sp (g' := (mkF m 31 #[.val (.int p1), .val (.int p2), .val (.int p3), .val (.int p4), .val (.int p5), .val (.int p6), .val (.int (3 : Int32)), .unset, .unset, .unset, .unset, .unset, .unset, .unset] [(.int (3 : Int32))])) (fun T A t r => XS.iload A hx rfl (hb hby at_29) rfl r) ?_
    refine Go.sp (g' := (mkF m 32 #[.val (.int p1), .val (.int p2), .val (.int p3), .val (.int p4), .val (.int p5), .val (.int p6), .val (.int (3 : Int32)), .unset, .unset, .unset, .unset, .unset, .unset, .unset] [(.int (2 : Int32)), (.int (3 : Int32))])) (fun T A t r => XS.iconst A hx rfl (hb hby at_31) r) ?_
    refine Go.sp (g' := (mkF m 57 #[.val (.int p1), .val (.int p2), .val (.int p3), .val (.int p4), .val (.int p5), .val (.int p6), .val (.int (3 : Int32)), .unset, .unset, .unset, .unset, .unset, .unset, .unset] [])) (fun T A t r => XS.icmpYes A hx rfl (pc0 := 32) (pc' := 57) rfl (hb hby at_32) rfl (feq (by decide : ¬ ((3 : Int32) = (2 : Int32)))).2 (by decide) (by decide) r) ?_
    refine Go.sp (g' := (mkF m 59 #[.val (.int p1), .val (.int p2), .val (.int p3), .val (.int p4), .val (.int p5), .val (.int p6), .val (.int (3 : Int32)), .unset, .unset, .unset, .unset, .unset, .unset, .unset] [(.int (3 : Int32))])) (fun T A t r => XS.iload A hx rfl (hb hby at_57) rfl r) ?_
    refine Go.sp (g' := (mkF m 60 #[.val (.int p1), .val (.int p2), .val (.int p3), .val (.int p4), .val (.int p5), .val (.int p6), .val (.int (3 : Int32)), .unset, .unset, .unset, .unset, .unset, .unset, .unset] [(.int (3 : Int32)), (.int (3 : Int32))])) (fun T A t r => XS.iconst A hx rfl (hb hby at_59) r) ?_
    refine Go.sp (g' := (mkF m 63 #[.val (.int p1), .val (.int p2), .val (.int p3), .val (.int p4), .val (.int p5), .val (.int p6), .val (.int (3 : Int32)), .unset, .unset, .unset, .unset, .unset, .unset, .unset] [])) (fun T A t r => XS.icmpNo A hx rfl (hb hby at_60) rfl (teq (by decide : ((3 : Int32) = (3 : Int32)))).2 r) ?_
    refine Go.sp (g' := (mkF m 64 #[.val (.int p1), .val (.int p2), .val (.int p3), .val (.int p4), .val (.int p5), .val (.int p6), .val (.int (3 : Int32)), .unset, .unset, .unset, .unset, .unset, .unset, .unset] [(.int (3 : Int32))])) (fun T A t r => XS.iconst A hx rfl (hb hby at_63) r) ?_
    refine Go.newP (ty := .char) (dv := (.int (0 : Int32))) (cap := 3) (k' := 1) (n' := 3) (pc' := 66) (hb hby at_64) rfl rfl (own_w hw 0 rfl) (by decide) (by decide) (by decide) rfl rfl rfl (by decide) (by decide) ?_
    intro b94 h94 k94 g94 sz94 E94 A94
    have V94 : Arv Z h94 b94 k94 .char (3 : Int32) [(.int (0 : Int32)), (.int (0 : Int32)), (.int (0 : Int32))] (.int (0 : Int32)) := A94.pad (pad_rep [] (.int (0 : Int32)) 3)
    refine Go.sp (g' := (mkF m 67 #[.val (.int p1), .val (.int p2), .val (.int p3), .val (.int p4), .val (.int p5), .val (.int p6), .val (.int (3 : Int32)), .unset, .unset, .unset, .unset, .unset, .unset, .unset] [(.ref b94), (.ref b94)])) (fun T A t r => XS.dup A hx rfl (hb hby at_66) rfl rfl r) ?_
    refine Go.sp (g' := (mkF m 68 #[.val (.int p1), .val (.int p2), .val (.int p3), .val (.int p4), .val (.int p5), .val (.int p6), .val (.int (3 : Int32)), .unset, .unset, .unset, .unset, .unset, .unset, .unset] [(.int (0 : Int32)), (.ref b94), (.ref b94)])) (fun T A t r => XS.iconst A hx rfl (hb hby at_67) r) ?_
    refine Go.sp (g' := (mkF m 69 #[.val (.int p1), .val (.int p2), .val (.int p3), .val (.int p4), .val (.int p5), .val (.int p6), .val (.int (3 : Int32)), .unset, .unset, .unset, .unset, .unset, .unset, .unset] [(.int p1), (.int (0 : Int32)), (.ref b94), (.ref b94)])) (fun T A t r => XS.iloadN A hx rfl (hb hby at_68) rfl r) ?_
    refine Go.old fun O95 => ?_
    refine Go.callSPW (W := 3) (y := (⟨"com/example/kept_outbox/keptoutbox/api/MessageToPinLaw", "allowed", "(I)C"⟩ : MethodName)) (argsL := [(.int p1)]) (rest := [(.int (0 : Int32)), (.ref b94), (.ref b94)]) (pc' := 72) (k' := 1) (n' := 3) (hb hby at_69) (own_w hw 1 rfl) (own_w hw 2 rfl) (own_w hw 3 rfl) (own_w hw 4 rfl) (by decide) (rmA l Z a0 hw [] p1 h94 n0 O95) (own_w hw 4 rfl) (own_w hw 3 rfl) (by decide) (by decide) (by rw [hml]; rfl) (lenOf pd_3 rfl) rfl (Nat.le_of_ble_eq_true rfl) rfl rfl rfl (by decide) (by decide) ?_
    rintro v96 ⟨z96, rfl, al96⟩
    refine Go.cast (g' := (mkF m 72 #[.val (.int p1), .val (.int p2), .val (.int p3), .val (.int p4), .val (.int p5), .val (.int p6), .val (.int (3 : Int32)), .unset, .unset, .unset, .unset, .unset, .unset, .unset] [(.int z96), (.int (0 : Int32)), (.ref b94), (.ref b94)])) rfl ?_
    refine Go.w (g' := (mkF m 73 #[.val (.int p1), .val (.int p2), .val (.int p3), .val (.int p4), .val (.int p5), .val (.int p6), .val (.int (3 : Int32)), .unset, .unset, .unset, .unset, .unset, .unset, .unset] [(.ref b94)])) (fun s' T L X eT hZ hown => own_stC X hx hZ eT V94 (j := (0 : Int32)) ⟨by decide, by decide⟩ (g := (mkF m 72 #[.val (.int p1), .val (.int p2), .val (.int p3), .val (.int p4), .val (.int p5), .val (.int p6), .val (.int (3 : Int32)), .unset, .unset, .unset, .unset, .unset, .unset, .unset] [(.int z96), (.int (0 : Int32)), (.ref b94), (.ref b94)])) rfl rfl (hb hby at_72)) (Or.inr sz94) (Or.inr SafeA.nil) ?_
    intro h97 W97
    have V97 : Arv Z h97 b94 k94 .char (3 : Int32) [(.int z96), (.int (0 : Int32)), (.int (0 : Int32))] (.int (0 : Int32)) := own_set V94 (fits_nar_char _) W97 (congrArg Value.int (own_nar (own_alb al96))) 0 rfl (Nat.le_of_ble_eq_true rfl)
    refine Go.sp (g' := (mkF m 74 #[.val (.int p1), .val (.int p2), .val (.int p3), .val (.int p4), .val (.int p5), .val (.int p6), .val (.int (3 : Int32)), .unset, .unset, .unset, .unset, .unset, .unset, .unset] [(.ref b94), (.ref b94)])) (fun T A t r => XS.dup A hx rfl (hb hby at_73) rfl rfl r) ?_
    refine Go.sp (g' := (mkF m 75 #[.val (.int p1), .val (.int p2), .val (.int p3), .val (.int p4), .val (.int p5), .val (.int p6), .val (.int (3 : Int32)), .unset, .unset, .unset, .unset, .unset, .unset, .unset] [(.int (1 : Int32)), (.ref b94), (.ref b94)])) (fun T A t r => XS.iconst A hx rfl (hb hby at_74) r) ?_
    refine Go.sp (g' := (mkF m 76 #[.val (.int p1), .val (.int p2), .val (.int p3), .val (.int p4), .val (.int p5), .val (.int p6), .val (.int (3 : Int32)), .unset, .unset, .unset, .unset, .unset, .unset, .unset] [(.int p2), (.int (1 : Int32)), (.ref b94), (.ref b94)])) (fun T A t r => XS.iloadN A hx rfl (hb hby at_75) rfl r) ?_
    refine Go.old fun O98 => ?_
    refine Go.callSPW (W := 3) (y := (⟨"com/example/kept_outbox/keptoutbox/api/MessageToPinLaw", "allowed", "(I)C"⟩ : MethodName)) (argsL := [(.int p2)]) (rest := [(.int (1 : Int32)), (.ref b94), (.ref b94)]) (pc' := 79) (k' := 1) (n' := 3) (hb hby at_76) (own_w hw 1 rfl) (own_w hw 2 rfl) (own_w hw 3 rfl) (own_w hw 4 rfl) (by decide) (rmA l Z a0 hw [] p2 h97 n0 O98) (own_w hw 4 rfl) (own_w hw 3 rfl) (by decide) (by decide) (by rw [hml]; rfl) (lenOf pd_3 rfl) rfl (Nat.le_of_ble_eq_true rfl) rfl rfl rfl (by decide) (by decide) ?_
    rintro v99 ⟨z99, rfl, al99⟩
    refine Go.cast (g' := (mkF m 79 #[.val (.int p1), .val (.int p2), .val (.int p3), .val (.int p4), .val (.int p5), .val (.int p6), .val (.int (3 : Int32)), .unset, .unset, .unset, .unset, .unset, .unset, .unset] [(.int z99), (.int (1 : Int32)), (.ref b94), (.ref b94)])) rfl ?_
    refine Go.w (g' := (mkF m 80 #[.val (.int p1), .val (.int p2), .val (.int p3), .val (.int p4), .val (.int p5), .val (.int p6), .val (.int (3 : Int32)), .unset, .unset, .unset, .unset, .unset, .unset, .unset] [(.ref b94)])) (fun s' T L X eT hZ hown => own_stC X hx hZ eT V97 (j := (1 : Int32)) ⟨by decide, by decide⟩ (g := (mkF m 79 #[.val (.int p1), .val (.int p2), .val (.int p3), .val (.int p4), .val (.int p5), .val (.int p6), .val (.int (3 : Int32)), .unset, .unset, .unset, .unset, .unset, .unset, .unset] [(.int z99), (.int (1 : Int32)), (.ref b94), (.ref b94)])) rfl rfl (hb hby at_79)) (Or.inr sz94) (Or.inr SafeA.nil) ?_
    intro h100 W100
    have V100 : Arv Z h100 b94 k94 .char (3 : Int32) [(.int z96), (.int z99), (.int (0 : Int32))] (.int (0 : Int32)) := own_set V97 (fits_nar_char _) W100 (congrArg Value.int (own_nar (own_alb al99))) 1 rfl (Nat.le_of_ble_eq_true rfl)
    refine Go.sp (g' := (mkF m 81 #[.val (.int p1), .val (.int p2), .val (.int p3), .val (.int p4), .val (.int p5), .val (.int p6), .val (.int (3 : Int32)), .unset, .unset, .unset, .unset, .unset, .unset, .unset] [(.ref b94), (.ref b94)])) (fun T A t r => XS.dup A hx rfl (hb hby at_80) rfl rfl r) ?_
    refine Go.sp (g' := (mkF m 82 #[.val (.int p1), .val (.int p2), .val (.int p3), .val (.int p4), .val (.int p5), .val (.int p6), .val (.int (3 : Int32)), .unset, .unset, .unset, .unset, .unset, .unset, .unset] [(.int (2 : Int32)), (.ref b94), (.ref b94)])) (fun T A t r => XS.iconst A hx rfl (hb hby at_81) r) ?_
    refine Go.sp (g' := (mkF m 83 #[.val (.int p1), .val (.int p2), .val (.int p3), .val (.int p4), .val (.int p5), .val (.int p6), .val (.int (3 : Int32)), .unset, .unset, .unset, .unset, .unset, .unset, .unset] [(.int p3), (.int (2 : Int32)), (.ref b94), (.ref b94)])) (fun T A t r => XS.iloadN A hx rfl (hb hby at_82) rfl r) ?_
    refine Go.old fun O101 => ?_
    refine Go.callSPW (W := 3) (y := (⟨"com/example/kept_outbox/keptoutbox/api/MessageToPinLaw", "allowed", "(I)C"⟩ : MethodName)) (argsL := [(.int p3)]) (rest := [(.int (2 : Int32)), (.ref b94), (.ref b94)]) (pc' := 86) (k' := 1) (n' := 3) (hb hby at_83) (own_w hw 1 rfl) (own_w hw 2 rfl) (own_w hw 3 rfl) (own_w hw 4 rfl) (by decide) (rmA l Z a0 hw [] p3 h100 n0 O101) (own_w hw 4 rfl) (own_w hw 3 rfl) (by decide) (by decide) (by rw [hml]; rfl) (lenOf pd_3 rfl) rfl (Nat.le_of_ble_eq_true rfl) rfl rfl rfl (by decide) (by decide) ?_
    rintro v102 ⟨z102, rfl, al102⟩
    refine Go.cast (g' := (mkF m 86 #[.val (.int p1), .val (.int p2), .val (.int p3), .val (.int p4), .val (.int p5), .val (.int p6), .val (.int (3 : Int32)), .unset, .unset, .unset, .unset, .unset, .unset, .unset] [(.int z102), (.int (2 : Int32)), (.ref b94), (.ref b94)])) rfl ?_
    refine Go.w (g' := (mkF m 87 #[.val (.int p1), .val (.int p2), .val (.int p3), .val (.int p4), .val (.int p5), .val (.int p6), .val (.int (3 : Int32)), .unset, .unset, .unset, .unset, .unset, .unset, .unset] [(.ref b94)])) (fun s' T L X eT hZ hown => own_stC X hx hZ eT V100 (j := (2 : Int32)) ⟨by decide, by decide⟩ (g := (mkF m 86 #[.val (.int p1), .val (.int p2), .val (.int p3), .val (.int p4), .val (.int p5), .val (.int p6), .val (.int (3 : Int32)), .unset, .unset, .unset, .unset, .unset, .unset, .unset] [(.int z102), (.int (2 : Int32)), (.ref b94), (.ref b94)])) rfl rfl (hb hby at_86)) (Or.inr sz94) (Or.inr SafeA.nil) ?_
    intro h103 W103
    have V103 : Arv Z h103 b94 k94 .char (3 : Int32) [(.int z96), (.int z99), (.int z102)] (.int (0 : Int32)) := own_set V100 (fits_nar_char _) W103 (congrArg Value.int (own_nar (own_alb al102))) 2 rfl (Nat.le_of_ble_eq_true rfl)
    refine Go.sp (g' := (mkF m 89 #[.val (.int p1), .val (.int p2), .val (.int p3), .val (.int p4), .val (.int p5), .val (.int p6), .val (.int (3 : Int32)), .val (.ref b94), .unset, .unset, .unset, .unset, .unset, .unset] [])) (fun T A t r => XS.astore A hx rfl (hb hby at_87) rfl rfl (l' := #[.val (.int p1), .val (.int p2), .val (.int p3), .val (.int p4), .val (.int p5), .val (.int p6), .val (.int (3 : Int32)), .val (.ref b94), .unset, .unset, .unset, .unset, .unset, .unset]) rfl r) ?_
    refine Go.sp (g' := (mkF m 125 #[.val (.int p1), .val (.int p2), .val (.int p3), .val (.int p4), .val (.int p5), .val (.int p6), .val (.int (3 : Int32)), .val (.ref b94), .unset, .unset, .unset, .unset, .unset, .unset] [])) (fun T A t r => XS.goto A hx rfl (pc0 := 89) (pc' := 125) rfl (hb hby at_89) (by decide) (by decide) r) ?_
    refine Go.newO (k' := 2) (n' := 7) (pc' := 128) (hb hby at_125) (own_w hw 6 rfl) (own_w hw 7 rfl) (own_w hw 8 rfl) rfl rfl rfl (by decide) (by decide) ?_
    intro b104 h104 g104 sz104 E104 A104 D104
    have F104_coder : Fld Z h104 b104 "java/lang/String" "coder" "B" (.int (0 : Int32)) := D104 (Or.inr (own_w hw 32 rfl)) (ty := .byte) (by decide)
    have F104_value : Fld Z h104 b104 "java/lang/String" "value" "[B" .null := D104 (Or.inr (own_w hw 34 rfl)) (ty := (.array .byte)) (by decide)
    refine Go.sp (g' := (mkF m 129 #[.val (.int p1), .val (.int p2), .val (.int p3), .val (.int p4), .val (.int p5), .val (.int p6), .val (.int (3 : Int32)), .val (.ref b94), .unset, .unset, .unset, .unset, .unset, .unset] [(.ref b104), (.ref b104)])) (fun T A t r => XS.dup A hx rfl (hb hby at_128) rfl rfl r) ?_
    refine Go.sp (g' := (mkF m 131 #[.val (.int p1), .val (.int p2), .val (.int p3), .val (.int p4), .val (.int p5), .val (.int p6), .val (.int (3 : Int32)), .val (.ref b94), .unset, .unset, .unset, .unset, .unset, .unset] [(.ref b94), (.ref b104), (.ref b104)])) (fun T A t r => XS.aload A hx rfl (hb hby at_129) rfl rfl r) ?_
    have f105 := (V103.ext E104)
    refine Go.old fun O106 => ?_
    have lat107 : ∀ c ∈ [z96, z99, z102], ¬ c < 0 ∧ ¬ (255 : Int32) < c := own_allc (own_alb al96) (own_allc (own_alb al99) (own_allc (own_alb al102) (own_allc0)))
    refine Go.callC (a := b104) (ws' := [b104]) (W := 1) (y := (⟨"java/lang/String", "<init>", "([C)V"⟩ : MethodName)) (argsL := [(.ref b94)]) (rest := [(.ref b104)]) (pc' := 134) (k' := 3) (n' := 10) (hb hby at_131) rfl (own_w hw 9 rfl) (own_w hw 10 rfl) (own_w hw 11 rfl) (by decide) (fun s' hZ => own_str hw (own_w hw 7 rfl) hZ (cs := [z96, z99, z102]) (n := 3) (Nat.le_trans (Old.le O0) sz104) O106 A104 F104_value F104_coder f105 S0 P0 rfl rfl (by decide) (by decide) lat107 (by decide) (by decide)) (by rw [hml]; rfl) (lenOf pd_9 rfl) rfl (Nat.le_of_ble_eq_true rfl) rfl rfl rfl (by decide) (by decide) (allS (Or.inr sz104) all0) (allS (Or.inr SafeA.nil) all0) ?_
    rintro v108 h108 K108 ⟨rfl, E108, C108, t108, kb108, ge108, V108, B108⟩
    refine Go.cast (g' := (mkF m 134 #[.val (.int p1), .val (.int p2), .val (.int p3), .val (.int p4), .val (.int p5), .val (.int p6), .val (.int (3 : Int32)), .val (.ref b94), .unset, .unset, .unset, .unset, .unset, .unset] [(.ref b104)])) rfl ?_
    refine Go.sp (g' := (mkF m 136 #[.val (.int p1), .val (.int p2), .val (.int p3), .val (.int p4), .val (.int p5), .val (.int p6), .val (.int (3 : Int32)), .val (.ref b94), .val (.ref b104), .unset, .unset, .unset, .unset, .unset] [])) (fun T A t r => XS.astore A hx rfl (hb hby at_134) rfl rfl (l' := #[.val (.int p1), .val (.int p2), .val (.int p3), .val (.int p4), .val (.int p5), .val (.int p6), .val (.int (3 : Int32)), .val (.ref b94), .val (.ref b104), .unset, .unset, .unset, .unset, .unset]) rfl r) ?_
    refine Go.sp (g' := (mkF m 138 #[.val (.int p1), .val (.int p2), .val (.int p3), .val (.int p4), .val (.int p5), .val (.int p6), .val (.int (3 : Int32)), .val (.ref b94), .val (.ref b104), .unset, .unset, .unset, .unset, .unset] [(.int p6)])) (fun T A t r => XS.iload A hx rfl (hb hby at_136) rfl r) ?_
    refine Go.sp (g' := (mkF m 139 #[.val (.int p1), .val (.int p2), .val (.int p3), .val (.int p4), .val (.int p5), .val (.int p6), .val (.int (3 : Int32)), .val (.ref b94), .val (.ref b104), .unset, .unset, .unset, .unset, .unset] [(.int (p6.toInt8.toInt32))])) (fun T A t r => XS.i2b A hx rfl (hb hby at_138) rfl r) ?_
    refine Go.sp (g' := (mkF m 141 #[.val (.int p1), .val (.int p2), .val (.int p3), .val (.int p4), .val (.int p5), .val (.int p6), .val (.int (3 : Int32)), .val (.ref b94), .val (.ref b104), .val (.int (p6.toInt8.toInt32)), .unset, .unset, .unset, .unset] [])) (fun T A t r => XS.istore A hx rfl (hb hby at_139) rfl (l' := #[.val (.int p1), .val (.int p2), .val (.int p3), .val (.int p4), .val (.int p5), .val (.int p6), .val (.int (3 : Int32)), .val (.ref b94), .val (.ref b104), .val (.int (p6.toInt8.toInt32)), .unset, .unset, .unset, .unset]) rfl r) ?_
    refine Go.sp (g' := (mkF m 143 #[.val (.int p1), .val (.int p2), .val (.int p3), .val (.int p4), .val (.int p5), .val (.int p6), .val (.int (3 : Int32)), .val (.ref b94), .val (.ref b104), .val (.int (p6.toInt8.toInt32)), .unset, .unset, .unset, .unset] [(.int p6)])) (fun T A t r => XS.iload A hx rfl (hb hby at_141) rfl r) ?_
    refine Go.sp (g' := (mkF m 145 #[.val (.int p1), .val (.int p2), .val (.int p3), .val (.int p4), .val (.int p5), .val (.int p6), .val (.int (3 : Int32)), .val (.ref b94), .val (.ref b104), .val (.int (p6.toInt8.toInt32)), .unset, .unset, .unset, .unset] [(.int (8 : Int32)), (.int p6)])) (fun T A t r => XS.bipush A hx rfl (hb hby at_143) r) ?_
    refine Go.sp (g' := (mkF m 146 #[.val (.int p1), .val (.int p2), .val (.int p3), .val (.int p4), .val (.int p5), .val (.int p6), .val (.int (3 : Int32)), .val (.ref b94), .val (.ref b104), .val (.int (p6.toInt8.toInt32)), .unset, .unset, .unset, .unset] [(.int ((p6.toUInt32 >>> ((8 : Int32) &&& 31).toUInt32).toInt32))])) (fun T A t r => XS.iushr A hx rfl (hb hby at_145) rfl r) ?_
    refine Go.sp (g' := (mkF m 147 #[.val (.int p1), .val (.int p2), .val (.int p3), .val (.int p4), .val (.int p5), .val (.int p6), .val (.int (3 : Int32)), .val (.ref b94), .val (.ref b104), .val (.int (p6.toInt8.toInt32)), .unset, .unset, .unset, .unset] [(.int (((p6.toUInt32 >>> ((8 : Int32) &&& 31).toUInt32).toInt32).toInt8.toInt32))])) (fun T A t r => XS.i2b A hx rfl (hb hby at_146) rfl r) ?_
    refine Go.sp (g' := (mkF m 149 #[.val (.int p1), .val (.int p2), .val (.int p3), .val (.int p4), .val (.int p5), .val (.int p6), .val (.int (3 : Int32)), .val (.ref b94), .val (.ref b104), .val (.int (p6.toInt8.toInt32)), .val (.int (((p6.toUInt32 >>> ((8 : Int32) &&& 31).toUInt32).toInt32).toInt8.toInt32)), .unset, .unset, .unset] [])) (fun T A t r => XS.istore A hx rfl (hb hby at_147) rfl (l' := #[.val (.int p1), .val (.int p2), .val (.int p3), .val (.int p4), .val (.int p5), .val (.int p6), .val (.int (3 : Int32)), .val (.ref b94), .val (.ref b104), .val (.int (p6.toInt8.toInt32)), .val (.int (((p6.toUInt32 >>> ((8 : Int32) &&& 31).toUInt32).toInt32).toInt8.toInt32)), .unset, .unset, .unset]) rfl r) ?_
    refine Go.sp (g' := (mkF m 151 #[.val (.int p1), .val (.int p2), .val (.int p3), .val (.int p4), .val (.int p5), .val (.int p6), .val (.int (3 : Int32)), .val (.ref b94), .val (.ref b104), .val (.int (p6.toInt8.toInt32)), .val (.int (((p6.toUInt32 >>> ((8 : Int32) &&& 31).toUInt32).toInt32).toInt8.toInt32)), .unset, .unset, .unset] [(.ref b104)])) (fun T A t r => XS.aload A hx rfl (hb hby at_149) rfl rfl r) ?_
    refine Go.old fun O109 => ?_
    refine Go.callSW (ws' := []) (W := 0) (y := (⟨"com/example/kept_outbox/keptoutbox/api/Message", "to", "(Ljava/lang/String;)Lcom/example/kept_outbox/keptoutbox/api/Message$Builder;"⟩ : MethodName)) (argsL := [(.ref b104)]) (rest := []) (pc' := 154) (k' := 6) (n' := 147) (hb hby at_151) (own_w hw 35 rfl) (own_w hw 36 rfl) (own_w hw 37 rfl) (own_w hw 38 rfl) (by decide) (rmT3 l Z a0 hw [] b104 t108 kb108 z96 z99 z102 zS fm h108 n0 O109 E108 C108 V108 B108 al96 al99 al102 S0 P0 SF RF) (own_w hw 38 rfl) (own_w hw 37 rfl) (by decide) (by decide) (by rw [hml]; rfl) (lenOf pd_10 rfl) rfl (Nat.le_of_ble_eq_true rfl) rfl rfl rfl (by decide) (by decide) all0 ?_
    rintro v110 h110 K110 ⟨b110, rfl, E110, F110⟩
    refine Go.cast (g' := (mkF m 154 #[.val (.int p1), .val (.int p2), .val (.int p3), .val (.int p4), .val (.int p5), .val (.int p6), .val (.int (3 : Int32)), .val (.ref b94), .val (.ref b104), .val (.int (p6.toInt8.toInt32)), .val (.int (((p6.toUInt32 >>> ((8 : Int32) &&& 31).toUInt32).toInt32).toInt8.toInt32)), .unset, .unset, .unset] [(.ref b110)])) rfl ?_
    refine Go.sp (g' := (mkF m 155 #[.val (.int p1), .val (.int p2), .val (.int p3), .val (.int p4), .val (.int p5), .val (.int p6), .val (.int (3 : Int32)), .val (.ref b94), .val (.ref b104), .val (.int (p6.toInt8.toInt32)), .val (.int (((p6.toUInt32 >>> ((8 : Int32) &&& 31).toUInt32).toInt32).toInt8.toInt32)), .unset, .unset, .unset] [(.int (2 : Int32)), (.ref b110)])) (fun T A t r => XS.iconst A hx rfl (hb hby at_154) r) ?_
    refine Go.newPE (ty := .byte) (dv := (.int (0 : Int32))) (ad := "[B") (cap := 2) (k' := 7) (n' := 149) (pc' := 157) (hb hby at_155) rfl rfl (by decide) (own_w hw 24 rfl) (by decide) (by decide) (by decide) rfl rfl rfl (by decide) (by decide) ?_
    intro b111 h111 k111 g111 sz111 E111 A111 D111
    have V111 : Arv Z h111 b111 k111 .byte (2 : Int32) [(.int (0 : Int32)), (.int (0 : Int32))] (.int (0 : Int32)) := A111.pad (pad_rep [] (.int (0 : Int32)) 2)
    refine Go.sp (g' := (mkF m 158 #[.val (.int p1), .val (.int p2), .val (.int p3), .val (.int p4), .val (.int p5), .val (.int p6), .val (.int (3 : Int32)), .val (.ref b94), .val (.ref b104), .val (.int (p6.toInt8.toInt32)), .val (.int (((p6.toUInt32 >>> ((8 : Int32) &&& 31).toUInt32).toInt32).toInt8.toInt32)), .unset, .unset, .unset] [(.ref b111), (.ref b111), (.ref b110)])) (fun T A t r => XS.dup A hx rfl (hb hby at_157) rfl rfl r) ?_
    refine Go.sp (g' := (mkF m 159 #[.val (.int p1), .val (.int p2), .val (.int p3), .val (.int p4), .val (.int p5), .val (.int p6), .val (.int (3 : Int32)), .val (.ref b94), .val (.ref b104), .val (.int (p6.toInt8.toInt32)), .val (.int (((p6.toUInt32 >>> ((8 : Int32) &&& 31).toUInt32).toInt32).toInt8.toInt32)), .unset, .unset, .unset] [(.int (0 : Int32)), (.ref b111), (.ref b111), (.ref b110)])) (fun T A t r => XS.iconst A hx rfl (hb hby at_158) r) ?_
    refine Go.sp (g' := (mkF m 161 #[.val (.int p1), .val (.int p2), .val (.int p3), .val (.int p4), .val (.int p5), .val (.int p6), .val (.int (3 : Int32)), .val (.ref b94), .val (.ref b104), .val (.int (p6.toInt8.toInt32)), .val (.int (((p6.toUInt32 >>> ((8 : Int32) &&& 31).toUInt32).toInt32).toInt8.toInt32)), .unset, .unset, .unset] [(.int (p6.toInt8.toInt32)), (.int (0 : Int32)), (.ref b111), (.ref b111), (.ref b110)])) (fun T A t r => XS.iload A hx rfl (hb hby at_159) rfl r) ?_
    refine Go.w (g' := (mkF m 162 #[.val (.int p1), .val (.int p2), .val (.int p3), .val (.int p4), .val (.int p5), .val (.int p6), .val (.int (3 : Int32)), .val (.ref b94), .val (.ref b104), .val (.int (p6.toInt8.toInt32)), .val (.int (((p6.toUInt32 >>> ((8 : Int32) &&& 31).toUInt32).toInt32).toInt8.toInt32)), .unset, .unset, .unset] [(.ref b111), (.ref b110)])) (fun s' T L X eT hZ hown => own_stB X hx hZ eT V111 (j := (0 : Int32)) ⟨by decide, by decide⟩ (g := (mkF m 161 #[.val (.int p1), .val (.int p2), .val (.int p3), .val (.int p4), .val (.int p5), .val (.int p6), .val (.int (3 : Int32)), .val (.ref b94), .val (.ref b104), .val (.int (p6.toInt8.toInt32)), .val (.int (((p6.toUInt32 >>> ((8 : Int32) &&& 31).toUInt32).toInt32).toInt8.toInt32)), .unset, .unset, .unset] [(.int (p6.toInt8.toInt32)), (.int (0 : Int32)), (.ref b111), (.ref b111), (.ref b110)])) rfl rfl (hb hby at_161)) (Or.inr sz111) (Or.inr SafeA.nil) ?_
    intro h112 W112
    have V112 : Arv Z h112 b111 k111 .byte (2 : Int32) [(.int (p6.toInt8.toInt32)), (.int (0 : Int32))] (.int (0 : Int32)) := own_set V111 (fits_nar_byte _) W112 (congrArg Value.int (own_narB _)) 0 rfl (Nat.le_of_ble_eq_true rfl)
    refine Go.sp (g' := (mkF m 163 #[.val (.int p1), .val (.int p2), .val (.int p3), .val (.int p4), .val (.int p5), .val (.int p6), .val (.int (3 : Int32)), .val (.ref b94), .val (.ref b104), .val (.int (p6.toInt8.toInt32)), .val (.int (((p6.toUInt32 >>> ((8 : Int32) &&& 31).toUInt32).toInt32).toInt8.toInt32)), .unset, .unset, .unset] [(.ref b111), (.ref b111), (.ref b110)])) (fun T A t r => XS.dup A hx rfl (hb hby at_162) rfl rfl r) ?_
    refine Go.sp (g' := (mkF m 164 #[.val (.int p1), .val (.int p2), .val (.int p3), .val (.int p4), .val (.int p5), .val (.int p6), .val (.int (3 : Int32)), .val (.ref b94), .val (.ref b104), .val (.int (p6.toInt8.toInt32)), .val (.int (((p6.toUInt32 >>> ((8 : Int32) &&& 31).toUInt32).toInt32).toInt8.toInt32)), .unset, .unset, .unset] [(.int (1 : Int32)), (.ref b111), (.ref b111), (.ref b110)])) (fun T A t r => XS.iconst A hx rfl (hb hby at_163) r) ?_
    refine Go.sp (g' := (mkF m 166 #[.val (.int p1), .val (.int p2), .val (.int p3), .val (.int p4), .val (.int p5), .val (.int p6), .val (.int (3 : Int32)), .val (.ref b94), .val (.ref b104), .val (.int (p6.toInt8.toInt32)), .val (.int (((p6.toUInt32 >>> ((8 : Int32) &&& 31).toUInt32).toInt32).toInt8.toInt32)), .unset, .unset, .unset] [(.int (((p6.toUInt32 >>> ((8 : Int32) &&& 31).toUInt32).toInt32).toInt8.toInt32)), (.int (1 : Int32)), (.ref b111), (.ref b111), (.ref b110)])) (fun T A t r => XS.iload A hx rfl (hb hby at_164) rfl r) ?_
    refine Go.w (g' := (mkF m 167 #[.val (.int p1), .val (.int p2), .val (.int p3), .val (.int p4), .val (.int p5), .val (.int p6), .val (.int (3 : Int32)), .val (.ref b94), .val (.ref b104), .val (.int (p6.toInt8.toInt32)), .val (.int (((p6.toUInt32 >>> ((8 : Int32) &&& 31).toUInt32).toInt32).toInt8.toInt32)), .unset, .unset, .unset] [(.ref b111), (.ref b110)])) (fun s' T L X eT hZ hown => own_stB X hx hZ eT V112 (j := (1 : Int32)) ⟨by decide, by decide⟩ (g := (mkF m 166 #[.val (.int p1), .val (.int p2), .val (.int p3), .val (.int p4), .val (.int p5), .val (.int p6), .val (.int (3 : Int32)), .val (.ref b94), .val (.ref b104), .val (.int (p6.toInt8.toInt32)), .val (.int (((p6.toUInt32 >>> ((8 : Int32) &&& 31).toUInt32).toInt32).toInt8.toInt32)), .unset, .unset, .unset] [(.int (((p6.toUInt32 >>> ((8 : Int32) &&& 31).toUInt32).toInt32).toInt8.toInt32)), (.int (1 : Int32)), (.ref b111), (.ref b111), (.ref b110)])) rfl rfl (hb hby at_166)) (Or.inr sz111) (Or.inr SafeA.nil) ?_
    intro h113 W113
    have V113 : Arv Z h113 b111 k111 .byte (2 : Int32) [(.int (p6.toInt8.toInt32)), (.int (((p6.toUInt32 >>> ((8 : Int32) &&& 31).toUInt32).toInt32).toInt8.toInt32))] (.int (0 : Int32)) := own_set V112 (fits_nar_byte _) W113 (congrArg Value.int (own_narB _)) 1 rfl (Nat.le_of_ble_eq_true rfl)
    refine Go.old fun O114 => ?_
    have f115 := (((E110.ext E111).wr W112).wr W113)
    have ne116 : b110 ≠ b111 := Nat.ne_of_lt (Nat.lt_of_lt_of_le E110.lt (Nat.le_of_eq g111.symm))
    have f117 := (((F110.ext E111).other W112 (Or.inl ne116)).other W113 (Or.inl ne116))
    have f118 := ((D111.wr W112).wr W113)
    refine Go.callVW (a := b110) (z := (⟨"com/example/kept_outbox/keptoutbox/api/Message$Builder", "payload", "([B)Lcom/example/kept_outbox/keptoutbox/api/Message;"⟩ : MethodName)) (ws' := []) (W := 0) (y := (⟨"com/example/kept_outbox/keptoutbox/api/Message$Builder", "payload", "([B)Lcom/example/kept_outbox/keptoutbox/api/Message;"⟩ : MethodName)) (argsL := [(.ref b111)]) (rest := []) (pc' := 170) (k' := 11) (n' := 253) (hb hby at_167) (own_w hw 99 rfl) (own_w hw 100 rfl) (fun s' hZ => notFace_of_selects (args := #[]) (mvT hZ (own_w hw 102 rfl))) (own_w hw 102 rfl) (own_w hw 101 rfl) (by decide) (rmP l Z a0 hw [] b110 b104 b111 k111 (p6.toInt8.toInt32) (((p6.toUInt32 >>> ((8 : Int32) &&& 31).toUInt32).toInt32).toInt8.toInt32) h113 n0 O114 f115 f117 f118 V113) (own_w hw 103 rfl) (own_w hw 41 rfl) (by decide) (by decide) f115 (by rw [hml]; rfl) (lenOf pd_8 rfl) rfl (Nat.le_of_ble_eq_true rfl) rfl rfl rfl (by decide) (by decide) all0 ?_
    rintro v119 h119 K119 ⟨b119, c119, rfl, E119, F119, G119, D119, A119⟩
    refine Go.cast (g' := (mkF m 170 #[.val (.int p1), .val (.int p2), .val (.int p3), .val (.int p4), .val (.int p5), .val (.int p6), .val (.int (3 : Int32)), .val (.ref b94), .val (.ref b104), .val (.int (p6.toInt8.toInt32)), .val (.int (((p6.toUInt32 >>> ((8 : Int32) &&& 31).toUInt32).toInt32).toInt8.toInt32)), .unset, .unset, .unset] [(.ref b119)])) rfl ?_
    refine Go.sp (g' := (mkF m 172 #[.val (.int p1), .val (.int p2), .val (.int p3), .val (.int p4), .val (.int p5), .val (.int p6), .val (.int (3 : Int32)), .val (.ref b94), .val (.ref b104), .val (.int (p6.toInt8.toInt32)), .val (.int (((p6.toUInt32 >>> ((8 : Int32) &&& 31).toUInt32).toInt32).toInt8.toInt32)), .val (.ref b119), .unset, .unset] [])) (fun T A t r => XS.astore A hx rfl (hb hby at_170) rfl rfl (l' := #[.val (.int p1), .val (.int p2), .val (.int p3), .val (.int p4), .val (.int p5), .val (.int p6), .val (.int (3 : Int32)), .val (.ref b94), .val (.ref b104), .val (.int (p6.toInt8.toInt32)), .val (.int (((p6.toUInt32 >>> ((8 : Int32) &&& 31).toUInt32).toInt32).toInt8.toInt32)), .val (.ref b119), .unset, .unset]) rfl r) ?_
    refine Go.sp (g' := (mkF m 174 #[.val (.int p1), .val (.int p2), .val (.int p3), .val (.int p4), .val (.int p5), .val (.int p6), .val (.int (3 : Int32)), .val (.ref b94), .val (.ref b104), .val (.int (p6.toInt8.toInt32)), .val (.int (((p6.toUInt32 >>> ((8 : Int32) &&& 31).toUInt32).toInt32).toInt8.toInt32)), .val (.ref b119), .unset, .unset] [(.ref b119)])) (fun T A t r => XS.aload A hx rfl (hb hby at_172) rfl rfl r) ?_
    refine Go.old fun O120 => ?_
    refine Go.callVPW (a := b119) (z := (⟨"com/example/kept_outbox/keptoutbox/api/Message", "destination", "()Ljava/lang/String;"⟩ : MethodName)) (W := 0) (y := (⟨"com/example/kept_outbox/keptoutbox/api/Message", "destination", "()Ljava/lang/String;"⟩ : MethodName)) (argsL := []) (rest := []) (pc' := 177) (k' := 11) (n' := 253) (hb hby at_174) (own_w hw 130 rfl) (own_w hw 131 rfl) (fun s' hZ => notFace_of_selects (args := #[]) (mvT hZ (own_w hw 133 rfl))) (own_w hw 133 rfl) (own_w hw 132 rfl) (by decide) (rmD l Z a0 hw [] b119 b104 h119 n0 O120 F119) (own_w hw 134 rfl) (own_w hw 37 rfl) (by decide) (by decide) E119 (by rw [hml]; rfl) (lenOf pd_11 rfl) rfl (Nat.le_of_ble_eq_true rfl) rfl rfl rfl (by decide) (by decide) ?_
    rintro v121 rfl
    refine Go.cast (g' := (mkF m 177 #[.val (.int p1), .val (.int p2), .val (.int p3), .val (.int p4), .val (.int p5), .val (.int p6), .val (.int (3 : Int32)), .val (.ref b94), .val (.ref b104), .val (.int (p6.toInt8.toInt32)), .val (.int (((p6.toUInt32 >>> ((8 : Int32) &&& 31).toUInt32).toInt32).toInt8.toInt32)), .val (.ref b119), .unset, .unset] [(.ref b104)])) rfl ?_
    refine Go.sp (g' := (mkF m 179 #[.val (.int p1), .val (.int p2), .val (.int p3), .val (.int p4), .val (.int p5), .val (.int p6), .val (.int (3 : Int32)), .val (.ref b94), .val (.ref b104), .val (.int (p6.toInt8.toInt32)), .val (.int (((p6.toUInt32 >>> ((8 : Int32) &&& 31).toUInt32).toInt32).toInt8.toInt32)), .val (.ref b119), .val (.ref b104), .unset] [])) (fun T A t r => XS.astore A hx rfl (hb hby at_177) rfl rfl (l' := #[.val (.int p1), .val (.int p2), .val (.int p3), .val (.int p4), .val (.int p5), .val (.int p6), .val (.int (3 : Int32)), .val (.ref b94), .val (.ref b104), .val (.int (p6.toInt8.toInt32)), .val (.int (((p6.toUInt32 >>> ((8 : Int32) &&& 31).toUInt32).toInt32).toInt8.toInt32)), .val (.ref b119), .val (.ref b104), .unset]) rfl r) ?_
    refine Go.sp (g' := (mkF m 181 #[.val (.int p1), .val (.int p2), .val (.int p3), .val (.int p4), .val (.int p5), .val (.int p6), .val (.int (3 : Int32)), .val (.ref b94), .val (.ref b104), .val (.int (p6.toInt8.toInt32)), .val (.int (((p6.toUInt32 >>> ((8 : Int32) &&& 31).toUInt32).toInt32).toInt8.toInt32)), .val (.ref b119), .val (.ref b104), .unset] [(.ref b119)])) (fun T A t r => XS.aload A hx rfl (hb hby at_179) rfl rfl r) ?_
    refine Go.callVW (a := b119) (z := (⟨"com/example/kept_outbox/keptoutbox/api/Message", "payload", "()[B"⟩ : MethodName)) (ws' := []) (W := 0) (y := (⟨"com/example/kept_outbox/keptoutbox/api/Message", "payload", "()[B"⟩ : MethodName)) (argsL := []) (rest := []) (pc' := 184) (k' := 12) (n' := 255) (hb hby at_181) (own_w hw 135 rfl) (own_w hw 136 rfl) (fun s' hZ => notFace_of_selects (args := #[]) (mvT hZ (own_w hw 138 rfl))) (own_w hw 138 rfl) (own_w hw 137 rfl) (by decide) (rmQ l Z a0 hw [] b119 c119 k111 (p6.toInt8.toInt32) (((p6.toUInt32 >>> ((8 : Int32) &&& 31).toUInt32).toInt32).toInt8.toInt32) h119 n0 O120 G119 D119 A119) (own_w hw 139 rfl) (own_w hw 37 rfl) (by decide) (by decide) E119 (by rw [hml]; rfl) (lenOf pd_12 rfl) rfl (Nat.le_of_ble_eq_true rfl) rfl rfl rfl (by decide) (by decide) all0 ?_
    rintro v122 h122 K122 ⟨b122, rfl, A122⟩
    refine Go.cast (g' := (mkF m 184 #[.val (.int p1), .val (.int p2), .val (.int p3), .val (.int p4), .val (.int p5), .val (.int p6), .val (.int (3 : Int32)), .val (.ref b94), .val (.ref b104), .val (.int (p6.toInt8.toInt32)), .val (.int (((p6.toUInt32 >>> ((8 : Int32) &&& 31).toUInt32).toInt32).toInt8.toInt32)), .val (.ref b119), .val (.ref b104), .unset] [(.ref b122)])) rfl ?_
    refine Go.sp (g' := (mkF m 186 #[.val (.int p1), .val (.int p2), .val (.int p3), .val (.int p4), .val (.int p5), .val (.int p6), .val (.int (3 : Int32)), .val (.ref b94), .val (.ref b104), .val (.int (p6.toInt8.toInt32)), .val (.int (((p6.toUInt32 >>> ((8 : Int32) &&& 31).toUInt32).toInt32).toInt8.toInt32)), .val (.ref b119), .val (.ref b104), .val (.ref b122)] [])) (fun T A t r => XS.astore A hx rfl (hb hby at_184) rfl rfl (l' := #[.val (.int p1), .val (.int p2), .val (.int p3), .val (.int p4), .val (.int p5), .val (.int p6), .val (.int (3 : Int32)), .val (.ref b94), .val (.ref b104), .val (.int (p6.toInt8.toInt32)), .val (.int (((p6.toUInt32 >>> ((8 : Int32) &&& 31).toUInt32).toInt32).toInt8.toInt32)), .val (.ref b119), .val (.ref b104), .val (.ref b122)]) rfl r) ?_
    refine Go.sp (g' := (mkF m 188 #[.val (.int p1), .val (.int p2), .val (.int p3), .val (.int p4), .val (.int p5), .val (.int p6), .val (.int (3 : Int32)), .val (.ref b94), .val (.ref b104), .val (.int (p6.toInt8.toInt32)), .val (.int (((p6.toUInt32 >>> ((8 : Int32) &&& 31).toUInt32).toInt32).toInt8.toInt32)), .val (.ref b119), .val (.ref b104), .val (.ref b122)] [(.ref b104)])) (fun T A t r => XS.aload A hx rfl (hb hby at_186) rfl rfl r) ?_
    refine Go.sp (g' := (mkF m 190 #[.val (.int p1), .val (.int p2), .val (.int p3), .val (.int p4), .val (.int p5), .val (.int p6), .val (.int (3 : Int32)), .val (.ref b94), .val (.ref b104), .val (.int (p6.toInt8.toInt32)), .val (.int (((p6.toUInt32 >>> ((8 : Int32) &&& 31).toUInt32).toInt32).toInt8.toInt32)), .val (.ref b119), .val (.ref b104), .val (.ref b122)] [(.ref b104), (.ref b104)])) (fun T A t r => XS.aload A hx rfl (hb hby at_188) rfl rfl r) ?_
    refine Go.old fun O123 => ?_
    have f125 := ((((((E108.keep K110).ext E111).wr W112).wr W113).keep K119).keep K122)
    refine Go.callVPW (a := b104) (z := (⟨"java/lang/String", "equals", "(Ljava/lang/Object;)Z"⟩ : MethodName)) (W := 0) (y := (⟨"java/lang/String", "equals", "(Ljava/lang/Object;)Z"⟩ : MethodName)) (argsL := [(.ref b104)]) (rest := []) (pc' := 193) (k' := 12) (n' := 255) (hb hby at_190) (own_w hw 142 rfl) (own_w hw 143 rfl) (fun s' hZ => notFace_of_selects (args := #[]) (mvT hZ (own_w hw 145 rfl))) (own_w hw 145 rfl) (own_w hw 144 rfl) (by decide) (rmE l Z a0 hw [] b104 h122 n0 O123) (own_w hw 146 rfl) (own_w hw 8 rfl) (by decide) (by decide) f125 (by rw [hml]; rfl) (lenOf pd_13 rfl) rfl (Nat.le_of_ble_eq_true rfl) rfl rfl rfl (by decide) (by decide) ?_
    rintro v124 rfl
    refine Go.cast (g' := (mkF m 193 #[.val (.int p1), .val (.int p2), .val (.int p3), .val (.int p4), .val (.int p5), .val (.int p6), .val (.int (3 : Int32)), .val (.ref b94), .val (.ref b104), .val (.int (p6.toInt8.toInt32)), .val (.int (((p6.toUInt32 >>> ((8 : Int32) &&& 31).toUInt32).toInt32).toInt8.toInt32)), .val (.ref b119), .val (.ref b104), .val (.ref b122)] [(.int (1 : Int32))])) rfl ?_
    refine Go.sp (g' := (mkF m 196 #[.val (.int p1), .val (.int p2), .val (.int p3), .val (.int p4), .val (.int p5), .val (.int p6), .val (.int (3 : Int32)), .val (.ref b94), .val (.ref b104), .val (.int (p6.toInt8.toInt32)), .val (.int (((p6.toUInt32 >>> ((8 : Int32) &&& 31).toUInt32).toInt32).toInt8.toInt32)), .val (.ref b119), .val (.ref b104), .val (.ref b122)] [])) (fun T A t r => XS.ifNo A hx rfl (hb hby at_193) rfl ((if0 _ _).trans (feq (by decide : ¬ ((1 : Int32) = (0 : Int32)))).1) r) ?_
    refine Go.sp (g' := (mkF m 198 #[.val (.int p1), .val (.int p2), .val (.int p3), .val (.int p4), .val (.int p5), .val (.int p6), .val (.int (3 : Int32)), .val (.ref b94), .val (.ref b104), .val (.int (p6.toInt8.toInt32)), .val (.int (((p6.toUInt32 >>> ((8 : Int32) &&& 31).toUInt32).toInt32).toInt8.toInt32)), .val (.ref b119), .val (.ref b104), .val (.ref b122)] [(.ref b104)])) (fun T A t r => XS.aload A hx rfl (hb hby at_196) rfl rfl r) ?_
    have f126 := (E108.keep K110)
    have ne127 : b104 ≠ b111 := Nat.ne_of_lt (Nat.lt_of_lt_of_le f126.lt (Nat.le_of_eq g111.symm))
    have f128 := ((((((V108.keep K110 nin0).ext E111).other W112 (Or.inl ne127)).other W113 (Or.inl ne127)).keep K119 nin0).keep K122 nin0)
    have f129 := ((((((C108.keep K110 nin0).ext E111).other W112 (Or.inl ne127)).other W113 (Or.inl ne127)).keep K119 nin0).keep K122 nin0)
    have f130 := (B108.keep K110 nin0)
    have ne131 : t108 ≠ b111 := Nat.ne_of_lt (Nat.lt_of_lt_of_le f130.lt (Nat.le_of_eq g111.symm))
    have f132 := ((((((B108.keep K110 nin0).ext E111).other W112 ne131).other W113 ne131).keep K119 nin0).keep K122 nin0)
    refine Go.callVP (a := b104) (z := (⟨"java/lang/String", "length", "()I"⟩ : MethodName)) (W := 0) (y := (⟨"java/lang/String", "length", "()I"⟩ : MethodName)) (argsL := []) (rest := []) (pc' := 201) (hb hby at_198) (own_w hw 147 rfl) (own_w hw 59 rfl) (fun s' hZ => notFace_of_selects (args := #[]) (mvT hZ (own_w hw 61 rfl))) (own_w hw 61 rfl) (own_w hw 60 rfl) (by decide) (fun s' hZ => Bk.pure (StrChars.Road.lenW (kI := 4) (cs := [z96, z99, z102]) hZ (own_lenw hw) (own_w hw 7 rfl) f125 f128 f129 f132 (own_cod rfl lat107) (own_up lat107) (S0.ext O123.2) P0 (by show 3 ≤ 4000; decide) (by decide) (by decide))) f125 (by rw [hml]; rfl) (lenOf pd_2 rfl) rfl (Nat.le_of_ble_eq_true rfl) rfl (by decide) (by decide) ?_
    rintro v133 rfl
    refine Go.cast (g' := (mkF m 201 #[.val (.int p1), .val (.int p2), .val (.int p3), .val (.int p4), .val (.int p5), .val (.int p6), .val (.int (3 : Int32)), .val (.ref b94), .val (.ref b104), .val (.int (p6.toInt8.toInt32)), .val (.int (((p6.toUInt32 >>> ((8 : Int32) &&& 31).toUInt32).toInt32).toInt8.toInt32)), .val (.ref b119), .val (.ref b104), .val (.ref b122)] [(.int (3 : Int32))])) rfl ?_
    refine Go.sp (g' := (mkF m 203 #[.val (.int p1), .val (.int p2), .val (.int p3), .val (.int p4), .val (.int p5), .val (.int p6), .val (.int (3 : Int32)), .val (.ref b94), .val (.ref b104), .val (.int (p6.toInt8.toInt32)), .val (.int (((p6.toUInt32 >>> ((8 : Int32) &&& 31).toUInt32).toInt32).toInt8.toInt32)), .val (.ref b119), .val (.ref b104), .val (.ref b122)] [(.int (3 : Int32)), (.int (3 : Int32))])) (fun T A t r => XS.iload A hx rfl (hb hby at_201) rfl r) ?_
    refine Go.sp (g' := (mkF m 206 #[.val (.int p1), .val (.int p2), .val (.int p3), .val (.int p4), .val (.int p5), .val (.int p6), .val (.int (3 : Int32)), .val (.ref b94), .val (.ref b104), .val (.int (p6.toInt8.toInt32)), .val (.int (((p6.toUInt32 >>> ((8 : Int32) &&& 31).toUInt32).toInt32).toInt8.toInt32)), .val (.ref b119), .val (.ref b104), .val (.ref b122)] [])) (fun T A t r => XS.icmpNo A hx rfl (hb hby at_203) rfl (teq (by decide : ((3 : Int32) = (3 : Int32)))).2 r) ?_
    refine Go.sp (g' := (mkF m 208 #[.val (.int p1), .val (.int p2), .val (.int p3), .val (.int p4), .val (.int p5), .val (.int p6), .val (.int (3 : Int32)), .val (.ref b94), .val (.ref b104), .val (.int (p6.toInt8.toInt32)), .val (.int (((p6.toUInt32 >>> ((8 : Int32) &&& 31).toUInt32).toInt32).toInt8.toInt32)), .val (.ref b119), .val (.ref b104), .val (.ref b122)] [(.ref b104)])) (fun T A t r => XS.aload A hx rfl (hb hby at_206) rfl rfl r) ?_
    refine Go.sp (g' := (mkF m 209 #[.val (.int p1), .val (.int p2), .val (.int p3), .val (.int p4), .val (.int p5), .val (.int p6), .val (.int (3 : Int32)), .val (.ref b94), .val (.ref b104), .val (.int (p6.toInt8.toInt32)), .val (.int (((p6.toUInt32 >>> ((8 : Int32) &&& 31).toUInt32).toInt32).toInt8.toInt32)), .val (.ref b119), .val (.ref b104), .val (.ref b122)] [(.int (0 : Int32)), (.ref b104)])) (fun T A t r => XS.iconst A hx rfl (hb hby at_208) r) ?_
    refine Go.callVP (a := b104) (z := (⟨"java/lang/String", "charAt", "(I)C"⟩ : MethodName)) (W := 0) (y := (⟨"java/lang/String", "charAt", "(I)C"⟩ : MethodName)) (argsL := [(.int (0 : Int32))]) (rest := []) (pc' := 212) (hb hby at_209) (own_w hw 148 rfl) (own_w hw 69 rfl) (fun s' hZ => notFace_of_selects (args := #[]) (mvT hZ (own_w hw 71 rfl))) (own_w hw 71 rfl) (own_w hw 70 rfl) (by decide) (fun s' hZ => Bk.pure (StrChars.Road.chN (kI := 4) (cs := [z96, z99, z102]) (i := 0) hZ (own_chwd hw) (own_w hw 7 rfl) f125 f128 f129 f132 (own_cod rfl lat107) (own_up lat107) (S0.ext O123.2) P0 (SF.ext O123.2) RF (by show 3 ≤ 4000; decide) (by show 0 < 3; decide) rfl (by decide) (by decide))) f125 (by rw [hml]; rfl) (lenOf pd_3 rfl) rfl (Nat.le_of_ble_eq_true rfl) rfl (by decide) (by decide) ?_
    rintro v134 rfl
    refine Go.cast (g' := (mkF m 212 #[.val (.int p1), .val (.int p2), .val (.int p3), .val (.int p4), .val (.int p5), .val (.int p6), .val (.int (3 : Int32)), .val (.ref b94), .val (.ref b104), .val (.int (p6.toInt8.toInt32)), .val (.int (((p6.toUInt32 >>> ((8 : Int32) &&& 31).toUInt32).toInt32).toInt8.toInt32)), .val (.ref b119), .val (.ref b104), .val (.ref b122)] [(.int z96)])) rfl ?_
    refine Go.sp (g' := (mkF m 214 #[.val (.int p1), .val (.int p2), .val (.int p3), .val (.int p4), .val (.int p5), .val (.int p6), .val (.int (3 : Int32)), .val (.ref b94), .val (.ref b104), .val (.int (p6.toInt8.toInt32)), .val (.int (((p6.toUInt32 >>> ((8 : Int32) &&& 31).toUInt32).toInt32).toInt8.toInt32)), .val (.ref b119), .val (.ref b104), .val (.ref b122)] [(.ref b94), (.int z96)])) (fun T A t r => XS.aload A hx rfl (hb hby at_212) rfl rfl r) ?_
    refine Go.sp (g' := (mkF m 215 #[.val (.int p1), .val (.int p2), .val (.int p3), .val (.int p4), .val (.int p5), .val (.int p6), .val (.int (3 : Int32)), .val (.ref b94), .val (.ref b104), .val (.int (p6.toInt8.toInt32)), .val (.int (((p6.toUInt32 >>> ((8 : Int32) &&& 31).toUInt32).toInt32).toInt8.toInt32)), .val (.ref b119), .val (.ref b104), .val (.ref b122)] [(.int (0 : Int32)), (.ref b94), (.int z96)])) (fun T A t r => XS.iconst A hx rfl (hb hby at_214) r) ?_
    have ne135 : b94 ≠ b104 := Nat.ne_of_lt (Nat.lt_of_lt_of_le V103.lt (Nat.le_of_eq g104.symm))
    have f136 := ((f105.keep K108 (ninS ne135 nin0)).keep K110 nin0)
    have ne137 : b94 ≠ b111 := Nat.ne_of_lt (Nat.lt_of_lt_of_le f136.lt (Nat.le_of_eq g111.symm))
    have f138 := (((((((f105.keep K108 (ninS ne135 nin0)).keep K110 nin0).ext E111).other W112 ne137).other W113 ne137).keep K119 nin0).keep K122 nin0)
    refine Go.r (g' := (mkF m 216 #[.val (.int p1), .val (.int p2), .val (.int p3), .val (.int p4), .val (.int p5), .val (.int p6), .val (.int (3 : Int32)), .val (.ref b94), .val (.ref b104), .val (.int (p6.toInt8.toInt32)), .val (.int (((p6.toUInt32 >>> ((8 : Int32) &&& 31).toUInt32).toInt32).toInt8.toInt32)), .val (.ref b119), .val (.ref b104), .val (.ref b122)] [(.int z96), (.int z96)])) (fun s' T L X eT hZ t r => own_ldC X hx hZ eT f138 (j := (0 : Int32)) ⟨by decide, by decide⟩ (v := (.int z96)) rfl (g := (mkF m 215 #[.val (.int p1), .val (.int p2), .val (.int p3), .val (.int p4), .val (.int p5), .val (.int p6), .val (.int (3 : Int32)), .val (.ref b94), .val (.ref b104), .val (.int (p6.toInt8.toInt32)), .val (.int (((p6.toUInt32 >>> ((8 : Int32) &&& 31).toUInt32).toInt32).toInt8.toInt32)), .val (.ref b119), .val (.ref b104), .val (.ref b122)] [(.int (0 : Int32)), (.ref b94), (.int z96)])) rfl rfl (hb hby at_215) t r) ?_
    refine Go.sp (g' := (mkF m 219 #[.val (.int p1), .val (.int p2), .val (.int p3), .val (.int p4), .val (.int p5), .val (.int p6), .val (.int (3 : Int32)), .val (.ref b94), .val (.ref b104), .val (.int (p6.toInt8.toInt32)), .val (.int (((p6.toUInt32 >>> ((8 : Int32) &&& 31).toUInt32).toInt32).toInt8.toInt32)), .val (.ref b119), .val (.ref b104), .val (.ref b122)] [])) (fun T A t r => XS.icmpNo A hx rfl (hb hby at_216) rfl (teq (rfl : z96 = z96)).2 r) ?_
    refine Go.sp (g' := (mkF m 221 #[.val (.int p1), .val (.int p2), .val (.int p3), .val (.int p4), .val (.int p5), .val (.int p6), .val (.int (3 : Int32)), .val (.ref b94), .val (.ref b104), .val (.int (p6.toInt8.toInt32)), .val (.int (((p6.toUInt32 >>> ((8 : Int32) &&& 31).toUInt32).toInt32).toInt8.toInt32)), .val (.ref b119), .val (.ref b104), .val (.ref b122)] [(.ref b104)])) (fun T A t r => XS.aload A hx rfl (hb hby at_219) rfl rfl r) ?_
    refine Go.sp (g' := (mkF m 223 #[.val (.int p1), .val (.int p2), .val (.int p3), .val (.int p4), .val (.int p5), .val (.int p6), .val (.int (3 : Int32)), .val (.ref b94), .val (.ref b104), .val (.int (p6.toInt8.toInt32)), .val (.int (((p6.toUInt32 >>> ((8 : Int32) &&& 31).toUInt32).toInt32).toInt8.toInt32)), .val (.ref b119), .val (.ref b104), .val (.ref b122)] [(.int (3 : Int32)), (.ref b104)])) (fun T A t r => XS.iload A hx rfl (hb hby at_221) rfl r) ?_
    refine Go.sp (g' := (mkF m 224 #[.val (.int p1), .val (.int p2), .val (.int p3), .val (.int p4), .val (.int p5), .val (.int p6), .val (.int (3 : Int32)), .val (.ref b94), .val (.ref b104), .val (.int (p6.toInt8.toInt32)), .val (.int (((p6.toUInt32 >>> ((8 : Int32) &&& 31).toUInt32).toInt32).toInt8.toInt32)), .val (.ref b119), .val (.ref b104), .val (.ref b122)] [(.int (1 : Int32)), (.int (3 : Int32)), (.ref b104)])) (fun T A t r => XS.iconst A hx rfl (hb hby at_223) r) ?_
    refine Go.sp (g' := (mkF m 225 #[.val (.int p1), .val (.int p2), .val (.int p3), .val (.int p4), .val (.int p5), .val (.int p6), .val (.int (3 : Int32)), .val (.ref b94), .val (.ref b104), .val (.int (p6.toInt8.toInt32)), .val (.int (((p6.toUInt32 >>> ((8 : Int32) &&& 31).toUInt32).toInt32).toInt8.toInt32)), .val (.ref b119), .val (.ref b104), .val (.ref b122)] [(.int (2 : Int32)), (.ref b104)])) (fun T A t r => XS.isub A hx rfl (hb hby at_224) rfl r) ?_
    refine Go.callVP (a := b104) (z := (⟨"java/lang/String", "charAt", "(I)C"⟩ : MethodName)) (W := 0) (y := (⟨"java/lang/String", "charAt", "(I)C"⟩ : MethodName)) (argsL := [(.int (2 : Int32))]) (rest := []) (pc' := 228) (hb hby at_225) (own_w hw 148 rfl) (own_w hw 69 rfl) (fun s' hZ => notFace_of_selects (args := #[]) (mvT hZ (own_w hw 71 rfl))) (own_w hw 71 rfl) (own_w hw 70 rfl) (by decide) (fun s' hZ => Bk.pure (StrChars.Road.chN (kI := 4) (cs := [z96, z99, z102]) (i := 2) hZ (own_chwd hw) (own_w hw 7 rfl) f125 f128 f129 f132 (own_cod rfl lat107) (own_up lat107) (S0.ext O123.2) P0 (SF.ext O123.2) RF (by show 3 ≤ 4000; decide) (by show 2 < 3; decide) rfl (by decide) (by decide))) f125 (by rw [hml]; rfl) (lenOf pd_3 rfl) rfl (Nat.le_of_ble_eq_true rfl) rfl (by decide) (by decide) ?_
    rintro v139 rfl
    refine Go.cast (g' := (mkF m 228 #[.val (.int p1), .val (.int p2), .val (.int p3), .val (.int p4), .val (.int p5), .val (.int p6), .val (.int (3 : Int32)), .val (.ref b94), .val (.ref b104), .val (.int (p6.toInt8.toInt32)), .val (.int (((p6.toUInt32 >>> ((8 : Int32) &&& 31).toUInt32).toInt32).toInt8.toInt32)), .val (.ref b119), .val (.ref b104), .val (.ref b122)] [(.int z102)])) rfl ?_
    refine Go.sp (g' := (mkF m 230 #[.val (.int p1), .val (.int p2), .val (.int p3), .val (.int p4), .val (.int p5), .val (.int p6), .val (.int (3 : Int32)), .val (.ref b94), .val (.ref b104), .val (.int (p6.toInt8.toInt32)), .val (.int (((p6.toUInt32 >>> ((8 : Int32) &&& 31).toUInt32).toInt32).toInt8.toInt32)), .val (.ref b119), .val (.ref b104), .val (.ref b122)] [(.ref b94), (.int z102)])) (fun T A t r => XS.aload A hx rfl (hb hby at_228) rfl rfl r) ?_
    refine Go.sp (g' := (mkF m 232 #[.val (.int p1), .val (.int p2), .val (.int p3), .val (.int p4), .val (.int p5), .val (.int p6), .val (.int (3 : Int32)), .val (.ref b94), .val (.ref b104), .val (.int (p6.toInt8.toInt32)), .val (.int (((p6.toUInt32 >>> ((8 : Int32) &&& 31).toUInt32).toInt32).toInt8.toInt32)), .val (.ref b119), .val (.ref b104), .val (.ref b122)] [(.int (3 : Int32)), (.ref b94), (.int z102)])) (fun T A t r => XS.iload A hx rfl (hb hby at_230) rfl r) ?_
    refine Go.sp (g' := (mkF m 233 #[.val (.int p1), .val (.int p2), .val (.int p3), .val (.int p4), .val (.int p5), .val (.int p6), .val (.int (3 : Int32)), .val (.ref b94), .val (.ref b104), .val (.int (p6.toInt8.toInt32)), .val (.int (((p6.toUInt32 >>> ((8 : Int32) &&& 31).toUInt32).toInt32).toInt8.toInt32)), .val (.ref b119), .val (.ref b104), .val (.ref b122)] [(.int (1 : Int32)), (.int (3 : Int32)), (.ref b94), (.int z102)])) (fun T A t r => XS.iconst A hx rfl (hb hby at_232) r) ?_
    refine Go.sp (g' := (mkF m 234 #[.val (.int p1), .val (.int p2), .val (.int p3), .val (.int p4), .val (.int p5), .val (.int p6), .val (.int (3 : Int32)), .val (.ref b94), .val (.ref b104), .val (.int (p6.toInt8.toInt32)), .val (.int (((p6.toUInt32 >>> ((8 : Int32) &&& 31).toUInt32).toInt32).toInt8.toInt32)), .val (.ref b119), .val (.ref b104), .val (.ref b122)] [(.int (2 : Int32)), (.ref b94), (.int z102)])) (fun T A t r => XS.isub A hx rfl (hb hby at_233) rfl r) ?_
    refine Go.r (g' := (mkF m 235 #[.val (.int p1), .val (.int p2), .val (.int p3), .val (.int p4), .val (.int p5), .val (.int p6), .val (.int (3 : Int32)), .val (.ref b94), .val (.ref b104), .val (.int (p6.toInt8.toInt32)), .val (.int (((p6.toUInt32 >>> ((8 : Int32) &&& 31).toUInt32).toInt32).toInt8.toInt32)), .val (.ref b119), .val (.ref b104), .val (.ref b122)] [(.int z102), (.int z102)])) (fun s' T L X eT hZ t r => own_ldC X hx hZ eT f138 (j := (2 : Int32)) ⟨by decide, by decide⟩ (v := (.int z102)) rfl (g := (mkF m 234 #[.val (.int p1), .val (.int p2), .val (.int p3), .val (.int p4), .val (.int p5), .val (.int p6), .val (.int (3 : Int32)), .val (.ref b94), .val (.ref b104), .val (.int (p6.toInt8.toInt32)), .val (.int (((p6.toUInt32 >>> ((8 : Int32) &&& 31).toUInt32).toInt32).toInt8.toInt32)), .val (.ref b119), .val (.ref b104), .val (.ref b122)] [(.int (2 : Int32)), (.ref b94), (.int z102)])) rfl rfl (hb hby at_234) t r) ?_
    refine Go.sp (g' := (mkF m 238 #[.val (.int p1), .val (.int p2), .val (.int p3), .val (.int p4), .val (.int p5), .val (.int p6), .val (.int (3 : Int32)), .val (.ref b94), .val (.ref b104), .val (.int (p6.toInt8.toInt32)), .val (.int (((p6.toUInt32 >>> ((8 : Int32) &&& 31).toUInt32).toInt32).toInt8.toInt32)), .val (.ref b119), .val (.ref b104), .val (.ref b122)] [])) (fun T A t r => XS.icmpNo A hx rfl (hb hby at_235) rfl (teq (rfl : z102 = z102)).2 r) ?_
    refine Go.sp (g' := (mkF m 240 #[.val (.int p1), .val (.int p2), .val (.int p3), .val (.int p4), .val (.int p5), .val (.int p6), .val (.int (3 : Int32)), .val (.ref b94), .val (.ref b104), .val (.int (p6.toInt8.toInt32)), .val (.int (((p6.toUInt32 >>> ((8 : Int32) &&& 31).toUInt32).toInt32).toInt8.toInt32)), .val (.ref b119), .val (.ref b104), .val (.ref b122)] [(.ref b122)])) (fun T A t r => XS.aload A hx rfl (hb hby at_238) rfl rfl r) ?_
    refine Go.r (g' := (mkF m 241 #[.val (.int p1), .val (.int p2), .val (.int p3), .val (.int p4), .val (.int p5), .val (.int p6), .val (.int (3 : Int32)), .val (.ref b94), .val (.ref b104), .val (.int (p6.toInt8.toInt32)), .val (.int (((p6.toUInt32 >>> ((8 : Int32) &&& 31).toUInt32).toInt32).toInt8.toInt32)), .val (.ref b119), .val (.ref b104), .val (.ref b122)] [(.int (2 : Int32))])) (fun s' T L X eT hZ t r => own_len X hx hZ eT A122 (g := (mkF m 240 #[.val (.int p1), .val (.int p2), .val (.int p3), .val (.int p4), .val (.int p5), .val (.int p6), .val (.int (3 : Int32)), .val (.ref b94), .val (.ref b104), .val (.int (p6.toInt8.toInt32)), .val (.int (((p6.toUInt32 >>> ((8 : Int32) &&& 31).toUInt32).toInt32).toInt8.toInt32)), .val (.ref b119), .val (.ref b104), .val (.ref b122)] [(.ref b122)])) rfl rfl (hb hby at_240) t r) ?_
    refine Go.sp (g' := (mkF m 242 #[.val (.int p1), .val (.int p2), .val (.int p3), .val (.int p4), .val (.int p5), .val (.int p6), .val (.int (3 : Int32)), .val (.ref b94), .val (.ref b104), .val (.int (p6.toInt8.toInt32)), .val (.int (((p6.toUInt32 >>> ((8 : Int32) &&& 31).toUInt32).toInt32).toInt8.toInt32)), .val (.ref b119), .val (.ref b104), .val (.ref b122)] [(.int (2 : Int32)), (.int (2 : Int32))])) (fun T A t r => XS.iconst A hx rfl (hb hby at_241) r) ?_
    refine Go.sp (g' := (mkF m 245 #[.val (.int p1), .val (.int p2), .val (.int p3), .val (.int p4), .val (.int p5), .val (.int p6), .val (.int (3 : Int32)), .val (.ref b94), .val (.ref b104), .val (.int (p6.toInt8.toInt32)), .val (.int (((p6.toUInt32 >>> ((8 : Int32) &&& 31).toUInt32).toInt32).toInt8.toInt32)), .val (.ref b119), .val (.ref b104), .val (.ref b122)] [])) (fun T A t r => XS.icmpNo A hx rfl (hb hby at_242) rfl (teq (by decide : ((2 : Int32) = (2 : Int32)))).2 r) ?_
    refine Go.sp (g' := (mkF m 247 #[.val (.int p1), .val (.int p2), .val (.int p3), .val (.int p4), .val (.int p5), .val (.int p6), .val (.int (3 : Int32)), .val (.ref b94), .val (.ref b104), .val (.int (p6.toInt8.toInt32)), .val (.int (((p6.toUInt32 >>> ((8 : Int32) &&& 31).toUInt32).toInt32).toInt8.toInt32)), .val (.ref b119), .val (.ref b104), .val (.ref b122)] [(.ref b122)])) (fun T A t r => XS.aload A hx rfl (hb hby at_245) rfl rfl r) ?_
    refine Go.sp (g' := (mkF m 248 #[.val (.int p1), .val (.int p2), .val (.int p3), .val (.int p4), .val (.int p5), .val (.int p6), .val (.int (3 : Int32)), .val (.ref b94), .val (.ref b104), .val (.int (p6.toInt8.toInt32)), .val (.int (((p6.toUInt32 >>> ((8 : Int32) &&& 31).toUInt32).toInt32).toInt8.toInt32)), .val (.ref b119), .val (.ref b104), .val (.ref b122)] [(.int (0 : Int32)), (.ref b122)])) (fun T A t r => XS.iconst A hx rfl (hb hby at_247) r) ?_
    refine Go.r (g' := (mkF m 249 #[.val (.int p1), .val (.int p2), .val (.int p3), .val (.int p4), .val (.int p5), .val (.int p6), .val (.int (3 : Int32)), .val (.ref b94), .val (.ref b104), .val (.int (p6.toInt8.toInt32)), .val (.int (((p6.toUInt32 >>> ((8 : Int32) &&& 31).toUInt32).toInt32).toInt8.toInt32)), .val (.ref b119), .val (.ref b104), .val (.ref b122)] [(.int (p6.toInt8.toInt32))])) (fun s' T L X eT hZ t r => own_ldB X hx hZ eT A122 (j := (0 : Int32)) ⟨by decide, by decide⟩ (v := (.int (p6.toInt8.toInt32))) rfl (g := (mkF m 248 #[.val (.int p1), .val (.int p2), .val (.int p3), .val (.int p4), .val (.int p5), .val (.int p6), .val (.int (3 : Int32)), .val (.ref b94), .val (.ref b104), .val (.int (p6.toInt8.toInt32)), .val (.int (((p6.toUInt32 >>> ((8 : Int32) &&& 31).toUInt32).toInt32).toInt8.toInt32)), .val (.ref b119), .val (.ref b104), .val (.ref b122)] [(.int (0 : Int32)), (.ref b122)])) rfl rfl (hb hby at_248) t r) ?_
    refine Go.sp (g' := (mkF m 251 #[.val (.int p1), .val (.int p2), .val (.int p3), .val (.int p4), .val (.int p5), .val (.int p6), .val (.int (3 : Int32)), .val (.ref b94), .val (.ref b104), .val (.int (p6.toInt8.toInt32)), .val (.int (((p6.toUInt32 >>> ((8 : Int32) &&& 31).toUInt32).toInt32).toInt8.toInt32)), .val (.ref b119), .val (.ref b104), .val (.ref b122)] [(.int (p6.toInt8.toInt32)), (.int (p6.toInt8.toInt32))])) (fun T A t r => XS.iload A hx rfl (hb hby at_249) rfl r) ?_
    refine Go.sp (g' := (mkF m 254 #[.val (.int p1), .val (.int p2), .val (.int p3), .val (.int p4), .val (.int p5), .val (.int p6), .val (.int (3 : Int32)), .val (.ref b94), .val (.ref b104), .val (.int (p6.toInt8.toInt32)), .val (.int (((p6.toUInt32 >>> ((8 : Int32) &&& 31).toUInt32).toInt32).toInt8.toInt32)), .val (.ref b119), .val (.ref b104), .val (.ref b122)] [])) (fun T A t r => XS.icmpNo A hx rfl (hb hby at_251) rfl (teq (rfl : (p6.toInt8.toInt32) = (p6.toInt8.toInt32))).2 r) ?_
    refine Go.sp (g' := (mkF m 256 #[.val (.int p1), .val (.int p2), .val (.int p3), .val (.int p4), .val (.int p5), .val (.int p6), .val (.int (3 : Int32)), .val (.ref b94), .val (.ref b104), .val (.int (p6.toInt8.toInt32)), .val (.int (((p6.toUInt32 >>> ((8 : Int32) &&& 31).toUInt32).toInt32).toInt8.toInt32)), .val (.ref b119), .val (.ref b104), .val (.ref b122)] [(.ref b122)])) (fun T A t r => XS.aload A hx rfl (hb hby at_254) rfl rfl r) ?_
    refine Go.sp (g' := (mkF m 257 #[.val (.int p1), .val (.int p2), .val (.int p3), .val (.int p4), .val (.int p5), .val (.int p6), .val (.int (3 : Int32)), .val (.ref b94), .val (.ref b104), .val (.int (p6.toInt8.toInt32)), .val (.int (((p6.toUInt32 >>> ((8 : Int32) &&& 31).toUInt32).toInt32).toInt8.toInt32)), .val (.ref b119), .val (.ref b104), .val (.ref b122)] [(.int (1 : Int32)), (.ref b122)])) (fun T A t r => XS.iconst A hx rfl (hb hby at_256) r) ?_
    refine Go.r (g' := (mkF m 258 #[.val (.int p1), .val (.int p2), .val (.int p3), .val (.int p4), .val (.int p5), .val (.int p6), .val (.int (3 : Int32)), .val (.ref b94), .val (.ref b104), .val (.int (p6.toInt8.toInt32)), .val (.int (((p6.toUInt32 >>> ((8 : Int32) &&& 31).toUInt32).toInt32).toInt8.toInt32)), .val (.ref b119), .val (.ref b104), .val (.ref b122)] [(.int (((p6.toUInt32 >>> ((8 : Int32) &&& 31).toUInt32).toInt32).toInt8.toInt32))])) (fun s' T L X eT hZ t r => own_ldB X hx hZ eT A122 (j := (1 : Int32)) ⟨by decide, by decide⟩ (v := (.int (((p6.toUInt32 >>> ((8 : Int32) &&& 31).toUInt32).toInt32).toInt8.toInt32))) rfl (g := (mkF m 257 #[.val (.int p1), .val (.int p2), .val (.int p3), .val (.int p4), .val (.int p5), .val (.int p6), .val (.int (3 : Int32)), .val (.ref b94), .val (.ref b104), .val (.int (p6.toInt8.toInt32)), .val (.int (((p6.toUInt32 >>> ((8 : Int32) &&& 31).toUInt32).toInt32).toInt8.toInt32)), .val (.ref b119), .val (.ref b104), .val (.ref b122)] [(.int (1 : Int32)), (.ref b122)])) rfl rfl (hb hby at_257) t r) ?_
    refine Go.sp (g' := (mkF m 260 #[.val (.int p1), .val (.int p2), .val (.int p3), .val (.int p4), .val (.int p5), .val (.int p6), .val (.int (3 : Int32)), .val (.ref b94), .val (.ref b104), .val (.int (p6.toInt8.toInt32)), .val (.int (((p6.toUInt32 >>> ((8 : Int32) &&& 31).toUInt32).toInt32).toInt8.toInt32)), .val (.ref b119), .val (.ref b104), .val (.ref b122)] [(.int (((p6.toUInt32 >>> ((8 : Int32) &&& 31).toUInt32).toInt32).toInt8.toInt32)), (.int (((p6.toUInt32 >>> ((8 : Int32) &&& 31).toUInt32).toInt32).toInt8.toInt32))])) (fun T A t r => XS.iload A hx rfl (hb hby at_258) rfl r) ?_
    refine Go.sp (g' := (mkF m 263 #[.val (.int p1), .val (.int p2), .val (.int p3), .val (.int p4), .val (.int p5), .val (.int p6), .val (.int (3 : Int32)), .val (.ref b94), .val (.ref b104), .val (.int (p6.toInt8.toInt32)), .val (.int (((p6.toUInt32 >>> ((8 : Int32) &&& 31).toUInt32).toInt32).toInt8.toInt32)), .val (.ref b119), .val (.ref b104), .val (.ref b122)] [])) (fun T A t r => XS.icmpNo A hx rfl (hb hby at_260) rfl (teq (rfl : (((p6.toUInt32 >>> ((8 : Int32) &&& 31).toUInt32).toInt32).toInt8.toInt32) = (((p6.toUInt32 >>> ((8 : Int32) &&& 31).toUInt32).toInt32).toInt8.toInt32))).2 r) ?_
    refine Go.sp (g' := (mkF m 264 #[.val (.int p1), .val (.int p2), .val (.int p3), .val (.int p4), .val (.int p5), .val (.int p6), .val (.int (3 : Int32)), .val (.ref b94), .val (.ref b104), .val (.int (p6.toInt8.toInt32)), .val (.int (((p6.toUInt32 >>> ((8 : Int32) &&& 31).toUInt32).toInt32).toInt8.toInt32)), .val (.ref b119), .val (.ref b104), .val (.ref b122)] [(.int (1 : Int32))])) (fun T A t r => XS.iconst A hx rfl (hb hby at_263) r) ?_
    refine Go.sp (g' := (mkF m 268 #[.val (.int p1), .val (.int p2), .val (.int p3), .val (.int p4), .val (.int p5), .val (.int p6), .val (.int (3 : Int32)), .val (.ref b94), .val (.ref b104), .val (.int (p6.toInt8.toInt32)), .val (.int (((p6.toUInt32 >>> ((8 : Int32) &&& 31).toUInt32).toInt32).toInt8.toInt32)), .val (.ref b119), .val (.ref b104), .val (.ref b122)] [(.int (1 : Int32))])) (fun T A t r => XS.goto A hx rfl (pc0 := 264) (pc' := 268) rfl (hb hby at_264) (by decide) (by decide) r) ?_
    exact Go.ret (v := (some (.int (nar .boolean (1 : Int32))))) (fun s' T L fs X hr => retN X hx (t := .boolean) hret (by simp) (hb hby at_268) hr) (fun h => by rw [hret] at h; cases h) (by decide) (by decide) rfl
  · skip
    refine Go.cast (g' := (mkF m 4 #[.val (.int p1), .val (.int p2), .val (.int p3), .val (.int p4), .val (.int p5), .val (.int p6), .unset, .unset, .unset, .unset, .unset, .unset, .unset, .unset] [(.int (3 : Int32))])) (by rw [hn]) ?_
    refine Go.sp (g' := (mkF m 5 #[.val (.int p1), .val (.int p2), .val (.int p3), .val (.int p4), .val (.int p5), .val (.int p6), .unset, .unset, .unset, .unset, .unset, .unset, .unset, .unset] [(.int (1 : Int32)), (.int (3 : Int32))])) (fun T A t r => XS.iconst A hx rfl (hb hby at_4) r) ?_
    refine Go.sp (g' := (mkF m 6 #[.val (.int p1), .val (.int p2), .val (.int p3), .val (.int p4), .val (.int p5), .val (.int p6), .unset, .unset, .unset, .unset, .unset, .unset, .unset, .unset] [(.int (4 : Int32))])) (fun T A t r => XS.iadd A hx rfl (hb hby at_5) rfl r) ?_
    refine Go.sp (g' := (mkF m 8 #[.val (.int p1), .val (.int p2), .val (.int p3), .val (.int p4), .val (.int p5), .val (.int p6), .val (.int (4 : Int32)), .unset, .unset, .unset, .unset, .unset, .unset, .unset] [])) (fun T A t r => XS.istore A hx rfl (hb hby at_6) rfl (l' := #[.val (.int p1), .val (.int p2), .val (.int p3), .val (.int p4), .val (.int p5), .val (.int p6), .val (.int (4 : Int32)), .unset, .unset, .unset, .unset, .unset, .unset, .unset]) rfl r) ?_
    refine Go.sp (g' := (mkF m 10 #[.val (.int p1), .val (.int p2), .val (.int p3), .val (.int p4), .val (.int p5), .val (.int p6), .val (.int (4 : Int32)), .unset, .unset, .unset, .unset, .unset, .unset, .unset] [(.int (4 : Int32))])) (fun T A t r => XS.iload A hx rfl (hb hby at_8) rfl r) ?_
    refine Go.sp (g' := (mkF m 11 #[.val (.int p1), .val (.int p2), .val (.int p3), .val (.int p4), .val (.int p5), .val (.int p6), .val (.int (4 : Int32)), .unset, .unset, .unset, .unset, .unset, .unset, .unset] [(.int (1 : Int32)), (.int (4 : Int32))])) (fun T A t r => XS.iconst A hx rfl (hb hby at_10) r) ?_
    refine Go.sp (g' := (mkF m 29 #[.val (.int p1), .val (.int p2), .val (.int p3), .val (.int p4), .val (.int p5), .val (.int p6), .val (.int (4 : Int32)), .unset, .unset, .unset, .unset, .unset, .unset, .unset] [])) (fun T A t r => XS.icmpYes A hx rfl (pc0 := 11) (pc' := 29) rfl (hb hby at_11) rfl (feq (by decide : ¬ ((4 : Int32) = (1 : Int32)))).2 (by decide) (by decide) r) ?_
    refine Go.sp (g' := (mkF m 31 #[.val (.int p1), .val (.int p2), .val (.int p3), .val (.int p4), .val (.int p5), .val (.int p6), .val (.int (4 : Int32)), .unset, .unset, .unset, .unset, .unset, .unset, .unset] [(.int (4 : Int32))])) (fun T A t r => XS.iload A hx rfl (hb hby at_29) rfl r) ?_
    refine Go.sp (g' := (mkF m 32 #[.val (.int p1), .val (.int p2), .val (.int p3), .val (.int p4), .val (.int p5), .val (.int p6), .val (.int (4 : Int32)), .unset, .unset, .unset, .unset, .unset, .unset, .unset] [(.int (2 : Int32)), (.int (4 : Int32))])) (fun T A t r => XS.iconst A hx rfl (hb hby at_31) r) ?_
    refine Go.sp (g' := (mkF m 57 #[.val (.int p1), .val (.int p2), .val (.int p3), .val (.int p4), .val (.int p5), .val (.int p6), .val (.int (4 : Int32)), .unset, .unset, .unset, .unset, .unset, .unset, .unset] [])) (fun T A t r => XS.icmpYes A hx rfl (pc0 := 32) (pc' := 57) rfl (hb hby at_32) rfl (feq (by decide : ¬ ((4 : Int32) = (2 : Int32)))).2 (by decide) (by decide) r) ?_
    refine Go.sp (g' := (mkF m 59 #[.val (.int p1), .val (.int p2), .val (.int p3), .val (.int p4), .val (.int p5), .val (.int p6), .val (.int (4 : Int32)), .unset, .unset, .unset, .unset, .unset, .unset, .unset] [(.int (4 : Int32))])) (fun T A t r => XS.iload A hx rfl (hb hby at_57) rfl r) ?_
    refine Go.sp (g' := (mkF m 60 #[.val (.int p1), .val (.int p2), .val (.int p3), .val (.int p4), .val (.int p5), .val (.int p6), .val (.int (4 : Int32)), .unset, .unset, .unset, .unset, .unset, .unset, .unset] [(.int (3 : Int32)), (.int (4 : Int32))])) (fun T A t r => XS.iconst A hx rfl (hb hby at_59) r) ?_
    refine Go.sp (g' := (mkF m 92 #[.val (.int p1), .val (.int p2), .val (.int p3), .val (.int p4), .val (.int p5), .val (.int p6), .val (.int (4 : Int32)), .unset, .unset, .unset, .unset, .unset, .unset, .unset] [])) (fun T A t r => XS.icmpYes A hx rfl (pc0 := 60) (pc' := 92) rfl (hb hby at_60) rfl (feq (by decide : ¬ ((4 : Int32) = (3 : Int32)))).2 (by decide) (by decide) r) ?_
    refine Go.sp (g' := (mkF m 93 #[.val (.int p1), .val (.int p2), .val (.int p3), .val (.int p4), .val (.int p5), .val (.int p6), .val (.int (4 : Int32)), .unset, .unset, .unset, .unset, .unset, .unset, .unset] [(.int (4 : Int32))])) (fun T A t r => XS.iconst A hx rfl (hb hby at_92) r) ?_
    refine Go.newP (ty := .char) (dv := (.int (0 : Int32))) (cap := 4) (k' := 1) (n' := 4) (pc' := 95) (hb hby at_93) rfl rfl (own_w hw 0 rfl) (by decide) (by decide) (by decide) rfl rfl rfl (by decide) (by decide) ?_
    intro b140 h140 k140 g140 sz140 E140 A140
    have V140 : Arv Z h140 b140 k140 .char (4 : Int32) [(.int (0 : Int32)), (.int (0 : Int32)), (.int (0 : Int32)), (.int (0 : Int32))] (.int (0 : Int32)) := A140.pad (pad_rep [] (.int (0 : Int32)) 4)
    refine Go.sp (g' := (mkF m 96 #[.val (.int p1), .val (.int p2), .val (.int p3), .val (.int p4), .val (.int p5), .val (.int p6), .val (.int (4 : Int32)), .unset, .unset, .unset, .unset, .unset, .unset, .unset] [(.ref b140), (.ref b140)])) (fun T A t r => XS.dup A hx rfl (hb hby at_95) rfl rfl r) ?_
    refine Go.sp (g' := (mkF m 97 #[.val (.int p1), .val (.int p2), .val (.int p3), .val (.int p4), .val (.int p5), .val (.int p6), .val (.int (4 : Int32)), .unset, .unset, .unset, .unset, .unset, .unset, .unset] [(.int (0 : Int32)), (.ref b140), (.ref b140)])) (fun T A t r => XS.iconst A hx rfl (hb hby at_96) r) ?_
    refine Go.sp (g' := (mkF m 98 #[.val (.int p1), .val (.int p2), .val (.int p3), .val (.int p4), .val (.int p5), .val (.int p6), .val (.int (4 : Int32)), .unset, .unset, .unset, .unset, .unset, .unset, .unset] [(.int p1), (.int (0 : Int32)), (.ref b140), (.ref b140)])) (fun T A t r => XS.iloadN A hx rfl (hb hby at_97) rfl r) ?_
    refine Go.old fun O141 => ?_
    refine Go.callSPW (W := 3) (y := (⟨"com/example/kept_outbox/keptoutbox/api/MessageToPinLaw", "allowed", "(I)C"⟩ : MethodName)) (argsL := [(.int p1)]) (rest := [(.int (0 : Int32)), (.ref b140), (.ref b140)]) (pc' := 101) (k' := 1) (n' := 4) (hb hby at_98) (own_w hw 1 rfl) (own_w hw 2 rfl) (own_w hw 3 rfl) (own_w hw 4 rfl) (by decide) (rmA l Z a0 hw [] p1 h140 n0 O141) (own_w hw 4 rfl) (own_w hw 3 rfl) (by decide) (by decide) (by rw [hml]; rfl) (lenOf pd_3 rfl) rfl (Nat.le_of_ble_eq_true rfl) rfl rfl rfl (by decide) (by decide) ?_
    rintro v142 ⟨z142, rfl, al142⟩
    refine Go.cast (g' := (mkF m 101 #[.val (.int p1), .val (.int p2), .val (.int p3), .val (.int p4), .val (.int p5), .val (.int p6), .val (.int (4 : Int32)), .unset, .unset, .unset, .unset, .unset, .unset, .unset] [(.int z142), (.int (0 : Int32)), (.ref b140), (.ref b140)])) rfl ?_
    refine Go.w (g' := (mkF m 102 #[.val (.int p1), .val (.int p2), .val (.int p3), .val (.int p4), .val (.int p5), .val (.int p6), .val (.int (4 : Int32)), .unset, .unset, .unset, .unset, .unset, .unset, .unset] [(.ref b140)])) (fun s' T L X eT hZ hown => own_stC X hx hZ eT V140 (j := (0 : Int32)) ⟨by decide, by decide⟩ (g := (mkF m 101 #[.val (.int p1), .val (.int p2), .val (.int p3), .val (.int p4), .val (.int p5), .val (.int p6), .val (.int (4 : Int32)), .unset, .unset, .unset, .unset, .unset, .unset, .unset] [(.int z142), (.int (0 : Int32)), (.ref b140), (.ref b140)])) rfl rfl (hb hby at_101)) (Or.inr sz140) (Or.inr SafeA.nil) ?_
    intro h143 W143
    have V143 : Arv Z h143 b140 k140 .char (4 : Int32) [(.int z142), (.int (0 : Int32)), (.int (0 : Int32)), (.int (0 : Int32))] (.int (0 : Int32)) := own_set V140 (fits_nar_char _) W143 (congrArg Value.int (own_nar (own_alb al142))) 0 rfl (Nat.le_of_ble_eq_true rfl)
    refine Go.sp (g' := (mkF m 103 #[.val (.int p1), .val (.int p2), .val (.int p3), .val (.int p4), .val (.int p5), .val (.int p6), .val (.int (4 : Int32)), .unset, .unset, .unset, .unset, .unset, .unset, .unset] [(.ref b140), (.ref b140)])) (fun T A t r => XS.dup A hx rfl (hb hby at_102) rfl rfl r) ?_
    refine Go.sp (g' := (mkF m 104 #[.val (.int p1), .val (.int p2), .val (.int p3), .val (.int p4), .val (.int p5), .val (.int p6), .val (.int (4 : Int32)), .unset, .unset, .unset, .unset, .unset, .unset, .unset] [(.int (1 : Int32)), (.ref b140), (.ref b140)])) (fun T A t r => XS.iconst A hx rfl (hb hby at_103) r) ?_
    refine Go.sp (g' := (mkF m 105 #[.val (.int p1), .val (.int p2), .val (.int p3), .val (.int p4), .val (.int p5), .val (.int p6), .val (.int (4 : Int32)), .unset, .unset, .unset, .unset, .unset, .unset, .unset] [(.int p2), (.int (1 : Int32)), (.ref b140), (.ref b140)])) (fun T A t r => XS.iloadN A hx rfl (hb hby at_104) rfl r) ?_
    refine Go.old fun O144 => ?_
    refine Go.callSPW (W := 3) (y := (⟨"com/example/kept_outbox/keptoutbox/api/MessageToPinLaw", "allowed", "(I)C"⟩ : MethodName)) (argsL := [(.int p2)]) (rest := [(.int (1 : Int32)), (.ref b140), (.ref b140)]) (pc' := 108) (k' := 1) (n' := 4) (hb hby at_105) (own_w hw 1 rfl) (own_w hw 2 rfl) (own_w hw 3 rfl) (own_w hw 4 rfl) (by decide) (rmA l Z a0 hw [] p2 h143 n0 O144) (own_w hw 4 rfl) (own_w hw 3 rfl) (by decide) (by decide) (by rw [hml]; rfl) (lenOf pd_3 rfl) rfl (Nat.le_of_ble_eq_true rfl) rfl rfl rfl (by decide) (by decide) ?_
    rintro v145 ⟨z145, rfl, al145⟩
    refine Go.cast (g' := (mkF m 108 #[.val (.int p1), .val (.int p2), .val (.int p3), .val (.int p4), .val (.int p5), .val (.int p6), .val (.int (4 : Int32)), .unset, .unset, .unset, .unset, .unset, .unset, .unset] [(.int z145), (.int (1 : Int32)), (.ref b140), (.ref b140)])) rfl ?_
    refine Go.w (g' := (mkF m 109 #[.val (.int p1), .val (.int p2), .val (.int p3), .val (.int p4), .val (.int p5), .val (.int p6), .val (.int (4 : Int32)), .unset, .unset, .unset, .unset, .unset, .unset, .unset] [(.ref b140)])) (fun s' T L X eT hZ hown => own_stC X hx hZ eT V143 (j := (1 : Int32)) ⟨by decide, by decide⟩ (g := (mkF m 108 #[.val (.int p1), .val (.int p2), .val (.int p3), .val (.int p4), .val (.int p5), .val (.int p6), .val (.int (4 : Int32)), .unset, .unset, .unset, .unset, .unset, .unset, .unset] [(.int z145), (.int (1 : Int32)), (.ref b140), (.ref b140)])) rfl rfl (hb hby at_108)) (Or.inr sz140) (Or.inr SafeA.nil) ?_
    intro h146 W146
    have V146 : Arv Z h146 b140 k140 .char (4 : Int32) [(.int z142), (.int z145), (.int (0 : Int32)), (.int (0 : Int32))] (.int (0 : Int32)) := own_set V143 (fits_nar_char _) W146 (congrArg Value.int (own_nar (own_alb al145))) 1 rfl (Nat.le_of_ble_eq_true rfl)
    refine Go.sp (g' := (mkF m 110 #[.val (.int p1), .val (.int p2), .val (.int p3), .val (.int p4), .val (.int p5), .val (.int p6), .val (.int (4 : Int32)), .unset, .unset, .unset, .unset, .unset, .unset, .unset] [(.ref b140), (.ref b140)])) (fun T A t r => XS.dup A hx rfl (hb hby at_109) rfl rfl r) ?_
    refine Go.sp (g' := (mkF m 111 #[.val (.int p1), .val (.int p2), .val (.int p3), .val (.int p4), .val (.int p5), .val (.int p6), .val (.int (4 : Int32)), .unset, .unset, .unset, .unset, .unset, .unset, .unset] [(.int (2 : Int32)), (.ref b140), (.ref b140)])) (fun T A t r => XS.iconst A hx rfl (hb hby at_110) r) ?_
    refine Go.sp (g' := (mkF m 112 #[.val (.int p1), .val (.int p2), .val (.int p3), .val (.int p4), .val (.int p5), .val (.int p6), .val (.int (4 : Int32)), .unset, .unset, .unset, .unset, .unset, .unset, .unset] [(.int p3), (.int (2 : Int32)), (.ref b140), (.ref b140)])) (fun T A t r => XS.iloadN A hx rfl (hb hby at_111) rfl r) ?_
    refine Go.old fun O147 => ?_
    refine Go.callSPW (W := 3) (y := (⟨"com/example/kept_outbox/keptoutbox/api/MessageToPinLaw", "allowed", "(I)C"⟩ : MethodName)) (argsL := [(.int p3)]) (rest := [(.int (2 : Int32)), (.ref b140), (.ref b140)]) (pc' := 115) (k' := 1) (n' := 4) (hb hby at_112) (own_w hw 1 rfl) (own_w hw 2 rfl) (own_w hw 3 rfl) (own_w hw 4 rfl) (by decide) (rmA l Z a0 hw [] p3 h146 n0 O147) (own_w hw 4 rfl) (own_w hw 3 rfl) (by decide) (by decide) (by rw [hml]; rfl) (lenOf pd_3 rfl) rfl (Nat.le_of_ble_eq_true rfl) rfl rfl rfl (by decide) (by decide) ?_
    rintro v148 ⟨z148, rfl, al148⟩
    refine Go.cast (g' := (mkF m 115 #[.val (.int p1), .val (.int p2), .val (.int p3), .val (.int p4), .val (.int p5), .val (.int p6), .val (.int (4 : Int32)), .unset, .unset, .unset, .unset, .unset, .unset, .unset] [(.int z148), (.int (2 : Int32)), (.ref b140), (.ref b140)])) rfl ?_
    refine Go.w (g' := (mkF m 116 #[.val (.int p1), .val (.int p2), .val (.int p3), .val (.int p4), .val (.int p5), .val (.int p6), .val (.int (4 : Int32)), .unset, .unset, .unset, .unset, .unset, .unset, .unset] [(.ref b140)])) (fun s' T L X eT hZ hown => own_stC X hx hZ eT V146 (j := (2 : Int32)) ⟨by decide, by decide⟩ (g := (mkF m 115 #[.val (.int p1), .val (.int p2), .val (.int p3), .val (.int p4), .val (.int p5), .val (.int p6), .val (.int (4 : Int32)), .unset, .unset, .unset, .unset, .unset, .unset, .unset] [(.int z148), (.int (2 : Int32)), (.ref b140), (.ref b140)])) rfl rfl (hb hby at_115)) (Or.inr sz140) (Or.inr SafeA.nil) ?_
    intro h149 W149
    have V149 : Arv Z h149 b140 k140 .char (4 : Int32) [(.int z142), (.int z145), (.int z148), (.int (0 : Int32))] (.int (0 : Int32)) := own_set V146 (fits_nar_char _) W149 (congrArg Value.int (own_nar (own_alb al148))) 2 rfl (Nat.le_of_ble_eq_true rfl)
    refine Go.sp (g' := (mkF m 117 #[.val (.int p1), .val (.int p2), .val (.int p3), .val (.int p4), .val (.int p5), .val (.int p6), .val (.int (4 : Int32)), .unset, .unset, .unset, .unset, .unset, .unset, .unset] [(.ref b140), (.ref b140)])) (fun T A t r => XS.dup A hx rfl (hb hby at_116) rfl rfl r) ?_
    refine Go.sp (g' := (mkF m 118 #[.val (.int p1), .val (.int p2), .val (.int p3), .val (.int p4), .val (.int p5), .val (.int p6), .val (.int (4 : Int32)), .unset, .unset, .unset, .unset, .unset, .unset, .unset] [(.int (3 : Int32)), (.ref b140), (.ref b140)])) (fun T A t r => XS.iconst A hx rfl (hb hby at_117) r) ?_
    refine Go.sp (g' := (mkF m 119 #[.val (.int p1), .val (.int p2), .val (.int p3), .val (.int p4), .val (.int p5), .val (.int p6), .val (.int (4 : Int32)), .unset, .unset, .unset, .unset, .unset, .unset, .unset] [(.int p4), (.int (3 : Int32)), (.ref b140), (.ref b140)])) (fun T A t r => XS.iloadN A hx rfl (hb hby at_118) rfl r) ?_
    refine Go.old fun O150 => ?_
    refine Go.callSPW (W := 3) (y := (⟨"com/example/kept_outbox/keptoutbox/api/MessageToPinLaw", "allowed", "(I)C"⟩ : MethodName)) (argsL := [(.int p4)]) (rest := [(.int (3 : Int32)), (.ref b140), (.ref b140)]) (pc' := 122) (k' := 1) (n' := 4) (hb hby at_119) (own_w hw 1 rfl) (own_w hw 2 rfl) (own_w hw 3 rfl) (own_w hw 4 rfl) (by decide) (rmA l Z a0 hw [] p4 h149 n0 O150) (own_w hw 4 rfl) (own_w hw 3 rfl) (by decide) (by decide) (by rw [hml]; rfl) (lenOf pd_3 rfl) rfl (Nat.le_of_ble_eq_true rfl) rfl rfl rfl (by decide) (by decide) ?_
    rintro v151 ⟨z151, rfl, al151⟩
    refine Go.cast (g' := (mkF m 122 #[.val (.int p1), .val (.int p2), .val (.int p3), .val (.int p4), .val (.int p5), .val (.int p6), .val (.int (4 : Int32)), .unset, .unset, .unset, .unset, .unset, .unset, .unset] [(.int z151), (.int (3 : Int32)), (.ref b140), (.ref b140)])) rfl ?_
    refine Go.w (g' := (mkF m 123 #[.val (.int p1), .val (.int p2), .val (.int p3), .val (.int p4), .val (.int p5), .val (.int p6), .val (.int (4 : Int32)), .unset, .unset, .unset, .unset, .unset, .unset, .unset] [(.ref b140)])) (fun s' T L X eT hZ hown => own_stC X hx hZ eT V149 (j := (3 : Int32)) ⟨by decide, by decide⟩ (g := (mkF m 122 #[.val (.int p1), .val (.int p2), .val (.int p3), .val (.int p4), .val (.int p5), .val (.int p6), .val (.int (4 : Int32)), .unset, .unset, .unset, .unset, .unset, .unset, .unset] [(.int z151), (.int (3 : Int32)), (.ref b140), (.ref b140)])) rfl rfl (hb hby at_122)) (Or.inr sz140) (Or.inr SafeA.nil) ?_
    intro h152 W152
    have V152 : Arv Z h152 b140 k140 .char (4 : Int32) [(.int z142), (.int z145), (.int z148), (.int z151)] (.int (0 : Int32)) := own_set V149 (fits_nar_char _) W152 (congrArg Value.int (own_nar (own_alb al151))) 3 rfl (Nat.le_of_ble_eq_true rfl)
    refine Go.sp (g' := (mkF m 125 #[.val (.int p1), .val (.int p2), .val (.int p3), .val (.int p4), .val (.int p5), .val (.int p6), .val (.int (4 : Int32)), .val (.ref b140), .unset, .unset, .unset, .unset, .unset, .unset] [])) (fun T A t r => XS.astore A hx rfl (hb hby at_123) rfl rfl (l' := #[.val (.int p1), .val (.int p2), .val (.int p3), .val (.int p4), .val (.int p5), .val (.int p6), .val (.int (4 : Int32)), .val (.ref b140), .unset, .unset, .unset, .unset, .unset, .unset]) rfl r) ?_
    refine Go.newO (k' := 2) (n' := 8) (pc' := 128) (hb hby at_125) (own_w hw 6 rfl) (own_w hw 7 rfl) (own_w hw 8 rfl) rfl rfl rfl (by decide) (by decide) ?_
    intro b153 h153 g153 sz153 E153 A153 D153
    have F153_coder : Fld Z h153 b153 "java/lang/String" "coder" "B" (.int (0 : Int32)) := D153 (Or.inr (own_w hw 32 rfl)) (ty := .byte) (by decide)
    have F153_value : Fld Z h153 b153 "java/lang/String" "value" "[B" .null := D153 (Or.inr (own_w hw 34 rfl)) (ty := (.array .byte)) (by decide)
    refine Go.sp (g' := (mkF m 129 #[.val (.int p1), .val (.int p2), .val (.int p3), .val (.int p4), .val (.int p5), .val (.int p6), .val (.int (4 : Int32)), .val (.ref b140), .unset, .unset, .unset, .unset, .unset, .unset] [(.ref b153), (.ref b153)])) (fun T A t r => XS.dup A hx rfl (hb hby at_128) rfl rfl r) ?_
    refine Go.sp (g' := (mkF m 131 #[.val (.int p1), .val (.int p2), .val (.int p3), .val (.int p4), .val (.int p5), .val (.int p6), .val (.int (4 : Int32)), .val (.ref b140), .unset, .unset, .unset, .unset, .unset, .unset] [(.ref b140), (.ref b153), (.ref b153)])) (fun T A t r => XS.aload A hx rfl (hb hby at_129) rfl rfl r) ?_
    have f154 := (V152.ext E153)
    refine Go.old fun O155 => ?_
    have lat156 : ∀ c ∈ [z142, z145, z148, z151], ¬ c < 0 ∧ ¬ (255 : Int32) < c := own_allc (own_alb al142) (own_allc (own_alb al145) (own_allc (own_alb al148) (own_allc (own_alb al151) (own_allc0))))
    refine Go.callC (a := b153) (ws' := [b153]) (W := 1) (y := (⟨"java/lang/String", "<init>", "([C)V"⟩ : MethodName)) (argsL := [(.ref b140)]) (rest := [(.ref b153)]) (pc' := 134) (k' := 3) (n' := 12) (hb hby at_131) rfl (own_w hw 9 rfl) (own_w hw 10 rfl) (own_w hw 11 rfl) (by decide) (fun s' hZ => own_str hw (own_w hw 7 rfl) hZ (cs := [z142, z145, z148, z151]) (n := 4) (Nat.le_trans (Old.le O0) sz153) O155 A153 F153_value F153_coder f154 S0 P0 rfl rfl (by decide) (by decide) lat156 (by decide) (by decide)) (by rw [hml]; rfl) (lenOf pd_9 rfl) rfl (Nat.le_of_ble_eq_true rfl) rfl rfl rfl (by decide) (by decide) (allS (Or.inr sz153) all0) (allS (Or.inr SafeA.nil) all0) ?_
    rintro v157 h157 K157 ⟨rfl, E157, C157, t157, kb157, ge157, V157, B157⟩
    refine Go.cast (g' := (mkF m 134 #[.val (.int p1), .val (.int p2), .val (.int p3), .val (.int p4), .val (.int p5), .val (.int p6), .val (.int (4 : Int32)), .val (.ref b140), .unset, .unset, .unset, .unset, .unset, .unset] [(.ref b153)])) rfl ?_
    refine Go.sp (g' := (mkF m 136 #[.val (.int p1), .val (.int p2), .val (.int p3), .val (.int p4), .val (.int p5), .val (.int p6), .val (.int (4 : Int32)), .val (.ref b140), .val (.ref b153), .unset, .unset, .unset, .unset, .unset] [])) (fun T A t r => XS.astore A hx rfl (hb hby at_134) rfl rfl (l' := #[.val (.int p1), .val (.int p2), .val (.int p3), .val (.int p4), .val (.int p5), .val (.int p6), .val (.int (4 : Int32)), .val (.ref b140), .val (.ref b153), .unset, .unset, .unset, .unset, .unset]) rfl r) ?_
    refine Go.sp (g' := (mkF m 138 #[.val (.int p1), .val (.int p2), .val (.int p3), .val (.int p4), .val (.int p5), .val (.int p6), .val (.int (4 : Int32)), .val (.ref b140), .val (.ref b153), .unset, .unset, .unset, .unset, .unset] [(.int p6)])) (fun T A t r => XS.iload A hx rfl (hb hby at_136) rfl r) ?_
    refine Go.sp (g' := (mkF m 139 #[.val (.int p1), .val (.int p2), .val (.int p3), .val (.int p4), .val (.int p5), .val (.int p6), .val (.int (4 : Int32)), .val (.ref b140), .val (.ref b153), .unset, .unset, .unset, .unset, .unset] [(.int (p6.toInt8.toInt32))])) (fun T A t r => XS.i2b A hx rfl (hb hby at_138) rfl r) ?_
    refine Go.sp (g' := (mkF m 141 #[.val (.int p1), .val (.int p2), .val (.int p3), .val (.int p4), .val (.int p5), .val (.int p6), .val (.int (4 : Int32)), .val (.ref b140), .val (.ref b153), .val (.int (p6.toInt8.toInt32)), .unset, .unset, .unset, .unset] [])) (fun T A t r => XS.istore A hx rfl (hb hby at_139) rfl (l' := #[.val (.int p1), .val (.int p2), .val (.int p3), .val (.int p4), .val (.int p5), .val (.int p6), .val (.int (4 : Int32)), .val (.ref b140), .val (.ref b153), .val (.int (p6.toInt8.toInt32)), .unset, .unset, .unset, .unset]) rfl r) ?_
    refine Go.sp (g' := (mkF m 143 #[.val (.int p1), .val (.int p2), .val (.int p3), .val (.int p4), .val (.int p5), .val (.int p6), .val (.int (4 : Int32)), .val (.ref b140), .val (.ref b153), .val (.int (p6.toInt8.toInt32)), .unset, .unset, .unset, .unset] [(.int p6)])) (fun T A t r => XS.iload A hx rfl (hb hby at_141) rfl r) ?_
    refine Go.sp (g' := (mkF m 145 #[.val (.int p1), .val (.int p2), .val (.int p3), .val (.int p4), .val (.int p5), .val (.int p6), .val (.int (4 : Int32)), .val (.ref b140), .val (.ref b153), .val (.int (p6.toInt8.toInt32)), .unset, .unset, .unset, .unset] [(.int (8 : Int32)), (.int p6)])) (fun T A t r => XS.bipush A hx rfl (hb hby at_143) r) ?_
    refine Go.sp (g' := (mkF m 146 #[.val (.int p1), .val (.int p2), .val (.int p3), .val (.int p4), .val (.int p5), .val (.int p6), .val (.int (4 : Int32)), .val (.ref b140), .val (.ref b153), .val (.int (p6.toInt8.toInt32)), .unset, .unset, .unset, .unset] [(.int ((p6.toUInt32 >>> ((8 : Int32) &&& 31).toUInt32).toInt32))])) (fun T A t r => XS.iushr A hx rfl (hb hby at_145) rfl r) ?_
    refine Go.sp (g' := (mkF m 147 #[.val (.int p1), .val (.int p2), .val (.int p3), .val (.int p4), .val (.int p5), .val (.int p6), .val (.int (4 : Int32)), .val (.ref b140), .val (.ref b153), .val (.int (p6.toInt8.toInt32)), .unset, .unset, .unset, .unset] [(.int (((p6.toUInt32 >>> ((8 : Int32) &&& 31).toUInt32).toInt32).toInt8.toInt32))])) (fun T A t r => XS.i2b A hx rfl (hb hby at_146) rfl r) ?_
    refine Go.sp (g' := (mkF m 149 #[.val (.int p1), .val (.int p2), .val (.int p3), .val (.int p4), .val (.int p5), .val (.int p6), .val (.int (4 : Int32)), .val (.ref b140), .val (.ref b153), .val (.int (p6.toInt8.toInt32)), .val (.int (((p6.toUInt32 >>> ((8 : Int32) &&& 31).toUInt32).toInt32).toInt8.toInt32)), .unset, .unset, .unset] [])) (fun T A t r => XS.istore A hx rfl (hb hby at_147) rfl (l' := #[.val (.int p1), .val (.int p2), .val (.int p3), .val (.int p4), .val (.int p5), .val (.int p6), .val (.int (4 : Int32)), .val (.ref b140), .val (.ref b153), .val (.int (p6.toInt8.toInt32)), .val (.int (((p6.toUInt32 >>> ((8 : Int32) &&& 31).toUInt32).toInt32).toInt8.toInt32)), .unset, .unset, .unset]) rfl r) ?_
    refine Go.sp (g' := (mkF m 151 #[.val (.int p1), .val (.int p2), .val (.int p3), .val (.int p4), .val (.int p5), .val (.int p6), .val (.int (4 : Int32)), .val (.ref b140), .val (.ref b153), .val (.int (p6.toInt8.toInt32)), .val (.int (((p6.toUInt32 >>> ((8 : Int32) &&& 31).toUInt32).toInt32).toInt8.toInt32)), .unset, .unset, .unset] [(.ref b153)])) (fun T A t r => XS.aload A hx rfl (hb hby at_149) rfl rfl r) ?_
    refine Go.old fun O158 => ?_
    refine Go.callSW (ws' := []) (W := 0) (y := (⟨"com/example/kept_outbox/keptoutbox/api/Message", "to", "(Ljava/lang/String;)Lcom/example/kept_outbox/keptoutbox/api/Message$Builder;"⟩ : MethodName)) (argsL := [(.ref b153)]) (rest := []) (pc' := 154) (k' := 6) (n' := 149) (hb hby at_151) (own_w hw 35 rfl) (own_w hw 36 rfl) (own_w hw 37 rfl) (own_w hw 38 rfl) (by decide) (rmT4 l Z a0 hw [] b153 t157 kb157 z142 z145 z148 z151 zS fm h157 n0 O158 E157 C157 V157 B157 al142 al145 al148 al151 S0 P0 SF RF) (own_w hw 38 rfl) (own_w hw 37 rfl) (by decide) (by decide) (by rw [hml]; rfl) (lenOf pd_10 rfl) rfl (Nat.le_of_ble_eq_true rfl) rfl rfl rfl (by decide) (by decide) all0 ?_
    rintro v159 h159 K159 ⟨b159, rfl, E159, F159⟩
    refine Go.cast (g' := (mkF m 154 #[.val (.int p1), .val (.int p2), .val (.int p3), .val (.int p4), .val (.int p5), .val (.int p6), .val (.int (4 : Int32)), .val (.ref b140), .val (.ref b153), .val (.int (p6.toInt8.toInt32)), .val (.int (((p6.toUInt32 >>> ((8 : Int32) &&& 31).toUInt32).toInt32).toInt8.toInt32)), .unset, .unset, .unset] [(.ref b159)])) rfl ?_
    refine Go.sp (g' := (mkF m 155 #[.val (.int p1), .val (.int p2), .val (.int p3), .val (.int p4), .val (.int p5), .val (.int p6), .val (.int (4 : Int32)), .val (.ref b140), .val (.ref b153), .val (.int (p6.toInt8.toInt32)), .val (.int (((p6.toUInt32 >>> ((8 : Int32) &&& 31).toUInt32).toInt32).toInt8.toInt32)), .unset, .unset, .unset] [(.int (2 : Int32)), (.ref b159)])) (fun T A t r => XS.iconst A hx rfl (hb hby at_154) r) ?_
    refine Go.newPE (ty := .byte) (dv := (.int (0 : Int32))) (ad := "[B") (cap := 2) (k' := 7) (n' := 151) (pc' := 157) (hb hby at_155) rfl rfl (by decide) (own_w hw 24 rfl) (by decide) (by decide) (by decide) rfl rfl rfl (by decide) (by decide) ?_
    intro b160 h160 k160 g160 sz160 E160 A160 D160
    have V160 : Arv Z h160 b160 k160 .byte (2 : Int32) [(.int (0 : Int32)), (.int (0 : Int32))] (.int (0 : Int32)) := A160.pad (pad_rep [] (.int (0 : Int32)) 2)
    refine Go.sp (g' := (mkF m 158 #[.val (.int p1), .val (.int p2), .val (.int p3), .val (.int p4), .val (.int p5), .val (.int p6), .val (.int (4 : Int32)), .val (.ref b140), .val (.ref b153), .val (.int (p6.toInt8.toInt32)), .val (.int (((p6.toUInt32 >>> ((8 : Int32) &&& 31).toUInt32).toInt32).toInt8.toInt32)), .unset, .unset, .unset] [(.ref b160), (.ref b160), (.ref b159)])) (fun T A t r => XS.dup A hx rfl (hb hby at_157) rfl rfl r) ?_
    refine Go.sp (g' := (mkF m 159 #[.val (.int p1), .val (.int p2), .val (.int p3), .val (.int p4), .val (.int p5), .val (.int p6), .val (.int (4 : Int32)), .val (.ref b140), .val (.ref b153), .val (.int (p6.toInt8.toInt32)), .val (.int (((p6.toUInt32 >>> ((8 : Int32) &&& 31).toUInt32).toInt32).toInt8.toInt32)), .unset, .unset, .unset] [(.int (0 : Int32)), (.ref b160), (.ref b160), (.ref b159)])) (fun T A t r => XS.iconst A hx rfl (hb hby at_158) r) ?_
    refine Go.sp (g' := (mkF m 161 #[.val (.int p1), .val (.int p2), .val (.int p3), .val (.int p4), .val (.int p5), .val (.int p6), .val (.int (4 : Int32)), .val (.ref b140), .val (.ref b153), .val (.int (p6.toInt8.toInt32)), .val (.int (((p6.toUInt32 >>> ((8 : Int32) &&& 31).toUInt32).toInt32).toInt8.toInt32)), .unset, .unset, .unset] [(.int (p6.toInt8.toInt32)), (.int (0 : Int32)), (.ref b160), (.ref b160), (.ref b159)])) (fun T A t r => XS.iload A hx rfl (hb hby at_159) rfl r) ?_
    refine Go.w (g' := (mkF m 162 #[.val (.int p1), .val (.int p2), .val (.int p3), .val (.int p4), .val (.int p5), .val (.int p6), .val (.int (4 : Int32)), .val (.ref b140), .val (.ref b153), .val (.int (p6.toInt8.toInt32)), .val (.int (((p6.toUInt32 >>> ((8 : Int32) &&& 31).toUInt32).toInt32).toInt8.toInt32)), .unset, .unset, .unset] [(.ref b160), (.ref b159)])) (fun s' T L X eT hZ hown => own_stB X hx hZ eT V160 (j := (0 : Int32)) ⟨by decide, by decide⟩ (g := (mkF m 161 #[.val (.int p1), .val (.int p2), .val (.int p3), .val (.int p4), .val (.int p5), .val (.int p6), .val (.int (4 : Int32)), .val (.ref b140), .val (.ref b153), .val (.int (p6.toInt8.toInt32)), .val (.int (((p6.toUInt32 >>> ((8 : Int32) &&& 31).toUInt32).toInt32).toInt8.toInt32)), .unset, .unset, .unset] [(.int (p6.toInt8.toInt32)), (.int (0 : Int32)), (.ref b160), (.ref b160), (.ref b159)])) rfl rfl (hb hby at_161)) (Or.inr sz160) (Or.inr SafeA.nil) ?_
    intro h161 W161
    have V161 : Arv Z h161 b160 k160 .byte (2 : Int32) [(.int (p6.toInt8.toInt32)), (.int (0 : Int32))] (.int (0 : Int32)) := own_set V160 (fits_nar_byte _) W161 (congrArg Value.int (own_narB _)) 0 rfl (Nat.le_of_ble_eq_true rfl)
    refine Go.sp (g' := (mkF m 163 #[.val (.int p1), .val (.int p2), .val (.int p3), .val (.int p4), .val (.int p5), .val (.int p6), .val (.int (4 : Int32)), .val (.ref b140), .val (.ref b153), .val (.int (p6.toInt8.toInt32)), .val (.int (((p6.toUInt32 >>> ((8 : Int32) &&& 31).toUInt32).toInt32).toInt8.toInt32)), .unset, .unset, .unset] [(.ref b160), (.ref b160), (.ref b159)])) (fun T A t r => XS.dup A hx rfl (hb hby at_162) rfl rfl r) ?_
    refine Go.sp (g' := (mkF m 164 #[.val (.int p1), .val (.int p2), .val (.int p3), .val (.int p4), .val (.int p5), .val (.int p6), .val (.int (4 : Int32)), .val (.ref b140), .val (.ref b153), .val (.int (p6.toInt8.toInt32)), .val (.int (((p6.toUInt32 >>> ((8 : Int32) &&& 31).toUInt32).toInt32).toInt8.toInt32)), .unset, .unset, .unset] [(.int (1 : Int32)), (.ref b160), (.ref b160), (.ref b159)])) (fun T A t r => XS.iconst A hx rfl (hb hby at_163) r) ?_
    refine Go.sp (g' := (mkF m 166 #[.val (.int p1), .val (.int p2), .val (.int p3), .val (.int p4), .val (.int p5), .val (.int p6), .val (.int (4 : Int32)), .val (.ref b140), .val (.ref b153), .val (.int (p6.toInt8.toInt32)), .val (.int (((p6.toUInt32 >>> ((8 : Int32) &&& 31).toUInt32).toInt32).toInt8.toInt32)), .unset, .unset, .unset] [(.int (((p6.toUInt32 >>> ((8 : Int32) &&& 31).toUInt32).toInt32).toInt8.toInt32)), (.int (1 : Int32)), (.ref b160), (.ref b160), (.ref b159)])) (fun T A t r => XS.iload A hx rfl (hb hby at_164) rfl r) ?_
    refine Go.w (g' := (mkF m 167 #[.val (.int p1), .val (.int p2), .val (.int p3), .val (.int p4), .val (.int p5), .val (.int p6), .val (.int (4 : Int32)), .val (.ref b140), .val (.ref b153), .val (.int (p6.toInt8.toInt32)), .val (.int (((p6.toUInt32 >>> ((8 : Int32) &&& 31).toUInt32).toInt32).toInt8.toInt32)), .unset, .unset, .unset] [(.ref b160), (.ref b159)])) (fun s' T L X eT hZ hown => own_stB X hx hZ eT V161 (j := (1 : Int32)) ⟨by decide, by decide⟩ (g := (mkF m 166 #[.val (.int p1), .val (.int p2), .val (.int p3), .val (.int p4), .val (.int p5), .val (.int p6), .val (.int (4 : Int32)), .val (.ref b140), .val (.ref b153), .val (.int (p6.toInt8.toInt32)), .val (.int (((p6.toUInt32 >>> ((8 : Int32) &&& 31).toUInt32).toInt32).toInt8.toInt32)), .unset, .unset, .unset] [(.int (((p6.toUInt32 >>> ((8 : Int32) &&& 31).toUInt32).toInt32).toInt8.toInt32)), (.int (1 : Int32)), (.ref b160), (.ref b160), (.ref b159)])) rfl rfl (hb hby at_166)) (Or.inr sz160) (Or.inr SafeA.nil) ?_
    intro h162 W162
    have V162 : Arv Z h162 b160 k160 .byte (2 : Int32) [(.int (p6.toInt8.toInt32)), (.int (((p6.toUInt32 >>> ((8 : Int32) &&& 31).toUInt32).toInt32).toInt8.toInt32))] (.int (0 : Int32)) := own_set V161 (fits_nar_byte _) W162 (congrArg Value.int (own_narB _)) 1 rfl (Nat.le_of_ble_eq_true rfl)
    refine Go.old fun O163 => ?_
    have f164 := (((E159.ext E160).wr W161).wr W162)
    have ne165 : b159 ≠ b160 := Nat.ne_of_lt (Nat.lt_of_lt_of_le E159.lt (Nat.le_of_eq g160.symm))
    have f166 := (((F159.ext E160).other W161 (Or.inl ne165)).other W162 (Or.inl ne165))
    have f167 := ((D160.wr W161).wr W162)
    refine Go.callVW (a := b159) (z := (⟨"com/example/kept_outbox/keptoutbox/api/Message$Builder", "payload", "([B)Lcom/example/kept_outbox/keptoutbox/api/Message;"⟩ : MethodName)) (ws' := []) (W := 0) (y := (⟨"com/example/kept_outbox/keptoutbox/api/Message$Builder", "payload", "([B)Lcom/example/kept_outbox/keptoutbox/api/Message;"⟩ : MethodName)) (argsL := [(.ref b160)]) (rest := []) (pc' := 170) (k' := 11) (n' := 255) (hb hby at_167) (own_w hw 99 rfl) (own_w hw 100 rfl) (fun s' hZ => notFace_of_selects (args := #[]) (mvT hZ (own_w hw 102 rfl))) (own_w hw 102 rfl) (own_w hw 101 rfl) (by decide) (rmP l Z a0 hw [] b159 b153 b160 k160 (p6.toInt8.toInt32) (((p6.toUInt32 >>> ((8 : Int32) &&& 31).toUInt32).toInt32).toInt8.toInt32) h162 n0 O163 f164 f166 f167 V162) (own_w hw 103 rfl) (own_w hw 41 rfl) (by decide) (by decide) f164 (by rw [hml]; rfl) (lenOf pd_8 rfl) rfl (Nat.le_of_ble_eq_true rfl) rfl rfl rfl (by decide) (by decide) all0 ?_
    rintro v168 h168 K168 ⟨b168, c168, rfl, E168, F168, G168, D168, A168⟩
    refine Go.cast (g' := (mkF m 170 #[.val (.int p1), .val (.int p2), .val (.int p3), .val (.int p4), .val (.int p5), .val (.int p6), .val (.int (4 : Int32)), .val (.ref b140), .val (.ref b153), .val (.int (p6.toInt8.toInt32)), .val (.int (((p6.toUInt32 >>> ((8 : Int32) &&& 31).toUInt32).toInt32).toInt8.toInt32)), .unset, .unset, .unset] [(.ref b168)])) rfl ?_
    refine Go.sp (g' := (mkF m 172 #[.val (.int p1), .val (.int p2), .val (.int p3), .val (.int p4), .val (.int p5), .val (.int p6), .val (.int (4 : Int32)), .val (.ref b140), .val (.ref b153), .val (.int (p6.toInt8.toInt32)), .val (.int (((p6.toUInt32 >>> ((8 : Int32) &&& 31).toUInt32).toInt32).toInt8.toInt32)), .val (.ref b168), .unset, .unset] [])) (fun T A t r => XS.astore A hx rfl (hb hby at_170) rfl rfl (l' := #[.val (.int p1), .val (.int p2), .val (.int p3), .val (.int p4), .val (.int p5), .val (.int p6), .val (.int (4 : Int32)), .val (.ref b140), .val (.ref b153), .val (.int (p6.toInt8.toInt32)), .val (.int (((p6.toUInt32 >>> ((8 : Int32) &&& 31).toUInt32).toInt32).toInt8.toInt32)), .val (.ref b168), .unset, .unset]) rfl r) ?_
    refine Go.sp (g' := (mkF m 174 #[.val (.int p1), .val (.int p2), .val (.int p3), .val (.int p4), .val (.int p5), .val (.int p6), .val (.int (4 : Int32)), .val (.ref b140), .val (.ref b153), .val (.int (p6.toInt8.toInt32)), .val (.int (((p6.toUInt32 >>> ((8 : Int32) &&& 31).toUInt32).toInt32).toInt8.toInt32)), .val (.ref b168), .unset, .unset] [(.ref b168)])) (fun T A t r => XS.aload A hx rfl (hb hby at_172) rfl rfl r) ?_
    refine Go.old fun O169 => ?_
    refine Go.callVPW (a := b168) (z := (⟨"com/example/kept_outbox/keptoutbox/api/Message", "destination", "()Ljava/lang/String;"⟩ : MethodName)) (W := 0) (y := (⟨"com/example/kept_outbox/keptoutbox/api/Message", "destination", "()Ljava/lang/String;"⟩ : MethodName)) (argsL := []) (rest := []) (pc' := 177) (k' := 11) (n' := 255) (hb hby at_174) (own_w hw 130 rfl) (own_w hw 131 rfl) (fun s' hZ => notFace_of_selects (args := #[]) (mvT hZ (own_w hw 133 rfl))) (own_w hw 133 rfl) (own_w hw 132 rfl) (by decide) (rmD l Z a0 hw [] b168 b153 h168 n0 O169 F168) (own_w hw 134 rfl) (own_w hw 37 rfl) (by decide) (by decide) E168 (by rw [hml]; rfl) (lenOf pd_11 rfl) rfl (Nat.le_of_ble_eq_true rfl) rfl rfl rfl (by decide) (by decide) ?_
    rintro v170 rfl
    refine Go.cast (g' := (mkF m 177 #[.val (.int p1), .val (.int p2), .val (.int p3), .val (.int p4), .val (.int p5), .val (.int p6), .val (.int (4 : Int32)), .val (.ref b140), .val (.ref b153), .val (.int (p6.toInt8.toInt32)), .val (.int (((p6.toUInt32 >>> ((8 : Int32) &&& 31).toUInt32).toInt32).toInt8.toInt32)), .val (.ref b168), .unset, .unset] [(.ref b153)])) rfl ?_
    refine Go.sp (g' := (mkF m 179 #[.val (.int p1), .val (.int p2), .val (.int p3), .val (.int p4), .val (.int p5), .val (.int p6), .val (.int (4 : Int32)), .val (.ref b140), .val (.ref b153), .val (.int (p6.toInt8.toInt32)), .val (.int (((p6.toUInt32 >>> ((8 : Int32) &&& 31).toUInt32).toInt32).toInt8.toInt32)), .val (.ref b168), .val (.ref b153), .unset] [])) (fun T A t r => XS.astore A hx rfl (hb hby at_177) rfl rfl (l' := #[.val (.int p1), .val (.int p2), .val (.int p3), .val (.int p4), .val (.int p5), .val (.int p6), .val (.int (4 : Int32)), .val (.ref b140), .val (.ref b153), .val (.int (p6.toInt8.toInt32)), .val (.int (((p6.toUInt32 >>> ((8 : Int32) &&& 31).toUInt32).toInt32).toInt8.toInt32)), .val (.ref b168), .val (.ref b153), .unset]) rfl r) ?_
    refine Go.sp (g' := (mkF m 181 #[.val (.int p1), .val (.int p2), .val (.int p3), .val (.int p4), .val (.int p5), .val (.int p6), .val (.int (4 : Int32)), .val (.ref b140), .val (.ref b153), .val (.int (p6.toInt8.toInt32)), .val (.int (((p6.toUInt32 >>> ((8 : Int32) &&& 31).toUInt32).toInt32).toInt8.toInt32)), .val (.ref b168), .val (.ref b153), .unset] [(.ref b168)])) (fun T A t r => XS.aload A hx rfl (hb hby at_179) rfl rfl r) ?_
    refine Go.callVW (a := b168) (z := (⟨"com/example/kept_outbox/keptoutbox/api/Message", "payload", "()[B"⟩ : MethodName)) (ws' := []) (W := 0) (y := (⟨"com/example/kept_outbox/keptoutbox/api/Message", "payload", "()[B"⟩ : MethodName)) (argsL := []) (rest := []) (pc' := 184) (k' := 12) (n' := 257) (hb hby at_181) (own_w hw 135 rfl) (own_w hw 136 rfl) (fun s' hZ => notFace_of_selects (args := #[]) (mvT hZ (own_w hw 138 rfl))) (own_w hw 138 rfl) (own_w hw 137 rfl) (by decide) (rmQ l Z a0 hw [] b168 c168 k160 (p6.toInt8.toInt32) (((p6.toUInt32 >>> ((8 : Int32) &&& 31).toUInt32).toInt32).toInt8.toInt32) h168 n0 O169 G168 D168 A168) (own_w hw 139 rfl) (own_w hw 37 rfl) (by decide) (by decide) E168 (by rw [hml]; rfl) (lenOf pd_12 rfl) rfl (Nat.le_of_ble_eq_true rfl) rfl rfl rfl (by decide) (by decide) all0 ?_
    rintro v171 h171 K171 ⟨b171, rfl, A171⟩
    refine Go.cast (g' := (mkF m 184 #[.val (.int p1), .val (.int p2), .val (.int p3), .val (.int p4), .val (.int p5), .val (.int p6), .val (.int (4 : Int32)), .val (.ref b140), .val (.ref b153), .val (.int (p6.toInt8.toInt32)), .val (.int (((p6.toUInt32 >>> ((8 : Int32) &&& 31).toUInt32).toInt32).toInt8.toInt32)), .val (.ref b168), .val (.ref b153), .unset] [(.ref b171)])) rfl ?_
    refine Go.sp (g' := (mkF m 186 #[.val (.int p1), .val (.int p2), .val (.int p3), .val (.int p4), .val (.int p5), .val (.int p6), .val (.int (4 : Int32)), .val (.ref b140), .val (.ref b153), .val (.int (p6.toInt8.toInt32)), .val (.int (((p6.toUInt32 >>> ((8 : Int32) &&& 31).toUInt32).toInt32).toInt8.toInt32)), .val (.ref b168), .val (.ref b153), .val (.ref b171)] [])) (fun T A t r => XS.astore A hx rfl (hb hby at_184) rfl rfl (l' := #[.val (.int p1), .val (.int p2), .val (.int p3), .val (.int p4), .val (.int p5), .val (.int p6), .val (.int (4 : Int32)), .val (.ref b140), .val (.ref b153), .val (.int (p6.toInt8.toInt32)), .val (.int (((p6.toUInt32 >>> ((8 : Int32) &&& 31).toUInt32).toInt32).toInt8.toInt32)), .val (.ref b168), .val (.ref b153), .val (.ref b171)]) rfl r) ?_
    refine Go.sp (g' := (mkF m 188 #[.val (.int p1), .val (.int p2), .val (.int p3), .val (.int p4), .val (.int p5), .val (.int p6), .val (.int (4 : Int32)), .val (.ref b140), .val (.ref b153), .val (.int (p6.toInt8.toInt32)), .val (.int (((p6.toUInt32 >>> ((8 : Int32) &&& 31).toUInt32).toInt32).toInt8.toInt32)), .val (.ref b168), .val (.ref b153), .val (.ref b171)] [(.ref b153)])) (fun T A t r => XS.aload A hx rfl (hb hby at_186) rfl rfl r) ?_
    refine Go.sp (g' := (mkF m 190 #[.val (.int p1), .val (.int p2), .val (.int p3), .val (.int p4), .val (.int p5), .val (.int p6), .val (.int (4 : Int32)), .val (.ref b140), .val (.ref b153), .val (.int (p6.toInt8.toInt32)), .val (.int (((p6.toUInt32 >>> ((8 : Int32) &&& 31).toUInt32).toInt32).toInt8.toInt32)), .val (.ref b168), .val (.ref b153), .val (.ref b171)] [(.ref b153), (.ref b153)])) (fun T A t r => XS.aload A hx rfl (hb hby at_188) rfl rfl r) ?_
    refine Go.old fun O172 => ?_
    have f174 := ((((((E157.keep K159).ext E160).wr W161).wr W162).keep K168).keep K171)
    refine Go.callVPW (a := b153) (z := (⟨"java/lang/String", "equals", "(Ljava/lang/Object;)Z"⟩ : MethodName)) (W := 0) (y := (⟨"java/lang/String", "equals", "(Ljava/lang/Object;)Z"⟩ : MethodName)) (argsL := [(.ref b153)]) (rest := []) (pc' := 193) (k' := 12) (n' := 257) (hb hby at_190) (own_w hw 142 rfl) (own_w hw 143 rfl) (fun s' hZ => notFace_of_selects (args := #[]) (mvT hZ (own_w hw 145 rfl))) (own_w hw 145 rfl) (own_w hw 144 rfl) (by decide) (rmE l Z a0 hw [] b153 h171 n0 O172) (own_w hw 146 rfl) (own_w hw 8 rfl) (by decide) (by decide) f174 (by rw [hml]; rfl) (lenOf pd_13 rfl) rfl (Nat.le_of_ble_eq_true rfl) rfl rfl rfl (by decide) (by decide) ?_
    rintro v173 rfl
    refine Go.cast (g' := (mkF m 193 #[.val (.int p1), .val (.int p2), .val (.int p3), .val (.int p4), .val (.int p5), .val (.int p6), .val (.int (4 : Int32)), .val (.ref b140), .val (.ref b153), .val (.int (p6.toInt8.toInt32)), .val (.int (((p6.toUInt32 >>> ((8 : Int32) &&& 31).toUInt32).toInt32).toInt8.toInt32)), .val (.ref b168), .val (.ref b153), .val (.ref b171)] [(.int (1 : Int32))])) rfl ?_
    refine Go.sp (g' := (mkF m 196 #[.val (.int p1), .val (.int p2), .val (.int p3), .val (.int p4), .val (.int p5), .val (.int p6), .val (.int (4 : Int32)), .val (.ref b140), .val (.ref b153), .val (.int (p6.toInt8.toInt32)), .val (.int (((p6.toUInt32 >>> ((8 : Int32) &&& 31).toUInt32).toInt32).toInt8.toInt32)), .val (.ref b168), .val (.ref b153), .val (.ref b171)] [])) (fun T A t r => XS.ifNo A hx rfl (hb hby at_193) rfl ((if0 _ _).trans (feq (by decide : ¬ ((1 : Int32) = (0 : Int32)))).1) r) ?_
    refine Go.sp (g' := (mkF m 198 #[.val (.int p1), .val (.int p2), .val (.int p3), .val (.int p4), .val (.int p5), .val (.int p6), .val (.int (4 : Int32)), .val (.ref b140), .val (.ref b153), .val (.int (p6.toInt8.toInt32)), .val (.int (((p6.toUInt32 >>> ((8 : Int32) &&& 31).toUInt32).toInt32).toInt8.toInt32)), .val (.ref b168), .val (.ref b153), .val (.ref b171)] [(.ref b153)])) (fun T A t r => XS.aload A hx rfl (hb hby at_196) rfl rfl r) ?_
    have f175 := (E157.keep K159)
    have ne176 : b153 ≠ b160 := Nat.ne_of_lt (Nat.lt_of_lt_of_le f175.lt (Nat.le_of_eq g160.symm))
    have f177 := ((((((V157.keep K159 nin0).ext E160).other W161 (Or.inl ne176)).other W162 (Or.inl ne176)).keep K168 nin0).keep K171 nin0)
    have f178 := ((((((C157.keep K159 nin0).ext E160).other W161 (Or.inl ne176)).other W162 (Or.inl ne176)).keep K168 nin0).keep K171 nin0)
    have f179 := (B157.keep K159 nin0)
    have ne180 : t157 ≠ b160 := Nat.ne_of_lt (Nat.lt_of_lt_of_le f179.lt (Nat.le_of_eq g160.symm))
    have f181 := ((((((B157.keep K159 nin0).ext E160).other W161 ne180).other W162 ne180).keep K168 nin0).keep K171 nin0)
    refine Go.callVP (a := b153) (z := (⟨"java/lang/String", "length", "()I"⟩ : MethodName)) (W := 0) (y := (⟨"java/lang/String", "length", "()I"⟩ : MethodName)) (argsL := []) (rest := []) (pc' := 201) (hb hby at_198) (own_w hw 147 rfl) (own_w hw 59 rfl) (fun s' hZ => notFace_of_selects (args := #[]) (mvT hZ (own_w hw 61 rfl))) (own_w hw 61 rfl) (own_w hw 60 rfl) (by decide) (fun s' hZ => Bk.pure (StrChars.Road.lenW (kI := 4) (cs := [z142, z145, z148, z151]) hZ (own_lenw hw) (own_w hw 7 rfl) f174 f177 f178 f181 (own_cod rfl lat156) (own_up lat156) (S0.ext O172.2) P0 (by show 4 ≤ 4000; decide) (by decide) (by decide))) f174 (by rw [hml]; rfl) (lenOf pd_2 rfl) rfl (Nat.le_of_ble_eq_true rfl) rfl (by decide) (by decide) ?_
    rintro v182 rfl
    refine Go.cast (g' := (mkF m 201 #[.val (.int p1), .val (.int p2), .val (.int p3), .val (.int p4), .val (.int p5), .val (.int p6), .val (.int (4 : Int32)), .val (.ref b140), .val (.ref b153), .val (.int (p6.toInt8.toInt32)), .val (.int (((p6.toUInt32 >>> ((8 : Int32) &&& 31).toUInt32).toInt32).toInt8.toInt32)), .val (.ref b168), .val (.ref b153), .val (.ref b171)] [(.int (4 : Int32))])) rfl ?_
    refine Go.sp (g' := (mkF m 203 #[.val (.int p1), .val (.int p2), .val (.int p3), .val (.int p4), .val (.int p5), .val (.int p6), .val (.int (4 : Int32)), .val (.ref b140), .val (.ref b153), .val (.int (p6.toInt8.toInt32)), .val (.int (((p6.toUInt32 >>> ((8 : Int32) &&& 31).toUInt32).toInt32).toInt8.toInt32)), .val (.ref b168), .val (.ref b153), .val (.ref b171)] [(.int (4 : Int32)), (.int (4 : Int32))])) (fun T A t r => XS.iload A hx rfl (hb hby at_201) rfl r) ?_
    refine Go.sp (g' := (mkF m 206 #[.val (.int p1), .val (.int p2), .val (.int p3), .val (.int p4), .val (.int p5), .val (.int p6), .val (.int (4 : Int32)), .val (.ref b140), .val (.ref b153), .val (.int (p6.toInt8.toInt32)), .val (.int (((p6.toUInt32 >>> ((8 : Int32) &&& 31).toUInt32).toInt32).toInt8.toInt32)), .val (.ref b168), .val (.ref b153), .val (.ref b171)] [])) (fun T A t r => XS.icmpNo A hx rfl (hb hby at_203) rfl (teq (by decide : ((4 : Int32) = (4 : Int32)))).2 r) ?_
    refine Go.sp (g' := (mkF m 208 #[.val (.int p1), .val (.int p2), .val (.int p3), .val (.int p4), .val (.int p5), .val (.int p6), .val (.int (4 : Int32)), .val (.ref b140), .val (.ref b153), .val (.int (p6.toInt8.toInt32)), .val (.int (((p6.toUInt32 >>> ((8 : Int32) &&& 31).toUInt32).toInt32).toInt8.toInt32)), .val (.ref b168), .val (.ref b153), .val (.ref b171)] [(.ref b153)])) (fun T A t r => XS.aload A hx rfl (hb hby at_206) rfl rfl r) ?_
    refine Go.sp (g' := (mkF m 209 #[.val (.int p1), .val (.int p2), .val (.int p3), .val (.int p4), .val (.int p5), .val (.int p6), .val (.int (4 : Int32)), .val (.ref b140), .val (.ref b153), .val (.int (p6.toInt8.toInt32)), .val (.int (((p6.toUInt32 >>> ((8 : Int32) &&& 31).toUInt32).toInt32).toInt8.toInt32)), .val (.ref b168), .val (.ref b153), .val (.ref b171)] [(.int (0 : Int32)), (.ref b153)])) (fun T A t r => XS.iconst A hx rfl (hb hby at_208) r) ?_
    refine Go.callVP (a := b153) (z := (⟨"java/lang/String", "charAt", "(I)C"⟩ : MethodName)) (W := 0) (y := (⟨"java/lang/String", "charAt", "(I)C"⟩ : MethodName)) (argsL := [(.int (0 : Int32))]) (rest := []) (pc' := 212) (hb hby at_209) (own_w hw 148 rfl) (own_w hw 69 rfl) (fun s' hZ => notFace_of_selects (args := #[]) (mvT hZ (own_w hw 71 rfl))) (own_w hw 71 rfl) (own_w hw 70 rfl) (by decide) (fun s' hZ => Bk.pure (StrChars.Road.chN (kI := 4) (cs := [z142, z145, z148, z151]) (i := 0) hZ (own_chwd hw) (own_w hw 7 rfl) f174 f177 f178 f181 (own_cod rfl lat156) (own_up lat156) (S0.ext O172.2) P0 (SF.ext O172.2) RF (by show 4 ≤ 4000; decide) (by show 0 < 4; decide) rfl (by decide) (by decide))) f174 (by rw [hml]; rfl) (lenOf pd_3 rfl) rfl (Nat.le_of_ble_eq_true rfl) rfl (by decide) (by decide) ?_
    rintro v183 rfl
    refine Go.cast (g' := (mkF m 212 #[.val (.int p1), .val (.int p2), .val (.int p3), .val (.int p4), .val (.int p5), .val (.int p6), .val (.int (4 : Int32)), .val (.ref b140), .val (.ref b153), .val (.int (p6.toInt8.toInt32)), .val (.int (((p6.toUInt32 >>> ((8 : Int32) &&& 31).toUInt32).toInt32).toInt8.toInt32)), .val (.ref b168), .val (.ref b153), .val (.ref b171)] [(.int z142)])) rfl ?_
    refine Go.sp (g' := (mkF m 214 #[.val (.int p1), .val (.int p2), .val (.int p3), .val (.int p4), .val (.int p5), .val (.int p6), .val (.int (4 : Int32)), .val (.ref b140), .val (.ref b153), .val (.int (p6.toInt8.toInt32)), .val (.int (((p6.toUInt32 >>> ((8 : Int32) &&& 31).toUInt32).toInt32).toInt8.toInt32)), .val (.ref b168), .val (.ref b153), .val (.ref b171)] [(.ref b140), (.int z142)])) (fun T A t r => XS.aload A hx rfl (hb hby at_212) rfl rfl r) ?_
    refine Go.sp (g' := (mkF m 215 #[.val (.int p1), .val (.int p2), .val (.int p3), .val (.int p4), .val (.int p5), .val (.int p6), .val (.int (4 : Int32)), .val (.ref b140), .val (.ref b153), .val (.int (p6.toInt8.toInt32)), .val (.int (((p6.toUInt32 >>> ((8 : Int32) &&& 31).toUInt32).toInt32).toInt8.toInt32)), .val (.ref b168), .val (.ref b153), .val (.ref b171)] [(.int (0 : Int32)), (.ref b140), (.int z142)])) (fun T A t r => XS.iconst A hx rfl (hb hby at_214) r) ?_
    have ne184 : b140 ≠ b153 := Nat.ne_of_lt (Nat.lt_of_lt_of_le V152.lt (Nat.le_of_eq g153.symm))
    have f185 := ((f154.keep K157 (ninS ne184 nin0)).keep K159 nin0)
    have ne186 : b140 ≠ b160 := Nat.ne_of_lt (Nat.lt_of_lt_of_le f185.lt (Nat.le_of_eq g160.symm))
    have f187 := (((((((f154.keep K157 (ninS ne184 nin0)).keep K159 nin0).ext E160).other W161 ne186).other W162 ne186).keep K168 nin0).keep K171 nin0)
    refine Go.r (g' := (mkF m 216 #[.val (.int p1), .val (.int p2), .val (.int p3), .val (.int p4), .val (.int p5), .val (.int p6), .val (.int (4 : Int32)), .val (.ref b140), .val (.ref b153), .val (.int (p6.toInt8.toInt32)), .val (.int (((p6.toUInt32 >>> ((8 : Int32) &&& 31).toUInt32).toInt32).toInt8.toInt32)), .val (.ref b168), .val (.ref b153), .val (.ref b171)] [(.int z142), (.int z142)])) (fun s' T L X eT hZ t r => own_ldC X hx hZ eT f187 (j := (0 : Int32)) ⟨by decide, by decide⟩ (v := (.int z142)) rfl (g := (mkF m 215 #[.val (.int p1), .val (.int p2), .val (.int p3), .val (.int p4), .val (.int p5), .val (.int p6), .val (.int (4 : Int32)), .val (.ref b140), .val (.ref b153), .val (.int (p6.toInt8.toInt32)), .val (.int (((p6.toUInt32 >>> ((8 : Int32) &&& 31).toUInt32).toInt32).toInt8.toInt32)), .val (.ref b168), .val (.ref b153), .val (.ref b171)] [(.int (0 : Int32)), (.ref b140), (.int z142)])) rfl rfl (hb hby at_215) t r) ?_
    refine Go.sp (g' := (mkF m 219 #[.val (.int p1), .val (.int p2), .val (.int p3), .val (.int p4), .val (.int p5), .val (.int p6), .val (.int (4 : Int32)), .val (.ref b140), .val (.ref b153), .val (.int (p6.toInt8.toInt32)), .val (.int (((p6.toUInt32 >>> ((8 : Int32) &&& 31).toUInt32).toInt32).toInt8.toInt32)), .val (.ref b168), .val (.ref b153), .val (.ref b171)] [])) (fun T A t r => XS.icmpNo A hx rfl (hb hby at_216) rfl (teq (rfl : z142 = z142)).2 r) ?_
    refine Go.sp (g' := (mkF m 221 #[.val (.int p1), .val (.int p2), .val (.int p3), .val (.int p4), .val (.int p5), .val (.int p6), .val (.int (4 : Int32)), .val (.ref b140), .val (.ref b153), .val (.int (p6.toInt8.toInt32)), .val (.int (((p6.toUInt32 >>> ((8 : Int32) &&& 31).toUInt32).toInt32).toInt8.toInt32)), .val (.ref b168), .val (.ref b153), .val (.ref b171)] [(.ref b153)])) (fun T A t r => XS.aload A hx rfl (hb hby at_219) rfl rfl r) ?_
    refine Go.sp (g' := (mkF m 223 #[.val (.int p1), .val (.int p2), .val (.int p3), .val (.int p4), .val (.int p5), .val (.int p6), .val (.int (4 : Int32)), .val (.ref b140), .val (.ref b153), .val (.int (p6.toInt8.toInt32)), .val (.int (((p6.toUInt32 >>> ((8 : Int32) &&& 31).toUInt32).toInt32).toInt8.toInt32)), .val (.ref b168), .val (.ref b153), .val (.ref b171)] [(.int (4 : Int32)), (.ref b153)])) (fun T A t r => XS.iload A hx rfl (hb hby at_221) rfl r) ?_
    refine Go.sp (g' := (mkF m 224 #[.val (.int p1), .val (.int p2), .val (.int p3), .val (.int p4), .val (.int p5), .val (.int p6), .val (.int (4 : Int32)), .val (.ref b140), .val (.ref b153), .val (.int (p6.toInt8.toInt32)), .val (.int (((p6.toUInt32 >>> ((8 : Int32) &&& 31).toUInt32).toInt32).toInt8.toInt32)), .val (.ref b168), .val (.ref b153), .val (.ref b171)] [(.int (1 : Int32)), (.int (4 : Int32)), (.ref b153)])) (fun T A t r => XS.iconst A hx rfl (hb hby at_223) r) ?_
    refine Go.sp (g' := (mkF m 225 #[.val (.int p1), .val (.int p2), .val (.int p3), .val (.int p4), .val (.int p5), .val (.int p6), .val (.int (4 : Int32)), .val (.ref b140), .val (.ref b153), .val (.int (p6.toInt8.toInt32)), .val (.int (((p6.toUInt32 >>> ((8 : Int32) &&& 31).toUInt32).toInt32).toInt8.toInt32)), .val (.ref b168), .val (.ref b153), .val (.ref b171)] [(.int (3 : Int32)), (.ref b153)])) (fun T A t r => XS.isub A hx rfl (hb hby at_224) rfl r) ?_
    refine Go.callVP (a := b153) (z := (⟨"java/lang/String", "charAt", "(I)C"⟩ : MethodName)) (W := 0) (y := (⟨"java/lang/String", "charAt", "(I)C"⟩ : MethodName)) (argsL := [(.int (3 : Int32))]) (rest := []) (pc' := 228) (hb hby at_225) (own_w hw 148 rfl) (own_w hw 69 rfl) (fun s' hZ => notFace_of_selects (args := #[]) (mvT hZ (own_w hw 71 rfl))) (own_w hw 71 rfl) (own_w hw 70 rfl) (by decide) (fun s' hZ => Bk.pure (StrChars.Road.chN (kI := 4) (cs := [z142, z145, z148, z151]) (i := 3) hZ (own_chwd hw) (own_w hw 7 rfl) f174 f177 f178 f181 (own_cod rfl lat156) (own_up lat156) (S0.ext O172.2) P0 (SF.ext O172.2) RF (by show 4 ≤ 4000; decide) (by show 3 < 4; decide) rfl (by decide) (by decide))) f174 (by rw [hml]; rfl) (lenOf pd_3 rfl) rfl (Nat.le_of_ble_eq_true rfl) rfl (by decide) (by decide) ?_
    rintro v188 rfl
    refine Go.cast (g' := (mkF m 228 #[.val (.int p1), .val (.int p2), .val (.int p3), .val (.int p4), .val (.int p5), .val (.int p6), .val (.int (4 : Int32)), .val (.ref b140), .val (.ref b153), .val (.int (p6.toInt8.toInt32)), .val (.int (((p6.toUInt32 >>> ((8 : Int32) &&& 31).toUInt32).toInt32).toInt8.toInt32)), .val (.ref b168), .val (.ref b153), .val (.ref b171)] [(.int z151)])) rfl ?_
    refine Go.sp (g' := (mkF m 230 #[.val (.int p1), .val (.int p2), .val (.int p3), .val (.int p4), .val (.int p5), .val (.int p6), .val (.int (4 : Int32)), .val (.ref b140), .val (.ref b153), .val (.int (p6.toInt8.toInt32)), .val (.int (((p6.toUInt32 >>> ((8 : Int32) &&& 31).toUInt32).toInt32).toInt8.toInt32)), .val (.ref b168), .val (.ref b153), .val (.ref b171)] [(.ref b140), (.int z151)])) (fun T A t r => XS.aload A hx rfl (hb hby at_228) rfl rfl r) ?_
    refine Go.sp (g' := (mkF m 232 #[.val (.int p1), .val (.int p2), .val (.int p3), .val (.int p4), .val (.int p5), .val (.int p6), .val (.int (4 : Int32)), .val (.ref b140), .val (.ref b153), .val (.int (p6.toInt8.toInt32)), .val (.int (((p6.toUInt32 >>> ((8 : Int32) &&& 31).toUInt32).toInt32).toInt8.toInt32)), .val (.ref b168), .val (.ref b153), .val (.ref b171)] [(.int (4 : Int32)), (.ref b140), (.int z151)])) (fun T A t r => XS.iload A hx rfl (hb hby at_230) rfl r) ?_
    refine Go.sp (g' := (mkF m 233 #[.val (.int p1), .val (.int p2), .val (.int p3), .val (.int p4), .val (.int p5), .val (.int p6), .val (.int (4 : Int32)), .val (.ref b140), .val (.ref b153), .val (.int (p6.toInt8.toInt32)), .val (.int (((p6.toUInt32 >>> ((8 : Int32) &&& 31).toUInt32).toInt32).toInt8.toInt32)), .val (.ref b168), .val (.ref b153), .val (.ref b171)] [(.int (1 : Int32)), (.int (4 : Int32)), (.ref b140), (.int z151)])) (fun T A t r => XS.iconst A hx rfl (hb hby at_232) r) ?_
    refine Go.sp (g' := (mkF m 234 #[.val (.int p1), .val (.int p2), .val (.int p3), .val (.int p4), .val (.int p5), .val (.int p6), .val (.int (4 : Int32)), .val (.ref b140), .val (.ref b153), .val (.int (p6.toInt8.toInt32)), .val (.int (((p6.toUInt32 >>> ((8 : Int32) &&& 31).toUInt32).toInt32).toInt8.toInt32)), .val (.ref b168), .val (.ref b153), .val (.ref b171)] [(.int (3 : Int32)), (.ref b140), (.int z151)])) (fun T A t r => XS.isub A hx rfl (hb hby at_233) rfl r) ?_
    refine Go.r (g' := (mkF m 235 #[.val (.int p1), .val (.int p2), .val (.int p3), .val (.int p4), .val (.int p5), .val (.int p6), .val (.int (4 : Int32)), .val (.ref b140), .val (.ref b153), .val (.int (p6.toInt8.toInt32)), .val (.int (((p6.toUInt32 >>> ((8 : Int32) &&& 31).toUInt32).toInt32).toInt8.toInt32)), .val (.ref b168), .val (.ref b153), .val (.ref b171)] [(.int z151), (.int z151)])) (fun s' T L X eT hZ t r => own_ldC X hx hZ eT f187 (j := (3 : Int32)) ⟨by decide, by decide⟩ (v := (.int z151)) rfl (g := (mkF m 234 #[.val (.int p1), .val (.int p2), .val (.int p3), .val (.int p4), .val (.int p5), .val (.int p6), .val (.int (4 : Int32)), .val (.ref b140), .val (.ref b153), .val (.int (p6.toInt8.toInt32)), .val (.int (((p6.toUInt32 >>> ((8 : Int32) &&& 31).toUInt32).toInt32).toInt8.toInt32)), .val (.ref b168), .val (.ref b153), .val (.ref b171)] [(.int (3 : Int32)), (.ref b140), (.int z151)])) rfl rfl (hb hby at_234) t r) ?_
    refine Go.sp (g' := (mkF m 238 #[.val (.int p1), .val (.int p2), .val (.int p3), .val (.int p4), .val (.int p5), .val (.int p6), .val (.int (4 : Int32)), .val (.ref b140), .val (.ref b153), .val (.int (p6.toInt8.toInt32)), .val (.int (((p6.toUInt32 >>> ((8 : Int32) &&& 31).toUInt32).toInt32).toInt8.toInt32)), .val (.ref b168), .val (.ref b153), .val (.ref b171)] [])) (fun T A t r => XS.icmpNo A hx rfl (hb hby at_235) rfl (teq (rfl : z151 = z151)).2 r) ?_
    refine Go.sp (g' := (mkF m 240 #[.val (.int p1), .val (.int p2), .val (.int p3), .val (.int p4), .val (.int p5), .val (.int p6), .val (.int (4 : Int32)), .val (.ref b140), .val (.ref b153), .val (.int (p6.toInt8.toInt32)), .val (.int (((p6.toUInt32 >>> ((8 : Int32) &&& 31).toUInt32).toInt32).toInt8.toInt32)), .val (.ref b168), .val (.ref b153), .val (.ref b171)] [(.ref b171)])) (fun T A t r => XS.aload A hx rfl (hb hby at_238) rfl rfl r) ?_
    refine Go.r (g' := (mkF m 241 #[.val (.int p1), .val (.int p2), .val (.int p3), .val (.int p4), .val (.int p5), .val (.int p6), .val (.int (4 : Int32)), .val (.ref b140), .val (.ref b153), .val (.int (p6.toInt8.toInt32)), .val (.int (((p6.toUInt32 >>> ((8 : Int32) &&& 31).toUInt32).toInt32).toInt8.toInt32)), .val (.ref b168), .val (.ref b153), .val (.ref b171)] [(.int (2 : Int32))])) (fun s' T L X eT hZ t r => own_len X hx hZ eT A171 (g := (mkF m 240 #[.val (.int p1), .val (.int p2), .val (.int p3), .val (.int p4), .val (.int p5), .val (.int p6), .val (.int (4 : Int32)), .val (.ref b140), .val (.ref b153), .val (.int (p6.toInt8.toInt32)), .val (.int (((p6.toUInt32 >>> ((8 : Int32) &&& 31).toUInt32).toInt32).toInt8.toInt32)), .val (.ref b168), .val (.ref b153), .val (.ref b171)] [(.ref b171)])) rfl rfl (hb hby at_240) t r) ?_
    refine Go.sp (g' := (mkF m 242 #[.val (.int p1), .val (.int p2), .val (.int p3), .val (.int p4), .val (.int p5), .val (.int p6), .val (.int (4 : Int32)), .val (.ref b140), .val (.ref b153), .val (.int (p6.toInt8.toInt32)), .val (.int (((p6.toUInt32 >>> ((8 : Int32) &&& 31).toUInt32).toInt32).toInt8.toInt32)), .val (.ref b168), .val (.ref b153), .val (.ref b171)] [(.int (2 : Int32)), (.int (2 : Int32))])) (fun T A t r => XS.iconst A hx rfl (hb hby at_241) r) ?_
    refine Go.sp (g' := (mkF m 245 #[.val (.int p1), .val (.int p2), .val (.int p3), .val (.int p4), .val (.int p5), .val (.int p6), .val (.int (4 : Int32)), .val (.ref b140), .val (.ref b153), .val (.int (p6.toInt8.toInt32)), .val (.int (((p6.toUInt32 >>> ((8 : Int32) &&& 31).toUInt32).toInt32).toInt8.toInt32)), .val (.ref b168), .val (.ref b153), .val (.ref b171)] [])) (fun T A t r => XS.icmpNo A hx rfl (hb hby at_242) rfl (teq (by decide : ((2 : Int32) = (2 : Int32)))).2 r) ?_
    refine Go.sp (g' := (mkF m 247 #[.val (.int p1), .val (.int p2), .val (.int p3), .val (.int p4), .val (.int p5), .val (.int p6), .val (.int (4 : Int32)), .val (.ref b140), .val (.ref b153), .val (.int (p6.toInt8.toInt32)), .val (.int (((p6.toUInt32 >>> ((8 : Int32) &&& 31).toUInt32).toInt32).toInt8.toInt32)), .val (.ref b168), .val (.ref b153), .val (.ref b171)] [(.ref b171)])) (fun T A t r => XS.aload A hx rfl (hb hby at_245) rfl rfl r) ?_
    refine Go.sp (g' := (mkF m 248 #[.val (.int p1), .val (.int p2), .val (.int p3), .val (.int p4), .val (.int p5), .val (.int p6), .val (.int (4 : Int32)), .val (.ref b140), .val (.ref b153), .val (.int (p6.toInt8.toInt32)), .val (.int (((p6.toUInt32 >>> ((8 : Int32) &&& 31).toUInt32).toInt32).toInt8.toInt32)), .val (.ref b168), .val (.ref b153), .val (.ref b171)] [(.int (0 : Int32)), (.ref b171)])) (fun T A t r => XS.iconst A hx rfl (hb hby at_247) r) ?_
    refine Go.r (g' := (mkF m 249 #[.val (.int p1), .val (.int p2), .val (.int p3), .val (.int p4), .val (.int p5), .val (.int p6), .val (.int (4 : Int32)), .val (.ref b140), .val (.ref b153), .val (.int (p6.toInt8.toInt32)), .val (.int (((p6.toUInt32 >>> ((8 : Int32) &&& 31).toUInt32).toInt32).toInt8.toInt32)), .val (.ref b168), .val (.ref b153), .val (.ref b171)] [(.int (p6.toInt8.toInt32))])) (fun s' T L X eT hZ t r => own_ldB X hx hZ eT A171 (j := (0 : Int32)) ⟨by decide, by decide⟩ (v := (.int (p6.toInt8.toInt32))) rfl (g := (mkF m 248 #[.val (.int p1), .val (.int p2), .val (.int p3), .val (.int p4), .val (.int p5), .val (.int p6), .val (.int (4 : Int32)), .val (.ref b140), .val (.ref b153), .val (.int (p6.toInt8.toInt32)), .val (.int (((p6.toUInt32 >>> ((8 : Int32) &&& 31).toUInt32).toInt32).toInt8.toInt32)), .val (.ref b168), .val (.ref b153), .val (.ref b171)] [(.int (0 : Int32)), (.ref b171)])) rfl rfl (hb hby at_248) t r) ?_
    refine Go.sp (g' := (mkF m 251 #[.val (.int p1), .val (.int p2), .val (.int p3), .val (.int p4), .val (.int p5), .val (.int p6), .val (.int (4 : Int32)), .val (.ref b140), .val (.ref b153), .val (.int (p6.toInt8.toInt32)), .val (.int (((p6.toUInt32 >>> ((8 : Int32) &&& 31).toUInt32).toInt32).toInt8.toInt32)), .val (.ref b168), .val (.ref b153), .val (.ref b171)] [(.int (p6.toInt8.toInt32)), (.int (p6.toInt8.toInt32))])) (fun T A t r => XS.iload A hx rfl (hb hby at_249) rfl r) ?_
    refine Go.sp (g' := (mkF m 254 #[.val (.int p1), .val (.int p2), .val (.int p3), .val (.int p4), .val (.int p5), .val (.int p6), .val (.int (4 : Int32)), .val (.ref b140), .val (.ref b153), .val (.int (p6.toInt8.toInt32)), .val (.int (((p6.toUInt32 >>> ((8 : Int32) &&& 31).toUInt32).toInt32).toInt8.toInt32)), .val (.ref b168), .val (.ref b153), .val (.ref b171)] [])) (fun T A t r => XS.icmpNo A hx rfl (hb hby at_251) rfl (teq (rfl : (p6.toInt8.toInt32) = (p6.toInt8.toInt32))).2 r) ?_
    refine Go.sp (g' := (mkF m 256 #[.val (.int p1), .val (.int p2), .val (.int p3), .val (.int p4), .val (.int p5), .val (.int p6), .val (.int (4 : Int32)), .val (.ref b140), .val (.ref b153), .val (.int (p6.toInt8.toInt32)), .val (.int (((p6.toUInt32 >>> ((8 : Int32) &&& 31).toUInt32).toInt32).toInt8.toInt32)), .val (.ref b168), .val (.ref b153), .val (.ref b171)] [(.ref b171)])) (fun T A t r => XS.aload A hx rfl (hb hby at_254) rfl rfl r) ?_
    refine Go.sp (g' := (mkF m 257 #[.val (.int p1), .val (.int p2), .val (.int p3), .val (.int p4), .val (.int p5), .val (.int p6), .val (.int (4 : Int32)), .val (.ref b140), .val (.ref b153), .val (.int (p6.toInt8.toInt32)), .val (.int (((p6.toUInt32 >>> ((8 : Int32) &&& 31).toUInt32).toInt32).toInt8.toInt32)), .val (.ref b168), .val (.ref b153), .val (.ref b171)] [(.int (1 : Int32)), (.ref b171)])) (fun T A t r => XS.iconst A hx rfl (hb hby at_256) r) ?_
    refine Go.r (g' := (mkF m 258 #[.val (.int p1), .val (.int p2), .val (.int p3), .val (.int p4), .val (.int p5), .val (.int p6), .val (.int (4 : Int32)), .val (.ref b140), .val (.ref b153), .val (.int (p6.toInt8.toInt32)), .val (.int (((p6.toUInt32 >>> ((8 : Int32) &&& 31).toUInt32).toInt32).toInt8.toInt32)), .val (.ref b168), .val (.ref b153), .val (.ref b171)] [(.int (((p6.toUInt32 >>> ((8 : Int32) &&& 31).toUInt32).toInt32).toInt8.toInt32))])) (fun s' T L X eT hZ t r => own_ldB X hx hZ eT A171 (j := (1 : Int32)) ⟨by decide, by decide⟩ (v := (.int (((p6.toUInt32 >>> ((8 : Int32) &&& 31).toUInt32).toInt32).toInt8.toInt32))) rfl (g := (mkF m 257 #[.val (.int p1), .val (.int p2), .val (.int p3), .val (.int p4), .val (.int p5), .val (.int p6), .val (.int (4 : Int32)), .val (.ref b140), .val (.ref b153), .val (.int (p6.toInt8.toInt32)), .val (.int (((p6.toUInt32 >>> ((8 : Int32) &&& 31).toUInt32).toInt32).toInt8.toInt32)), .val (.ref b168), .val (.ref b153), .val (.ref b171)] [(.int (1 : Int32)), (.ref b171)])) rfl rfl (hb hby at_257) t r) ?_
    refine Go.sp (g' := (mkF m 260 #[.val (.int p1), .val (.int p2), .val (.int p3), .val (.int p4), .val (.int p5), .val (.int p6), .val (.int (4 : Int32)), .val (.ref b140), .val (.ref b153), .val (.int (p6.toInt8.toInt32)), .val (.int (((p6.toUInt32 >>> ((8 : Int32) &&& 31).toUInt32).toInt32).toInt8.toInt32)), .val (.ref b168), .val (.ref b153), .val (.ref b171)] [(.int (((p6.toUInt32 >>> ((8 : Int32) &&& 31).toUInt32).toInt32).toInt8.toInt32)), (.int (((p6.toUInt32 >>> ((8 : Int32) &&& 31).toUInt32).toInt32).toInt8.toInt32))])) (fun T A t r => XS.iload A hx rfl (hb hby at_258) rfl r) ?_
    refine Go.sp (g' := (mkF m 263 #[.val (.int p1), .val (.int p2), .val (.int p3), .val (.int p4), .val (.int p5), .val (.int p6), .val (.int (4 : Int32)), .val (.ref b140), .val (.ref b153), .val (.int (p6.toInt8.toInt32)), .val (.int (((p6.toUInt32 >>> ((8 : Int32) &&& 31).toUInt32).toInt32).toInt8.toInt32)), .val (.ref b168), .val (.ref b153), .val (.ref b171)] [])) (fun T A t r => XS.icmpNo A hx rfl (hb hby at_260) rfl (teq (rfl : (((p6.toUInt32 >>> ((8 : Int32) &&& 31).toUInt32).toInt32).toInt8.toInt32) = (((p6.toUInt32 >>> ((8 : Int32) &&& 31).toUInt32).toInt32).toInt8.toInt32))).2 r) ?_
    refine Go.sp (g' := (mkF m 264 #[.val (.int p1), .val (.int p2), .val (.int p3), .val (.int p4), .val (.int p5), .val (.int p6), .val (.int (4 : Int32)), .val (.ref b140), .val (.ref b153), .val (.int (p6.toInt8.toInt32)), .val (.int (((p6.toUInt32 >>> ((8 : Int32) &&& 31).toUInt32).toInt32).toInt8.toInt32)), .val (.ref b168), .val (.ref b153), .val (.ref b171)] [(.int (1 : Int32))])) (fun T A t r => XS.iconst A hx rfl (hb hby at_263) r) ?_
    refine Go.sp (g' := (mkF m 268 #[.val (.int p1), .val (.int p2), .val (.int p3), .val (.int p4), .val (.int p5), .val (.int p6), .val (.int (4 : Int32)), .val (.ref b140), .val (.ref b153), .val (.int (p6.toInt8.toInt32)), .val (.int (((p6.toUInt32 >>> ((8 : Int32) &&& 31).toUInt32).toInt32).toInt8.toInt32)), .val (.ref b168), .val (.ref b153), .val (.ref b171)] [(.int (1 : Int32))])) (fun T A t r => XS.goto A hx rfl (pc0 := 264) (pc' := 268) rfl (hb hby at_264) (by decide) (by decide) r) ?_
    exact Go.ret (v := (some (.int (nar .boolean (1 : Int32))))) (fun s' T L fs X hr => retN X hx (t := .boolean) hret (by simp) (hb hby at_268) hr) (fun h => by rw [hret] at h; cases h) (by decide) (by decide) rfl
set_option maxRecDepth 65536 in
set_option maxHeartbeats 40000000 in
theorem comes_1 {Post : Tables → Env → Array Value → State → Outcome → State → Prop} (hpost : ∀ tb e args s v u, (limb_1_1.after args s (.returned v) u = true ∧ limb_1_2.after args s (.returned v) u = true ∧ True) → ReturnedEndW s (.returned v) u (Jvm.fieldLocs frame_1_writes args s ++ Jvm.arrayLocs frame_1_arrays args s ++ Jvm.staticLocs frame_1_statics s) 32 2176 → Post tb e args s (.returned v) u) :
    ArmFor flags0 classFile x code maxLocals ret World_1 tables_1 room_1 Calls_1 rest_1 Pre_1 Post := by
  intro l hfl _ _ p e ha hc hk s m args below hf hA hF happ hP
  obtain ⟨hcalls, hrest, hpre⟩ := hP
  obtain ⟨-, -, -, hnamed, -, -, -, hat⟩ := (Spec.applies_iff hf).mp happ
  obtain ⟨hg, hn⟩ := and_e (Cond.before_iff.mp (show (Jvm.Cond.and given_1 narrow_1).before args s = true from hpre))
  obtain ⟨gc, q0⟩ := and_e hg
  obtain ⟨ga0, q1⟩ := and_e q0
  obtain ⟨ga1, q2⟩ := and_e q1
  obtain ⟨ga2, q3⟩ := and_e q2
  obtain ⟨ga3, q4⟩ := and_e q3
  obtain ⟨ga4, q5⟩ := and_e q4
  obtain ⟨w0, w1, w2, w3, w4, w5, rfl⟩ : ∃ w0 w1 w2 w3 w4 w5 : Value, args = #[w0, w1, w2, w3, w4, w5] := by
    have hs : args.size = 6 := by simpa [Cond.value, given_1] using gc
    obtain ⟨L⟩ := args
    match L, hs with
    | [w0, w1, w2, w3, w4, w5], _ => exact ⟨w0, w1, w2, w3, w4, w5, rfl⟩
  have hw := fun d (hd : d ∈ tables_1) => atoms_spec (ws := Jvm.Cond.code x code maxLocals ret :: tables_1) hat d (List.mem_cons_of_mem _ hd)
  have hfit : Fit s := fun {y c} hc i hi => by
    obtain ⟨ha, rfl⟩ := Array.getElem?_eq_some_iff.mp hc
    have q := List.all_eq_true.mp ((Array.all_eq_true_iff_forall_mem.mp hF) _ (Array.getElem_mem ha)) i (List.mem_range.mpr hi)
    simpa [Array.getElem?_eq_getElem hi] using q
  obtain ⟨hsets, hown0⟩ := atoms_of _ (rest_1_c_eq ▸ (show rest_1_c.before _ s = true from hrest))
  have hr0 := Cond.before_iff.mp hown0
  obtain ⟨i0, ei0⟩ := is_v ga0
  obtain rfl : w0 = (.int i0) := Option.some.inj ei0
  obtain ⟨i1, ei1⟩ := is_v ga1
  obtain rfl : w1 = (.int i1) := Option.some.inj ei1
  obtain ⟨i2, ei2⟩ := is_v ga2
  obtain rfl : w2 = (.int i2) := Option.some.inj ei2
  obtain ⟨i3, ei3⟩ := is_v ga3
  obtain rfl : w3 = (.int i3) := Option.some.inj ei3
  obtain ⟨i4, ei4⟩ := is_v ga4
  obtain rfl : w4 = (.int i4) := Option.some.inj ei4
  obtain ⟨i5, ei5⟩ := is_v q5
  obtain rfl : w5 = (.int i5) := Option.some.inj ei5
  have nS := not_v (Cond.before_iff.mp (hsets _ (List.mem_of_getElem? (i := 2) rfl)))
  obtain ⟨zS, eS⟩ := is_v (Cond.before_iff.mp (hsets _ (List.mem_of_getElem? (i := 1) rfl)))
  have S0 : Sta s s.heap "java/lang/String" "COMPACT_STRINGS" "Z" (.int zS) := Sta.start eS (Or.inl (hsets _ (List.mem_of_getElem? (i := 0) rfl)))
  have P0 : ¬ (zS = (0 : Int32)) := gotF (Cond.eq_ints eS (Term.int_eval (0))) nS
  obtain ⟨fm, eF, RF⟩ := isR_v (Cond.before_iff.mp (hsets _ (List.mem_of_getElem? (i := 8) rfl)))
  have SF : Sta s s.heap "jdk/internal/util/Preconditions" "SIOOBE_FORMATTER" "Ljava/util/function/BiFunction;" fm := Sta.start eF (Or.inl (hsets _ (List.mem_of_getElem? (i := 7) rfl)))
  have HC : CHv s own_EL s.vm s.heap := fun q hq => (List.not_mem_nil (show q ∈ ([] : List (String × Nat)) from hq)).elim
  obtain ⟨n, o, h1, h2, h3, _, L, rfl, ⟨N, -, rfl⟩, -, hq⟩ := rm0 l s _ hw tables_1 i0 i1 i2 i3 i4 i5 zS fm s.heap s.heap.size (Old.start s) S0 P0 SF RF p e ha hc hk s m _ below hf ((Spec.applies_iff_loose hf).mp happ).1 ⟨rfl, State.Warmed39.refl s, rfl, HC⟩ trivial
  refine ⟨n, _, h1, h2, h3, hpost _ _ _ _ _ _ ⟨Cond.after_iff.mpr rfl, Cond.after_iff.mpr (eq_i res_at (Term.int_eval (1)) rfl), trivial⟩ ⟨hq.1, hq.2.1, hq.2.2.1, (hq.2.2.2.sift fun y hy => Or.inr (N y hy)).mono (by decide) (by decide)⟩⟩
theorem main_1_1 : Claimed_1_1 := comes_1 fun _ _ _ _ _ _ h hF => ⟨h.1, hF⟩
theorem main_1_2 : Claimed_1_2 := comes_1 fun _ _ _ _ _ _ h hF => ⟨h.2.1, hF⟩
end Jvm.Pilot.@@N@@
namespace Jvm.Pilot.@@N@@
open Jvm Jvm.ClassFile Sem Op Lib Jvm.Free Jvm.Stand Jvm.Pilot.@@N@@.Jvm.D
/-! MADE BY PROGRAM (witnessworld.py) out of the Statement's table words and the real class files: 23 classes; the members and pool entries that the words name. The judged class is class 1, her method 2. -/
namespace start1
open Jvm.ClassFile
def u (s : String) : CpInfo := .utf8 (stringToUtf16 s)
/-- a pool by its gaps: so many unusable entries, then the entry; so many at the end -/
def gap : Nat → List CpInfo → List CpInfo
  | 0, r => r
  | n + 1, r => .unusable :: gap n r
def poolList (es : List (Nat × CpInfo)) (last : Nat) : List CpInfo := es.foldr (fun e r => gap e.1 (e.2 :: r)) (gap last [])
def pool (es : List (Nat × CpInfo)) (last : Nat) : Array CpInfo := ⟨poolList es last⟩
def fileOf (pool : Array CpInfo) (this : Nat) (attrs : Array Attribute := #[]) (ms : Array MethodInfo := #[]) (fl : Nat := 33) (sup : Nat := 0) (ifs : Array Nat := #[]) (fds : Array FieldInfo := #[]) : ClassFile where
  minorVersion := 0
  majorVersion := 65
  constantPool := pool
  accessFlags := fl
  thisClass := this
  superClass := sup
  interfaces := ifs
  fields := fds
  methods := ms
  attributes := attrs
def plain (name : String) (sup : Option ClassId) : Class where
  name := name
  kind := .ordinary
  loader := none
  accessFlags := 33
  super := sup
  interfaces := #[]
  cf := none
  fields := #[]
  methods := #[]
  instanceTypes := #[]
  staticTypes := #[]
  resolved := #[]
  callSites := []
  init := .initialized
  statics := none
  mirror := none

def pool0 : Array CpInfo := pool [(5, u "<init>"), (0, u "()V"), (1, .class_ 10), (1, u "java/lang/Object"), (85, u "clone"), (0, u "()Ljava/lang/Object;")] 26

def k0c0 : Code := { maxStack := 0, maxLocals := 1, code := object_method_1_code, exceptionTable := #[], attributes := #[] }
def k0m0 : Method := { name := "<init>", desc := "()V", sig := { parameters := [], returnType := none }, accessFlags := 1, code := some k0c0 }
def k0m1 : Method := { name := "clone", desc := "()Ljava/lang/Object;", sig := { parameters := [], returnType := some (.object "java/lang/Object") }, accessFlags := 260, code := none }
/-- java/lang/Object -/
def k0 : Class := { plain "java/lang/Object" none with
  accessFlags := 33
  interfaces := #[]
  cf := some (fileOf pool0 8 #[] #[{ accessFlags := 1, nameIndex := 5, descriptorIndex := 6, attributes := #[] }, { accessFlags := 260, nameIndex := 96, descriptorIndex := 97, attributes := #[] }] 33 0 #[] #[])
  fields := #[]
  methods := #[k0m0, k0m1]
  instanceTypes := #[]
  staticTypes := #[]
  resolved := Array.replicate 124 none
  statics := none }

def pool1 : Array CpInfo := pool [(2, .class_ 4), (1, u "java/lang/Object"), (0, u "<init>"), (0, u "()V"), (0, .integer 2147483647), (0, .methodref 9 10), (0, .class_ 11), (0, .nameAndType 12 13), (0, u "com/example/kept_outbox/keptoutbox/api/MessageToPinLaw"), (0, u "allowed"), (0, u "(I)C"), (0, .class_ 15), (0, u "java/lang/String"), (0, .methodref 14 17), (0, .nameAndType 5 18), (0, u "([C)V"), (0, .methodref 20 21), (0, .class_ 22), (0, .nameAndType 23 24), (0, u "com/example/kept_outbox/keptoutbox/api/Message"), (0, u "to"), (0, u "(Ljava/lang/String;)Lcom/example/kept_outbox/keptoutbox/api/Message$Builder;"), (0, .methodref 26 27), (0, .class_ 28), (0, .nameAndType 29 30), (0, u "com/example/kept_outbox/keptoutbox/api/Message$Builder"), (0, u "payload"), (0, u "([B)Lcom/example/kept_outbox/keptoutbox/api/Message;"), (0, .methodref 20 32), (0, .nameAndType 33 34), (0, u "destination"), (0, u "()Ljava/lang/String;"), (0, .methodref 20 36), (0, .nameAndType 29 37), (0, u "()[B"), (0, .methodref 14 39), (0, .nameAndType 40 41), (0, u "equals"), (0, u "(Ljava/lang/Object;)Z"), (0, .methodref 14 43), (0, .nameAndType 44 45), (0, u "length"), (0, u "()I"), (0, .methodref 14 47), (0, .nameAndType 48 13), (0, u "charAt"), (3, u "law"), (0, u "(IIIIII)Z")] 8

def k1m0 : Method := { name := "<init>", desc := "()V", sig := { parameters := [], returnType := none }, accessFlags := 2, code := none }
def k1c1 : Code := { maxStack := 3, maxLocals := 2, code := method_2_code, exceptionTable := #[], attributes := #[] }
def k1m1 : Method := { name := "allowed", desc := "(I)C", sig := { parameters := [.int], returnType := some .char }, accessFlags := 10, code := some k1c1 }
def k1c2 : Code := { maxStack := 5, maxLocals := 14, code := code, exceptionTable := #[], attributes := #[] }
def k1m2 : Method := { name := "law", desc := "(IIIIII)Z", sig := { parameters := [.int, .int, .int, .int, .int, .int], returnType := some .boolean }, accessFlags := 9, code := some k1c2 }
/-- com/example/kept_outbox/keptoutbox/api/MessageToPinLaw -/
def k1 : Class := { plain "com/example/kept_outbox/keptoutbox/api/MessageToPinLaw" (some 0) with
  accessFlags := 49
  interfaces := #[]
  cf := some (fileOf pool1 9 #[] #[{ accessFlags := 2, nameIndex := 5, descriptorIndex := 6, attributes := #[] }, { accessFlags := 10, nameIndex := 12, descriptorIndex := 13, attributes := #[] }, { accessFlags := 9, nameIndex := 52, descriptorIndex := 53, attributes := #[] }] 49 2 #[] #[])
  fields := #[]
  methods := #[k1m0, k1m1, k1m2]
  instanceTypes := #[]
  staticTypes := #[]
  resolved := Array.replicate 62 none
  statics := none }

def pool2 : Array CpInfo := pool [(1, .class_ 2), (0, u "java/io/Serializable"), (0, .class_ 4), (0, u "java/lang/Object")] 2

/-- java/io/Serializable -/
def k2 : Class := { plain "java/io/Serializable" (some 0) with
  accessFlags := 1537
  interfaces := #[]
  cf := some (fileOf pool2 1 #[] #[] 1537 3 #[] #[])
  fields := #[]
  methods := #[]
  instanceTypes := #[]
  staticTypes := #[]
  resolved := Array.replicate 7 none
  statics := none }

def pool3 : Array CpInfo := pool [(1, .class_ 2), (0, u "java/lang/Comparable"), (0, .class_ 4), (0, u "java/lang/Object")] 7

/-- java/lang/Comparable -/
def k3 : Class := { plain "java/lang/Comparable" (some 0) with
  accessFlags := 1537
  interfaces := #[]
  cf := some (fileOf pool3 1 #[] #[] 1537 3 #[] #[])
  fields := #[]
  methods := #[]
  instanceTypes := #[]
  staticTypes := #[]
  resolved := Array.replicate 12 none
  statics := none }

def pool4 : Array CpInfo := pool [(2, .class_ 4), (1, u "java/lang/CharSequence"), (42, .class_ 48), (0, u "java/lang/CharSequence$1CodePointIterator"), (10, .class_ 60), (0, u "java/lang/CharSequence$1CharIterator"), (5, .class_ 67), (0, u "java/lang/Object")] 63

/-- java/lang/CharSequence -/
def k4 : Class := { plain "java/lang/CharSequence" (some 0) with
  accessFlags := 1537
  interfaces := #[]
  cf := some (fileOf pool4 2 #[.nestMembers #[47, 59]] #[] 1537 66 #[] #[])
  fields := #[]
  methods := #[]
  instanceTypes := #[]
  staticTypes := #[]
  resolved := Array.replicate 131 none
  statics := none }

def pool5 : Array CpInfo := pool [(1, .class_ 2), (0, u "java/lang/constant/Constable"), (0, .class_ 4), (0, u "java/lang/Object")] 6

/-- java/lang/constant/Constable -/
def k5 : Class := { plain "java/lang/constant/Constable" (some 0) with
  accessFlags := 1537
  interfaces := #[]
  cf := some (fileOf pool5 1 #[] #[] 1537 3 #[] #[])
  fields := #[]
  methods := #[]
  instanceTypes := #[]
  staticTypes := #[]
  resolved := Array.replicate 11 none
  statics := none }

def pool6 : Array CpInfo := pool [(1, .class_ 2), (0, u "java/lang/constant/ConstantDesc"), (0, .class_ 4), (0, u "java/lang/Object")] 32

/-- java/lang/constant/ConstantDesc -/
def k6 : Class := { plain "java/lang/constant/ConstantDesc" (some 0) with
  accessFlags := 1537
  interfaces := #[]
  cf := some (fileOf pool6 1 #[] #[] 1537 3 #[] #[])
  fields := #[]
  methods := #[]
  instanceTypes := #[]
  staticTypes := #[]
  resolved := Array.replicate 37 none
  statics := none }

def pool7 : Array CpInfo := pool [(1, .methodref 2 3), (0, .class_ 4), (0, .nameAndType 5 6), (0, u "java/lang/Object"), (0, u "<init>"), (0, u "()V"), (2, .fieldref 10 11), (0, .class_ 12), (0, .nameAndType 13 14), (0, u "java/lang/String"), (0, u "value"), (0, u "[B"), (0, .fieldref 10 16), (0, .nameAndType 17 18), (0, u "coder"), (0, u "B"), (2, u "hash"), (0, u "I"), (2, u "hashIsZero"), (0, u "Z"), (0, .methodref 10 28), (0, .nameAndType 5 29), (0, u "([CIILjava/lang/Void;)V"), (8, .fieldref 10 39), (0, .nameAndType 40 26), (0, u "COMPACT_STRINGS"), (1, .class_ 44), (1, u "java/lang/StringUTF16"), (0, u "compress"), (1, .methodref 42 48), (0, .nameAndType 49 50), (0, u "coderFromArrayLen"), (0, u "([BI)B"), (56, .class_ 109), (1, u "java/lang/StringLatin1"), (32, u "()Z"), (34, .methodref 42 178), (0, .nameAndType 45 179), (0, u "([CII)[B"), (154, u "()I"), (0, .methodref 10 336), (0, .nameAndType 17 337), (0, u "()B"), (25, u "([BI)C"), (27, u "(II)V"), (35, u "(I)C"), (64, .methodref 10 493), (0, .nameAndType 494 142), (0, u "isLatin1"), (0, .methodref 107 496), (0, .nameAndType 497 363), (0, u "charAt"), (3, u "checkIndex"), (5, u "length"), (35, u "equals"), (29, u "(Ljava/lang/Object;)Z"), (1, .class_ 576), (0, u "java/lang/CharSequence"), (22, u "CASE_INSENSITIVE_ORDER"), (0, u "Ljava/util/Comparator;"), (91, u "isEmpty"), (317, u "([C)V"), (42, .fieldref 1054 1055), (0, .class_ 1056), (0, .nameAndType 1057 1058), (0, u "jdk/internal/util/Preconditions"), (0, u "SIOOBE_FORMATTER"), (0, u "Ljava/util/function/BiFunction;"), (0, .methodref 1054 1060), (0, .nameAndType 501 1061), (0, u "(IILjava/util/function/BiFunction;)I"), (39, u "serialPersistentFields"), (0, u "[Ljava/io/ObjectStreamField;"), (0, .class_ 1104), (0, u "java/lang/String$CaseInsensitiveComparator"), (1, .class_ 1107), (0, u "java/io/Serializable"), (0, .class_ 1109), (0, u "java/lang/Comparable"), (0, .class_ 1111), (0, u "java/lang/constant/Constable"), (0, .class_ 1113), (0, u "java/lang/constant/ConstantDesc"), (2, u "serialVersionUID"), (0, u "J"), (3, u "REPL"), (0, u "C"), (2, u "LATIN1"), (1, u "UTF16")] 323

def k7m0 : Method := { name := "<init>", desc := "()V", sig := { parameters := [], returnType := none }, accessFlags := 1, code := none }
def k7c1 : Code := { maxStack := 5, maxLocals := 2, code := jdk_42_method_3_code, exceptionTable := #[], attributes := #[] }
def k7m1 : Method := { name := "<init>", desc := "([C)V", sig := { parameters := [(.array .char)], returnType := none }, accessFlags := 1, code := some k7c1 }
def k7c2 : Code := { maxStack := 2, maxLocals := 1, code := jdk_42_method_54_code, exceptionTable := #[], attributes := #[] }
def k7m2 : Method := { name := "length", desc := "()I", sig := { parameters := [], returnType := some .int }, accessFlags := 1, code := some k7c2 }
def k7c3 : Code := { maxStack := 1, maxLocals := 1, code := jdk_42_method_55_code, exceptionTable := #[], attributes := #[] }
def k7m3 : Method := { name := "isEmpty", desc := "()Z", sig := { parameters := [], returnType := some .boolean }, accessFlags := 1, code := some k7c3 }
def k7c4 : Code := { maxStack := 2, maxLocals := 2, code := jdk_42_method_56_code, exceptionTable := #[], attributes := #[] }
def k7m4 : Method := { name := "charAt", desc := "(I)C", sig := { parameters := [.int], returnType := some .char }, accessFlags := 1, code := some k7c4 }
def k7c5 : Code := { maxStack := 2, maxLocals := 3, code := jdk_42_method_66_code, exceptionTable := #[], attributes := #[] }
def k7m5 : Method := { name := "equals", desc := "(Ljava/lang/Object;)Z", sig := { parameters := [(.object "java/lang/Object")], returnType := some .boolean }, accessFlags := 1, code := some k7c5 }
def k7c6 : Code := { maxStack := 4, maxLocals := 6, code := jdk_42_method_149_code, exceptionTable := #[], attributes := #[] }
def k7m6 : Method := { name := "<init>", desc := "([CIILjava/lang/Void;)V", sig := { parameters := [(.array .char), .int, .int, (.object "java/lang/Void")], returnType := none }, accessFlags := 2, code := some k7c6 }
def k7c7 : Code := { maxStack := 1, maxLocals := 1, code := jdk_42_method_152_code, exceptionTable := #[], attributes := #[] }
def k7m7 : Method := { name := "coder", desc := "()B", sig := { parameters := [], returnType := some .byte }, accessFlags := 0, code := some k7c7 }
def k7c8 : Code := { maxStack := 1, maxLocals := 1, code := jdk_42_method_154_code, exceptionTable := #[], attributes := #[] }
def k7m8 : Method := { name := "isLatin1", desc := "()Z", sig := { parameters := [], returnType := some .boolean }, accessFlags := 0, code := some k7c8 }
def k7c9 : Code := { maxStack := 3, maxLocals := 2, code := jdk_42_method_155_code, exceptionTable := #[], attributes := #[] }
def k7m9 : Method := { name := "checkIndex", desc := "(II)V", sig := { parameters := [.int, .int], returnType := none }, accessFlags := 8, code := some k7c9 }
/-- java/lang/String -/
def k7 : Class := { plain "java/lang/String" (some 0) with
  accessFlags := 49
  interfaces := #[2, 3, 4, 5, 6]
  cf := some (fileOf pool7 10 #[.nestMembers #[1103]] #[{ accessFlags := 1, nameIndex := 5, descriptorIndex := 6, attributes := #[] }, { accessFlags := 1, nameIndex := 5, descriptorIndex := 1010, attributes := #[] }, { accessFlags := 1, nameIndex := 507, descriptorIndex := 334, attributes := #[] }, { accessFlags := 1, nameIndex := 692, descriptorIndex := 142, attributes := #[] }, { accessFlags := 1, nameIndex := 497, descriptorIndex := 427, attributes := #[] }, { accessFlags := 1, nameIndex := 543, descriptorIndex := 573, attributes := #[] }, { accessFlags := 2, nameIndex := 5, descriptorIndex := 29, attributes := #[] }, { accessFlags := 0, nameIndex := 17, descriptorIndex := 337, attributes := #[] }, { accessFlags := 0, nameIndex := 494, descriptorIndex := 142, attributes := #[] }, { accessFlags := 8, nameIndex := 501, descriptorIndex := 391, attributes := #[] }] 49 2 #[1106, 1108, 575, 1110, 1112] #[{ accessFlags := 18, nameIndex := 13, descriptorIndex := 14, attributes := #[] }, { accessFlags := 18, nameIndex := 17, descriptorIndex := 18, attributes := #[] }, { accessFlags := 2, nameIndex := 21, descriptorIndex := 22, attributes := #[] }, { accessFlags := 2, nameIndex := 25, descriptorIndex := 26, attributes := #[] }, { accessFlags := 26, nameIndex := 1116, descriptorIndex := 1117, attributes := #[] }, { accessFlags := 24, nameIndex := 40, descriptorIndex := 26, attributes := #[] }, { accessFlags := 26, nameIndex := 1101, descriptorIndex := 1102, attributes := #[] }, { accessFlags := 26, nameIndex := 1121, descriptorIndex := 1122, attributes := #[] }, { accessFlags := 25, nameIndex := 599, descriptorIndex := 600, attributes := #[] }, { accessFlags := 24, nameIndex := 1125, descriptorIndex := 18, attributes := #[] }, { accessFlags := 24, nameIndex := 1127, descriptorIndex := 18, attributes := #[] }])
  fields := #[{ name := "value", type := (.array .byte), accessFlags := 18, slot := 0, constantValue := 0 }, { name := "coder", type := .byte, accessFlags := 18, slot := 1, constantValue := 0 }, { name := "hash", type := .int, accessFlags := 2, slot := 2, constantValue := 0 }, { name := "hashIsZero", type := .boolean, accessFlags := 2, slot := 3, constantValue := 0 }, { name := "serialVersionUID", type := .long, accessFlags := 26, slot := 0, constantValue := 0 }, { name := "COMPACT_STRINGS", type := .boolean, accessFlags := 24, slot := 1, constantValue := 0 }, { name := "serialPersistentFields", type := (.array (.object "java/io/ObjectStreamField")), accessFlags := 26, slot := 2, constantValue := 0 }, { name := "REPL", type := .char, accessFlags := 26, slot := 3, constantValue := 0 }, { name := "CASE_INSENSITIVE_ORDER", type := (.object "java/util/Comparator"), accessFlags := 25, slot := 4, constantValue := 0 }, { name := "LATIN1", type := .byte, accessFlags := 24, slot := 5, constantValue := 0 }, { name := "UTF16", type := .byte, accessFlags := 24, slot := 6, constantValue := 0 }]
  methods := #[k7m0, k7m1, k7m2, k7m3, k7m4, k7m5, k7m6, k7m7, k7m8, k7m9]
  instanceTypes := #[(.array .byte), .byte, .int, .boolean]
  staticTypes := #[.long, .boolean, (.array (.object "java/io/ObjectStreamField")), .char, (.object "java/util/Comparator"), .byte, .byte]
  resolved := Array.replicate 1451 none
  statics := some 0 }

def pool8 : Array CpInfo := pool [(6, .class_ 8), (1, u "java/lang/Object"), (0, u "<init>"), (0, u "()V"), (1, .class_ 14), (1, u "java/lang/StringUTF16"), (31, u "$assertionsDisabled"), (0, u "Z"), (13, u "HI_BYTE_SHIFT"), (0, u "I"), (2, u "LO_BYTE_SHIFT"), (49, .methodref 12 116), (0, .nameAndType 117 118), (0, u "compress"), (0, u "([CI[BII)I"), (3, u "([CII)[B"), (138, u "coderFromArrayLen"), (0, u "([BI)B"), (106, .class_ 371), (1, u "java/lang/StringUTF16$LinesSpliterator"), (58, u "MAX_LENGTH"), (196, .class_ 628), (0, u "java/lang/StringUTF16$CodePointsSpliterator"), (0, .class_ 630), (0, u "java/lang/StringUTF16$CharsSpliterator")] 4

def k8m0 : Method := { name := "<init>", desc := "()V", sig := { parameters := [], returnType := none }, accessFlags := 0, code := none }
def k8c1 : Code := { maxStack := 2, maxLocals := 2, code := jdk_52_method_15_code, exceptionTable := #[], attributes := #[] }
def k8m1 : Method := { name := "coderFromArrayLen", desc := "([BI)B", sig := { parameters := [(.array .byte), .int], returnType := some .byte }, accessFlags := 8, code := some k8c1 }
def k8c2 : Code := { maxStack := 5, maxLocals := 6, code := jdk_52_method_16_code, exceptionTable := #[], attributes := #[] }
def k8m2 : Method := { name := "compress", desc := "([CII)[B", sig := { parameters := [(.array .char), .int, .int], returnType := some (.array .byte) }, accessFlags := 9, code := some k8c2 }
def k8c3 : Code := { maxStack := 3, maxLocals := 7, code := jdk_52_method_21_code, exceptionTable := #[], attributes := #[] }
def k8m3 : Method := { name := "compress", desc := "([CI[BII)I", sig := { parameters := [(.array .char), .int, (.array .byte), .int, .int], returnType := some .int }, accessFlags := 9, code := some k8c3 }
/-- java/lang/StringUTF16 -/
def k8 : Class := { plain "java/lang/StringUTF16" (some 0) with
  accessFlags := 48
  interfaces := #[]
  cf := some (fileOf pool8 12 #[.nestMembers #[627, 629, 369]] #[{ accessFlags := 0, nameIndex := 9, descriptorIndex := 10, attributes := #[] }, { accessFlags := 8, nameIndex := 261, descriptorIndex := 262, attributes := #[] }, { accessFlags := 9, nameIndex := 117, descriptorIndex := 122, attributes := #[] }, { accessFlags := 9, nameIndex := 117, descriptorIndex := 118, attributes := #[] }] 48 6 #[] #[{ accessFlags := 26, nameIndex := 61, descriptorIndex := 62, attributes := #[] }, { accessFlags := 26, nameIndex := 65, descriptorIndex := 62, attributes := #[] }, { accessFlags := 24, nameIndex := 430, descriptorIndex := 62, attributes := #[] }, { accessFlags := 4120, nameIndex := 46, descriptorIndex := 47, attributes := #[] }])
  fields := #[{ name := "HI_BYTE_SHIFT", type := .int, accessFlags := 26, slot := 0, constantValue := 0 }, { name := "LO_BYTE_SHIFT", type := .int, accessFlags := 26, slot := 1, constantValue := 0 }, { name := "MAX_LENGTH", type := .int, accessFlags := 24, slot := 2, constantValue := 0 }, { name := "$assertionsDisabled", type := .boolean, accessFlags := 4120, slot := 3, constantValue := 0 }]
  methods := #[k8m0, k8m1, k8m2, k8m3]
  instanceTypes := #[]
  staticTypes := #[.int, .int, .int, .boolean]
  resolved := Array.replicate 635 none
  statics := none }

def pool9 : Array CpInfo := pool [(1, .methodref 2 3), (0, .class_ 4), (0, .nameAndType 5 6), (0, u "java/lang/Object"), (0, u "<init>"), (0, u "()V"), (0, .fieldref 8 9), (0, .class_ 10), (0, .nameAndType 11 12), (0, u "com/example/kept_outbox/keptoutbox/api/Message"), (0, u "destination"), (0, u "Ljava/lang/String;"), (0, .fieldref 8 14), (0, .nameAndType 15 16), (0, u "payload"), (0, u "[B"), (0, .class_ 18), (0, u "com/example/kept_outbox/keptoutbox/api/Message$Builder"), (0, .methodref 20 21), (0, .class_ 22), (0, .nameAndType 23 24), (0, u "com/example/kept_outbox/keptoutbox/api/DestinationName"), (0, u "check"), (0, u "(Ljava/lang/String;)Ljava/lang/String;"), (0, .methodref 17 26), (0, .nameAndType 5 27), (0, u "(Ljava/lang/String;)V"), (0, .methodref 29 30), (0, .class_ 16), (0, .nameAndType 31 32), (0, u "clone"), (0, u "()Ljava/lang/Object;"), (0, u "MAX_PAYLOAD_BYTES"), (0, u "I"), (2, u "(Ljava/lang/String;[B)V"), (2, u "to"), (0, u "(Ljava/lang/String;)Lcom/example/kept_outbox/keptoutbox/api/Message$Builder;"), (0, u "()Ljava/lang/String;"), (0, u "()[B")] 5

def k9c0 : Code := { maxStack := 2, maxLocals := 3, code := prog_6_method_1_code, exceptionTable := #[], attributes := #[] }
def k9m0 : Method := { name := "<init>", desc := "(Ljava/lang/String;[B)V", sig := { parameters := [(.object "java/lang/String"), (.array .byte)], returnType := none }, accessFlags := 2, code := some k9c0 }
def k9c1 : Code := { maxStack := 3, maxLocals := 1, code := prog_6_method_2_code, exceptionTable := #[], attributes := #[] }
def k9m1 : Method := { name := "to", desc := "(Ljava/lang/String;)Lcom/example/kept_outbox/keptoutbox/api/Message$Builder;", sig := { parameters := [(.object "java/lang/String")], returnType := some (.object "com/example/kept_outbox/keptoutbox/api/Message$Builder") }, accessFlags := 9, code := some k9c1 }
def k9c2 : Code := { maxStack := 1, maxLocals := 1, code := prog_6_method_3_code, exceptionTable := #[], attributes := #[] }
def k9m2 : Method := { name := "destination", desc := "()Ljava/lang/String;", sig := { parameters := [], returnType := some (.object "java/lang/String") }, accessFlags := 1, code := some k9c2 }
def k9c3 : Code := { maxStack := 1, maxLocals := 1, code := prog_6_method_4_code, exceptionTable := #[], attributes := #[] }
def k9m3 : Method := { name := "payload", desc := "()[B", sig := { parameters := [], returnType := some (.array .byte) }, accessFlags := 1, code := some k9c3 }
/-- com/example/kept_outbox/keptoutbox/api/Message -/
def k9 : Class := { plain "com/example/kept_outbox/keptoutbox/api/Message" (some 0) with
  accessFlags := 49
  interfaces := #[]
  cf := some (fileOf pool9 8 #[.nestMembers #[17]] #[{ accessFlags := 2, nameIndex := 5, descriptorIndex := 37, attributes := #[] }, { accessFlags := 9, nameIndex := 40, descriptorIndex := 41, attributes := #[] }, { accessFlags := 1, nameIndex := 11, descriptorIndex := 42, attributes := #[] }, { accessFlags := 1, nameIndex := 15, descriptorIndex := 43, attributes := #[] }] 49 2 #[] #[{ accessFlags := 25, nameIndex := 33, descriptorIndex := 34, attributes := #[] }, { accessFlags := 18, nameIndex := 11, descriptorIndex := 12, attributes := #[] }, { accessFlags := 18, nameIndex := 15, descriptorIndex := 16, attributes := #[] }])
  fields := #[{ name := "MAX_PAYLOAD_BYTES", type := .int, accessFlags := 25, slot := 0, constantValue := 0 }, { name := "destination", type := (.object "java/lang/String"), accessFlags := 18, slot := 0, constantValue := 0 }, { name := "payload", type := (.array .byte), accessFlags := 18, slot := 1, constantValue := 0 }]
  methods := #[k9m0, k9m1, k9m2, k9m3]
  instanceTypes := #[(.object "java/lang/String"), (.array .byte)]
  staticTypes := #[.int]
  resolved := ((Array.replicate 49 none).set! 25 (some (.method ⟨10, 0⟩))).set! 17 (some (.cls 10))
  statics := none }

def pool10 : Array CpInfo := pool [(1, .class_ 2), (0, u "com/example/kept_outbox/keptoutbox/api/Message"), (0, .methodref 4 5), (0, .class_ 6), (0, .nameAndType 7 8), (0, u "java/lang/Object"), (0, u "<init>"), (0, u "()V"), (0, .fieldref 10 11), (0, .class_ 12), (0, .nameAndType 13 14), (0, u "com/example/kept_outbox/keptoutbox/api/Message$Builder"), (0, u "destination"), (0, u "Ljava/lang/String;"), (0, .string 16), (0, u "payload must not be null"), (0, .methodref 18 19), (0, .class_ 20), (0, .nameAndType 21 22), (0, u "java/util/Objects"), (0, u "requireNonNull"), (0, u "(Ljava/lang/Object;Ljava/lang/String;)Ljava/lang/Object;"), (12, .methodref 10 36), (0, .nameAndType 37 38), (0, u "make"), (0, u "([B)Lcom/example/kept_outbox/keptoutbox/api/Message;"), (0, .methodref 40 41), (0, .class_ 42), (0, .nameAndType 43 44), (0, u "[B"), (0, u "clone"), (0, u "()Ljava/lang/Object;"), (0, .integer 1048576), (8, u "(Ljava/lang/String;)V"), (0, .methodref 1 56), (0, .nameAndType 7 57), (0, u "(Ljava/lang/String;[B)V"), (2, u "payload")] 21

def k10c0 : Code := { maxStack := 2, maxLocals := 2, code := prog_7_method_1_code, exceptionTable := #[], attributes := #[] }
def k10m0 : Method := { name := "<init>", desc := "(Ljava/lang/String;)V", sig := { parameters := [(.object "java/lang/String")], returnType := none }, accessFlags := 2, code := some k10c0 }
def k10c1 : Code := { maxStack := 2, maxLocals := 2, code := prog_7_method_3_code, exceptionTable := #[], attributes := #[] }
def k10m1 : Method := { name := "payload", desc := "([B)Lcom/example/kept_outbox/keptoutbox/api/Message;", sig := { parameters := [(.array .byte)], returnType := some (.object "com/example/kept_outbox/keptoutbox/api/Message") }, accessFlags := 1, code := some k10c1 }
def k10c2 : Code := { maxStack := 4, maxLocals := 2, code := prog_7_method_4_code, exceptionTable := #[], attributes := #[] }
def k10m2 : Method := { name := "make", desc := "([B)Lcom/example/kept_outbox/keptoutbox/api/Message;", sig := { parameters := [(.array .byte)], returnType := some (.object "com/example/kept_outbox/keptoutbox/api/Message") }, accessFlags := 2, code := some k10c2 }
/-- com/example/kept_outbox/keptoutbox/api/Message$Builder -/
def k10 : Class := { plain "com/example/kept_outbox/keptoutbox/api/Message$Builder" (some 0) with
  accessFlags := 49
  interfaces := #[]
  cf := some (fileOf pool10 10 #[.nestHost 1] #[{ accessFlags := 2, nameIndex := 7, descriptorIndex := 54, attributes := #[] }, { accessFlags := 1, nameIndex := 60, descriptorIndex := 38, attributes := #[] }, { accessFlags := 2, nameIndex := 37, descriptorIndex := 38, attributes := #[] }] 49 4 #[] #[{ accessFlags := 18, nameIndex := 13, descriptorIndex := 14, attributes := #[] }])
  fields := #[{ name := "destination", type := (.object "java/lang/String"), accessFlags := 18, slot := 0, constantValue := 0 }]
  methods := #[k10m0, k10m1, k10m2]
  instanceTypes := #[(.object "java/lang/String")]
  staticTypes := #[]
  resolved := Array.replicate 82 none
  statics := none }

def pool11 : Array CpInfo := pool [(2, .class_ 4), (1, u "java/lang/Object"), (0, u "<init>"), (0, u "()V"), (0, .string 8), (0, u "destination name must not be null"), (0, .methodref 10 11), (0, .class_ 12), (0, .nameAndType 13 14), (0, u "java/util/Objects"), (0, u "requireNonNull"), (0, u "(Ljava/lang/Object;Ljava/lang/String;)Ljava/lang/Object;"), (0, .methodref 16 17), (0, .class_ 18), (0, .nameAndType 19 20), (0, u "java/lang/String"), (0, u "isEmpty"), (0, u "()Z"), (7, .methodref 16 29), (0, .nameAndType 30 31), (0, u "length"), (0, u "()I"), (0, .methodref 16 33), (0, .nameAndType 34 35), (0, u "charAt"), (0, u "(I)C"), (0, .methodref 37 38), (0, .class_ 39), (0, .nameAndType 40 41), (0, u "com/example/kept_outbox/keptoutbox/api/DestinationName"), (0, u "isAllowed"), (0, u "(C)Z"), (29, u "MAX_LENGTH"), (0, u "I"), (4, u "check"), (0, u "(Ljava/lang/String;)Ljava/lang/String;")] 22

def k11m0 : Method := { name := "<init>", desc := "()V", sig := { parameters := [], returnType := none }, accessFlags := 2, code := none }
def k11c1 : Code := { maxStack := 4, maxLocals := 2, code := prog_2_method_2_code, exceptionTable := #[], attributes := #[] }
def k11m1 : Method := { name := "check", desc := "(Ljava/lang/String;)Ljava/lang/String;", sig := { parameters := [(.object "java/lang/String")], returnType := some (.object "java/lang/String") }, accessFlags := 9, code := some k11c1 }
def k11c2 : Code := { maxStack := 2, maxLocals := 1, code := prog_2_method_3_code, exceptionTable := #[], attributes := #[] }
def k11m2 : Method := { name := "isAllowed", desc := "(C)Z", sig := { parameters := [.char], returnType := some .boolean }, accessFlags := 10, code := some k11c2 }
/-- com/example/kept_outbox/keptoutbox/api/DestinationName -/
def k11 : Class := { plain "com/example/kept_outbox/keptoutbox/api/DestinationName" (some 0) with
  accessFlags := 49
  interfaces := #[]
  cf := some (fileOf pool11 37 #[] #[{ accessFlags := 2, nameIndex := 5, descriptorIndex := 6, attributes := #[] }, { accessFlags := 9, nameIndex := 77, descriptorIndex := 78, attributes := #[] }, { accessFlags := 10, nameIndex := 40, descriptorIndex := 41, attributes := #[] }] 49 2 #[] #[{ accessFlags := 25, nameIndex := 71, descriptorIndex := 72, attributes := #[] }])
  fields := #[{ name := "MAX_LENGTH", type := .int, accessFlags := 25, slot := 0, constantValue := 0 }]
  methods := #[k11m0, k11m1, k11m2]
  instanceTypes := #[]
  staticTypes := #[.int]
  resolved := Array.replicate 101 none
  statics := none }

def pool12 : Array CpInfo := pool [(2, .class_ 4), (1, u "java/lang/Object"), (0, u "<init>"), (0, u "()V"), (35, .class_ 44), (1, u "java/util/Objects"), (0, u "requireNonNull"), (48, u "(Ljava/lang/Object;Ljava/lang/String;)Ljava/lang/Object;")] 89

def k12m0 : Method := { name := "<init>", desc := "()V", sig := { parameters := [], returnType := none }, accessFlags := 2, code := none }
def k12c1 : Code := { maxStack := 3, maxLocals := 2, code := jdk_31_method_11_code, exceptionTable := #[], attributes := #[] }
def k12m1 : Method := { name := "requireNonNull", desc := "(Ljava/lang/Object;Ljava/lang/String;)Ljava/lang/Object;", sig := { parameters := [(.object "java/lang/Object"), (.object "java/lang/String")], returnType := some (.object "java/lang/Object") }, accessFlags := 9, code := some k12c1 }
/-- java/util/Objects -/
def k12 : Class := { plain "java/util/Objects" (some 0) with
  accessFlags := 49
  interfaces := #[]
  cf := some (fileOf pool12 42 #[] #[{ accessFlags := 2, nameIndex := 5, descriptorIndex := 6, attributes := #[] }, { accessFlags := 9, nameIndex := 45, descriptorIndex := 94, attributes := #[] }] 49 2 #[] #[])
  fields := #[]
  methods := #[k12m0, k12m1]
  instanceTypes := #[]
  staticTypes := #[]
  resolved := Array.replicate 184 none
  statics := none }

def pool13 : Array CpInfo := pool [(1, .class_ 2), (0, u "java/lang/String"), (1, .class_ 6), (1, u "java/lang/Object"), (0, u "<init>"), (0, u "()V"), (0, .methodref 1 10), (0, .nameAndType 11 12), (0, u "checkIndex"), (0, u "(II)V"), (1, .class_ 16), (1, u "java/lang/StringLatin1"), (36, u "([BI)C"), (67, u "$assertionsDisabled"), (0, u "Z"), (98, .class_ 223), (1, u "java/lang/StringLatin1$LinesSpliterator"), (28, u "charAt"), (137, .class_ 391), (0, u "java/lang/StringLatin1$CharsSpliterator")] 3

def k13m0 : Method := { name := "<init>", desc := "()V", sig := { parameters := [], returnType := none }, accessFlags := 0, code := none }
def k13c1 : Code := { maxStack := 2, maxLocals := 2, code := jdk_43_method_2_code, exceptionTable := #[], attributes := #[] }
def k13m1 : Method := { name := "charAt", desc := "([BI)C", sig := { parameters := [(.array .byte), .int], returnType := some .char }, accessFlags := 9, code := some k13c1 }
/-- java/lang/StringLatin1 -/
def k13 : Class := { plain "java/lang/StringLatin1" (some 0) with
  accessFlags := 48
  interfaces := #[]
  cf := some (fileOf pool13 14 #[.nestMembers #[390, 221]] #[{ accessFlags := 0, nameIndex := 7, descriptorIndex := 8, attributes := #[] }, { accessFlags := 9, nameIndex := 252, descriptorIndex := 53, attributes := #[] }] 48 4 #[] #[{ accessFlags := 4120, nameIndex := 121, descriptorIndex := 122, attributes := #[] }])
  fields := #[{ name := "$assertionsDisabled", type := .boolean, accessFlags := 4120, slot := 0, constantValue := 0 }]
  methods := #[k13m0, k13m1]
  instanceTypes := #[]
  staticTypes := #[.boolean]
  resolved := Array.replicate 395 none
  statics := none }

def pool14 : Array CpInfo := pool [(2, .class_ 4), (1, u "java/lang/Object"), (0, u "<init>"), (0, u "()V"), (17, .class_ 26), (1, u "jdk/internal/util/Preconditions"), (6, u "checkIndex"), (21, .class_ 56), (0, u "jdk/internal/util/Preconditions$4"), (57, .class_ 115), (0, u "jdk/internal/util/Preconditions$1"), (7, u "SIOOBE_FORMATTER"), (0, u "Ljava/util/function/BiFunction;"), (0, .class_ 126), (0, u "jdk/internal/util/Preconditions$2"), (3, u "AIOOBE_FORMATTER"), (0, .class_ 132), (0, u "jdk/internal/util/Preconditions$3"), (3, u "IOOBE_FORMATTER"), (41, u "(IILjava/util/function/BiFunction;)I")] 15

def k14m0 : Method := { name := "<init>", desc := "()V", sig := { parameters := [], returnType := none }, accessFlags := 1, code := none }
def k14c1 : Code := { maxStack := 3, maxLocals := 3, code := jdk_41_method_11_code, exceptionTable := #[], attributes := #[] }
def k14m1 : Method := { name := "checkIndex", desc := "(IILjava/util/function/BiFunction;)I", sig := { parameters := [.int, .int, (.object "java/util/function/BiFunction")], returnType := some .int }, accessFlags := 9, code := some k14c1 }
/-- jdk/internal/util/Preconditions -/
def k14 : Class := { plain "jdk/internal/util/Preconditions" (some 0) with
  accessFlags := 33
  interfaces := #[]
  cf := some (fileOf pool14 24 #[.nestMembers #[55, 131, 125, 114]] #[{ accessFlags := 1, nameIndex := 5, descriptorIndex := 6, attributes := #[] }, { accessFlags := 9, nameIndex := 33, descriptorIndex := 178, attributes := #[] }] 33 2 #[] #[{ accessFlags := 25, nameIndex := 123, descriptorIndex := 124, attributes := #[] }, { accessFlags := 25, nameIndex := 130, descriptorIndex := 124, attributes := #[] }, { accessFlags := 25, nameIndex := 136, descriptorIndex := 124, attributes := #[] }])
  fields := #[{ name := "SIOOBE_FORMATTER", type := (.object "java/util/function/BiFunction"), accessFlags := 25, slot := 0, constantValue := 0 }, { name := "AIOOBE_FORMATTER", type := (.object "java/util/function/BiFunction"), accessFlags := 25, slot := 1, constantValue := 0 }, { name := "IOOBE_FORMATTER", type := (.object "java/util/function/BiFunction"), accessFlags := 25, slot := 2, constantValue := 0 }]
  methods := #[k14m0, k14m1]
  instanceTypes := #[]
  staticTypes := #[(.object "java/util/function/BiFunction"), (.object "java/util/function/BiFunction"), (.object "java/util/function/BiFunction")]
  resolved := Array.replicate 194 none
  statics := some 1 }

def pool15 : Array CpInfo := pool [(1, .class_ 2), (0, u "java/lang/Cloneable"), (0, .class_ 4), (0, u "java/lang/Object")] 2

/-- java/lang/Cloneable -/
def k15 : Class := { plain "java/lang/Cloneable" (some 0) with
  accessFlags := 1537
  interfaces := #[]
  cf := some (fileOf pool15 1 #[] #[] 1537 3 #[] #[])
  fields := #[]
  methods := #[]
  instanceTypes := #[]
  staticTypes := #[]
  resolved := Array.replicate 7 none
  statics := none }

def pool16 : Array CpInfo := pool [(9, u "<init>"), (6, .class_ 18), (1, u "java/lang/Object"), (0, u "()V"), (1, .class_ 23), (1, u "jdk/internal/util/ArraysSupport"), (0, u "LOG2_ARRAY_LONG_INDEX_SCALE"), (0, u "I"), (2, u "U"), (0, u "Ljdk/internal/misc/Unsafe;"), (8, u "BIG_ENDIAN"), (0, u "Z"), (8, u "LOG2_BYTE_BIT_SIZE"), (4, u "LOG2_ARRAY_INT_INDEX_SCALE"), (54, u "JLA"), (0, u "Ljdk/internal/access/JavaLangAccess;"), (11, u "LOG2_ARRAY_BOOLEAN_INDEX_SCALE"), (9, u "LOG2_ARRAY_BYTE_INDEX_SCALE"), (5, u "LOG2_ARRAY_CHAR_INDEX_SCALE"), (5, u "LOG2_ARRAY_SHORT_INDEX_SCALE"), (18, u "LOG2_ARRAY_FLOAT_INDEX_SCALE"), (24, u "LOG2_ARRAY_DOUBLE_INDEX_SCALE"), (89, u "T_BOOLEAN"), (2, u "T_CHAR"), (1, u "T_FLOAT"), (1, u "T_DOUBLE"), (1, u "T_BYTE"), (1, u "T_SHORT"), (1, u "T_INT"), (1, u "T_LONG"), (1, u "SOFT_MAX_ARRAY_LENGTH")] 83

def k16m0 : Method := { name := "<init>", desc := "()V", sig := { parameters := [], returnType := none }, accessFlags := 2, code := none }
/-- jdk/internal/util/ArraysSupport -/
def k16 : Class := { plain "jdk/internal/util/ArraysSupport" (some 0) with
  accessFlags := 33
  interfaces := #[]
  cf := some (fileOf pool16 21 #[] #[{ accessFlags := 2, nameIndex := 9, descriptorIndex := 19, attributes := #[] }] 33 16 #[] #[{ accessFlags := 24, nameIndex := 28, descriptorIndex := 29, attributes := #[] }, { accessFlags := 26, nameIndex := 38, descriptorIndex := 39, attributes := #[] }, { accessFlags := 25, nameIndex := 121, descriptorIndex := 25, attributes := #[] }, { accessFlags := 25, nameIndex := 131, descriptorIndex := 25, attributes := #[] }, { accessFlags := 25, nameIndex := 137, descriptorIndex := 25, attributes := #[] }, { accessFlags := 25, nameIndex := 143, descriptorIndex := 25, attributes := #[] }, { accessFlags := 25, nameIndex := 53, descriptorIndex := 25, attributes := #[] }, { accessFlags := 25, nameIndex := 24, descriptorIndex := 25, attributes := #[] }, { accessFlags := 25, nameIndex := 162, descriptorIndex := 25, attributes := #[] }, { accessFlags := 25, nameIndex := 187, descriptorIndex := 25, attributes := #[] }, { accessFlags := 26, nameIndex := 48, descriptorIndex := 25, attributes := #[] }, { accessFlags := 25, nameIndex := 277, descriptorIndex := 25, attributes := #[] }, { accessFlags := 25, nameIndex := 280, descriptorIndex := 25, attributes := #[] }, { accessFlags := 25, nameIndex := 282, descriptorIndex := 25, attributes := #[] }, { accessFlags := 25, nameIndex := 284, descriptorIndex := 25, attributes := #[] }, { accessFlags := 25, nameIndex := 286, descriptorIndex := 25, attributes := #[] }, { accessFlags := 25, nameIndex := 288, descriptorIndex := 25, attributes := #[] }, { accessFlags := 25, nameIndex := 290, descriptorIndex := 25, attributes := #[] }, { accessFlags := 25, nameIndex := 292, descriptorIndex := 25, attributes := #[] }, { accessFlags := 26, nameIndex := 108, descriptorIndex := 109, attributes := #[] }, { accessFlags := 25, nameIndex := 294, descriptorIndex := 25, attributes := #[] }])
  fields := #[{ name := "U", type := (.object "jdk/internal/misc/Unsafe"), accessFlags := 24, slot := 0, constantValue := 0 }, { name := "BIG_ENDIAN", type := .boolean, accessFlags := 26, slot := 1, constantValue := 0 }, { name := "LOG2_ARRAY_BOOLEAN_INDEX_SCALE", type := .int, accessFlags := 25, slot := 2, constantValue := 0 }, { name := "LOG2_ARRAY_BYTE_INDEX_SCALE", type := .int, accessFlags := 25, slot := 3, constantValue := 0 }, { name := "LOG2_ARRAY_CHAR_INDEX_SCALE", type := .int, accessFlags := 25, slot := 4, constantValue := 0 }, { name := "LOG2_ARRAY_SHORT_INDEX_SCALE", type := .int, accessFlags := 25, slot := 5, constantValue := 0 }, { name := "LOG2_ARRAY_INT_INDEX_SCALE", type := .int, accessFlags := 25, slot := 6, constantValue := 0 }, { name := "LOG2_ARRAY_LONG_INDEX_SCALE", type := .int, accessFlags := 25, slot := 7, constantValue := 0 }, { name := "LOG2_ARRAY_FLOAT_INDEX_SCALE", type := .int, accessFlags := 25, slot := 8, constantValue := 0 }, { name := "LOG2_ARRAY_DOUBLE_INDEX_SCALE", type := .int, accessFlags := 25, slot := 9, constantValue := 0 }, { name := "LOG2_BYTE_BIT_SIZE", type := .int, accessFlags := 26, slot := 10, constantValue := 0 }, { name := "T_BOOLEAN", type := .int, accessFlags := 25, slot := 11, constantValue := 0 }, { name := "T_CHAR", type := .int, accessFlags := 25, slot := 12, constantValue := 0 }, { name := "T_FLOAT", type := .int, accessFlags := 25, slot := 13, constantValue := 0 }, { name := "T_DOUBLE", type := .int, accessFlags := 25, slot := 14, constantValue := 0 }, { name := "T_BYTE", type := .int, accessFlags := 25, slot := 15, constantValue := 0 }, { name := "T_SHORT", type := .int, accessFlags := 25, slot := 16, constantValue := 0 }, { name := "T_INT", type := .int, accessFlags := 25, slot := 17, constantValue := 0 }, { name := "T_LONG", type := .int, accessFlags := 25, slot := 18, constantValue := 0 }, { name := "JLA", type := (.object "jdk/internal/access/JavaLangAccess"), accessFlags := 26, slot := 19, constantValue := 0 }, { name := "SOFT_MAX_ARRAY_LENGTH", type := .int, accessFlags := 25, slot := 20, constantValue := 0 }]
  methods := #[k16m0]
  instanceTypes := #[]
  staticTypes := #[(.object "jdk/internal/misc/Unsafe"), .boolean, .int, .int, .int, .int, .int, .int, .int, .int, .int, .int, .int, .int, .int, .int, .int, .int, .int, (.object "jdk/internal/access/JavaLangAccess"), .int]
  resolved := Array.replicate 378 none
  statics := none }

/-- the primitive byte -/
def k17 : Class := { plain "byte" none with kind := .primitive 'B', accessFlags := 0x411 }
/-- [B -/
def k18 : Class := { plain "[B" (some 0) with kind := .array 17 .byte, interfaces := #[15, 2], accessFlags := 1041 }

/-- the primitive char -/
def k19 : Class := { plain "char" none with kind := .primitive 'C', accessFlags := 0x411 }
/-- [C -/
def k20 : Class := { plain "[C" (some 0) with kind := .array 19 .char, interfaces := #[15, 2], accessFlags := 1041 }

/-- the primitive int -/
def k21 : Class := { plain "int" none with kind := .primitive 'I', accessFlags := 0x411 }
/-- [I -/
def k22 : Class := { plain "[I" (some 0) with kind := .array 21 .int, interfaces := #[15, 2], accessFlags := 1041 }

def heap : Heap := #[{ cls := 7, slots := #[.long 0, .int 1, .null, .int 0, .null, .int 0, .int 0], vm := .statics 7 },
  { cls := 14, slots := #[.null, .null, .null], vm := .statics 14 }]
def classes : Array Class := #[k0, k1, k2, k3, k4, k5, k6, k7, k8, k9, k10, k11, k12, k13, k14, k15, k16, k17, k18, k19, k20, k21, k22]
def interned : List (Array UInt16 × Addr) := []
def slotsUsed : Nat := 10
def theMethod : MethodId := ⟨1, 2⟩
def args0 : Array Value := #[.int 3, .int 5, .int 1, .int 7, .int 2, .int 9]
def aboutOver (below : List Frame) : State where
  vm := { classes := classes, interned := interned.toArray }
  heap := heap
  slotsUsed := slotsUsed
  threads := #[{ frames := .invoking theMethod args0 :: below }]
def below0 : List Frame := [.native { method := ⟨0, 0⟩, args := #[] }]
def about1 : State := aboutOver below0
def p0 : Program := .bare "" "" ""
def e0 : Env := launch0.env 0 0 0
theorem w_frames : about1.frames = Frame.invoking theMethod args0 :: below0 := rfl
set_option maxRecDepth 65536 in
theorem w_args : argsFit about1.vm theMethod args0 = true := by decide +kernel
set_option maxRecDepth 65536 in
theorem w_heap : heapFits about1 = true := by decide +kernel
set_option maxRecDepth 65536 in
theorem w_runnable : about1.curStatus? = some .runnable := by decide +kernel
set_option maxRecDepth 65536 in
theorem w_alone : about1.alone = true := by decide +kernel
set_option maxRecDepth 65536 in
theorem w_named : about1.methodNamed? x = some theMethod := by decide +kernel
set_option maxRecDepth 65536 in
theorem w_hears : about1.hears theMethod below0 = true := by decide +kernel
set_option maxRecDepth 65536 in
theorem w_ripe : about1.ripe theMethod args0 below0 = true := by decide +kernel
theorem w_running : about1.status = .running := rfl
set_option maxRecDepth 65536 in
theorem w_room : about1.hasRoom e0.platform room_1 = true :=
  launch0.hasRoom_least _ room_1 (by decide +kernel) (by decide +kernel) (by decide +kernel) (by decide +kernel) (by decide +kernel) (by decide +kernel)
theorem allAtoms_all (ts : List Jvm.Cond) (a : Array Jvm.Value) (st : Jvm.State) : (allAtoms ts).before a st = ts.all (fun c => c.before a st) := by
  induction ts with
  | nil => rfl
  | cons c t ih =>
    show (Jvm.Cond.and c (allAtoms t)).before a st = _
    rw [Jvm.Cond.before_and, ih, List.all_cons]
def words1 : List Jvm.Cond := Jvm.Cond.code x code maxLocals ret :: tables_1
/-- a 'code' word, met by the world's own term for the bytes: nothing is compared byte by byte -/
theorem code_word {y : MethodName} {bytes : ByteArray} {mx : Nat} {rt : Option FieldType} {a : Array Value} {s : State} {m : MethodId} {meth : Method} {c : Code} (h1 : s.methodNamed? y = some m) (h2 : s.vm.method? m = some meth) (h3 : meth.code = some c) (h4 : c.code = bytes)
    (h5 : (c.maxLocals == mx && c.exceptionTable.isEmpty && decide (c.maxStack ≤ mostOperands) && decide (meth.sig.returnType = rt) && !meth.locks && decide (parseMethodDescriptor y.desc = some meth.sig)) = true) : (Jvm.Cond.code y bytes mx rt).before a s = true := by
  simp only [Bool.and_eq_true, beq_iff_eq, Bool.not_eq_true', decide_eq_true_eq] at h5
  obtain ⟨⟨⟨⟨⟨g1, g2⟩, g3⟩, g4⟩, g5⟩, g6⟩ := h5
  simp [Cond.before, Cond.holds, Cond.value, h1, h2, h3, h4, g1, g2, g3, g4, g5, g6]
def isCode : Jvm.Cond → Bool
  | .code _ _ _ _ => true
  | _ => false
theorem all_split {L : List Jvm.Cond} {P : Jvm.Cond → Bool} (h1 : L.all (fun c => isCode c || P c) = true) (h2 : ∀ c ∈ L.filter isCode, P c = true) : L.all P = true := by
  refine List.all_eq_true.mpr fun c hc => ?_
  have h := List.all_eq_true.mp h1 c hc
  rcases Bool.eq_false_or_eq_true (isCode c) with hi | hi
  · exact h2 c (List.mem_filter.mpr ⟨hc, hi⟩)
  · simpa [hi] using h
set_option maxRecDepth 65536 in
theorem w_c0 : (Jvm.Cond.code x code maxLocals ret).before args0 about1 = true := code_word (m := ⟨1, 2⟩) (meth := k1m2) (c := k1c2) (by decide +kernel) rfl rfl rfl (by decide +kernel)
set_option maxRecDepth 65536 in
theorem w_c1 : (Jvm.Cond.code ({ cls := "com/example/kept_outbox/keptoutbox/api/MessageToPinLaw", name := "allowed", desc := "(I)C" } : Jvm.MethodName) method_2_code (2 : Nat) (Option.some Jvm.ClassFile.FieldType.char)).before args0 about1 = true := code_word (m := ⟨1, 1⟩) (meth := k1m1) (c := k1c1) (by decide +kernel) rfl rfl rfl (by decide +kernel)
set_option maxRecDepth 65536 in
theorem w_c2 : (Jvm.Cond.code ({ cls := "java/lang/String", name := "<init>", desc := "([C)V" } : Jvm.MethodName) jdk_42_method_3_code (2 : Nat) (Option.none : Option Jvm.ClassFile.FieldType)).before args0 about1 = true := code_word (m := ⟨7, 1⟩) (meth := k7m1) (c := k7c1) (by decide +kernel) rfl rfl rfl (by decide +kernel)
set_option maxRecDepth 65536 in
theorem w_c3 : (Jvm.Cond.code ({ cls := "java/lang/String", name := "<init>", desc := "([CIILjava/lang/Void;)V" } : Jvm.MethodName) jdk_42_method_149_code (6 : Nat) (Option.none : Option Jvm.ClassFile.FieldType)).before args0 about1 = true := code_word (m := ⟨7, 6⟩) (meth := k7m6) (c := k7c6) (by decide +kernel) rfl rfl rfl (by decide +kernel)
set_option maxRecDepth 65536 in
theorem w_c4 : (Jvm.Cond.code ({ cls := "java/lang/Object", name := "<init>", desc := "()V" } : Jvm.MethodName) object_method_1_code (1 : Nat) (Option.none : Option Jvm.ClassFile.FieldType)).before args0 about1 = true := code_word (m := ⟨0, 0⟩) (meth := k0m0) (c := k0c0) (by decide +kernel) rfl rfl rfl (by decide +kernel)
set_option maxRecDepth 65536 in
theorem w_c5 : (Jvm.Cond.code ({ cls := "java/lang/StringUTF16", name := "compress", desc := "([CII)[B" } : Jvm.MethodName) jdk_52_method_16_code (6 : Nat) (Option.some (Jvm.ClassFile.FieldType.array Jvm.ClassFile.FieldType.byte))).before args0 about1 = true := code_word (m := ⟨8, 2⟩) (meth := k8m2) (c := k8c2) (by decide +kernel) rfl rfl rfl (by decide +kernel)
set_option maxRecDepth 65536 in
theorem w_c6 : (Jvm.Cond.code ({ cls := "java/lang/StringUTF16", name := "compress", desc := "([CI[BII)I" } : Jvm.MethodName) jdk_52_method_21_code (7 : Nat) (Option.some Jvm.ClassFile.FieldType.int)).before args0 about1 = true := code_word (m := ⟨8, 3⟩) (meth := k8m3) (c := k8c3) (by decide +kernel) rfl rfl rfl (by decide +kernel)
set_option maxRecDepth 65536 in
theorem w_c7 : (Jvm.Cond.code ({ cls := "java/lang/StringUTF16", name := "coderFromArrayLen", desc := "([BI)B" } : Jvm.MethodName) jdk_52_method_15_code (2 : Nat) (Option.some Jvm.ClassFile.FieldType.byte)).before args0 about1 = true := code_word (m := ⟨8, 1⟩) (meth := k8m1) (c := k8c1) (by decide +kernel) rfl rfl rfl (by decide +kernel)
set_option maxRecDepth 65536 in
theorem w_c8 : (Jvm.Cond.code ({ cls := "com/example/kept_outbox/keptoutbox/api/Message", name := "to", desc := "(Ljava/lang/String;)Lcom/example/kept_outbox/keptoutbox/api/Message$Builder;" } : Jvm.MethodName) prog_6_method_2_code (1 : Nat) (Option.some (Jvm.ClassFile.FieldType.object "com/example/kept_outbox/keptoutbox/api/Message$Builder"))).before args0 about1 = true := code_word (m := ⟨9, 1⟩) (meth := k9m1) (c := k9c1) (by decide +kernel) rfl rfl rfl (by decide +kernel)
set_option maxRecDepth 65536 in
theorem w_c9 : (Jvm.Cond.code ({ cls := "com/example/kept_outbox/keptoutbox/api/DestinationName", name := "check", desc := "(Ljava/lang/String;)Ljava/lang/String;" } : Jvm.MethodName) prog_2_method_2_code (2 : Nat) (Option.some (Jvm.ClassFile.FieldType.object "java/lang/String"))).before args0 about1 = true := code_word (m := ⟨11, 1⟩) (meth := k11m1) (c := k11c1) (by decide +kernel) rfl rfl rfl (by decide +kernel)
set_option maxRecDepth 65536 in
theorem w_c10 : (Jvm.Cond.code ({ cls := "java/util/Objects", name := "requireNonNull", desc := "(Ljava/lang/Object;Ljava/lang/String;)Ljava/lang/Object;" } : Jvm.MethodName) jdk_31_method_11_code (2 : Nat) (Option.some (Jvm.ClassFile.FieldType.object "java/lang/Object"))).before args0 about1 = true := code_word (m := ⟨12, 1⟩) (meth := k12m1) (c := k12c1) (by decide +kernel) rfl rfl rfl (by decide +kernel)
set_option maxRecDepth 65536 in
theorem w_c11 : (Jvm.Cond.code ({ cls := "java/lang/String", name := "isEmpty", desc := "()Z" } : Jvm.MethodName) jdk_42_method_55_code (1 : Nat) (Option.some Jvm.ClassFile.FieldType.boolean)).before args0 about1 = true := code_word (m := ⟨7, 3⟩) (meth := k7m3) (c := k7c3) (by decide +kernel) rfl rfl rfl (by decide +kernel)
set_option maxRecDepth 65536 in
theorem w_c12 : (Jvm.Cond.code ({ cls := "java/lang/String", name := "length", desc := "()I" } : Jvm.MethodName) jdk_42_method_54_code (1 : Nat) (Option.some Jvm.ClassFile.FieldType.int)).before args0 about1 = true := code_word (m := ⟨7, 2⟩) (meth := k7m2) (c := k7c2) (by decide +kernel) rfl rfl rfl (by decide +kernel)
set_option maxRecDepth 65536 in
theorem w_c13 : (Jvm.Cond.code ({ cls := "java/lang/String", name := "coder", desc := "()B" } : Jvm.MethodName) jdk_42_method_152_code (1 : Nat) (Option.some Jvm.ClassFile.FieldType.byte)).before args0 about1 = true := code_word (m := ⟨7, 7⟩) (meth := k7m7) (c := k7c7) (by decide +kernel) rfl rfl rfl (by decide +kernel)
set_option maxRecDepth 65536 in
theorem w_c14 : (Jvm.Cond.code ({ cls := "java/lang/String", name := "charAt", desc := "(I)C" } : Jvm.MethodName) jdk_42_method_56_code (2 : Nat) (Option.some Jvm.ClassFile.FieldType.char)).before args0 about1 = true := code_word (m := ⟨7, 4⟩) (meth := k7m4) (c := k7c4) (by decide +kernel) rfl rfl rfl (by decide +kernel)
set_option maxRecDepth 65536 in
theorem w_c15 : (Jvm.Cond.code ({ cls := "java/lang/String", name := "isLatin1", desc := "()Z" } : Jvm.MethodName) jdk_42_method_154_code (1 : Nat) (Option.some Jvm.ClassFile.FieldType.boolean)).before args0 about1 = true := code_word (m := ⟨7, 8⟩) (meth := k7m8) (c := k7c8) (by decide +kernel) rfl rfl rfl (by decide +kernel)
set_option maxRecDepth 65536 in
theorem w_c16 : (Jvm.Cond.code ({ cls := "java/lang/StringLatin1", name := "charAt", desc := "([BI)C" } : Jvm.MethodName) jdk_43_method_2_code (2 : Nat) (Option.some Jvm.ClassFile.FieldType.char)).before args0 about1 = true := code_word (m := ⟨13, 1⟩) (meth := k13m1) (c := k13c1) (by decide +kernel) rfl rfl rfl (by decide +kernel)
set_option maxRecDepth 65536 in
theorem w_c17 : (Jvm.Cond.code ({ cls := "java/lang/String", name := "checkIndex", desc := "(II)V" } : Jvm.MethodName) jdk_42_method_155_code (2 : Nat) (Option.none : Option Jvm.ClassFile.FieldType)).before args0 about1 = true := code_word (m := ⟨7, 9⟩) (meth := k7m9) (c := k7c9) (by decide +kernel) rfl rfl rfl (by decide +kernel)
set_option maxRecDepth 65536 in
theorem w_c18 : (Jvm.Cond.code ({ cls := "jdk/internal/util/Preconditions", name := "checkIndex", desc := "(IILjava/util/function/BiFunction;)I" } : Jvm.MethodName) jdk_41_method_11_code (3 : Nat) (Option.some Jvm.ClassFile.FieldType.int)).before args0 about1 = true := code_word (m := ⟨14, 1⟩) (meth := k14m1) (c := k14c1) (by decide +kernel) rfl rfl rfl (by decide +kernel)
set_option maxRecDepth 65536 in
theorem w_c19 : (Jvm.Cond.code ({ cls := "com/example/kept_outbox/keptoutbox/api/DestinationName", name := "isAllowed", desc := "(C)Z" } : Jvm.MethodName) prog_2_method_3_code (1 : Nat) (Option.some Jvm.ClassFile.FieldType.boolean)).before args0 about1 = true := code_word (m := ⟨11, 2⟩) (meth := k11m2) (c := k11c2) (by decide +kernel) rfl rfl rfl (by decide +kernel)
set_option maxRecDepth 65536 in
theorem w_c20 : (Jvm.Cond.code ({ cls := "com/example/kept_outbox/keptoutbox/api/Message$Builder", name := "<init>", desc := "(Ljava/lang/String;)V" } : Jvm.MethodName) prog_7_method_1_code (2 : Nat) (Option.none : Option Jvm.ClassFile.FieldType)).before args0 about1 = true := code_word (m := ⟨10, 0⟩) (meth := k10m0) (c := k10c0) (by decide +kernel) rfl rfl rfl (by decide +kernel)
set_option maxRecDepth 65536 in
theorem w_c21 : (Jvm.Cond.code ({ cls := "com/example/kept_outbox/keptoutbox/api/Message$Builder", name := "payload", desc := "([B)Lcom/example/kept_outbox/keptoutbox/api/Message;" } : Jvm.MethodName) prog_7_method_3_code (2 : Nat) (Option.some (Jvm.ClassFile.FieldType.object "com/example/kept_outbox/keptoutbox/api/Message"))).before args0 about1 = true := code_word (m := ⟨10, 1⟩) (meth := k10m1) (c := k10c1) (by decide +kernel) rfl rfl rfl (by decide +kernel)
set_option maxRecDepth 65536 in
theorem w_c22 : (Jvm.Cond.code ({ cls := "com/example/kept_outbox/keptoutbox/api/Message$Builder", name := "make", desc := "([B)Lcom/example/kept_outbox/keptoutbox/api/Message;" } : Jvm.MethodName) prog_7_method_4_code (2 : Nat) (Option.some (Jvm.ClassFile.FieldType.object "com/example/kept_outbox/keptoutbox/api/Message"))).before args0 about1 = true := code_word (m := ⟨10, 2⟩) (meth := k10m2) (c := k10c2) (by decide +kernel) rfl rfl rfl (by decide +kernel)
set_option maxRecDepth 65536 in
theorem w_c23 : (Jvm.Cond.code ({ cls := "com/example/kept_outbox/keptoutbox/api/Message", name := "<init>", desc := "(Ljava/lang/String;[B)V" } : Jvm.MethodName) prog_6_method_1_code (3 : Nat) (Option.none : Option Jvm.ClassFile.FieldType)).before args0 about1 = true := code_word (m := ⟨9, 0⟩) (meth := k9m0) (c := k9c0) (by decide +kernel) rfl rfl rfl (by decide +kernel)
set_option maxRecDepth 65536 in
theorem w_c24 : (Jvm.Cond.code ({ cls := "com/example/kept_outbox/keptoutbox/api/Message", name := "destination", desc := "()Ljava/lang/String;" } : Jvm.MethodName) prog_6_method_3_code (1 : Nat) (Option.some (Jvm.ClassFile.FieldType.object "java/lang/String"))).before args0 about1 = true := code_word (m := ⟨9, 2⟩) (meth := k9m2) (c := k9c2) (by decide +kernel) rfl rfl rfl (by decide +kernel)
set_option maxRecDepth 65536 in
theorem w_c25 : (Jvm.Cond.code ({ cls := "com/example/kept_outbox/keptoutbox/api/Message", name := "payload", desc := "()[B" } : Jvm.MethodName) prog_6_method_4_code (1 : Nat) (Option.some (Jvm.ClassFile.FieldType.array Jvm.ClassFile.FieldType.byte))).before args0 about1 = true := code_word (m := ⟨9, 3⟩) (meth := k9m3) (c := k9c3) (by decide +kernel) rfl rfl rfl (by decide +kernel)
set_option maxRecDepth 65536 in
theorem w_c26 : (Jvm.Cond.code ({ cls := "java/lang/String", name := "equals", desc := "(Ljava/lang/Object;)Z" } : Jvm.MethodName) jdk_42_method_66_code (3 : Nat) (Option.some Jvm.ClassFile.FieldType.boolean)).before args0 about1 = true := code_word (m := ⟨7, 5⟩) (meth := k7m5) (c := k7c5) (by decide +kernel) rfl rfl rfl (by decide +kernel)
def codes1 : List Jvm.Cond := [Jvm.Cond.code x code maxLocals ret, Jvm.Cond.code ({ cls := "com/example/kept_outbox/keptoutbox/api/MessageToPinLaw", name := "allowed", desc := "(I)C" } : Jvm.MethodName) method_2_code (2 : Nat) (Option.some Jvm.ClassFile.FieldType.char), Jvm.Cond.code ({ cls := "java/lang/String", name := "<init>", desc := "([C)V" } : Jvm.MethodName) jdk_42_method_3_code (2 : Nat) (Option.none : Option Jvm.ClassFile.FieldType), Jvm.Cond.code ({ cls := "java/lang/String", name := "<init>", desc := "([CIILjava/lang/Void;)V" } : Jvm.MethodName) jdk_42_method_149_code (6 : Nat) (Option.none : Option Jvm.ClassFile.FieldType), Jvm.Cond.code ({ cls := "java/lang/Object", name := "<init>", desc := "()V" } : Jvm.MethodName) object_method_1_code (1 : Nat) (Option.none : Option Jvm.ClassFile.FieldType), Jvm.Cond.code ({ cls := "java/lang/StringUTF16", name := "compress", desc := "([CII)[B" } : Jvm.MethodName) jdk_52_method_16_code (6 : Nat) (Option.some (Jvm.ClassFile.FieldType.array Jvm.ClassFile.FieldType.byte)), Jvm.Cond.code ({ cls := "java/lang/StringUTF16", name := "compress", desc := "([CI[BII)I" } : Jvm.MethodName) jdk_52_method_21_code (7 : Nat) (Option.some Jvm.ClassFile.FieldType.int), Jvm.Cond.code ({ cls := "java/lang/StringUTF16", name := "coderFromArrayLen", desc := "([BI)B" } : Jvm.MethodName) jdk_52_method_15_code (2 : Nat) (Option.some Jvm.ClassFile.FieldType.byte), Jvm.Cond.code ({ cls := "com/example/kept_outbox/keptoutbox/api/Message", name := "to", desc := "(Ljava/lang/String;)Lcom/example/kept_outbox/keptoutbox/api/Message$Builder;" } : Jvm.MethodName) prog_6_method_2_code (1 : Nat) (Option.some (Jvm.ClassFile.FieldType.object "com/example/kept_outbox/keptoutbox/api/Message$Builder")), Jvm.Cond.code ({ cls := "com/example/kept_outbox/keptoutbox/api/DestinationName", name := "check", desc := "(Ljava/lang/String;)Ljava/lang/String;" } : Jvm.MethodName) prog_2_method_2_code (2 : Nat) (Option.some (Jvm.ClassFile.FieldType.object "java/lang/String")), Jvm.Cond.code ({ cls := "java/util/Objects", name := "requireNonNull", desc := "(Ljava/lang/Object;Ljava/lang/String;)Ljava/lang/Object;" } : Jvm.MethodName) jdk_31_method_11_code (2 : Nat) (Option.some (Jvm.ClassFile.FieldType.object "java/lang/Object")), Jvm.Cond.code ({ cls := "java/lang/String", name := "isEmpty", desc := "()Z" } : Jvm.MethodName) jdk_42_method_55_code (1 : Nat) (Option.some Jvm.ClassFile.FieldType.boolean), Jvm.Cond.code ({ cls := "java/lang/String", name := "length", desc := "()I" } : Jvm.MethodName) jdk_42_method_54_code (1 : Nat) (Option.some Jvm.ClassFile.FieldType.int), Jvm.Cond.code ({ cls := "java/lang/String", name := "coder", desc := "()B" } : Jvm.MethodName) jdk_42_method_152_code (1 : Nat) (Option.some Jvm.ClassFile.FieldType.byte), Jvm.Cond.code ({ cls := "java/lang/String", name := "charAt", desc := "(I)C" } : Jvm.MethodName) jdk_42_method_56_code (2 : Nat) (Option.some Jvm.ClassFile.FieldType.char), Jvm.Cond.code ({ cls := "java/lang/String", name := "isLatin1", desc := "()Z" } : Jvm.MethodName) jdk_42_method_154_code (1 : Nat) (Option.some Jvm.ClassFile.FieldType.boolean), Jvm.Cond.code ({ cls := "java/lang/StringLatin1", name := "charAt", desc := "([BI)C" } : Jvm.MethodName) jdk_43_method_2_code (2 : Nat) (Option.some Jvm.ClassFile.FieldType.char), Jvm.Cond.code ({ cls := "java/lang/String", name := "checkIndex", desc := "(II)V" } : Jvm.MethodName) jdk_42_method_155_code (2 : Nat) (Option.none : Option Jvm.ClassFile.FieldType), Jvm.Cond.code ({ cls := "jdk/internal/util/Preconditions", name := "checkIndex", desc := "(IILjava/util/function/BiFunction;)I" } : Jvm.MethodName) jdk_41_method_11_code (3 : Nat) (Option.some Jvm.ClassFile.FieldType.int), Jvm.Cond.code ({ cls := "com/example/kept_outbox/keptoutbox/api/DestinationName", name := "isAllowed", desc := "(C)Z" } : Jvm.MethodName) prog_2_method_3_code (1 : Nat) (Option.some Jvm.ClassFile.FieldType.boolean), Jvm.Cond.code ({ cls := "com/example/kept_outbox/keptoutbox/api/Message$Builder", name := "<init>", desc := "(Ljava/lang/String;)V" } : Jvm.MethodName) prog_7_method_1_code (2 : Nat) (Option.none : Option Jvm.ClassFile.FieldType), Jvm.Cond.code ({ cls := "com/example/kept_outbox/keptoutbox/api/Message$Builder", name := "payload", desc := "([B)Lcom/example/kept_outbox/keptoutbox/api/Message;" } : Jvm.MethodName) prog_7_method_3_code (2 : Nat) (Option.some (Jvm.ClassFile.FieldType.object "com/example/kept_outbox/keptoutbox/api/Message")), Jvm.Cond.code ({ cls := "com/example/kept_outbox/keptoutbox/api/Message$Builder", name := "make", desc := "([B)Lcom/example/kept_outbox/keptoutbox/api/Message;" } : Jvm.MethodName) prog_7_method_4_code (2 : Nat) (Option.some (Jvm.ClassFile.FieldType.object "com/example/kept_outbox/keptoutbox/api/Message")), Jvm.Cond.code ({ cls := "com/example/kept_outbox/keptoutbox/api/Message", name := "<init>", desc := "(Ljava/lang/String;[B)V" } : Jvm.MethodName) prog_6_method_1_code (3 : Nat) (Option.none : Option Jvm.ClassFile.FieldType), Jvm.Cond.code ({ cls := "com/example/kept_outbox/keptoutbox/api/Message", name := "destination", desc := "()Ljava/lang/String;" } : Jvm.MethodName) prog_6_method_3_code (1 : Nat) (Option.some (Jvm.ClassFile.FieldType.object "java/lang/String")), Jvm.Cond.code ({ cls := "com/example/kept_outbox/keptoutbox/api/Message", name := "payload", desc := "()[B" } : Jvm.MethodName) prog_6_method_4_code (1 : Nat) (Option.some (Jvm.ClassFile.FieldType.array Jvm.ClassFile.FieldType.byte)), Jvm.Cond.code ({ cls := "java/lang/String", name := "equals", desc := "(Ljava/lang/Object;)Z" } : Jvm.MethodName) jdk_42_method_66_code (3 : Nat) (Option.some Jvm.ClassFile.FieldType.boolean)]
set_option maxRecDepth 65536 in
theorem codes_eq : words1.filter isCode = codes1 := rfl
theorem w_codes : ∀ c ∈ words1.filter isCode, c.before args0 about1 = true := by
  rw [codes_eq]
  intro c hc
  simp only [codes1, List.mem_cons, List.not_mem_nil, or_false] at hc
  rcases hc with rfl | rfl | rfl | rfl | rfl | rfl | rfl | rfl | rfl | rfl | rfl | rfl | rfl | rfl | rfl | rfl | rfl | rfl | rfl | rfl | rfl | rfl | rfl | rfl | rfl | rfl | rfl
  · exact w_c0
  · exact w_c1
  · exact w_c2
  · exact w_c3
  · exact w_c4
  · exact w_c5
  · exact w_c6
  · exact w_c7
  · exact w_c8
  · exact w_c9
  · exact w_c10
  · exact w_c11
  · exact w_c12
  · exact w_c13
  · exact w_c14
  · exact w_c15
  · exact w_c16
  · exact w_c17
  · exact w_c18
  · exact w_c19
  · exact w_c20
  · exact w_c21
  · exact w_c22
  · exact w_c23
  · exact w_c24
  · exact w_c25
  · exact w_c26
set_option maxRecDepth 65536 in
theorem w_t1 : (words1.take 24).all (fun c => isCode c || c.before args0 about1) = true := by decide +kernel
set_option maxRecDepth 65536 in
theorem w_t2 : ((words1.drop 24).take 24).all (fun c => isCode c || c.before args0 about1) = true := by decide +kernel
set_option maxRecDepth 65536 in
theorem w_t3 : (((words1.drop 24).drop 24).take 24).all (fun c => isCode c || c.before args0 about1) = true := by decide +kernel
set_option maxRecDepth 65536 in
theorem w_t4 : ((((words1.drop 24).drop 24).drop 24).take 24).all (fun c => isCode c || c.before args0 about1) = true := by decide +kernel
set_option maxRecDepth 65536 in
theorem w_t5 : (((((words1.drop 24).drop 24).drop 24).drop 24).take 24).all (fun c => isCode c || c.before args0 about1) = true := by decide +kernel
set_option maxRecDepth 65536 in
theorem w_t6 : ((((((words1.drop 24).drop 24).drop 24).drop 24).drop 24).take 24).all (fun c => isCode c || c.before args0 about1) = true := by decide +kernel
set_option maxRecDepth 65536 in
theorem w_t7 : ((((((words1.drop 24).drop 24).drop 24).drop 24).drop 24).drop 24).all (fun c => isCode c || c.before args0 about1) = true := by decide +kernel
theorem w_tables : (allAtoms (Jvm.Cond.code x code maxLocals ret :: tables_1)).before args0 about1 = true := by
  rw [allAtoms_all]
  show words1.all (fun c => c.before args0 about1) = true
  refine all_split ?_ w_codes
  rw [← List.take_append_drop 24 words1, List.all_append, w_t1, ← List.take_append_drop 24 (words1.drop 24), List.all_append, w_t2, ← List.take_append_drop 24 ((words1.drop 24).drop 24), List.all_append, w_t3, ← List.take_append_drop 24 (((words1.drop 24).drop 24).drop 24), List.all_append, w_t4, ← List.take_append_drop 24 ((((words1.drop 24).drop 24).drop 24).drop 24), List.all_append, w_t5, ← List.take_append_drop 24 (((((words1.drop 24).drop 24).drop 24).drop 24).drop 24), List.all_append, w_t6, w_t7]
  rfl
set_option maxRecDepth 65536 in
theorem w_rest : rest_1_c.before args0 about1 = true := by decide +kernel
set_option maxRecDepth 65536 in
theorem w_case : (Jvm.Cond.and given_1 narrow_1).before args0 about1 = true := by decide +kernel
theorem w_applies : (headSpec (Jvm.Cond.code x code maxLocals ret :: tables_1) room_1).applies x e0.platform about1 = true :=
  (Spec.applies_iff w_frames).mpr ⟨w_running, w_runnable, w_alone, w_named, w_hears, w_ripe, w_room, w_tables⟩
theorem atStart : AtStart classFile x code maxLocals ret World_1 tables_1 room_1 Calls_1 rest_1 Pre_1 launch0 p0 e0 about1 theMethod args0 below0 :=
  ⟨lists_1, trivial, launch0.admits_env _ _ _, launch0.least_env, fairChoices_fair.cas, fairChoices_fair.clock, w_frames, w_args, w_heap, w_applies, trivial, w_rest, w_case⟩
end start1
theorem witness_1 : WitnessClaimed_1 := ⟨start1.p0, start1.e0, start1.about1, start1.theMethod, start1.args0, start1.below0, start1.atStart⟩
end Jvm.Pilot.@@N@@
