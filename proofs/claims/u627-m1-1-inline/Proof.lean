import JvmDerived
import JvmDerived.Pilot.@@N@@Statement
import JvmDerived.Pilot.@@N@@Code
set_option linter.unusedVariables false
set_option linter.unusedSimpArgs false
namespace Jvm.RoadKit
open Sem ClassFile Op Lib Jvm.Stand Jvm.Free Jvm.LawKit
section New
variable {p : Program} {l : Launch} {e : Env} {R : Room} {s : State} {m : MethodId} {args : Array Value} {below : List Frame} {meth : Method} {c : Code} {T : State} {locs : List Loc} {cells slots : Nat}
theorem retI (X : Stand p l e R s m args below meth c T locs cells slots) (hx : p.tables.exec = Jvm.exec) {pc : Nat} {Ls : Array Slot} {z : Int32} {rest : List Value} (hret : meth.sig.returnType = some .int) (hd : decode c.code pc = .ok (.ireturn, 1)) {fs : List Frame}
    (hl : ∀ (f : JFrame) (acts : List Action), f.method = m → f.locked = none → f.entered = [] → (doReturn e (T.setTop f) acts (some (.int z))).1 = T.setFrames fs) : Steps p.tables e below (T.setTop (mkF m pc Ls (.int z :: rest))) (T.setFrames fs) := by
  have hm' : T.vm.method? m = some meth := X.method'
  have hn : narrow .int (.int z) = .int z := rfl
  show Steps p.tables e below (T.setTop { method := m, pc := pc, locals := Ls, stack := _ :: rest, locked := none }) _
  jvm_step X.here [X.here.top, hx, hd, hm', hret, hn]
  first | (intro acts; rw [hl _ acts rfl rfl rfl]) | rw [hl _ _ rfl rfl rfl]
  exact Steps.refl _
end New
end Jvm.RoadKit
namespace Jvm.Pilot.@@N@@.Own
open Jvm Jvm.ClassFile Sem Op Lib Jvm.Free Jvm.Stand Jvm.LawKit Jvm.RoadKit Bundle
section Layer
variable {p : Program} {l : Launch} {e : Env} {R : Room} {s : State} {m : MethodId} {args : Array Value} {below : List Frame} {meth : Method} {c : Code} {Z : State} {a0 : Array Value} {EL : List (String × Nat)} {own : String} {n0 : Nat} {h0 h : Heap} {ws ws' sf : List Addr} {Q Q' : Option Value → Heap → Prop} {k n k' n' : Nat} {g g' : JFrame}
/-- no literal's cell, whatever the tables -/
def SafeA (Z : State) (EL : List (String × Nat)) (h : Heap) (x : Addr) : Prop := ∀ vm, Z.vm.Alike vm → Safe Z EL vm h x
theorem SafeA.exa {x : Addr} {C : String} (E : Exa Z h x C) (h1 : C ≠ "java/lang/String") (h2 : C ≠ "[B") : SafeA Z EL h x := fun _ hal => Safe.exa hal E h1 h2
theorem SafeA.nil {x : Addr} : SafeA Z [] h x := fun _ _ ⟨_, hp, _⟩ => nomatch hp
theorem SafeA.null {x : Addr} (E : Exa Z h x "java/lang/String") (V : Fld Z h x "java/lang/String" "value" "[B" .null) : SafeA Z EL h x := fun vm hal B => by
  obtain ⟨p, -, u, a, -, q, -, F, rfl | rfl⟩ := B
  · obtain ⟨cell, cf, k, i, f, v1, v2, -, -, -, -, v7⟩ := V
    cases (show h[q.sa]? = some q.sC from F.ha).symm.trans v1
    obtain ⟨cS, ⟨⟨-, -, -, ⟨cv, kv, iv, s4, -⟩, -, -, -, s8, -⟩, -, -⟩, -⟩ := F
    obtain ⟨kv', z4⟩ := ff_back (U := Wst Z vm h) hal s4
    cases v2.symm.trans z4
    cases v7.symm.trans s8
  · obtain ⟨cell, k, e1, e2, e3, -, -⟩ := E
    cases (show h[q.sd]? = some q.SA from F.hd).symm.trans e1
    obtain ⟨cS, -, -, f, -⟩ := F
    have f' : vm.findClass "[B" = some q.SA.cls := f
    rw [hal.findClass] at f'
    obtain ⟨k1, q1, q2⟩ := Vm.findClass_spec f'
    obtain ⟨k2, q3, q4⟩ := Vm.findClass_spec e2
    cases q1.symm.trans q3
    exact absurd (q2.symm.trans q4) (by decide)
/-- the walk's end: it returns, writes at n0 and above alone, keeps h0 but for ws, and Q holds -/
def Fin (p : Program) (e : Env) (below : List Frame) (s : State) (R : Room) (Z : State) (EL : List (String × Nat)) (n0 : Nat) (h0 : Heap) (ws : List Addr) (Q : Option Value → Heap → Prop) (G : State) : Prop :=
  ∃ U o, Steps p.tables e below G U ∧ U.status = .running ∧ Ended U below o ∧ ∃ v L, o = .returned v ∧ (Fr n0 L ∧ Keep h0 U.heap ws ∧ Q v U.heap) ∧ CHr Z EL s.vm s.heap U.vm U.heap ∧ ReturnedEndW s o U L R.cells R.slots
theorem Fin.step {G G' : State} (st : ∀ t, Steps p.tables e below G' t → Steps p.tables e below G t) (q : Fin p e below s R Z EL n0 h0 ws Q G') : Fin p e below s R Z EL n0 h0 ws Q G := by
  obtain ⟨U, o, h1, r⟩ := q
  exact ⟨U, o, st _ h1, r⟩
def Cx (p : Program) (s : State) (meth : Method) (Z : State) (a0 : Array Value) (EL : List (String × Nat)) (n0 : Nat) (h0 : Heap) (ws : List Addr) : Prop :=
  p.tables.exec = Jvm.exec ∧ meth.locks = false ∧ Old Z n0 h0 ∧ (∀ x ∈ ws, n0 ≤ x) ∧ EW Z a0 EL ∧ s.heap = h0
/-- from the heap h and the frame g, k cells and n slots made, sf no literal's cells, the walk ends well -/
def Go (own : String) (p : Program) (l : Launch) (e : Env) (R : Room) (s : State) (m : MethodId) (args : Array Value) (below : List Frame) (meth : Method) (c : Code) (Z : State) (a0 : Array Value) (EL : List (String × Nat)) (n0 : Nat) (h0 : Heap) (ws : List Addr) (Q : Option Value → Heap → Prop) (sf : List Addr) (k n : Nat) (h : Heap) (g : JFrame) : Prop :=
  Cx p s meth Z a0 EL n0 h0 ws → ∀ (vm0 : Vm) (k0 : Nat) (T : State) (L : List Loc), Stand p l e R (s.setVm vm0) m args below meth c T L k n → T.heap = h → Fr n0 L → Keep h0 h ws → s.Since vm0 k0 → k0 ≤ h.size → Z.Warmed39 vm0 → vm0.findClass own = some m.cls →
    CHr Z EL s.vm h0 vm0 h → (∀ x ∈ sf, x < h.size ∧ Safe Z EL vm0 h x) → Fin p e below s R Z EL n0 h0 ws Q (T.setTop g)
theorem Go.cast (q : g = g') (r : Go own p l e R s m args below meth c Z a0 EL n0 h0 ws Q sf k n h g') : Go own p l e R s m args below meth c Z a0 EL n0 h0 ws Q sf k n h g := q ▸ r
theorem Go.keep (r : Keep h0 h ws → Go own p l e R s m args below meth c Z a0 EL n0 h0 ws Q sf k n h g) : Go own p l e R s m args below meth c Z a0 EL n0 h0 ws Q sf k n h g := fun hC vm0 k0 T L X eT N K => r K hC vm0 k0 T L X eT N K
theorem Old.le {Z : State} {n0 : Nat} {h : Heap} (O : Old Z n0 h) : n0 ≤ h.size := O.1 ▸ O.2.1
theorem Go.old (r : Old Z n0 h → Go own p l e R s m args below meth c Z a0 EL n0 h0 ws Q sf k n h g) : Go own p l e R s m args below meth c Z a0 EL n0 h0 ws Q sf k n h g := fun hC vm0 k0 T L X eT N K => r (hC.2.2.1.keep K hC.2.2.2.1) hC vm0 k0 T L X eT N K
/-- one address more is said safe -/
theorem Go.add {x : Addr} (lt : x < h.size) (sa : SafeA Z EL h x) (r : Go own p l e R s m args below meth c Z a0 EL n0 h0 ws Q (x :: sf) k n h g) : Go own p l e R s m args below meth c Z a0 EL n0 h0 ws Q sf k n h g := fun hC vm0 k0 T L X eT N K hS hk hZ hown H hs => r hC vm0 k0 T L X eT N K hS hk hZ hown H fun y hy => by
  rcases List.mem_cons.mp hy with rfl | hy
  · exact ⟨lt, sa vm0 hZ.alike⟩
  · exact hs y hy
/-- a step that changes the frame alone -/
theorem Go.sp (st : ∀ T : State, At T m c below → ∀ t, Steps p.tables e below (T.setTop g') t → Steps p.tables e below (T.setTop g) t) (q : Go own p l e R s m args below meth c Z a0 EL n0 h0 ws Q sf k n h g') : Go own p l e R s m args below meth c Z a0 EL n0 h0 ws Q sf k n h g :=
  fun hC vm0 k0 T L X eT N K hS hk hZ hown H hs => (q hC vm0 k0 T L X eT N K hS hk hZ hown H hs).step (st T X.here)
/-- a step that reads the heap -/
theorem Go.r (st : ∀ (s' T : State) (L : List Loc), Stand p l e R s' m args below meth c T L k n → T.heap = h → Z.Warmed39 s'.vm → ∀ t, Steps p.tables e below (T.setTop g') t → Steps p.tables e below (T.setTop g) t) (q : Go own p l e R s m args below meth c Z a0 EL n0 h0 ws Q sf k n h g') : Go own p l e R s m args below meth c Z a0 EL n0 h0 ws Q sf k n h g :=
  fun hC vm0 k0 T L X eT N K hS hk hZ hown H hs => (q hC vm0 k0 T L X eT N K hS hk hZ hown H hs).step (st (s.setVm vm0) T L X eT hZ)
/-- a step that may warm the tables -/
theorem Go.v (st : ∀ (s' T : State) (L : List Loc), Stand p l e R s' m args below meth c T L k n → T.heap = h → Z.Warmed39 s'.vm → s'.vm.findClass own = some m.cls → ∃ T' : State, Stand p l e R s' m args below meth c T' L k n ∧ T'.heap = h ∧ ∀ t, Steps p.tables e below (T'.setTop g') t → Steps p.tables e below (T.setTop g) t)
    (q : Go own p l e R s m args below meth c Z a0 EL n0 h0 ws Q sf k n h g') : Go own p l e R s m args below meth c Z a0 EL n0 h0 ws Q sf k n h g := fun hC vm0 k0 T L X eT N K hS hk hZ hown H hs => by
  obtain ⟨T', X', e', st'⟩ := st (s.setVm vm0) T L X eT hZ hown
  exact (q hC vm0 k0 T' L X' e' N K hS hk hZ hown H hs).step st'
theorem Cx.ok {a : Addr} (hC : Cx p s meth Z a0 EL n0 h0 ws) (ob : a ∈ ws ∨ h0.size ≤ a) : n0 ≤ a := ob.elim (hC.2.2.2.1 a) (Nat.le_trans (Old.le hC.2.2.1))
theorem safeOf {a : Addr} {vm0 : Vm} (hZ : Z.Warmed39 vm0) (hs : ∀ x ∈ sf, x < h.size ∧ Safe Z EL vm0 h x) (sa : a ∈ sf ∨ SafeA Z EL h a) : Safe Z EL vm0 h a := sa.elim (fun q => (hs a q).2) (fun q => q vm0 hZ.alike)
/-- a step that writes one place -/
theorem Go.w {a : Addr} {sl : Nat} {v : Value} (st : ∀ (s' T : State) (L : List Loc), Stand p l e R s' m args below meth c T L k n → T.heap = h → Z.Warmed39 s'.vm → s'.vm.findClass own = some m.cls → ∃ (T' : State) (h' : Heap), Stand p l e R s' m args below meth c T' (L ++ [⟨a, sl⟩]) k n ∧ T'.heap = h' ∧ Wr h h' a sl v ∧ ∀ t, Steps p.tables e below (T'.setTop g') t → Steps p.tables e below (T.setTop g) t)
    (ob : a ∈ ws ∨ h0.size ≤ a) (sa : a ∈ sf ∨ SafeA Z EL h a) (q : ∀ h' : Heap, Wr h h' a sl v → Go own p l e R s m args below meth c Z a0 EL n0 h0 ws Q sf k n h' g') : Go own p l e R s m args below meth c Z a0 EL n0 h0 ws Q sf k n h g := fun hC vm0 k0 T L X eT N K hS hk hZ hown H hs => by
  obtain ⟨T', h', X', e', W, st'⟩ := st (s.setVm vm0) T L X eT hZ hown
  have S := safeOf hZ hs sa
  exact (q h' W hC vm0 k0 T' _ X' e' (Fr.snoc X' N (hC.ok ob)) (K.wr W ob) hS (by rw [W.size]; exact hk) hZ hown (H.trans (CHr.wr W S H.1)) (fun x hx => ⟨by rw [W.size]; exact (hs x hx).1, Safe.wr W S H.1 (hs x hx).2⟩)).step st'
theorem safeNew {vm0 : Vm} {h' : Heap} (H : CHv Z EL vm0 h) (E : Ext h h') (hlt : h.size < h'.size) (hs : ∀ x ∈ sf, x < h.size ∧ Safe Z EL vm0 h x) : ∀ x ∈ h.size :: sf, x < h'.size ∧ Safe Z EL vm0 h' x := fun x hx => by
  rcases List.mem_cons.mp hx with rfl | hx
  · exact ⟨hlt, Safe.ext E H (Safe.new (Nat.le_refl _))⟩
  · exact ⟨Nat.lt_of_lt_of_le (hs x hx).1 E.1, Safe.ext E H (hs x hx).2⟩
/-- a step that makes cells -/
theorem Go.x {P : Heap → Prop} (st : ∀ (s' T : State) (L : List Loc), Stand p l e R s' m args below meth c T L k n → T.heap = h → Z.Warmed39 s'.vm → s'.vm.findClass own = some m.cls → ∃ (T' : State) (h' : Heap), Stand p l e R s' m args below meth c T' L k' n' ∧ T'.heap = h' ∧ Ext h h' ∧ P h' ∧ ∀ t, Steps p.tables e below (T'.setTop g') t → Steps p.tables e below (T.setTop g) t)
    (q : ∀ h' : Heap, Ext h h' → P h' → Go own p l e R s m args below meth c Z a0 EL n0 h0 ws Q sf k' n' h' g') : Go own p l e R s m args below meth c Z a0 EL n0 h0 ws Q sf k n h g := fun hC vm0 k0 T L X eT N K hS hk hZ hown H hs => by
  obtain ⟨T', h', X', e', E, hP, st'⟩ := st (s.setVm vm0) T L X eT hZ hown
  exact (q h' E hP hC vm0 k0 T' L X' e' N (K.ext E) hS (Nat.le_trans hk E.1) hZ hown (H.trans (CHr.ext E H.1)) (fun x hx => ⟨Nat.lt_of_lt_of_le (hs x hx).1 E.1, Safe.ext E H.1 (hs x hx).2⟩)).step st'
/-- new C -/
theorem Go.newO {C : String} {idx sl pc pc' : Nat} {Ls : Array Slot} {S : List Value} (hd : decode c.code pc = .ok (.new idx, 3)) (w : (Cond.classLink own idx C).before a0 Z = true) (wi : (Cond.instantiable C sl).before a0 Z = true) (wz : (Cond.initialized C).before a0 Z = true)
    (hk : k' = k + 1) (hn : n' = n + sl) (hp : pc' = pc + 3) (hc : k' ≤ R.cells) (hl : n' ≤ R.slots)
    (q : ∀ (a : Addr) (h' : Heap), a = h.size → h0.size ≤ a → Ext h h' → Exa Z h' a C → (∀ {O nm d : String} {ty : FieldType}, Laid Z a0 C O nm d → parseFieldDescriptor d = some ty → Fld Z h' a O nm d (defaultValue ty)) → Go own p l e R s m args below meth c Z a0 EL n0 h0 ws Q (a :: sf) k' n' h' (mkF m pc' Ls (.ref a :: S))) :
    Go own p l e R s m args below meth c Z a0 EL n0 h0 ws Q sf k n h (mkF m pc Ls S) := fun hC vm0 k0 T L X eT N K hS hk0 hZ hown H hs => by
  subst hk hn hp
  obtain ⟨T2, h2, X2, e2, E2, A2, D2, -, st2⟩ := RoadKit.newO X hC.1 (s := s.setVm vm0) hZ hown w wi wz eT (g := (mkF m pc Ls S)) rfl hd hc hl
  exact (q _ h2 rfl K.1 E2 A2 D2 hC vm0 k0 T2 _ X2 e2 N (K.ext E2) hS (Nat.le_trans hk0 E2.1) hZ hown (H.trans (CHr.ext E2 H.1)) (safeNew H.1 E2 A2.lt hs)).step st2
/-- a String constant whose text is used -/
theorem Go.ldc {text : String} {idx pc pc' nn : Nat} {vs : List Value} {z : Int32} {Ls : Array Slot} {S : List Value} (hd : decode c.code pc = .ok (.ldc idx, 2)) (w : (Cond.stringLink own idx text).before a0 Z = true) (wS : ∀ a ∈ Bundle.stringAtoms, a.before a0 Z = true) (hmem : (own, idx) ∈ EL)
    (ht : (∀ c ∈ text.toList, c.toNat < 256) ∧ text.toList.map (fun c => Value.int (Jvm.Lit.byteI c.toNat.toUInt16)) = vs) (hz : ¬ z < 0) (hlen : z.toNatClampNeg = vs.length) (hnn : 4 * text.toList.length ≤ nn) (hbig : nn ≤ 536870912)
    (hk : k' = k + 2) (hn : n' = n + (nn + 4)) (hp : pc' = pc + 2) (hc : k' ≤ R.cells) (hl : n' ≤ R.slots)
    (q : ∀ (a : Addr) (h' : Heap) (b : Addr) (kb : ClassId), Ext h h' → Exa Z h' a "java/lang/String" → Fld Z h' a "java/lang/String" "coder" "B" (.int 0) → Fld Z h' a "java/lang/String" "value" "[B" (.ref b) → Arv Z h' b kb .byte z vs (.int 0) → (∀ x, (x ∈ sf ∨ SafeA Z EL h' x) → x ≠ a ∧ x ≠ b) → Go own p l e R s m args below meth c Z a0 EL n0 h0 ws Q sf k' n' h' (mkF m pc' Ls (.ref a :: S))) :
    Go own p l e R s m args below meth c Z a0 EL n0 h0 ws Q sf k n h (mkF m pc Ls S) := fun hC vm0 k0 T L X eT N K hS hk0 hZ hown H hs => by
  subst hk hn hp
  obtain ⟨a, T', h', k1, b, kb, X', e', E, hS', hk1, hZ', hown', A1, A2, A3, A4, -, -, hR, -, hne, st⟩ := ldcCH X hC.1 hZ hown w wS eT hS hk0 hC.2.2.2.2.1 hmem H.1 ht hz hlen (g := (mkF m pc Ls S)) rfl hd hnn hbig hc hl
  have hs' : ∀ x ∈ sf, x < h'.size ∧ Safe Z EL T'.vm h' x := fun x hx => ⟨Nat.lt_of_lt_of_le (hs x hx).1 E.1, hR.safe (hs x hx).1 (hs x hx).2⟩
  exact (q a h' b kb E A1 A2 A3 A4 (fun x hx => hne x (safeOf hZ' hs' hx)) hC T'.vm k1 T' L X' e' N (K.ext E) hS' hk1 hZ' hown' (H.trans hR) hs').step st
/-- a String constant of whose text nothing is said -/
theorem Go.ldc0 {text : String} {idx pc pc' nn : Nat} {Ls : Array Slot} {S : List Value} (hd : decode c.code pc = .ok (.ldc idx, 2)) (w : (Cond.stringLink own idx text).before a0 Z = true) (wS : ∀ a ∈ Bundle.stringAtoms, a.before a0 Z = true) (hnn : 4 * text.toList.length ≤ nn) (hbig : nn ≤ 536870912)
    (hk : k' = k + 2) (hn : n' = n + (nn + 4)) (hp : pc' = pc + 2) (hc : k' ≤ R.cells) (hl : n' ≤ R.slots)
    (q : ∀ (a : Addr) (h' : Heap), Ext h h' → Go own p l e R s m args below meth c Z a0 EL n0 h0 ws Q sf k' n' h' (mkF m pc' Ls (.ref a :: S))) :
    Go own p l e R s m args below meth c Z a0 EL n0 h0 ws Q sf k n h (mkF m pc Ls S) := fun hC vm0 k0 T L X eT N K hS hk0 hZ hown H hs => by
  subst hk hn hp
  obtain ⟨a, T', h', k1, X', e', E, hS', hk1, hZ', hown', hR, -, st⟩ := ldcOH X hC.1 hZ hown w wS eT hS hk0 hC.2.2.2.2.1 H.1 (g := (mkF m pc Ls S)) rfl hd hnn hbig hc hl
  have hs' : ∀ x ∈ sf, x < h'.size ∧ Safe Z EL T'.vm h' x := fun x hx => ⟨Nat.lt_of_lt_of_le (hs x hx).1 E.1, hR.safe (hs x hx).1 (hs x hx).2⟩
  exact (q a h' E hC T'.vm k1 T' L X' e' N (K.ext E) hS' hk1 hZ' hown' (H.trans hR) hs').step st
/-- the return -/
theorem Go.ret {v : Option Value} (st : ∀ (s' T : State) (L : List Loc) (fs : List Frame), Stand p l e R s' m args below meth c T L k n → (∀ (f : JFrame) (acts : List Action), f.method = m → f.locked = none → f.entered = [] → (doReturn e (T.setTop f) acts v).1 = T.setFrames fs) → Steps p.tables e below (T.setTop g) (T.setFrames fs))
    (hv : meth.sig.returnType = none → v = none) (hc : k ≤ R.cells) (hs : n ≤ R.slots) (q : Q v h) : Go own p l e R s m args below meth c Z a0 EL n0 h0 ws Q sf k n h g := fun hC vm0 k0 T L X eT N K hS hk hZ hown H hsf => by
  obtain ⟨fs, hr, hrun, hended, hW1, hW2, hW3, hsame⟩ := X.leaveW (s := s) hS (by rw [eT]; exact hk) (v := v) hv hC.2.1
  refine ⟨_, _, st _ T L fs X hr, hrun, hended, _, _, rfl, ⟨N, ?_, ?_⟩, ?_, hW1, hW2, hW3, hsame.mono hc hs⟩
  · show Keep h0 T.heap ws
    rw [eT]; exact K
  · show Q v T.heap
    rw [eT]; exact q
  · show CHr Z EL s.vm s.heap T.vm T.heap
    rw [eT, hC.2.2.2.2.2]; exact H.trans (CHv.at X hZ hC.2.2.2.2.1 H.1)
/-- what a call asks and leaves -/
def Bk (l : Launch) (R : Room) (p : Program) (e : Env) (below : List Frame) (s : State) (args : Array Value) (y : MethodName) (len W : Nat) (as' : Array Value) (h : Heap) (rc rs n0 : Nat) (ws' : List Addr) (Q' : Option Value → Heap → Prop) : Prop :=
  Back l R p e below s args y len W (fun A a => a = as' ∧ A.U.heap = h ∧ A.cells + rc ≤ R.cells ∧ A.slots + rs ≤ R.slots)
    (fun A _ v B => ∃ L, (Fr n0 L ∧ Keep h B.U.heap ws' ∧ Q' v B.U.heap) ∧ B.locs = A.locs ++ L ∧ B.cells = A.cells + rc ∧ B.slots = A.slots + rs)
/-- a contract -/
def Ct (l : Launch) (Z : State) (a0 : Array Value) (EL : List (String × Nat)) (y : MethodName) (bytes : ByteArray) (ml : Nat) (ret : Option FieldType) (wds : List Cond) (R : Room) (as' : Array Value) (n0 : Nat) (h0 : Heap) (ws : List Addr) (Q : Option Value → Heap → Prop) : Prop :=
  MetFree l y (head1 (Cond.code y bytes ml ret :: wds) R) (fun a U => a = as' ∧ Z.Warmed39 U.vm ∧ U.heap = h0 ∧ CHv Z EL U.vm h0) (fun _ _ _ _ _ => True) (fun _ U o U' => ∃ v L, o = .returned v ∧ (Fr n0 L ∧ Keep h0 U'.heap ws ∧ Q v U'.heap) ∧ CHr Z EL U.vm U.heap U'.vm U'.heap ∧ ReturnedEndW U o U' L R.cells R.slots)
theorem Ct.of {y : MethodName} {bytes : ByteArray} {ml : Nat} {ret : Option FieldType} {wds : List Cond} {as' : Array Value} (pn : plainFor y = true) (hn : Old Z n0 h0) (hws : ∀ x ∈ ws, n0 ≤ x) (hEL : EW Z a0 EL)
    (body : ∀ (p : Program) (e : Env) (s : State) (m : MethodId) (below : List Frame) (meth : Method) (c : Code), p.tables.exec = Jvm.exec → c.code = bytes → c.maxLocals = ml → meth.sig.returnType = ret → meth.name = y.name → Go y.cls p l e R s m as' below meth c Z a0 EL n0 h0 ws Q [] 0 0 h0 (entryFrame m as' ml)) :
    Ct l Z a0 EL y bytes ml ret wds R as' n0 h0 ws Q := by
  refine MetFree.of_bodySF pn hisR ?_
  intro p e s m args below meth c s₁ Bd hml0 hP hK
  obtain ⟨rfl, hZ, hh, hCH⟩ := hP
  have X0 : Stand p l e R (s.setVm s.vm) m args below meth c s₁ [] 0 0 := Stand.of_body Bd
  have e0 : s₁.heap = h0 := by rw [← hh, Bd.state]; rfl
  exact body p e s m below meth c Bd.exec Bd.bytes hml0 Bd.returns (name_of_methodNamed Bd.named Bd.method).1 ⟨Bd.exec, Bd.notSynchronized, hn, hws, hEL, hh⟩ s.vm 0 s₁ [] X0 e0 (Fr.nil n0) (Keep.refl _ _) ((State.WarmedH.refl s).since 0) (Nat.zero_le _) hZ (findClass_of_methodNamed Bd.named) (CHr.refl hCH) all0
/-- a law of the library that changes nothing -/
theorem Bk.pure {y : MethodName} {as' : Array Value} {len W : Nat} {P : Option Value → Prop} (hB : Back l R p e below s args y len W (fun A a => a = as' ∧ A.U.heap = h ∧ A.cells + 0 ≤ R.cells ∧ A.slots + 0 ≤ R.slots) (fun A _ v B => ∃ L, (P v ∧ L = [] ∧ B.U.heap = h) ∧ B.locs = A.locs ++ L ∧ B.cells = A.cells + 0 ∧ B.slots = A.slots + 0)) :
    Bk l R p e below s args y len W as' h 0 0 n0 [] (fun v h' => P v ∧ h' = h) :=
  Back.mono hB (fun _ _ q => q) fun A a v B _ ⟨L, ⟨q1, q2, q3⟩, q4, q5, q6⟩ => ⟨L, ⟨q2 ▸ Fr.nil n0, q3 ▸ Keep.refl _ _, q1, q3⟩, q4, q5, q6⟩
theorem Bk.mono {y : MethodName} {as' : Array Value} {len W rc rs : Nat} {Q'' : Option Value → Heap → Prop} (hB : Bk l R p e below s args y len W as' h rc rs n0 ws' Q') (f : ∀ v h', Keep h h' ws' → Q' v h' → Q'' v h') : Bk l R p e below s args y len W as' h rc rs n0 ws' Q'' :=
  Back.mono hB (fun _ _ q => q) fun A a v B _ ⟨L, ⟨q1, q2, q3⟩, r⟩ => ⟨L, ⟨q1, q2, f _ _ q2 q3⟩, r⟩
theorem catOf {m : MethodId} {pc : Nat} {Ls : Array Slot} {S : List Value} {x W : Nat} (hW : x ≤ W) : 2 * (mkF m pc Ls S).monitorRoom + x ≤ W := by
  show 2 * 0 + _ ≤ _
  omega
theorem safeKeep {vm0 : Vm} {h' : Heap} (H : CHv Z EL vm0 h) (K : Keep h h' ws') (hw : ∀ x ∈ ws', Safe Z EL vm0 h x) (hs : ∀ x ∈ sf, x < h.size ∧ Safe Z EL vm0 h x) : ∀ x ∈ sf, x < h'.size ∧ Safe Z EL vm0 h' x := fun x hx => ⟨Nat.lt_of_lt_of_le (hs x hx).1 K.1, Safe.keep K hw H (hs x hx).2⟩
theorem Go.callVW {y z : MethodName} {C : String} {bytes : ByteArray} {ml : Nat} {rt : Option FieldType} {idx W pc pc' : Nat} {a : Addr} {argsL rest S : List Value} {Ls : Array Slot} (hd : decode c.code pc = .ok (.invokevirtual idx, 3)) (w1 : (Cond.methodLink own idx y).before a0 Z = true) (w2 : (Cond.declares y).before a0 Z = true) (nf : ∀ s' : State, Z.Warmed39 s'.vm → NotFace s' y) (w3 : (Cond.selects C y z).before a0 Z = true) (w4 : (Cond.instanceMethod z).before a0 Z = true)
    (hy : y.cls ≠ "java/lang/invoke/MethodHandle" ∧ y.cls ≠ "java/lang/invoke/VarHandle") {rm : Room} (hM : Ct l Z a0 EL z bytes ml rt [] rm (.ref a :: argsL).toArray n0 h ws' Q') (wc : (Cond.code z bytes ml rt).before a0 Z = true) (wz : (Cond.initialized z.cls).before a0 Z = true) (hf : rm.frames + 1 ≤ R.frames) (hlo : W + (ml + 11) + rm.locals ≤ R.locals) (E : Exa Z h a C)
    (hsz : Ls.size = c.maxLocals) (hlen : ∀ sig, parseMethodDescriptor y.desc = some sig → argsL.length = sig.parameters.length) (hst : S = argsL.reverse ++ .ref a :: rest) (hW : (rest.map fun v => v.category).sum ≤ W)
    (hk : k' = k + rm.cells) (hn : n' = n + rm.slots) (hp : pc' = pc + 3) (hc : k' ≤ R.cells) (hl : n' ≤ R.slots) (ob : ∀ x ∈ ws', x ∈ ws ∨ h0.size ≤ x)
    (q : ∀ (v : Option Value) (h' : Heap), Keep h h' ws' → Q' v h' → Go own p l e R s m args below meth c Z a0 EL n0 h0 ws Q sf k' n' h' (mkF m pc' Ls (v.toList ++ rest))) :
    Go own p l e R s m args below meth c Z a0 EL n0 h0 ws Q sf k n h (mkF m pc Ls S) := fun hC vm0 k0 T L X eT N K hS hk0 hZ hown H hs => by
  subst hk hn hp
  obtain ⟨cq, kq, qa, qb, qc⟩ := isOf (s := s.setVm vm0) hZ eT E
  obtain ⟨v, _, ⟨T1, L1, k1, n1⟩, -, X1, hS1, hg1, ⟨Lc, hQ, l1, y1, z1, hR⟩, st⟩ := X.virtualBackS hC.1 (y := y) (z := z) hown (mvT (s := s.setVm vm0) hZ w1) (mvT (s := s.setVm vm0) hZ w2) (nf (s.setVm vm0) hZ) (mvT (s := s.setVm vm0) hZ w3) (mvT (s := s.setVm vm0) hZ w4) hy (backOfSH (s := s) (Q := fun v h' L => Fr n0 L ∧ Keep h h' ws' ∧ Q' v h') hM hZ wc wz hf hlo hC.2.2.2.2.1 H.1) qa qc (g := mkF m pc Ls S) rfl hsz (Steps.refl _) (argsL := argsL) (rest := rest) hlen hst (catOf hW) hd (fun _ _ => ⟨rfl, eT, hc, hl⟩)
  dsimp only [Pt.U, Pt.locs, Pt.cells, Pt.slots] at X1 hS1 hg1 l1 y1 z1 hR st hQ
  subst l1 y1 z1
  obtain ⟨N1, K1, q1⟩ := hQ
  obtain ⟨X2, hS2, hZ2, hown2⟩ := rebS (n1 := T.heap.size) hS (by rw [eT]; exact hk0) X1 hS1 hg1 (Z := Z) hZ (own := own) hown
  exact (q v T1.heap K1 q1 hC T1.vm _ T1 _ X2 rfl (N.app N1) (K.trans K1 ob) hS2 (Nat.le_refl _) hZ2 hown2 (H.trans hR) (fun x hx => ⟨Nat.lt_of_lt_of_le (hs x hx).1 hR.2.1, hR.safe (hs x hx).1 (hs x hx).2⟩)).step (fun t r => st.trans r)
theorem Go.callS {y : MethodName} {bytes : ByteArray} {ml idx W rc rs pc pc' : Nat} {rt : Option FieldType} {argsL rest S : List Value} {Ls : Array Slot} (hd : decode c.code pc = .ok (.invokestatic idx, 3)) (w1 : (Cond.methodLink own idx y).before a0 Z = true) (w2 : (Cond.static y).before a0 Z = true) (w3 : (Cond.initialized y.cls).before a0 Z = true) (w4 : (Cond.code y bytes ml rt).before a0 Z = true)
    (hy : y.cls ≠ "java/lang/invoke/MethodHandle" ∧ y.cls ≠ "java/lang/invoke/VarHandle") (hK : ∀ (s' : State), Z.Warmed39 s'.vm → Bk l R p e below s' args y 3 W argsL.toArray h rc rs n0 ws' Q')
    (hsz : Ls.size = c.maxLocals) (hlen : ∀ sig, parseMethodDescriptor y.desc = some sig → argsL.length = sig.parameters.length) (hst : S = argsL.reverse ++ rest) (hW : (rest.map fun v => v.category).sum ≤ W)
    (hk : k' = k + rc) (hn : n' = n + rs) (hp : pc' = pc + 3) (hc : k' ≤ R.cells) (hl : n' ≤ R.slots) (ob : ∀ x ∈ ws', x ∈ ws ∨ h0.size ≤ x) (sa : ∀ x ∈ ws', x ∈ sf ∨ SafeA Z EL h x)
    (q : ∀ (v : Option Value) (h' : Heap), Keep h h' ws' → Q' v h' → Go own p l e R s m args below meth c Z a0 EL n0 h0 ws Q sf k' n' h' (mkF m pc' Ls (v.toList ++ rest))) :
    Go own p l e R s m args below meth c Z a0 EL n0 h0 ws Q sf k n h (mkF m pc Ls S) := fun hC vm0 k0 T L X eT N K hS hk0 hZ hown H hs => by
  subst hk hn hp
  obtain ⟨v, _, ⟨T1, L1, k1, n1⟩, -, X1, ⟨Lc, hQ, l1, y1, z1⟩, st⟩ := Jvm.LawKit.callS X hC.1 (y := y) hown (mvT (s := s.setVm vm0) hZ w1) (mvT (s := s.setVm vm0) hZ w2) (mvT (s := s.setVm vm0) hZ w3) (mvT (s := s.setVm vm0) hZ w4) hy (hK (s.setVm vm0) hZ) (g := mkF m pc Ls S) rfl hsz (argsL := argsL) (rest := rest) hlen hst (catOf hW) hd (fun _ _ => ⟨rfl, eT, hc, hl⟩)
  dsimp only [Pt.U, Pt.locs, Pt.cells, Pt.slots] at X1 l1 y1 z1 st hQ
  subst l1 y1 z1
  obtain ⟨N1, K1, q1⟩ := hQ
  have hw : ∀ x ∈ ws', Safe Z EL vm0 h x := fun x hx => safeOf hZ hs (sa x hx)
  exact (q v T1.heap K1 q1 hC vm0 k0 T1 _ X1 rfl (N.app N1) (K.trans K1 ob) hS (Nat.le_trans hk0 K1.1) hZ hown (H.trans (CHr.keep K1 hw H.1)) (safeKeep H.1 K1 hw hs)).step st
end Layer
theorem nar_ref {C : String} {v : Value} (h : v.isRef = true) : narrow (.object C) v = v := by rcases ref_cases h with rfl | ⟨_, rfl⟩ <;> rfl
theorem fit_ref {C : String} {v : Value} (h : v.isRef = true) : fits (.object C) v = true := by rcases ref_cases h with rfl | ⟨_, rfl⟩ <;> rfl
end Jvm.Pilot.@@N@@.Own
namespace Jvm.Pilot.@@N@@.OwnN
open Jvm Jvm.ClassFile Sem Op Lib Jvm.Free Jvm.Stand Jvm.LawKit Jvm.RoadKit Bundle
section Layer
variable {p : Program} {l : Launch} {e : Env} {R : Room} {s : State} {m : MethodId} {args : Array Value} {below : List Frame} {meth : Method} {c : Code} {Z : State} {a0 : Array Value} {own : String} {n0 : Nat} {h0 h : Heap} {ws ws' : List Addr} {Q Q' : Option Value → Heap → Prop} {k n k' n' : Nat} {g g' : JFrame}
/-- the walk's end: it returns, writes at n0 and above alone, keeps h0 but for ws, and Q holds -/
def Fin (p : Program) (e : Env) (below : List Frame) (s : State) (R : Room) (n0 : Nat) (h0 : Heap) (ws : List Addr) (Q : Option Value → Heap → Prop) (G : State) : Prop :=
  ∃ U o, Steps p.tables e below G U ∧ U.status = .running ∧ Ended U below o ∧ ∃ v L, o = .returned v ∧ (Fr n0 L ∧ Keep h0 U.heap ws ∧ Q v U.heap) ∧ FrameEnd s o U L R.cells R.slots
theorem Fin.step {G G' : State} (st : ∀ t, Steps p.tables e below G' t → Steps p.tables e below G t) (q : Fin p e below s R n0 h0 ws Q G') : Fin p e below s R n0 h0 ws Q G := by
  obtain ⟨U, o, h1, r⟩ := q
  exact ⟨U, o, st _ h1, r⟩
def Cx (own : String) (p : Program) (s : State) (m : MethodId) (meth : Method) (Z : State) (n0 : Nat) (h0 : Heap) (ws : List Addr) : Prop :=
  p.tables.exec = Jvm.exec ∧ Z.Warmed39 s.vm ∧ s.vm.findClass own = some m.cls ∧ meth.locks = false ∧ Old Z n0 h0 ∧ ∀ x ∈ ws, n0 ≤ x
/-- from the heap h and the frame g, k cells and n slots made, the walk ends well -/
def Go (own : String) (p : Program) (l : Launch) (e : Env) (R : Room) (s : State) (m : MethodId) (args : Array Value) (below : List Frame) (meth : Method) (c : Code) (Z : State) (n0 : Nat) (h0 : Heap) (ws : List Addr) (Q : Option Value → Heap → Prop) (k n : Nat) (h : Heap) (g : JFrame) : Prop :=
  Cx own p s m meth Z n0 h0 ws → ∀ (T : State) (L : List Loc), Stand p l e R s m args below meth c T L k n → T.heap = h → Fr n0 L → Keep h0 h ws → Fin p e below s R n0 h0 ws Q (T.setTop g)
theorem Go.cast (q : g = g') (r : Go own p l e R s m args below meth c Z n0 h0 ws Q k n h g') : Go own p l e R s m args below meth c Z n0 h0 ws Q k n h g := q ▸ r
theorem Go.keep (r : Keep h0 h ws → Go own p l e R s m args below meth c Z n0 h0 ws Q k n h g) : Go own p l e R s m args below meth c Z n0 h0 ws Q k n h g := fun hC T L X eT N K => r K hC T L X eT N K
theorem Old.le {Z : State} {n0 : Nat} {h : Heap} (O : Old Z n0 h) : n0 ≤ h.size := O.1 ▸ O.2.1
theorem Go.old (r : Old Z n0 h → Go own p l e R s m args below meth c Z n0 h0 ws Q k n h g) : Go own p l e R s m args below meth c Z n0 h0 ws Q k n h g := fun hC T L X eT N K => r (hC.2.2.2.2.1.keep K hC.2.2.2.2.2) hC T L X eT N K
/-- a step that changes the frame alone -/
theorem Go.sp (st : ∀ T : State, At T m c below → ∀ t, Steps p.tables e below (T.setTop g') t → Steps p.tables e below (T.setTop g) t) (q : Go own p l e R s m args below meth c Z n0 h0 ws Q k n h g') : Go own p l e R s m args below meth c Z n0 h0 ws Q k n h g :=
  fun hC T L X eT N K => (q hC T L X eT N K).step (st T X.here)
/-- a step that reads the heap -/
theorem Go.r (st : ∀ (s' T : State) (L : List Loc), Stand p l e R s' m args below meth c T L k n → T.heap = h → Z.Warmed39 s'.vm → ∀ t, Steps p.tables e below (T.setTop g') t → Steps p.tables e below (T.setTop g) t) (q : Go own p l e R s m args below meth c Z n0 h0 ws Q k n h g') : Go own p l e R s m args below meth c Z n0 h0 ws Q k n h g :=
  fun hC T L X eT N K => (q hC T L X eT N K).step (st s T L X eT hC.2.1)
/-- a step that may warm the tables -/
theorem Go.v (st : ∀ (s' T : State) (L : List Loc), Stand p l e R s' m args below meth c T L k n → T.heap = h → Z.Warmed39 s'.vm → s'.vm.findClass own = some m.cls → ∃ T' : State, Stand p l e R s' m args below meth c T' L k n ∧ T'.heap = h ∧ ∀ t, Steps p.tables e below (T'.setTop g') t → Steps p.tables e below (T.setTop g) t)
    (q : Go own p l e R s m args below meth c Z n0 h0 ws Q k n h g') : Go own p l e R s m args below meth c Z n0 h0 ws Q k n h g := fun hC T L X eT N K => by
  obtain ⟨T', X', e', st'⟩ := st s T L X eT hC.2.1 hC.2.2.1
  exact (q hC T' L X' e' N K).step st'
theorem Cx.ok {a : Addr} (hC : Cx own p s m meth Z n0 h0 ws) (ob : a ∈ ws ∨ h0.size ≤ a) : n0 ≤ a := ob.elim (hC.2.2.2.2.2 a) (Nat.le_trans (Old.le hC.2.2.2.2.1))
/-- a step that writes one place -/
theorem Go.w {a : Addr} {sl : Nat} {v : Value} (st : ∀ (s' T : State) (L : List Loc), Stand p l e R s' m args below meth c T L k n → T.heap = h → Z.Warmed39 s'.vm → s'.vm.findClass own = some m.cls → ∃ (T' : State) (h' : Heap), Stand p l e R s' m args below meth c T' (L ++ [⟨a, sl⟩]) k n ∧ T'.heap = h' ∧ Wr h h' a sl v ∧ ∀ t, Steps p.tables e below (T'.setTop g') t → Steps p.tables e below (T.setTop g) t)
    (ob : a ∈ ws ∨ h0.size ≤ a) (q : ∀ h' : Heap, Wr h h' a sl v → Go own p l e R s m args below meth c Z n0 h0 ws Q k n h' g') : Go own p l e R s m args below meth c Z n0 h0 ws Q k n h g := fun hC T L X eT N K => by
  obtain ⟨T', h', X', e', W, st'⟩ := st s T L X eT hC.2.1 hC.2.2.1
  exact (q h' W hC T' _ X' e' (Fr.snoc X' N (hC.ok ob)) (K.wr W ob)).step st'
/-- a step that makes cells -/
theorem Go.x {P : Heap → Prop} (st : ∀ (s' T : State) (L : List Loc), Stand p l e R s' m args below meth c T L k n → T.heap = h → Z.Warmed39 s'.vm → s'.vm.findClass own = some m.cls → ∃ (T' : State) (h' : Heap), Stand p l e R s' m args below meth c T' L k' n' ∧ T'.heap = h' ∧ Ext h h' ∧ P h' ∧ ∀ t, Steps p.tables e below (T'.setTop g') t → Steps p.tables e below (T.setTop g) t)
    (q : ∀ h' : Heap, Ext h h' → P h' → Go own p l e R s m args below meth c Z n0 h0 ws Q k' n' h' g') : Go own p l e R s m args below meth c Z n0 h0 ws Q k n h g := fun hC T L X eT N K => by
  obtain ⟨T', h', X', e', E, hP, st'⟩ := st s T L X eT hC.2.1 hC.2.2.1
  exact (q h' E hP hC T' L X' e' N (K.ext E)).step st'
/-- a step that writes objects at ws' -/
theorem Go.kp {P : Heap → Prop} (st : ∀ (s' T : State) (L : List Loc), Stand p l e R s' m args below meth c T L k n → T.heap = h → Fr n0 L → Z.Warmed39 s'.vm → s'.vm.findClass own = some m.cls → ∃ (T' : State) (h' : Heap) (L' : List Loc), Stand p l e R s' m args below meth c T' L' k n ∧ T'.heap = h' ∧ Fr n0 L' ∧ Keep h h' ws' ∧ P h' ∧ ∀ t, Steps p.tables e below (T'.setTop g') t → Steps p.tables e below (T.setTop g) t)
    (ob : ∀ x ∈ ws', x ∈ ws ∨ h0.size ≤ x) (q : ∀ h' : Heap, Keep h h' ws' → P h' → Go own p l e R s m args below meth c Z n0 h0 ws Q k n h' g') : Go own p l e R s m args below meth c Z n0 h0 ws Q k n h g := fun hC T L X eT N K => by
  obtain ⟨T', h', L', X', e', N', K', hP, st'⟩ := st s T L X eT N hC.2.1 hC.2.2.1
  exact (q h' K' hP hC T' L' X' e' N' (K.trans K' ob)).step st'
/-- new C -/
theorem Go.newO {C : String} {idx sl pc pc' : Nat} {Ls : Array Slot} {S : List Value} (hd : decode c.code pc = .ok (.new idx, 3)) (w : (Cond.classLink own idx C).before a0 Z = true) (wi : (Cond.instantiable C sl).before a0 Z = true) (wz : (Cond.initialized C).before a0 Z = true)
    (hk : k' = k + 1) (hn : n' = n + sl) (hp : pc' = pc + 3) (hc : k' ≤ R.cells) (hl : n' ≤ R.slots)
    (q : ∀ (a : Addr) (h' : Heap), a = h.size → h0.size ≤ a → Ext h h' → Exa Z h' a C → (∀ {O nm d : String} {ty : FieldType}, Laid Z a0 C O nm d → parseFieldDescriptor d = some ty → Fld Z h' a O nm d (defaultValue ty)) → Go own p l e R s m args below meth c Z n0 h0 ws Q k' n' h' (mkF m pc' Ls (.ref a :: S))) :
    Go own p l e R s m args below meth c Z n0 h0 ws Q k n h (mkF m pc Ls S) := fun hC T L X eT N K => by
  subst hk hn hp
  obtain ⟨T2, h2, X2, e2, E2, A2, D2, -, st2⟩ := RoadKit.newO X hC.1 hC.2.1 hC.2.2.1 w wi wz eT (g := (mkF m pc Ls S)) rfl hd hc hl
  exact (q _ h2 rfl K.1 E2 A2 D2 hC T2 _ X2 e2 N (K.ext E2)).step st2
/-- newarray of a primitive kind -/
theorem Go.newP {aty : ArrayType} {ty : FieldType} {dv : Value} {pc pc' cap : Nat} {z : Int32} {Ls : Array Slot} {S : List Value} (hd : decode c.code pc = .ok (.newarray aty, 2)) (hty : newarray.typeOf aty = ty) (hdv : defaultValue ty = dv) (w : (Cond.arrayClass ty).before a0 Z = true) (hz : ¬ z < 0) (hcap : z.toNatClampNeg ≤ cap) (hb : cap * 8 ≤ 536870912)
    (hk : k' = k + 1) (hn : n' = n + cap) (hp : pc' = pc + 2) (hc : k' ≤ R.cells) (hl : n' ≤ R.slots)
    (q : ∀ (a : Addr) (h' : Heap) (cA : ClassId), a = h.size → h0.size ≤ a → Ext h h' → Arv Z h' a cA ty z [] dv → Go own p l e R s m args below meth c Z n0 h0 ws Q k' n' h' (mkF m pc' Ls (.ref a :: S))) :
    Go own p l e R s m args below meth c Z n0 h0 ws Q k n h (mkF m pc Ls (.int z :: S)) := fun hC T L X eT N K => by
  subst hk hn hp hty hdv
  obtain ⟨T2, h2, k2, X2, e2, E2, A2, st2⟩ := RoadKit.newP X hC.1 hC.2.1 w eT (g := (mkF m pc Ls (.int z :: S))) rfl hd rfl hz hcap hb hc hl
  exact (q _ h2 k2 rfl K.1 E2 (Arv.new A2 hz) hC T2 _ X2 e2 N (K.ext E2)).step st2
/-- the return -/
theorem Go.ret {v : Option Value} (st : ∀ (s' T : State) (L : List Loc) (fs : List Frame), Stand p l e R s' m args below meth c T L k n → (∀ (f : JFrame) (acts : List Action), f.method = m → f.locked = none → f.entered = [] → (doReturn e (T.setTop f) acts v).1 = T.setFrames fs) → Steps p.tables e below (T.setTop g) (T.setFrames fs))
    (hv : meth.sig.returnType = none → v = none) (hc : k ≤ R.cells) (hs : n ≤ R.slots) (q : Q v h) : Go own p l e R s m args below meth c Z n0 h0 ws Q k n h g := fun hC T L X eT N K => by
  obtain ⟨fs, hr, hrun, hended, hW, hsame⟩ := X.leave (v := v) hv hC.2.2.2.1
  refine ⟨_, _, st s T L fs X hr, hrun, hended, _, _, rfl, ⟨N, ?_, ?_⟩, ⟨_, rfl⟩, hW, hsame.mono hc hs⟩
  · show Keep h0 T.heap ws
    rw [eT]; exact K
  · show Q v T.heap
    rw [eT]; exact q
/-- what a call asks and leaves -/
def Bk (l : Launch) (R : Room) (p : Program) (e : Env) (below : List Frame) (s : State) (args : Array Value) (y : MethodName) (len W : Nat) (as' : Array Value) (h : Heap) (rc rs n0 : Nat) (ws' : List Addr) (Q' : Option Value → Heap → Prop) : Prop :=
  Back l R p e below s args y len W (fun A a => a = as' ∧ A.U.heap = h ∧ A.cells + rc ≤ R.cells ∧ A.slots + rs ≤ R.slots)
    (fun A _ v B => ∃ L, (Fr n0 L ∧ Keep h B.U.heap ws' ∧ Q' v B.U.heap) ∧ B.locs = A.locs ++ L ∧ B.cells = A.cells + rc ∧ B.slots = A.slots + rs)
/-- a contract -/
def Ct (l : Launch) (Z : State) (y : MethodName) (bytes : ByteArray) (ml : Nat) (ret : Option FieldType) (wds : List Cond) (R : Room) (as' : Array Value) (n0 : Nat) (h0 : Heap) (ws : List Addr) (Q : Option Value → Heap → Prop) : Prop :=
  MetFree l y (head1 (Cond.code y bytes ml ret :: wds) R) (fun a U => a = as' ∧ Z.Warmed39 U.vm ∧ U.heap = h0) (fun _ _ _ _ _ => True) (fun _ U o U' => ∃ v L, o = .returned v ∧ (Fr n0 L ∧ Keep h0 U'.heap ws ∧ Q v U'.heap) ∧ FrameEnd U o U' L R.cells R.slots)
theorem Ct.of {y : MethodName} {bytes : ByteArray} {ml : Nat} {ret : Option FieldType} {wds : List Cond} {as' : Array Value} (pn : plainFor y = true) (hn : Old Z n0 h0) (hws : ∀ x ∈ ws, n0 ≤ x)
    (body : ∀ (p : Program) (e : Env) (s : State) (m : MethodId) (below : List Frame) (meth : Method) (c : Code), p.tables.exec = Jvm.exec → c.code = bytes → c.maxLocals = ml → meth.sig.returnType = ret → meth.name = y.name → Go y.cls p l e R s m as' below meth c Z n0 h0 ws Q 0 0 h0 (entryFrame m as' ml)) :
    Ct l Z y bytes ml ret wds R as' n0 h0 ws Q := by
  refine MetFree.of_bodySF pn hisR ?_
  intro p e s m args below meth c s₁ Bd hml0 hP hK
  obtain ⟨rfl, hZ, hh⟩ := hP
  have X0 : Stand p l e R s m args below meth c s₁ [] 0 0 := Stand.of_body Bd
  have e0 : s₁.heap = h0 := by rw [← hh, Bd.state]; rfl
  exact body p e s m below meth c Bd.exec Bd.bytes hml0 Bd.returns (name_of_methodNamed Bd.named Bd.method).1 ⟨Bd.exec, hZ, findClass_of_methodNamed Bd.named, Bd.notSynchronized, hn, hws⟩ s₁ [] X0 e0 (Fr.nil n0) (Keep.refl _ _)
theorem Ct.bk {y : MethodName} {bytes : ByteArray} {ml : Nat} {ret : Option FieldType} {rm : Room} {as' : Array Value} {len W : Nat} (hM : Ct l Z y bytes ml ret [] rm as' n0 h ws' Q') (hZ : Z.Warmed39 s.vm) (wc : (Cond.code y bytes ml ret).before a0 Z = true) (wz : (Cond.initialized y.cls).before a0 Z = true) (hf : rm.frames + 1 ≤ R.frames) (hl : W + (ml + 11) + rm.locals ≤ R.locals) :
    Bk l R p e below s args y len W as' h rm.cells rm.slots n0 ws' Q' := RoadKit.backOf (Q := fun v h' L => Fr n0 L ∧ Keep h h' ws' ∧ Q' v h') hM hZ wc wz hf hl
/-- a law of the library that changes nothing -/
theorem Bk.pure {y : MethodName} {as' : Array Value} {len W : Nat} {P : Option Value → Prop} (hB : Back l R p e below s args y len W (fun A a => a = as' ∧ A.U.heap = h ∧ A.cells + 0 ≤ R.cells ∧ A.slots + 0 ≤ R.slots) (fun A _ v B => ∃ L, (P v ∧ L = [] ∧ B.U.heap = h) ∧ B.locs = A.locs ++ L ∧ B.cells = A.cells + 0 ∧ B.slots = A.slots + 0)) :
    Bk l R p e below s args y len W as' h 0 0 n0 [] (fun v h' => P v ∧ h' = h) :=
  Back.mono hB (fun _ _ q => q) fun A a v B _ ⟨L, ⟨q1, q2, q3⟩, q4, q5, q6⟩ => ⟨L, ⟨q2 ▸ Fr.nil n0, q3 ▸ Keep.refl _ _, q1, q3⟩, q4, q5, q6⟩
theorem Bk.mono {y : MethodName} {as' : Array Value} {len W rc rs : Nat} {Q'' : Option Value → Heap → Prop} (hB : Bk l R p e below s args y len W as' h rc rs n0 ws' Q') (f : ∀ v h', Keep h h' ws' → Q' v h' → Q'' v h') : Bk l R p e below s args y len W as' h rc rs n0 ws' Q'' :=
  Back.mono hB (fun _ _ q => q) fun A a v B _ ⟨L, ⟨q1, q2, q3⟩, r⟩ => ⟨L, ⟨q1, q2, f _ _ q2 q3⟩, r⟩
theorem catOf {m : MethodId} {pc : Nat} {Ls : Array Slot} {S : List Value} {x W : Nat} (hW : x ≤ W) : 2 * (mkF m pc Ls S).monitorRoom + x ≤ W := by
  show 2 * 0 + _ ≤ _
  omega
/-- a constructor's call -/
theorem Go.callC {y : MethodName} {bytes : ByteArray} {ml idx W rc rs pc pc' : Nat} {a : Addr} {argsL rest S : List Value} {Ls : Array Slot} (hd : decode c.code pc = .ok (.invokespecial idx, 3)) (hy1 : y.name = "<init>") (w1 : (Cond.methodLink own idx y).before a0 Z = true) (w2 : (Cond.instanceMethod y).before a0 Z = true) (w3 : (Cond.code y bytes ml none).before a0 Z = true)
    (hy : y.cls ≠ "java/lang/invoke/MethodHandle" ∧ y.cls ≠ "java/lang/invoke/VarHandle") (hK : ∀ (s' : State), Z.Warmed39 s'.vm → Bk l R p e below s' args y 3 W (.ref a :: argsL).toArray h rc rs n0 ws' Q')
    (hsz : Ls.size = c.maxLocals) (hlen : ∀ sig, parseMethodDescriptor y.desc = some sig → argsL.length = sig.parameters.length) (hst : S = argsL.reverse ++ .ref a :: rest) (hW : (rest.map fun v => v.category).sum ≤ W)
    (hk : k' = k + rc) (hn : n' = n + rs) (hp : pc' = pc + 3) (hc : k' ≤ R.cells) (hl : n' ≤ R.slots) (ob : ∀ x ∈ ws', x ∈ ws ∨ h0.size ≤ x)
    (q : ∀ (v : Option Value) (h' : Heap), Keep h h' ws' → Q' v h' → Go own p l e R s m args below meth c Z n0 h0 ws Q k' n' h' (mkF m pc' Ls (v.toList ++ rest))) :
    Go own p l e R s m args below meth c Z n0 h0 ws Q k n h (mkF m pc Ls S) := fun hC T L X eT N K => by
  subst hk hn hp
  obtain ⟨v, _, ⟨T1, L1, k1, n1⟩, -, X1, ⟨Lc, hQ, l1, y1, z1⟩, st⟩ := X.specialBack hC.1 (y := y) hy1 hC.2.2.1 (mvT hC.2.1 w1) (mvT hC.2.1 w2) (mvT hC.2.1 w3) hy (hK s hC.2.1) (g := mkF m pc Ls S) rfl hsz (Steps.refl _) (a := a) (argsL := argsL) (rest := rest) hlen hst (catOf hW) hd (fun _ _ => ⟨rfl, eT, hc, hl⟩)
  dsimp only [Pt.U, Pt.locs, Pt.cells, Pt.slots] at X1 l1 y1 z1 st hQ
  subst l1 y1 z1
  obtain ⟨N1, K1, q1⟩ := hQ
  exact (q v T1.heap K1 q1 hC T1 _ X1 rfl (N.app N1) (K.trans K1 ob)).step (fun t r => st.trans r)
/-- an instance method's call -/
theorem Go.callV {y z : MethodName} {C : String} {idx W rc rs pc pc' : Nat} {a : Addr} {argsL rest S : List Value} {Ls : Array Slot} (hd : decode c.code pc = .ok (.invokevirtual idx, 3)) (w1 : (Cond.methodLink own idx y).before a0 Z = true) (w2 : (Cond.declares y).before a0 Z = true) (nf : ∀ s' : State, Z.Warmed39 s'.vm → NotFace s' y) (w3 : (Cond.selects C y z).before a0 Z = true) (w4 : (Cond.instanceMethod z).before a0 Z = true)
    (hy : y.cls ≠ "java/lang/invoke/MethodHandle" ∧ y.cls ≠ "java/lang/invoke/VarHandle") (hK : ∀ (s' : State), Z.Warmed39 s'.vm → Bk l R p e below s' args z 3 W (.ref a :: argsL).toArray h rc rs n0 ws' Q') (E : Exa Z h a C)
    (hsz : Ls.size = c.maxLocals) (hlen : ∀ sig, parseMethodDescriptor y.desc = some sig → argsL.length = sig.parameters.length) (hst : S = argsL.reverse ++ .ref a :: rest) (hW : (rest.map fun v => v.category).sum ≤ W)
    (hk : k' = k + rc) (hn : n' = n + rs) (hp : pc' = pc + 3) (hc : k' ≤ R.cells) (hl : n' ≤ R.slots) (ob : ∀ x ∈ ws', x ∈ ws ∨ h0.size ≤ x)
    (q : ∀ (v : Option Value) (h' : Heap), Keep h h' ws' → Q' v h' → Go own p l e R s m args below meth c Z n0 h0 ws Q k' n' h' (mkF m pc' Ls (v.toList ++ rest))) :
    Go own p l e R s m args below meth c Z n0 h0 ws Q k n h (mkF m pc Ls S) := fun hC T L X eT N K => by
  subst hk hn hp
  obtain ⟨cq, kq, qa, qb, qc⟩ := isOf hC.2.1 eT E
  obtain ⟨v, _, ⟨T1, L1, k1, n1⟩, -, X1, ⟨Lc, hQ, l1, y1, z1⟩, st⟩ := X.virtualBack hC.1 (y := y) (z := z) hC.2.2.1 (mvT hC.2.1 w1) (mvT hC.2.1 w2) (nf s hC.2.1) (mvT hC.2.1 w3) (mvT hC.2.1 w4) hy (hK s hC.2.1) qa qc (g := mkF m pc Ls S) rfl hsz (Steps.refl _) (argsL := argsL) (rest := rest) hlen hst (catOf hW) hd (fun _ _ => ⟨rfl, eT, hc, hl⟩)
  dsimp only [Pt.U, Pt.locs, Pt.cells, Pt.slots] at X1 l1 y1 z1 st hQ
  subst l1 y1 z1
  obtain ⟨N1, K1, q1⟩ := hQ
  exact (q v T1.heap K1 q1 hC T1 _ X1 rfl (N.app N1) (K.trans K1 ob)).step (fun t r => st.trans r)
/-- a static method's call -/
theorem Go.callS {y : MethodName} {bytes : ByteArray} {ml idx W rc rs pc pc' : Nat} {rt : Option FieldType} {argsL rest S : List Value} {Ls : Array Slot} (hd : decode c.code pc = .ok (.invokestatic idx, 3)) (w1 : (Cond.methodLink own idx y).before a0 Z = true) (w2 : (Cond.static y).before a0 Z = true) (w3 : (Cond.initialized y.cls).before a0 Z = true) (w4 : (Cond.code y bytes ml rt).before a0 Z = true)
    (hy : y.cls ≠ "java/lang/invoke/MethodHandle" ∧ y.cls ≠ "java/lang/invoke/VarHandle") (hK : ∀ (s' : State), Z.Warmed39 s'.vm → Bk l R p e below s' args y 3 W argsL.toArray h rc rs n0 ws' Q')
    (hsz : Ls.size = c.maxLocals) (hlen : ∀ sig, parseMethodDescriptor y.desc = some sig → argsL.length = sig.parameters.length) (hst : S = argsL.reverse ++ rest) (hW : (rest.map fun v => v.category).sum ≤ W)
    (hk : k' = k + rc) (hn : n' = n + rs) (hp : pc' = pc + 3) (hc : k' ≤ R.cells) (hl : n' ≤ R.slots) (ob : ∀ x ∈ ws', x ∈ ws ∨ h0.size ≤ x)
    (q : ∀ (v : Option Value) (h' : Heap), Keep h h' ws' → Q' v h' → Go own p l e R s m args below meth c Z n0 h0 ws Q k' n' h' (mkF m pc' Ls (v.toList ++ rest))) :
    Go own p l e R s m args below meth c Z n0 h0 ws Q k n h (mkF m pc Ls S) := fun hC T L X eT N K => by
  subst hk hn hp
  obtain ⟨v, _, ⟨T1, L1, k1, n1⟩, -, X1, ⟨Lc, hQ, l1, y1, z1⟩, st⟩ := Jvm.LawKit.callS X hC.1 (y := y) hC.2.2.1 (mvT hC.2.1 w1) (mvT hC.2.1 w2) (mvT hC.2.1 w3) (mvT hC.2.1 w4) hy (hK s hC.2.1) (g := mkF m pc Ls S) rfl hsz (argsL := argsL) (rest := rest) hlen hst (catOf hW) hd (fun _ _ => ⟨rfl, eT, hc, hl⟩)
  dsimp only [Pt.U, Pt.locs, Pt.cells, Pt.slots] at X1 l1 y1 z1 st hQ
  subst l1 y1 z1
  obtain ⟨N1, K1, q1⟩ := hQ
  exact (q v T1.heap K1 q1 hC T1 _ X1 rfl (N.app N1) (K.trans K1 ob)).step st
/-- calls that change nothing -/
theorem Go.callSP {y : MethodName} {bytes : ByteArray} {ml idx W pc pc' : Nat} {rt : Option FieldType} {argsL rest S : List Value} {Ls : Array Slot} {P : Option Value → Prop} (hd : decode c.code pc = .ok (.invokestatic idx, 3)) (w1 : (Cond.methodLink own idx y).before a0 Z = true) (w2 : (Cond.static y).before a0 Z = true) (w3 : (Cond.initialized y.cls).before a0 Z = true) (w4 : (Cond.code y bytes ml rt).before a0 Z = true)
    (hy : y.cls ≠ "java/lang/invoke/MethodHandle" ∧ y.cls ≠ "java/lang/invoke/VarHandle") (hK : ∀ (s' : State), Z.Warmed39 s'.vm → Bk l R p e below s' args y 3 W argsL.toArray h 0 0 n0 [] (fun v h' => P v ∧ h' = h))
    (hsz : Ls.size = c.maxLocals) (hlen : ∀ sig, parseMethodDescriptor y.desc = some sig → argsL.length = sig.parameters.length) (hst : S = argsL.reverse ++ rest) (hW : (rest.map fun v => v.category).sum ≤ W) (hp : pc' = pc + 3) (hc : k ≤ R.cells) (hl : n ≤ R.slots)
    (q : ∀ v : Option Value, P v → Go own p l e R s m args below meth c Z n0 h0 ws Q k n h (mkF m pc' Ls (v.toList ++ rest))) :
    Go own p l e R s m args below meth c Z n0 h0 ws Q k n h (mkF m pc Ls S) :=
  Go.callS hd w1 w2 w3 w4 hy hK hsz hlen hst hW rfl rfl hp hc hl all0 (fun v h' _ ⟨q1, q2⟩ => q2 ▸ q v q1)
theorem Go.callVP {y z : MethodName} {C : String} {idx W pc pc' : Nat} {a : Addr} {argsL rest S : List Value} {Ls : Array Slot} {P : Option Value → Prop} (hd : decode c.code pc = .ok (.invokevirtual idx, 3)) (w1 : (Cond.methodLink own idx y).before a0 Z = true) (w2 : (Cond.declares y).before a0 Z = true) (nf : ∀ s' : State, Z.Warmed39 s'.vm → NotFace s' y) (w3 : (Cond.selects C y z).before a0 Z = true) (w4 : (Cond.instanceMethod z).before a0 Z = true)
    (hy : y.cls ≠ "java/lang/invoke/MethodHandle" ∧ y.cls ≠ "java/lang/invoke/VarHandle") (hK : ∀ (s' : State), Z.Warmed39 s'.vm → Bk l R p e below s' args z 3 W (.ref a :: argsL).toArray h 0 0 n0 [] (fun v h' => P v ∧ h' = h)) (E : Exa Z h a C)
    (hsz : Ls.size = c.maxLocals) (hlen : ∀ sig, parseMethodDescriptor y.desc = some sig → argsL.length = sig.parameters.length) (hst : S = argsL.reverse ++ .ref a :: rest) (hW : (rest.map fun v => v.category).sum ≤ W) (hp : pc' = pc + 3) (hc : k ≤ R.cells) (hl : n ≤ R.slots)
    (q : ∀ v : Option Value, P v → Go own p l e R s m args below meth c Z n0 h0 ws Q k n h (mkF m pc' Ls (v.toList ++ rest))) :
    Go own p l e R s m args below meth c Z n0 h0 ws Q k n h (mkF m pc Ls S) :=
  Go.callV hd w1 w2 nf w3 w4 hy hK E hsz hlen hst hW rfl rfl hp hc hl all0 (fun v h' _ ⟨q1, q2⟩ => q2 ▸ q v q1)
theorem Go.callCP {y : MethodName} {bytes : ByteArray} {ml idx W pc pc' : Nat} {a : Addr} {argsL rest S : List Value} {Ls : Array Slot} {P : Option Value → Prop} (hd : decode c.code pc = .ok (.invokespecial idx, 3)) (hy1 : y.name = "<init>") (w1 : (Cond.methodLink own idx y).before a0 Z = true) (w2 : (Cond.instanceMethod y).before a0 Z = true) (w3 : (Cond.code y bytes ml none).before a0 Z = true)
    (hy : y.cls ≠ "java/lang/invoke/MethodHandle" ∧ y.cls ≠ "java/lang/invoke/VarHandle") (hK : ∀ (s' : State), Z.Warmed39 s'.vm → Bk l R p e below s' args y 3 W (.ref a :: argsL).toArray h 0 0 n0 [] (fun v h' => P v ∧ h' = h))
    (hsz : Ls.size = c.maxLocals) (hlen : ∀ sig, parseMethodDescriptor y.desc = some sig → argsL.length = sig.parameters.length) (hst : S = argsL.reverse ++ .ref a :: rest) (hW : (rest.map fun v => v.category).sum ≤ W) (hp : pc' = pc + 3) (hc : k ≤ R.cells) (hl : n ≤ R.slots)
    (q : ∀ v : Option Value, P v → Go own p l e R s m args below meth c Z n0 h0 ws Q k n h (mkF m pc' Ls (v.toList ++ rest))) :
    Go own p l e R s m args below meth c Z n0 h0 ws Q k n h (mkF m pc Ls S) :=
  Go.callC hd hy1 w1 w2 w3 hy hK hsz hlen hst hW rfl rfl hp hc hl all0 (fun v h' _ ⟨q1, q2⟩ => q2 ▸ q v q1)
end Layer
theorem nar_ref {C : String} {v : Value} (h : v.isRef = true) : narrow (.object C) v = v := by rcases ref_cases h with rfl | ⟨_, rfl⟩ <;> rfl
theorem fit_ref {C : String} {v : Value} (h : v.isRef = true) : fits (.object C) v = true := by rcases ref_cases h with rfl | ⟨_, rfl⟩ <;> rfl
end Jvm.Pilot.@@N@@.OwnN
namespace Jvm.Pilot.@@N@@.OwnC
open Jvm Jvm.ClassFile Sem Op Lib Jvm.Free Jvm.Stand Jvm.LawKit Jvm.RoadKit Bundle
section Callers
variable {p : Program} {l : Launch} {e : Env} {R : Room} {s : State} {m : MethodId} {args : Array Value} {below : List Frame} {meth : Method} {c : Code} {Z : State} {a0 : Array Value} {own : String} {n0 : Nat} {h : Heap} {ws' : List Addr} {Q' : Option Value → Heap → Prop} {k n rc rs pc pc' W : Nat} {Ls : Array Slot} {S rest argsL : List Value}
/-- a call step, whatever its kind, of a callee that interns nothing -/
def Caller (own : String) (p : Program) (l : Launch) (e : Env) (R : Room) (m : MethodId) (args : Array Value) (below : List Frame) (meth : Method) (c : Code) (Z : State) (k n : Nat) (h : Heap) (n0 : Nat) (ws' : List Addr) (Q' : Option Value → Heap → Prop) (rc rs pc pc' : Nat) (Ls : Array Slot) (S rest : List Value) : Prop :=
  ∀ (s T : State) (L : List Loc), Z.Warmed39 s.vm → s.vm.findClass own = some m.cls → Stand p l e R s m args below meth c T L k n → T.heap = h →
    ∃ (v : Option Value) (T1 : State) (Lc : List Loc), Stand p l e R s m args below meth c T1 (L ++ Lc) (k + rc) (n + rs) ∧ Fr n0 Lc ∧ Keep h T1.heap ws' ∧ Q' v T1.heap ∧ Steps p.tables e below (T.setTop (mkF m pc Ls S)) (T1.setTop (mkF m pc' Ls (v.toList ++ rest)))
theorem catC {x : Nat} (hW : x ≤ W) : 2 * (mkF m pc Ls S).monitorRoom + x ≤ W := by
  show 2 * 0 + _ ≤ _
  omega
/-- invokevirtual -/
theorem callerV {y z : MethodName} {C : String} {idx : Nat} {a : Addr} (hx : p.tables.exec = Jvm.exec) (hd : decode c.code pc = .ok (.invokevirtual idx, 3)) (w1 : (Cond.methodLink own idx y).before a0 Z = true) (w2 : (Cond.declares y).before a0 Z = true) (nf : ∀ s' : State, Z.Warmed39 s'.vm → NotFace s' y) (w3 : (Cond.selects C y z).before a0 Z = true) (w4 : (Cond.instanceMethod z).before a0 Z = true)
    (hy : y.cls ≠ "java/lang/invoke/MethodHandle" ∧ y.cls ≠ "java/lang/invoke/VarHandle") (hK : ∀ (s' : State), Z.Warmed39 s'.vm → OwnN.Bk l R p e below s' args z 3 W (.ref a :: argsL).toArray h rc rs n0 ws' Q') (E : Exa Z h a C)
    (hsz : Ls.size = c.maxLocals) (hlen : ∀ sig, parseMethodDescriptor y.desc = some sig → argsL.length = sig.parameters.length) (hst : S = argsL.reverse ++ .ref a :: rest) (hW : (rest.map fun v => v.category).sum ≤ W) (hp : pc' = pc + 3) (hc : k + rc ≤ R.cells) (hl : n + rs ≤ R.slots) :
    Caller own p l e R m args below meth c Z k n h n0 ws' Q' rc rs pc pc' Ls S rest := fun s T L hZ hown X eT => by
  subst hp
  obtain ⟨cq, kq, qa, qb, qc⟩ := isOf hZ eT E
  obtain ⟨v, _, ⟨T1, L1, k1, n1⟩, -, X1, ⟨Lc, hQ, l1, y1, z1⟩, st⟩ := X.virtualBack hx (y := y) (z := z) hown (mvT hZ w1) (mvT hZ w2) (nf s hZ) (mvT hZ w3) (mvT hZ w4) hy (hK s hZ) qa qc (g := mkF m pc Ls S) rfl hsz (Steps.refl _) (argsL := argsL) (rest := rest) hlen hst (catC hW) hd (fun _ _ => ⟨rfl, eT, hc, hl⟩)
  dsimp only [Pt.U, Pt.locs, Pt.cells, Pt.slots] at X1 l1 y1 z1 st hQ
  subst l1 y1 z1
  exact ⟨v, T1, Lc, X1, hQ.1, hQ.2.1, hQ.2.2, st⟩
/-- a constructor -/
theorem callerC {y : MethodName} {bytes : ByteArray} {ml idx : Nat} {a : Addr} (hx : p.tables.exec = Jvm.exec) (hd : decode c.code pc = .ok (.invokespecial idx, 3)) (hy1 : y.name = "<init>") (w1 : (Cond.methodLink own idx y).before a0 Z = true) (w2 : (Cond.instanceMethod y).before a0 Z = true) (w3 : (Cond.code y bytes ml none).before a0 Z = true)
    (hy : y.cls ≠ "java/lang/invoke/MethodHandle" ∧ y.cls ≠ "java/lang/invoke/VarHandle") (hK : ∀ (s' : State), Z.Warmed39 s'.vm → OwnN.Bk l R p e below s' args y 3 W (.ref a :: argsL).toArray h rc rs n0 ws' Q')
    (hsz : Ls.size = c.maxLocals) (hlen : ∀ sig, parseMethodDescriptor y.desc = some sig → argsL.length = sig.parameters.length) (hst : S = argsL.reverse ++ .ref a :: rest) (hW : (rest.map fun v => v.category).sum ≤ W) (hp : pc' = pc + 3) (hc : k + rc ≤ R.cells) (hl : n + rs ≤ R.slots) :
    Caller own p l e R m args below meth c Z k n h n0 ws' Q' rc rs pc pc' Ls S rest := fun s T L hZ hown X eT => by
  subst hp
  obtain ⟨v, _, ⟨T1, L1, k1, n1⟩, -, X1, ⟨Lc, hQ, l1, y1, z1⟩, st⟩ := X.specialBack hx (y := y) hy1 hown (mvT hZ w1) (mvT hZ w2) (mvT hZ w3) hy (hK s hZ) (g := mkF m pc Ls S) rfl hsz (Steps.refl _) (a := a) (argsL := argsL) (rest := rest) hlen hst (catC hW) hd (fun _ _ => ⟨rfl, eT, hc, hl⟩)
  dsimp only [Pt.U, Pt.locs, Pt.cells, Pt.slots] at X1 l1 y1 z1 st hQ
  subst l1 y1 z1
  exact ⟨v, T1, Lc, X1, hQ.1, hQ.2.1, hQ.2.2, st⟩
/-- invokestatic -/
theorem callerS {y : MethodName} {bytes : ByteArray} {ml idx : Nat} {rt : Option FieldType} (hx : p.tables.exec = Jvm.exec) (hd : decode c.code pc = .ok (.invokestatic idx, 3)) (w1 : (Cond.methodLink own idx y).before a0 Z = true) (w2 : (Cond.static y).before a0 Z = true) (w3 : (Cond.initialized y.cls).before a0 Z = true) (w4 : (Cond.code y bytes ml rt).before a0 Z = true)
    (hy : y.cls ≠ "java/lang/invoke/MethodHandle" ∧ y.cls ≠ "java/lang/invoke/VarHandle") (hK : ∀ (s' : State), Z.Warmed39 s'.vm → OwnN.Bk l R p e below s' args y 3 W argsL.toArray h rc rs n0 ws' Q')
    (hsz : Ls.size = c.maxLocals) (hlen : ∀ sig, parseMethodDescriptor y.desc = some sig → argsL.length = sig.parameters.length) (hst : S = argsL.reverse ++ rest) (hW : (rest.map fun v => v.category).sum ≤ W) (hp : pc' = pc + 3) (hc : k + rc ≤ R.cells) (hl : n + rs ≤ R.slots) :
    Caller own p l e R m args below meth c Z k n h n0 ws' Q' rc rs pc pc' Ls S rest := fun s T L hZ hown X eT => by
  subst hp
  obtain ⟨v, _, ⟨T1, L1, k1, n1⟩, -, X1, ⟨Lc, hQ, l1, y1, z1⟩, st⟩ := Jvm.LawKit.callS X hx (y := y) hown (mvT hZ w1) (mvT hZ w2) (mvT hZ w3) (mvT hZ w4) hy (hK s hZ) (g := mkF m pc Ls S) rfl hsz (argsL := argsL) (rest := rest) hlen hst (catC hW) hd (fun _ _ => ⟨rfl, eT, hc, hl⟩)
  dsimp only [Pt.U, Pt.locs, Pt.cells, Pt.slots] at X1 l1 y1 z1 st hQ
  subst l1 y1 z1
  exact ⟨v, T1, Lc, X1, hQ.1, hQ.2.1, hQ.2.2, st _ (Steps.refl _)⟩
theorem ifaceT {ref owner name desc : String} (hZ : Z.Warmed39 s.vm) (w : (Cond.interfaceMethod ref owner name desc).before a0 Z = true) : (Cond.interfaceMethod ref owner name desc).before args s = true := Jvm.Free.ULB.iface_ridesS hZ.alike w
/-- invokeinterface of a method that the named interface declares itself -/
theorem callerI {C : String} {xi y : MethodName} {idx count : Nat} {a : Addr} (hx : p.tables.exec = Jvm.exec) (hd : decode c.code pc = .ok (.invokeinterface idx count, 5)) (w1 : (Cond.methodLink own idx xi).before a0 Z = true) (w2 : (Cond.declares xi).before a0 Z = true) (w3 : (Cond.interfaceMethod xi.cls xi.cls xi.name xi.desc).before a0 Z = true) (w4 : (Cond.selects C xi y).before a0 Z = true) (w5 : (Cond.instanceMethod y).before a0 Z = true) (w6 : (Cond.publicMethod y).before a0 Z = true) (w7 : (Cond.unhidden C xi.name xi.desc).before a0 Z = true) (w8 : (Cond.castable C xi.cls).before a0 Z = true)
    (hy : xi.cls ≠ "java/lang/invoke/MethodHandle" ∧ xi.cls ≠ "java/lang/invoke/VarHandle") (hK : ∀ (s' : State), Z.Warmed39 s'.vm → OwnN.Bk l R p e below s' args y 5 W (.ref a :: argsL).toArray h rc rs n0 ws' Q') (E : Exa Z h a C)
    (hsz : Ls.size = c.maxLocals) (hlen : ∀ sig, parseMethodDescriptor xi.desc = some sig → argsL.length = sig.parameters.length) (hst : S = argsL.reverse ++ .ref a :: rest) (hW : (rest.map fun v => v.category).sum ≤ W) (hp : pc' = pc + 5) (hc : k + rc ≤ R.cells) (hl : n + rs ≤ R.slots) :
    Caller own p l e R m args below meth c Z k n h n0 ws' Q' rc rs pc pc' Ls S rest := fun s T L hZ hown X eT => by
  subst hp
  obtain ⟨cq, kq, qa, qb, qc⟩ := isOf hZ eT E
  obtain ⟨v, _, ⟨T1, L1, k1, n1⟩, -, X1, ⟨Lc, hQ, l1, y1, z1⟩, st⟩ := X.interfaceBack hx hown (mvT hZ w1) (mvT hZ w2) (ifaceT hZ w3) (mvT hZ w4) (mvT hZ w5) (mvT hZ w6) (mvT hZ w7) (mvT hZ w8) hy (hK s hZ) qa qb qc (g := mkF m pc Ls S) rfl hsz (Steps.refl _) (argsL := argsL) (rest := rest) hlen hst (catC hW) hd (fun _ _ => ⟨rfl, eT, hc, hl⟩)
  dsimp only [Pt.U, Pt.locs, Pt.cells, Pt.slots] at X1 l1 y1 z1 st hQ
  subst l1 y1 z1
  exact ⟨v, T1, Lc, X1, hQ.1, hQ.2.1, hQ.2.2, st⟩
/-- the class of y, a class and no interface, finds y itself -/
theorem own_same {y z0 : MethodName} {C : String} {x0 : MethodName} (wi : (Cond.instanceMethod y).before a0 Z = true) (w : (Cond.selects C x0 z0).before a0 Z = true) (hc : z0.cls = y.cls) (hy : y.cls ≠ "java/lang/invoke/MethodHandle" ∧ y.cls ≠ "java/lang/invoke/VarHandle") : (Cond.sameMethod y.cls y.cls y.name y.desc).before a0 Z = true := by
  obtain ⟨mk, methM, hnamed, hmethM, -, -⟩ := Cond.instanceMethod_spec wi
  obtain ⟨_, _, m2, -, -, q3, -, kP, hkP, hkPi⟩ := Cond.selects_spec w
  have h1 := findClass_of_methodNamed hnamed
  have h2 := findClass_of_methodNamed q3
  rw [hc] at h2
  have e : m2.cls = mk.cls := Option.some.inj (h2.symm.trans h1)
  rw [e] at hkP
  have hf := State.methodFound?_of_named hnamed hy
  have hn : Z.methodNamed? ⟨y.cls, y.name, y.desc⟩ = some mk := hnamed
  simp only [Cond.before, Cond.holds, Cond.value, h1, hf, hn, hkP]
  simp [hkPi]
theorem own_nf {y x0 z0 : MethodName} {C : String} {s' : State} {a1 : Array Value} (w : (Cond.selects C x0 z0).before a1 s' = true) (hc : z0.cls = y.cls) : NotFace s' y := fun r0 hn => by
  obtain ⟨_, _, m2, -, -, q3, -, kP, hkP, hkPi⟩ := Cond.selects_spec w
  have h1 := findClass_of_methodNamed hn
  have h2 := findClass_of_methodNamed q3
  rw [hc] at h2
  have e : m2.cls = r0.cls := Option.some.inj (h2.symm.trans h1)
  exact ⟨kP, e ▸ hkP, hkPi⟩
/-- super.y -/
theorem callerU {y x0 z0 : MethodName} {C C0 : String} {idx ml : Nat} {bytes : ByteArray} {rt : Option FieldType} {a : Addr} (hx : p.tables.exec = Jvm.exec) (hd : decode c.code pc = .ok (.invokespecial idx, 3)) (w1 : (Cond.methodLink own idx y).before a0 Z = true) (w2 : (Cond.selects C0 x0 z0).before a0 Z = true) (hc0 : z0.cls = y.cls) (w3 : (Cond.instanceMethod y).before a0 Z = true) (w4 : (Cond.superclass own y.cls).before a0 Z = true) (wc : (Cond.code y bytes ml rt).before a0 Z = true) (hn : y.name ≠ "<init>")
    (hy : y.cls ≠ "java/lang/invoke/MethodHandle" ∧ y.cls ≠ "java/lang/invoke/VarHandle") (hK : ∀ (s' : State), Z.Warmed39 s'.vm → OwnN.Bk l R p e below s' args y 3 W (.ref a :: argsL).toArray h rc rs n0 ws' Q') (E : Exa Z h a C)
    (hsz : Ls.size = c.maxLocals) (hlen : ∀ sig, parseMethodDescriptor y.desc = some sig → argsL.length = sig.parameters.length) (hst : S = argsL.reverse ++ .ref a :: rest) (hW : (rest.map fun v => v.category).sum ≤ W) (hp : pc' = pc + 3) (hc : k + rc ≤ R.cells) (hl : n + rs ≤ R.slots) :
    Caller own p l e R m args below meth c Z k n h n0 ws' Q' rc rs pc pc' Ls S rest := fun s T L hZ hown X eT => by
  subst hp
  obtain ⟨v, _, ⟨T1, L1, k1, n1⟩, -, X1, ⟨Lc, hQ, l1, y1, z1⟩, st⟩ := superBack X hx hZ hown w1 (own_same w3 w2 hc0 hy) w3 w4 hn (hK s hZ) eT (Ins.self E) (g := mkF m pc Ls S) rfl hsz wc (argsL := argsL) (rest := rest) hlen hst (catC hW) hd (fun _ _ => ⟨rfl, eT, hc, hl⟩)
  dsimp only [Pt.U, Pt.locs, Pt.cells, Pt.slots] at X1 l1 y1 z1 st hQ
  subst l1 y1 z1
  exact ⟨v, T1, Lc, X1, hQ.1, hQ.2.1, hQ.2.2, st⟩
/-- a private method -/
theorem callerP {y : MethodName} {C : String} {idx ml : Nat} {bytes : ByteArray} {rt : Option FieldType} {a : Addr} {C1 : String} (hx : p.tables.exec = Jvm.exec) (hd : decode c.code pc = .ok (.invokevirtual idx, 3)) (w1 : (Cond.methodLink own idx y).before a0 Z = true) (w2 : (Cond.privateMethod y).before a0 Z = true) (w3 : (Cond.selects C y y).before a0 Z = true) (w4 : (Cond.instanceMethod y).before a0 Z = true) (wc : (Cond.code y bytes ml rt).before a0 Z = true)
    (hy : y.cls ≠ "java/lang/invoke/MethodHandle" ∧ y.cls ≠ "java/lang/invoke/VarHandle") (hK : ∀ (s' : State), Z.Warmed39 s'.vm → OwnN.Bk l R p e below s' args y 3 W (.ref a :: argsL).toArray h rc rs n0 ws' Q') (E : Exa Z h a C1)
    (hsz : Ls.size = c.maxLocals) (hlen : ∀ sig, parseMethodDescriptor y.desc = some sig → argsL.length = sig.parameters.length) (hst : S = argsL.reverse ++ .ref a :: rest) (hW : (rest.map fun v => v.category).sum ≤ W) (hp : pc' = pc + 3) (hc : k + rc ≤ R.cells) (hl : n + rs ≤ R.slots) :
    Caller own p l e R m args below meth c Z k n h n0 ws' Q' rc rs pc pc' Ls S rest := fun s T L hZ hown X eT => by
  subst hp
  obtain ⟨cell, hcell, hstat⟩ := E.cell
  have hpriv : s.PrivateAt y := Cond.privateMethod_at (args := args) (mvP hZ w2)
  have hinst : (Cond.instanceMethod y).before args s = true := mvT hZ w4
  obtain ⟨_, _, m2, -, -, q3, -, kP, hkP, hkPi⟩ := Cond.selects_spec (mvT (args := args) hZ w3)
  have hsel : (Cond.selects y.cls y y).before args s = true := selects_self_of_private (findClass_of_methodNamed q3) hkP hkPi hpriv hinst hy
  obtain ⟨v, _, ⟨T1, L1, k1, n1⟩, -, X1, ⟨Lc, hQ, l1, y1, z1⟩, st⟩ := X.privateBack hx (y := y) hown (mvT hZ w1) hinst hsel hpriv (mvT hZ wc) hy (hK s hZ) (g := mkF m pc Ls S) rfl hsz (Steps.refl _) (a := a) (cell := cell) (by rw [eT]; exact hcell) hstat (argsL := argsL) (rest := rest) hlen hst (catC hW) hd (fun _ _ => ⟨rfl, eT, hc, hl⟩)
  dsimp only [Pt.U, Pt.locs, Pt.cells, Pt.slots] at X1 l1 y1 z1 st hQ
  subst l1 y1 z1
  exact ⟨v, T1, Lc, X1, hQ.1, hQ.2.1, hQ.2.2, st⟩
/-- the link's word, opened -/
theorem own_open {s : State} {args : Array Value} {cls : String} {x : MethodName} {index : Nat} (w : (Cond.methodLink cls index x).before args s = true) : ∃ (ci : Nat) (via : Bool) (d c : ClassId) (mf : MethodId) (dk ck mk : Class) (mt : Method),
    (s.memberEntry? cls index = some (ci, via) ∧ s.vm.findClass cls = some d ∧ s.vm.findClass x.cls = some c ∧ s.methodFound? x.cls x.name x.desc = some mf) ∧ (s.classLinks cls ci x.cls = some true ∧ s.vm.classes[d]? = some dk ∧ s.vm.classes[c]? = some ck ∧ s.vm.classes[mf.cls]? = some mk ∧ s.vm.method? mf = some mt) ∧
      s.names cls index (.method x.cls x.name x.desc) = true ∧ s.openOr cls index (.method mf) = true ∧ ck.isInterface = via ∧ mk.loader = none ∧ (plainAccess s.vm mt.accessFlags mf.cls mk c d dk = true ∨ x.name = "clone") := by
  simp only [Cond.before, Cond.holds, Cond.value] at w
  split at w
  · rename_i ci via d c mf u1 u2 u3 u4
    simp only [Option.bind_eq_bind, Option.pure_def, beq_iff_eq, Option.bind_eq_some_iff, Option.some.injEq, Bool.and_eq_true, Bool.or_eq_true, Option.isNone_iff_eq_none] at w
    obtain ⟨lk, k1, dk, k2, ck, k3, mk, k4, mt, k5, hb⟩ := w
    obtain ⟨⟨⟨⟨⟨⟨⟨rfl, b2⟩, b3⟩, b4⟩, -⟩, -⟩, b7⟩, b8⟩ := hb
    exact ⟨ci, via, d, c, mf, dk, ck, mk, mt, ⟨u1, u2, u3, u4⟩, ⟨k1, k2, k3, k4, k5⟩, b2, b3, b4, b7, b8.imp id fun q => q.1.2⟩
  · simp at w
/-- an entry that names a method, of an InterfaceMethodref -/
theorem own_entry {s : State} {cls : String} {d : ClassId} {dk : Class} {x : MethodName} {index ci : Nat} (hd : s.vm.findClass cls = some d) (hk : s.vm.classes[d]? = some dk) (he : s.memberEntry? cls index = some (ci, true)) (hn : s.names cls index (.method x.cls x.name x.desc) = true) :
    ∃ cf nt, dk.cf = some cf ∧ cf.constantPool[index]? = some (.interfaceMethodref ci nt) ∧ cf.constantPool.nameAndType? nt = some (x.name, x.desc) ∧ namesOf? cf.constantPool index = some (.method x.cls x.name x.desc) := by
  obtain ⟨cp, hp, hm⟩ := State.names_spec hn
  obtain ⟨dk', cf, r1, r2, rfl⟩ := State.poolOf?_spec hd hp
  obtain rfl : dk' = dk := Option.some.inj (r1.symm.trans hk)
  obtain ⟨ci', nt, r3 | r3, r4, -⟩ := namesOf?_method hm
  · simp [State.memberEntry?, hp, r3] at he
  · obtain rfl : ci' = ci := by simpa [State.memberEntry?, hp, r3] using he
    exact ⟨cf, nt, r2, r3, r4, hm⟩
/-- a method that the named interface has from another one: the link's own access test serves -/
theorem own_linkFF {s : State} {args : Array Value} {cls : String} {x : MethodName} {index d ci0 : Nat} {ck ok : Class} {mt : Method} {mf : MethodId}
    (hd : s.vm.findClass cls = some d) (hc : s.vm.findClass x.cls = some ci0) (hck : s.vm.classes[ci0]? = some ck) (hvi : ck.isInterface = true) (hnone : ck.findMethod x.name x.desc = none) (hpoly : ∀ y, signaturePolymorphic ck y = false)
    (hf : s.methodFound? x.cls x.name x.desc = some mf) (hok : s.vm.classes[mf.cls]? = some ok) (hmt : s.vm.method? mf = some mt) (hnc : x.name ≠ "clone")
    (w : (Cond.methodLink cls index x).before args s = true) (pl : Platform) (hpl : pl.magicAccessors = ({} : Platform).magicAccessors) : ∃ ci, s.vm.MethodLinksFF pl d index ci ci0 mf ∧ s.rightAt d index (.method mf) = true := by
  obtain ⟨ci, via, _, _, _, dk, _, _, _, ⟨u1, u2, u3, u4⟩, ⟨k1, k2, k3, k4, k5⟩, b2, b3, b4, b7, b8⟩ := own_open w
  cases u2.symm.trans hd; cases u3.symm.trans hc; cases u4.symm.trans hf
  cases k3.symm.trans hck; cases k4.symm.trans hok; cases k5.symm.trans hmt
  obtain rfl : via = true := b4.symm.trans hvi
  obtain ⟨cf, nt, r2, r3, r4, r5⟩ := own_entry hd k2 u1 b2
  obtain ⟨_, v1, v2⟩ := State.classLinks_spec hd k1 pl hpl
  cases v1.symm.trans hc
  have hap : s.vm.Plain mt.accessFlags mf.cls ok ci0 d dk := by
    have q := b8.resolve_right hnc
    simpa [Vm.Plain, plainAccess, or_assoc, and_assoc] using q
  have hmi : ok.methods[mf.idx]? = some mt := by simpa [Vm.method?, hok] using hmt
  obtain ⟨dk2, cf2, nm2, _, z1, z2, z3, z4, -⟩ := v2.here
  obtain rfl : dk2 = dk := Option.some.inj (z1.symm.trans k2)
  obtain rfl : cf2 = cf := Option.some.inj (z2.symm.trans r2)
  have hne : ci ≠ index := fun q => by
    rw [q] at z4
    simp [ConstantPool.className?, r3] at z4
  exact ⟨ci, ⟨_, _, nt, _, _, _, _, _, k2, r2, r3, r4, v2, hne, hck, hvi, hpoly, hnone, State.faceFind_of_found hc hck hvi hpoly hnone hf, hok, hmi, z3.trans b7.symm, hap, State.openOr_spec hd k2 b3⟩, by simp [State.rightAt, k2, r2, r5, hf]⟩
/-- invokeinterface of a method that another interface J declares -/
theorem callerIU {C J : String} {xi y : MethodName} {idx count : Nat} {a : Addr} (hx : p.tables.exec = Jvm.exec) (hd : decode c.code pc = .ok (.invokeinterface idx count, 5)) (w1 : (Cond.methodLink own idx xi).before a0 Z = true) (w2 : (Cond.declares ⟨J, xi.name, xi.desc⟩).before a0 Z = true) (w3 : (Cond.interfaceMethod xi.cls J xi.name xi.desc).before a0 Z = true) (w4 : (Cond.selects C xi y).before a0 Z = true) (w5 : (Cond.instanceMethod y).before a0 Z = true) (w6 : (Cond.publicMethod y).before a0 Z = true) (w7 : (Cond.unhidden C xi.name xi.desc).before a0 Z = true) (w8 : (Cond.castable C xi.cls).before a0 Z = true) (hxo : xi.cls ≠ J) (hnc : xi.name ≠ "clone")
    (hy : xi.cls ≠ "java/lang/invoke/MethodHandle" ∧ xi.cls ≠ "java/lang/invoke/VarHandle") (hK : ∀ (s' : State), Z.Warmed39 s'.vm → OwnN.Bk l R p e below s' args y 5 W (.ref a :: argsL).toArray h rc rs n0 ws' Q') (E : Exa Z h a C)
    (hsz : Ls.size = c.maxLocals) (hlen : ∀ sig, parseMethodDescriptor xi.desc = some sig → argsL.length = sig.parameters.length) (hst : S = argsL.reverse ++ .ref a :: rest) (hW : (rest.map fun v => v.category).sum ≤ W) (hp : pc' = pc + 5) (hc : k + rc ≤ R.cells) (hl : n + rs ≤ R.slots) :
    Caller own p l e R m args below meth c Z k n h n0 ws' Q' rc rs pc pc' Ls S rest := fun s T L hZ hown X eT => by
  subst hp
  obtain ⟨cB, kB, hcB, hkB, cellB, hcellT, hclsB, hstatB⟩ := isOf hZ eT E
  have hlink : (Cond.methodLink own idx xi).before args s = true := mvT hZ w1
  obtain ⟨r0, r, hn, hrm, hstR, hsigR⟩ := Cond.declares_spec (mvT (args := args) hZ w2)
  obtain ⟨cI, kL, r1, hcL, hkL, hiL, hfoundL, hn1⟩ := Cond.interfaceMethod_spec (ifaceT (args := args) hZ w3)
  cases hn.symm.trans hn1
  obtain ⟨hnameR, hdescR⟩ := name_of_methodNamed hn hrm
  obtain ⟨mk, methM, hnamed, hmethM, -, habM⟩ := Cond.instanceMethod_spec (mvT (args := args) hZ w5)
  obtain ⟨c2, r2, m2, q1, q2, q3, q4, -⟩ := Cond.selects_spec (mvT (args := args) hZ w4)
  cases hcB.symm.trans q1
  cases hfoundL.symm.trans q2
  cases hnamed.symm.trans q3
  have hsel : selectMethod e.platform s.vm cellB.cls r0 = .method mk := by rw [Launch.admits_selectMethod X.admits, hclsB]; exact q4
  have hpub : hasFlag methM.accessFlags Acc.public_ = true := Cond.publicMethod_spec hnamed hmethM (mvT (args := args) hZ w6)
  have hway : ((cellB.cls :: s.vm.superclasses cellB.cls).any fun k => (declaredIn s.vm r.name r.desc k).any fun (_, z) => z.isPrivate || z.isStatic) = false := by
    rw [hnameR, hdescR, hclsB]; exact Cond.unhidden_spec hcB (mvT (args := args) hZ w7)
  obtain ⟨c3, t3, v1, v2, v3⟩ := Cond.castable_spec (mvT (args := args) hZ w8)
  cases hcB.symm.trans v1
  cases hcL.symm.trans v2
  have hinst : s.vm.assignable cellB.cls cI = true := by rw [hclsB]; exact v3
  have hkcell : s.vm.classes[cellB.cls]? = some kB := by rw [hclsB]; exact hkB
  have hobj : ∀ c, cellB.vm ≠ .statics c := fun z q => by rw [q] at hstatB; cases hstatB
  have hpl : e.platform.magicAccessors = ({} : Platform).magicAccessors := by rw [X.admits.platform]
  obtain ⟨ok, hok, hokname⟩ := className_of_methodNamed hn
  obtain ⟨kL', hkL', hnameL⟩ := Vm.findClass_spec hcL
  cases hkL.symm.trans hkL'
  have hpolyL : ∀ y, signaturePolymorphic kL y = false := fun y => by simp [signaturePolymorphic, hnameL, hy.1, hy.2]
  have hnone : kL.findMethod xi.name xi.desc = none := Option.eq_none_iff_forall_not_mem.mpr fun j hj => by
    have hlt := (Array.findIdx?_eq_some_iff_getElem.mp hj).1
    have q := hfoundL.symm.trans (State.methodFound?_declared hcL hkL hpolyL hj (by simp [hlt]))
    cases q
    exact hxo (hnameL.symm.trans ((congrArg Class.name (Option.some.inj (hkL.symm.trans hok))).trans hokname))
  obtain ⟨ci, hlk, hright⟩ := own_linkFF hown hcL hkL hiL hnone hpolyL hfoundL hok hrm hnc hlink e.platform hpl
  have hE : s.MethodEntryUp e T.vm m.cls idx cI r0 ci := State.methodEntryFF X.warmed hlk hright
  obtain ⟨dk, cfile, nt, _, _, ck, _, _, hdd, hcf, hcp, -, -, -, hck, hvia, -⟩ := hlk.here
  cases hkL.symm.trans hck
  have alike := hE.warmed.alike
  obtain ⟨dk₂, hdk₂, hres⟩ := hE.classReady
  obtain ⟨dk₃, hdk₃, hed⟩ := alike.2.2 _ _ hdd
  cases hdk₂.symm.trans hdk₃
  obtain ⟨ck₂, hck₂, hec⟩ := alike.2.2 _ _ hck
  obtain ⟨kcell₂, hkcell₂, -⟩ := alike.2.2 _ _ hkcell
  have X₁ := X.noted hE.warmed
  have hlen' := hlen _ hsigR
  have hstep : ∀ target, (∀ acts, Steps p.tables e below (doInvoke e ((T.setVm (T.vm.calledUp m.cls ci idx cI r0)).setTop { (mkF m pc Ls S) with stack := rest }) acts mk (.ref a :: argsL).toArray).1 target) → Steps p.tables e below (T.setTop (mkF m pc Ls S)) target := by
    intro target hrest
    have hd' : decode c.code (mkF m pc Ls S).pc = .ok (.invokeinterface idx count, 5) := hd
    have hst' : (mkF m pc Ls S).stack = argsL.reverse ++ .ref a :: rest := hst
    have hm' : (mkF m pc Ls S).method = m := rfl
    generalize mkF m pc Ls S = g at hd' hst' hm' hrest ⊢
    subst hm'
    jvm_step X.here [hx, hd', invokeinterface.wp_coldFace (e := e) (s := T) (s₀ := s) (f := g) (count := count) X.here.top X.warmed hE hdd hcf (Or.inr hcp) hck hvia,
      invokeinterface.wp_ready (e := e) (s := T.setVm (T.vm.calledUp g.method.cls ci idx cI r0)) (f := g) (count := count) (r := r) (meth := methM) (m := mk) (args := argsL) (rest := rest) (cell := cellB) (kcell := kcell₂) (ck := dk₂) (nk := ck₂) (cf := cfile) (ci := ci) (nt := nt) (named := cI)
        X.here.top hE.ready (by show (T.vm.calledUp g.method.cls ci idx cI r0).method? r0 = some r; rw [alike.method?]; exact hrm) hstR hlen' hst' hcellT hobj hkcell₂ hdk₂ (by rw [hed]; exact hcf) hcp hres hck₂ (by rw [hec]; exact hvia)
        (by show (T.vm.calledUp g.method.cls ci idx cI r0).assignable cellB.cls cI = true; rw [alike.assignable]; exact hinst)
        (by show selectMethod e.platform (T.vm.calledUp g.method.cls ci idx cI r0) cellB.cls r0 = .method mk; rw [alike.selectMethod]; exact hsel)
        (by show (T.vm.calledUp g.method.cls ci idx cI r0).method? mk = some methM; rw [alike.method?]; exact hmethM)
        (Or.inr (Or.inr (by show ((cellB.cls :: (T.vm.calledUp g.method.cls ci idx cI r0).superclasses cellB.cls).any fun k => (declaredIn (T.vm.calledUp g.method.cls ci idx cI r0) r.name r.desc k).any fun (_, y) => y.isPrivate || y.isStatic) = false; simp only [alike.superclasses, alike.declaredIn]; exact hway)))
        (Or.inl hpub) habM]
    exact hrest
  obtain ⟨v, ⟨T1, L1, k1, n1⟩, X1, ⟨Lc, hQ, l1, y1, z1⟩, st⟩ := hK s hZ m meth c ⟨T.setVm (T.vm.calledUp m.cls ci idx cI r0), L, k, n⟩ { (mkF m pc Ls S) with stack := rest } (.invokeinterface idx count) mk (.ref a :: argsL).toArray X₁ rfl hsz hd (catC hW) (X₁.named hnamed) ⟨rfl, eT, hc, hl⟩
  dsimp only [Pt.U, Pt.locs, Pt.cells, Pt.slots] at X1 l1 y1 z1 st hQ
  subst l1 y1 z1
  exact ⟨v, T1, Lc, X1, hQ.1, hQ.2.1, hQ.2.2, (hstep _ fun acts => by rw [doInvoke_state]; exact Steps.refl _).trans st⟩
/-- getfield by an entry that was resolved before -/
theorem getRef {T : State} {locs : List Loc} {cells slots : Nat} (X : Stand p l e R s m args below meth c T locs cells slots) (hx : p.tables.exec = Jvm.exec) (hZ : Z.Warmed39 s.vm) {O n d : String} {index : Nat} (hown : s.vm.findClass own = some m.cls) (w : (Cond.fieldRef own index O n d).before a0 Z = true) (eT : T.heap = h) {a : Addr} {v : Value} (F : Fld Z h a O n d v) {g : JFrame} (hg : g.method = m) {rest : List Value} (hs : g.stack = .ref a :: rest) (hd : decode c.code g.pc = .ok (.getfield index, 3)) :
    ∃ T', Stand p l e R s m args below meth c T' locs cells slots ∧ T'.heap = h ∧ ∀ target, Steps p.tables e below (T'.setTop { g with pc := g.pc + 3, stack := v :: rest }) target → Steps p.tables e below (T.setTop g) target := by
  obtain ⟨cell, cf, kk, i, f, h1, h2, h3, h4, -, -, h7⟩ := F
  have hW : Z.Warmed39 T.vm := wtrans hZ X.warmed
  have hown' : (Z.setVm T.vm).vm.findClass own = some m.cls := (X.warmed.alike.findClass _ _).trans hown
  obtain ⟨c', k', i', f', q1, q2⟩ := Cond.fieldRef_spec (s := Z.setVm T.vm) hown' (Cond.fieldRef_warmed39 hW w)
  obtain ⟨k2, hi, -⟩ := State.fieldFound?_setVm (s := Z) hW.alike h2
  cases hi.symm.trans q1
  refine ⟨T, X, eT, fun target r => ?_⟩
  subst hg
  have h1' : T.heap[a]? = some cell := by rw [eT]; exact h1
  have q2' : T.vm.fieldReady g.method.cls index cf f := q2
  jvm_step X.here [hx, hd, getfield.wp_ready (e := e) (s := T) (f := g) X.here.top q2' h3 hs h1' h4 h7]
  exact r
end Callers
section Rules
variable {p : Program} {l : Launch} {e : Env} {R : Room} {s : State} {m : MethodId} {args : Array Value} {below : List Frame} {meth : Method} {c : Code} {Z : State} {a0 : Array Value} {EL : List (String × Nat)} {own : String} {n0 : Nat} {h0 h : Heap} {ws ws' sf : List Addr} {Q Q' : Option Value → Heap → Prop} {k n k' n' rc rs pc pc' : Nat} {Ls : Array Slot} {S rest : List Value}
/-- a call in a narrow walk -/
theorem goN (C : Caller own p l e R m args below meth c Z k n h n0 ws' Q' rc rs pc pc' Ls S rest) (hk : k' = k + rc) (hn : n' = n + rs) (ob : ∀ x ∈ ws', x ∈ ws ∨ h0.size ≤ x)
    (q : ∀ (v : Option Value) (h' : Heap), Keep h h' ws' → Q' v h' → OwnN.Go own p l e R s m args below meth c Z n0 h0 ws Q k' n' h' (mkF m pc' Ls (v.toList ++ rest))) :
    OwnN.Go own p l e R s m args below meth c Z n0 h0 ws Q k n h (mkF m pc Ls S) := fun hC T L X eT N K => by
  subst hk hn
  obtain ⟨v, T1, Lc, X1, N1, K1, q1, st⟩ := C s T L hC.2.1 hC.2.2.1 X eT
  exact (q v T1.heap K1 q1 hC T1 _ X1 rfl (N.app N1) (K.trans K1 ob)).step (fun t r => st.trans r)
/-- a call of a narrow contract in a wide walk: what it made is safe -/
theorem goW (C : Caller own p l e R m args below meth c Z k n h n0 ws' Q' rc rs pc pc' Ls S rest) (hk : k' = k + rc) (hn : n' = n + rs) (ob : ∀ x ∈ ws', x ∈ ws ∨ h0.size ≤ x) (sa : ∀ x ∈ ws', x ∈ sf ∨ Own.SafeA Z EL h x)
    (q : ∀ (v : Option Value) (h' : Heap), Keep h h' ws' → Q' v h' → ∃ fs : List Addr, (∀ x ∈ fs, h.size ≤ x ∧ x < h'.size) ∧ Own.Go own p l e R s m args below meth c Z a0 EL n0 h0 ws Q (fs ++ sf) k' n' h' (mkF m pc' Ls (v.toList ++ rest))) :
    Own.Go own p l e R s m args below meth c Z a0 EL n0 h0 ws Q sf k n h (mkF m pc Ls S) := fun hC vm0 k0 T L X eT N K hS hk0 hZ hown H hs => by
  subst hk hn
  obtain ⟨v, T1, Lc, X1, N1, K1, q1, st⟩ := C (s.setVm vm0) T L hZ hown X eT
  have hw : ∀ x ∈ ws', Safe Z EL vm0 h x := fun x hx => Own.safeOf hZ hs (sa x hx)
  obtain ⟨fs, hf, q2⟩ := q v T1.heap K1 q1
  have hs' : ∀ x ∈ fs ++ sf, x < T1.heap.size ∧ Safe Z EL vm0 T1.heap x := fun x hx => (List.mem_append.mp hx).elim (fun y => ⟨(hf x y).2, Safe.keep K1 hw H.1 (Safe.new (hf x y).1)⟩) (Own.safeKeep H.1 K1 hw hs x)
  exact (q2 hC vm0 k0 T1 _ X1 rfl (N.app N1) (K.trans K1 ob) hS (Nat.le_trans hk0 K1.1) hZ hown (H.trans (CHr.keep K1 hw H.1)) hs').step (fun t r => st.trans r)
theorem goNP {P : Option Value → Prop} (C : Caller own p l e R m args below meth c Z k n h n0 [] (fun v h' => P v ∧ h' = h) rc rs pc pc' Ls S rest) (hk : k' = k + rc) (hn : n' = n + rs)
    (q : ∀ v : Option Value, P v → OwnN.Go own p l e R s m args below meth c Z n0 h0 ws Q k' n' h (mkF m pc' Ls (v.toList ++ rest))) : OwnN.Go own p l e R s m args below meth c Z n0 h0 ws Q k n h (mkF m pc Ls S) :=
  goN C hk hn all0 (fun v h' _ ⟨q1, q2⟩ => by subst q2; exact q v q1)
theorem goWP {P : Option Value → Prop} (C : Caller own p l e R m args below meth c Z k n h n0 [] (fun v h' => P v ∧ h' = h) rc rs pc pc' Ls S rest) (hk : k' = k + rc) (hn : n' = n + rs)
    (q : ∀ v : Option Value, P v → Own.Go own p l e R s m args below meth c Z a0 EL n0 h0 ws Q sf k' n' h (mkF m pc' Ls (v.toList ++ rest))) : Own.Go own p l e R s m args below meth c Z a0 EL n0 h0 ws Q sf k n h (mkF m pc Ls S) :=
  goW C hk hn all0 all0 (fun v h' _ ⟨q1, q2⟩ => ⟨[], all0, by subst q2; exact q v q1⟩)
/-- anewarray -/
theorem newR {C : String} {idx cap : Nat} {z : Int32} (hd : decode c.code pc = .ok (.anewarray idx, 3)) (w1 : (Cond.classLink own idx C).before a0 Z = true) (w2 : (Cond.arrayOver (.object C)).before a0 Z = true) (hz : ¬ z < 0) (hcap : z.toNatClampNeg ≤ cap) (hb : cap * 8 ≤ 536870912)
    (hk : k' = k + 1) (hn : n' = n + cap) (hp : pc' = pc + 3) (hc : k' ≤ R.cells) (hl : n' ≤ R.slots)
    (q : ∀ (a : Addr) (h' : Heap) (cA : ClassId), a = h.size → h0.size ≤ a → Ext h h' → Arv Z h' a cA (.object C) z [] .null → Ovr Z cA C → OwnN.Go own p l e R s m args below meth c Z n0 h0 ws Q k' n' h' (mkF m pc' Ls (.ref a :: S))) :
    OwnN.Go own p l e R s m args below meth c Z n0 h0 ws Q k n h (mkF m pc Ls (.int z :: S)) := fun hC T L X eT N K => by
  subst hk hn hp
  obtain ⟨T2, h2, k2, X2, e2, E2, A2, O2, st2⟩ := RoadKit.newR X hC.1 hC.2.1 hC.2.2.1 w1 w2 eT (g := (mkF m pc Ls (.int z :: S))) rfl hd rfl hz hcap hb hc hl
  exact (q _ h2 k2 rfl K.1 E2 (Arv.new A2 hz) O2 hC T2 _ X2 e2 N (K.ext E2)).step st2
end Rules
end Jvm.Pilot.@@N@@.OwnC
namespace Jvm.Pilot.@@N@@
open Jvm Jvm.ClassFile Sem Op Lib Jvm.Free Jvm.Stand Jvm.LawKit Jvm.RoadKit Bundle
theorem own_w {a0 : Array Value} {Z : State} (hw : ∀ d ∈ tables_1, d.before a0 Z = true) {d : Jvm.Cond} (i : Nat) (h : tables_1[i]? = some d) : d.before a0 Z = true := hw d (List.mem_of_getElem? h)
section Small
variable {p : Program} {l : Launch} {e : Env} {R : Room} {s : State} {m : MethodId} {args : Array Value} {below : List Frame} {meth : Method} {c : Code} {T : State} {locs : List Loc} {cells slots : Nat} {Z : State} {a0 : Array Value} {h h' : Heap} {a : Addr} {k : ClassId} {ty : FieldType} {z j : Int32} {vs : List Value} {dv v : Value} {g : JFrame} {rest : List Value}
theorem own_len (X : Stand p l e R s m args below meth c T locs cells slots) (hx : p.tables.exec = Jvm.exec) (hZ : Z.Warmed39 s.vm) (eT : T.heap = h) (F : Arv Z h a k ty z vs dv) (hg : g.method = m) (hs : g.stack = .ref a :: rest) (hd : decode c.code g.pc = .ok (.arraylength, 1)) (t : State)
    (r : Steps p.tables e below (T.setTop { g with pc := g.pc + 1, stack := .int z :: rest }) t) : Steps p.tables e below (T.setTop g) t := by
  obtain ⟨cl, A, -, S, hz, -, -⟩ := F
  refine X.arraylength hx (by rw [eT]; exact A.1) (State.isArrayOf_alike hZ.alike A.2.1) hg hs hd t ?_
  rw [len_of S hz]; exact r
theorem own_ldB (X : Stand p l e R s m args below meth c T locs cells slots) (hx : p.tables.exec = Jvm.exec) (hZ : Z.Warmed39 s.vm) (eT : T.heap = h) (F : Arv Z h a k .byte z vs dv) (hj : ¬ j < 0 ∧ j < z) (hv : vs.getD j.toNatClampNeg dv = v) (hg : g.method = m) (hs : g.stack = .int j :: .ref a :: rest) (hd : decode c.code g.pc = .ok (.baload, 1)) (t : State)
    (r : Steps p.tables e below (T.setTop { g with pc := g.pc + 1, stack := v :: rest }) t) : Steps p.tables e below (T.setTop g) t := by
  obtain ⟨cl, A, -, S, hz, H, -⟩ := F
  exact X.baloadBytes hx (by rw [eT]; exact A.1) (State.isArrayOf_alike hZ.alike A.2.1) A.2.2 (inb_of S hj) (H.at (inb_of S hj) hv) hg hs hd t r
theorem own_ldA {C : String} (X : Stand p l e R s m args below meth c T locs cells slots) (hx : p.tables.exec = Jvm.exec) (hZ : Z.Warmed39 s.vm) (eT : T.heap = h) (F : Arv Z h a k (.object C) z vs dv) (hj : ¬ j < 0 ∧ j < z) (hv : vs.getD j.toNatClampNeg dv = v) (hg : g.method = m) (hs : g.stack = .int j :: .ref a :: rest) (hd : decode c.code g.pc = .ok (.aaload, 1)) (t : State)
    (r : Steps p.tables e below (T.setTop { g with pc := g.pc + 1, stack := v :: rest }) t) : Steps p.tables e below (T.setTop g) t := by
  obtain ⟨cl, A, -, S, hz, H, -⟩ := F
  exact X.aaload hx (by rw [eT]; exact A.1) (State.isArrayOf_alike hZ.alike A.2.1) rfl A.2.2 (inb_of S hj) (H.at (inb_of S hj) hv) hg hs hd t r
theorem own_stB {x : Int32} (X : Stand p l e R s m args below meth c T locs cells slots) (hx : p.tables.exec = Jvm.exec) (hZ : Z.Warmed39 s.vm) (eT : T.heap = h) (F : Arv Z h a k .byte z vs dv) (hj : ¬ j < 0 ∧ j < z) (hg : g.method = m) (hs : g.stack = .int x :: .int j :: .ref a :: rest) (hd : decode c.code g.pc = .ok (.bastore, 1)) :
    ∃ (T' : State) (h' : Heap), Stand p l e R s m args below meth c T' (locs ++ [⟨a, j.toNatClampNeg⟩]) cells slots ∧ T'.heap = h' ∧ Wr h h' a j.toNatClampNeg (.int (nar .byte x)) ∧ ∀ t, Steps p.tables e below (T'.setTop { g with pc := g.pc + 1, stack := rest }) t → Steps p.tables e below (T.setTop g) t := by
  obtain ⟨cl, A, -, S, hz, H, -⟩ := F
  exact stB X hx hZ eT A (inb_of S hj) hg hs hd
theorem own_set {v' : Value} (F : Arv Z h a k ty z vs dv) (hv : fits ty v = true) (W : Wr h h' a j.toNatClampNeg v) (e : v = v') (i : Nat) (hj : j.toNatClampNeg = i) (hi : i < vs.length) : Arv Z h' a k ty z (vs.set i v') dv := by
  subst e
  obtain ⟨cl, A, q1, S, q3, H, G⟩ := F
  exact Arv.set A q1 S q3 H G hv W i hj hi
theorem own_ldcI {own : String} {index : Nat} {x : Int32} (X : Stand p l e R s m args below meth c T locs cells slots) (hx : p.tables.exec = Jvm.exec) (hZ : Z.Warmed39 s.vm) (hown : s.vm.findClass own = some m.cls) (w : (Cond.constant own index x).before a0 Z = true) (eT : T.heap = h) (hg : g.method = m) (hd : decode c.code g.pc = .ok (.ldc index, 2)) :
    ∃ T' : State, Stand p l e R s m args below meth c T' locs cells slots ∧ T'.heap = h ∧ ∀ t, Steps p.tables e below (T'.setTop { g with pc := g.pc + 2, stack := .int x :: g.stack }) t → Steps p.tables e below (T.setTop g) t := ⟨T, X, eT, X.ldcInt hx hown (mv hZ w) hg hd⟩
theorem own_retR (X : Stand p l e R s m args below meth c T locs cells slots) (hx : p.tables.exec = Jvm.exec) {pc : Nat} {Ls : Array Slot} {x : Value} {t : FieldType} (hret : meth.sig.returnType = some t) (ht : t.isReference = true) (hv : x.isRef = true) (hd : decode c.code pc = .ok (.areturn, 1)) {fs : List Frame}
    (hl : ∀ (f : JFrame) (acts : List Action), f.method = m → f.locked = none → f.entered = [] → (doReturn e (T.setTop f) acts (some x)).1 = T.setFrames fs) : Steps p.tables e below (T.setTop (mkF m pc Ls (x :: rest))) (T.setFrames fs) :=
  retOut X hx hret (by rcases ref_cases hv with rfl | ⟨_, rfl⟩ <;> cases t <;> first | rfl | cases ht) (Or.inr (Or.inr (Or.inr (Or.inr ⟨rfl, ht, hv⟩)))) hd hl
end Small
end Jvm.Pilot.@@N@@
namespace Jvm.Pilot.@@N@@
open Jvm Jvm.ClassFile Sem Op Lib Jvm.Free Jvm.Stand Jvm.LawKit Jvm.RoadKit Bundle Own
/-- what new String(chars) leaves -/
def StrQ (Z : State) (x : Addr) (N : Int32) (bs : List Int32) (h : Heap) (v : Option Value) (h' : Heap) : Prop := v = none ∧ Exa Z h' x "java/lang/String" ∧ Fld Z h' x "java/lang/String" "coder" "B" (.int 0) ∧
  ∃ (t : Addr) (kb : ClassId), h.size ≤ t ∧ Fld Z h' x "java/lang/String" "value" "[B" (.ref t) ∧ Arv Z h' t kb .byte N (bs.map Value.int) (.int 0)
theorem own_strA {a0 : Array Value} {Z : State} (hw : ∀ d ∈ tables_1, d.before a0 Z = true) : ∀ d ∈ Bundle.stringAtoms, d.before a0 Z = true := fun d hd => hw d ((by decide +kernel : ∀ d ∈ Bundle.stringAtoms, d ∈ tables_1) d hd)
end Jvm.Pilot.@@N@@
namespace Jvm.Pilot.@@N@@
open Jvm Jvm.ClassFile Sem Op Lib Jvm.Free Jvm.Stand Jvm.LawKit Jvm.RoadKit Bundle Jvm.Pilot.@@N@@.Jvm.D Own
set_option maxRecDepth 65536
set_option maxHeartbeats 40000000
abbrev own_T (a0 : Array Value) (Z : State) : Prop := ∀ d ∈ tables_1, d.before a0 Z = true
def own_EL : List (String × Nat) := [("com/example/typewire/typewire/codegen/JavaFile", 57), ("com/example/typewire/typewire/codegen/JavaFile", 127), ("com/example/typewire/typewire/codegen/JavaFile", 129), ("com/example/typewire/typewire/codegen/JavaFile", 131), ("com/example/typewire/typewire/codegen/JavaFile", 133), ("com/example/typewire/typewire/codegen/JavaFileIndentPinLaw", 15), ("com/example/typewire/typewire/codegen/JavaFileIndentPinLaw", 24), ("com/example/typewire/typewire/codegen/JavaFileIndentPinLaw", 26), ("java/lang/String", 7)]
theorem own_EW {a0 : Array Value} {Z : State} (hw : ∀ d ∈ tables_1, d.before a0 Z = true) : EW Z a0 own_EL := EW.cons (own_w hw 136 rfl) (by decide) (EW.cons (own_w hw 278 rfl) (by decide) (EW.cons (own_w hw 294 rfl) (by decide) (EW.cons (own_w hw 295 rfl) (by decide) (EW.cons (own_w hw 296 rfl) (by decide) (EW.cons (own_w hw 29 rfl) (by decide) (EW.cons (own_w hw 271 rfl) (by decide) (EW.cons (own_w hw 272 rfl) (by decide) (EW.cons (own_w hw 144 rfl) (by decide) (EW.nil)))))))))
theorem own_natOf {x : Int32} {m : Nat} (k : Nat) (hm : m + 1 = 2 ^ k) (hk : k < 31) : (x &&& Int32.ofNat m).toBitVec.toNat = x.toBitVec.toNat % (m + 1) := by
  show (x.toBitVec &&& (Int32.ofNat m).toBitVec).toNat = _
  have e : (Int32.ofNat m).toBitVec.toNat = m := by
    show (BitVec.ofNat 32 m).toNat = m
    rw [BitVec.toNat_ofNat]
    have : 2 ^ k < 2 ^ 31 := Nat.pow_lt_pow_right (by decide) hk
    omega
  rw [BitVec.toNat_and, e, show m = 2 ^ k - 1 by omega, Nat.and_two_pow_sub_one_eq_mod]
  congr 1; omega
theorem own_toInt {y : Int32} {n : Nat} (h : y.toBitVec.toNat = n) (hn : n < 2 ^ 31) : y.toInt = n := by
  show y.toBitVec.toInt = _
  rw [BitVec.toInt_eq_toNat_cond, h]; split <;> omega
theorem own_and_rng (x : Int32) {m : Nat} (k : Nat) (hm : m + 1 = 2 ^ k) (hk : k < 31) : 0 ≤ (x &&& Int32.ofNat m).toInt ∧ (x &&& Int32.ofNat m).toInt ≤ m := by
  have h := own_natOf (x := x) k hm hk
  have h2 : x.toBitVec.toNat % (m + 1) < m + 1 := Nat.mod_lt _ (by omega)
  have : 2 ^ k < 2 ^ 31 := Nat.pow_lt_pow_right (by decide) hk
  have h3 := own_toInt h (by omega)
  rw [h3]; omega
theorem own_byInt {y : Int32} {n : Int} (h : y.toInt = n) {z : Int32} (hz : z.toInt = n) : y = z := Int32.toInt_inj.mp (h.trans hz.symm)
theorem own_nar {z : Int32} (h : ¬ z < 0 ∧ ¬ (255 : Int32) < z) : nar .char z = z := by
  have e : z &&& 255 = z := by
    have h1 := h.1; have h2 := h.2
    rw [Int32.lt_iff_toInt_lt] at h1 h2
    have e0 : (0 : Int32).toInt = 0 := rfl
    have e255 : (255 : Int32).toInt = 255 := rfl
    have hz : z.toBitVec.toInt = z.toInt := rfl
    rw [BitVec.toInt_eq_toNat_cond] at hz
    have hlt := z.toBitVec.isLt
    apply Int32.toBitVec_inj.mp
    apply BitVec.eq_of_toNat_eq
    have := own_natOf (x := z) (m := 255) 8 rfl (by decide)
    rw [show (z &&& 255).toBitVec.toNat = z.toBitVec.toNat % 256 from this]
    split at hz <;> omega
  have q := i2c_mask z
  rw [e] at q
  exact q
theorem own_and255 (x : Int32) : ¬ (x &&& (255 : Int32)) < 0 ∧ ¬ (255 : Int32) < (x &&& (255 : Int32)) := by
  have h := own_and_rng x (m := 255) 8 rfl (by decide)
  have h1 : 0 ≤ (x &&& (255 : Int32)).toInt := h.1
  have h2 : (x &&& (255 : Int32)).toInt ≤ 255 := h.2
  rw [Int32.lt_iff_toInt_lt, Int32.lt_iff_toInt_lt]
  have e0 : (0 : Int32).toInt = 0 := rfl
  have e2 : (255 : Int32).toInt = 255 := rfl
  omega
abbrev own_B (cs : List Int32) : List Value := (cs.map fun c => c.toInt8.toInt32).map Value.int
theorem own_Bl (cs : List Int32) : (own_B cs).length = cs.length := by simp [own_B]
theorem own_Ba (cs ds : List Int32) : own_B cs ++ own_B ds = own_B (cs ++ ds) := by simp [own_B]
theorem own_oI {k : Nat} (h : k < 2 ^ 31) : (Int32.ofNat k).toInt = k := len_toInt h
theorem own_clamp {k : Nat} (h : k < 2 ^ 31) : (Int32.ofNat k).toNatClampNeg = k := by rw [Int32.toNatClampNeg, own_oI h]; exact Int.toNat_natCast k
theorem own_nn {j : Nat} (h : j < 2 ^ 31) : ¬ Int32.ofNat j < 0 := by
  rw [Int32.lt_iff_toInt_lt, own_oI h]; show ¬ ((j : Int) < 0); omega
theorem own_shr0 (x : Int32) : x >>> ((0 : Int32) &&& 31) = x := by
  rw [show ((0 : Int32) &&& 31) = 0 from rfl]; first | exact Int32.shiftRight_zero | simp
theorem own_shl0 (x : Int32) : x <<< ((0 : Int32) &&& 31) = x := by
  rw [show ((0 : Int32) &&& 31) = 0 from rfl]; first | exact Int32.shiftLeft_zero | simp
theorem own_sub0 (x : Int32) : x - (0 : Int32) = x := Int32.sub_zero x
theorem own_addL (cs ds : List Int32) : Int32.ofNat cs.length + Int32.ofNat ds.length = Int32.ofNat (cs ++ ds).length := by rw [List.length_append]; exact (Int32.ofNat_add _ _).symm
theorem own_add1 (cs : List Int32) (y : Int32) : Int32.ofNat cs.length + (1 : Int32) = Int32.ofNat (cs ++ [y]).length := by rw [List.length_append]; exact (Int32.ofNat_add _ 1).symm
theorem own_dle {n c : Nat} (h : n ≤ c) (h2 : c ≤ 158) : ¬ (0 : Int32) < ((Int32.ofNat n) - (Int32.ofNat c)) := by
  have q := c_isub (Int32.ofNat n) (Int32.ofNat c)
  have l1 := Int32.toInt_lt ((Int32.ofNat n) - (Int32.ofNat c))
  have l2 := Int32.le_toInt ((Int32.ofNat n) - (Int32.ofNat c))
  rw [own_oI (k := n) (by omega), own_oI (k := c) (by omega)] at q
  have e0 : (0 : Int32).toInt = 0 := rfl
  rw [Int32.lt_iff_toInt_lt, e0]
  omega
theorem own_ltN {n c : Nat} (h : n < c) (h2 : c ≤ 158) : Int32.ofNat n < Int32.ofNat c := by
  rw [Int32.lt_iff_toInt_lt, own_oI (by omega), own_oI (by omega)]; omega
theorem own_neN {n c : Nat} (h : n < c) (h2 : c ≤ 158) : ¬ Int32.ofNat n = Int32.ofNat c := fun q => by
  have := own_ltN h h2
  rw [q] at this
  exact Int32.lt_irrefl this
theorem own_nge (n : Nat) (h : n ≤ 158) : ¬ Int32.ofNat n < (0 : Int32) := own_nn (by omega)
theorem own_narB (y : Int32) : nar .byte y.toInt8.toInt32 = y.toInt8.toInt32 := by
  show y.toInt8.toInt32.toInt8.toInt32 = _
  rw [Int8.toInt8_toInt32]
theorem own_jlt {j len : Nat} (h : j < len) (l2 : len ≤ 4000) : Int32.ofNat j < Int32.ofNat len := by
  rw [Int32.lt_iff_toInt_lt, own_oI (by omega), own_oI (by omega)]; omega
theorem own_jv {j : Nat} {cs : List Int32} (h : j < cs.length) (l2 : cs.length ≤ 4000) : (own_B cs).getD (Int32.ofNat j).toNatClampNeg (.int 0) = .int (cs.getD j 0).toInt8.toInt32 := by
  rw [own_clamp (by omega)]
  simp [own_B, List.getD, List.getElem?_eq_getElem h]
theorem own_lo8 {y : Int32} (h1 : ¬ y < 0) (h2 : ¬ (255 : Int32) < y) : y.toInt8.toInt32 &&& (255 : Int32) = y := by
  rw [Int32.lt_iff_toInt_lt] at h1 h2
  have e0 : (0 : Int32).toInt = 0 := rfl
  have e2 : (255 : Int32).toInt = 255 := rfl
  have e : y = Int32.ofNat y.toInt.toNat := Int32.toInt_inj.mp (by rw [own_oI (by omega)]; omega)
  have hn : y.toInt.toNat < 256 := by omega
  rw [e]
  generalize y.toInt.toNat = n at hn
  revert n
  decide +kernel
theorem own_chr {y : Int32} (hy : ¬ y < 0 ∧ ¬ (255 : Int32) < y) : nar .char ((y.toInt8.toInt32 &&& (255 : Int32)).toUInt32.toUInt16.toUInt32.toInt32) = y := by
  rw [show (y.toInt8.toInt32 &&& (255 : Int32)).toUInt32.toUInt16.toUInt32.toInt32 = (y.toInt8.toInt32 &&& (255 : Int32)) from i2c_mask _, own_lo8 hy.1 hy.2]
  exact own_nar hy
section Cpy
variable {p : Program} {l : Launch} {e : Env} {R : Room} {s : State} {m : MethodId} {args : Array Value} {below : List Frame} {meth : Method} {c : Code} {T : State} {locs : List Loc} {cells slots : Nat} {Z : State} {a0 : Array Value} {h h' : Heap} {own : String} {index : Nat} {a b : Addr} {k k' : ClassId} {n0 : Nat} {g : JFrame} {rest : List Value}
theorem own_cpy {zs xs ys res : List Value} {z z' sp' dp' nn' : Int32} (dp nn : Nat)
    (X : Stand p l e R s m args below meth c T locs cells slots) (hx : p.tables.exec = Jvm.exec) (hZ : Z.Warmed39 s.vm) (hown : s.vm.findClass own = some m.cls) (w1 : (Cond.methodLink own index Jvm.Stand.acN).before a0 Z = true) (w2 : (Cond.native Jvm.Stand.acN).before a0 Z = true) (w3 : (Cond.static Jvm.Stand.acN).before a0 Z = true) (w4 : (Cond.initialized "java/lang/System").before a0 Z = true) (eT : T.heap = h)
    (A : Arv Z h a k .byte z zs (.int 0)) (B : Arv Z h b k' .byte z' xs (.int 0)) (hx0 : xs.length = dp) (hy : ys.length ≤ nn) (hyz : ∀ j, j < nn → ys.getD j (.int 0) = zs.getD j (.int 0)) (h4 : nn ≤ z.toNatClampNeg) (h5 : dp + nn ≤ z'.toNatClampNeg) (hdp : dp < 2 ^ 31) (hnn : nn < 2 ^ 31)
    (er : xs ++ ys = res) (es : sp' = (0 : Int32)) (ed : dp' = Int32.ofNat dp) (en : nn' = Int32.ofNat nn) (N : Fr n0 locs) (ge : n0 ≤ b)
    (hg : g.method = m) (hsize : g.locals.size = c.maxLocals) (hs : g.stack = .int nn' :: .int dp' :: .ref b :: .int sp' :: .ref a :: rest) (hd : decode c.code g.pc = .ok (.invokestatic index, 3)) (hf : 1 ≤ R.frames) {W : Nat} (hW : 2 * g.monitorRoom + (rest.map fun v => v.category).sum ≤ W) (hlo : W + (nativeFrameWords "java/lang/System" "arraycopy" 5 + 11) ≤ R.locals) :
    ∃ (T' : State) (h' : Heap) (L' : List Loc), Stand p l e R s m args below meth c T' L' cells slots ∧ T'.heap = h' ∧ Fr n0 L' ∧ Keep h h' [b] ∧ Arv Z h' b k' .byte z' res (.int 0) ∧ ∀ t, Steps p.tables e below (T'.setTop { g with pc := g.pc + 3, stack := rest }) t → Steps p.tables e below (T.setTop g) t := by
  subst es ed en er
  have e1 := own_clamp hnn
  have e2 := own_clamp hdp
  have e0 : (0 : Int32).toNatClampNeg = 0 := rfl
  obtain ⟨T', h', L', X', e', N', K', V', st⟩ := cpA X hx hZ hown w1 w2 w3 w4 eT A (B.pad (pad_rep xs (.int 0) nn)) (Or.inl ⟨rfl, rfl⟩) (by decide) (own_nn hdp) (own_nn hnn) (by rw [e0, e1]; omega) (by rw [e2, e1]; exact h5) rfl (by rw [e2, e1]; simp [hx0]) N ge hg hsize hs hd hf hW hlo
  refine ⟨T', h', L', X', e', N', K', ?_, st⟩
  rw [e0, e1, e2] at V'
  have t1 : (xs ++ List.replicate nn (Value.int 0)).take dp = xs := by rw [← hx0]; simp
  have t2 : (xs ++ List.replicate nn (Value.int 0)).drop (dp + nn) = [] := List.drop_eq_nil_of_le (by simp [hx0])
  rw [t1, t2, List.append_nil] at V'
  refine V'.pad fun i => ?_
  simp only [List.getD_eq_getElem?_getD] at hyz ⊢
  by_cases q : i < xs.length
  · rw [List.getElem?_append_left q, List.getElem?_append_left q]
  · rw [List.getElem?_append_right (by omega), List.getElem?_append_right (by omega)]
    by_cases r : i - xs.length < nn
    · rw [hyz _ r]
      simp [r]
    · rw [List.getElem?_eq_none (by omega), List.getElem?_eq_none (by simp; omega)]
theorem own_push {xs : List Value} {z j : Int32} {v v' : Value} {n : Nat} (F : Arv Z h a k .byte z xs (.int 0)) (hv : fits .byte v = true) (W : Wr h h' a j.toNatClampNeg v) (ev : v = v') (ej : j = Int32.ofNat n) (hn : xs.length = n) (hn2 : n < 2 ^ 31) : Arv Z h' a k .byte z (xs ++ [v']) (.int 0) := by
  subst ej
  have q := own_set (F.pad (pad_rep xs (.int 0) 1)) hv W ev n (own_clamp hn2) (by simp [hn])
  have e : (xs ++ List.replicate 1 (Value.int 0)).set n v' = xs ++ [v'] := by subst hn; simp [List.set_append]
  rw [e] at q
  exact q
theorem own_stA {C : String} {z j : Int32} {vs : List Value} {dv : Value} {y : Addr} (X : Stand p l e R s m args below meth c T locs cells slots) (hx : p.tables.exec = Jvm.exec) (hZ : Z.Warmed39 s.vm) (eT : T.heap = h) (F : Arv Z h a k (.object C) z vs dv) (O : Ovr Z k C) (I : Ins Z h y C true) (hj : ¬ j < 0 ∧ j < z) (hg : g.method = m) (hs : g.stack = .ref y :: .int j :: .ref a :: rest) (hd : decode c.code g.pc = .ok (.aastore, 1)) :
    ∃ (T' : State) (h' : Heap), Stand p l e R s m args below meth c T' (locs ++ [⟨a, j.toNatClampNeg⟩]) cells slots ∧ T'.heap = h' ∧ Wr h h' a j.toNatClampNeg (.ref y) ∧ ∀ t, Steps p.tables e below (T'.setTop { g with pc := g.pc + 1, stack := rest }) t → Steps p.tables e below (T.setTop g) t := by
  obtain ⟨cl, A, q, S, hz, H, -⟩ := F
  exact stR X hx hZ eT A (inb_of S hj) rfl (Sto.ofV A q O I) hg hs hd
end Cpy
theorem own_len0 {s : State} {args : Array Value} {t : Term} {a : Addr} {cl : Cell} (ev : t.eval args s none [] s = some (.ref a)) (haa : s.arrayAt? a = some cl) (w : (Cond.eq (Term.length t) (Term.int 0)).value args s none s [] = some true) : cl.slots.size < 2 ^ 31 ∧ cl.slots.size.toInt32 = (0 : Int32) := by
  by_cases hl : cl.slots.size < 2 ^ 31
  · exact ⟨hl, gotT (Cond.eq_ints (len_f ev haa hl) (Term.int_eval 0)) w⟩
  · exfalso
    have q : (Term.length t).eval args s none [] s = none := by simp [Term.eval, ev, haa, hl]
    simp [Cond.value, q] at w
theorem own_and3 (x : Int32) : x &&& (3 : Int32) = (0 : Int32) ∨ x &&& (3 : Int32) = (1 : Int32) ∨ x &&& (3 : Int32) = (2 : Int32) ∨ x &&& (3 : Int32) = (3 : Int32) := by
  have h := own_and_rng x (m := 3) 2 rfl (by decide)
  have b : (x &&& (3 : Int32)).toInt = 0 ∨ (x &&& (3 : Int32)).toInt = 1 ∨ (x &&& (3 : Int32)).toInt = 2 ∨ (x &&& (3 : Int32)).toInt = 3 := by
    have h1 : 0 ≤ (x &&& (3 : Int32)).toInt := h.1
    have h2 : (x &&& (3 : Int32)).toInt ≤ 3 := h.2
    omega
  rcases b with b | b | b | b
  · exact Or.inl (own_byInt b rfl)
  · exact Or.inr (Or.inl (own_byInt b rfl))
  · exact Or.inr (Or.inr (Or.inl (own_byInt b rfl)))
  · exact Or.inr (Or.inr (Or.inr (own_byInt b rfl)))
abbrev own_4 : List Int32 := [32, 32, 32, 32]
def own_L127 : List Int32 := [47, 47, 32, 71, 101, 110, 101, 114, 97, 116, 101, 100, 32, 98, 121, 32, 116, 121, 112, 101, 119, 105, 114, 101, 32, 99, 111, 109, 112, 105, 108, 101, 32, 102, 114, 111, 109, 32]
def own_L129 : List Int32 := [46, 32, 68, 111, 32, 110, 111, 116, 32, 101, 100, 105, 116, 58, 32, 99, 104, 97, 110, 103, 101, 32, 116, 104, 101, 32, 105, 110, 116, 101, 114, 102, 97, 99, 101, 32, 97, 110, 100, 32, 99, 111, 109, 112, 105, 108, 101, 32, 105, 116, 32, 97, 103, 97, 105, 110, 46, 10]
def own_L131 : List Int32 := [112, 97, 99, 107, 97, 103, 101, 32]
def own_L133 : List Int32 := [59, 10, 10]
abbrev own_D0 (y : Int32) : List Int32 := ((([] : List Int32) ++ ([] : List Int32)) ++ [y])
abbrev own_D1 (y : Int32) : List Int32 := ((([] : List Int32) ++ own_4) ++ [y])
abbrev own_D2 (y : Int32) : List Int32 := ((([] : List Int32) ++ (own_4 ++ own_4)) ++ [y])
abbrev own_D3 (y : Int32) : List Int32 := ((([] : List Int32) ++ ((own_4 ++ own_4) ++ own_4)) ++ [y])
def own_H : List Int32 := ((((([] ++ own_L127) ++ [115]) ++ own_L129) ++ own_L131) ++ [112]) ++ own_L133
theorem own_Hl : own_H.length = 109 := by decide +kernel
theorem own_H107 : own_H.getD 108 0 = (10 : Int32) := by decide +kernel
abbrev own_X (ds : List Int32) : List Int32 := (own_H ++ ds) ++ [10]
theorem own_Xl (ds : List Int32) : (own_X ds).length = ds.length + 110 := by
  simp only [own_X, List.length_append, own_Hl, List.length_cons, List.length_nil]; omega
theorem own_X107 (ds : List Int32) : (own_X ds).getD 108 0 = (10 : Int32) := by
  have hl := own_Hl
  rw [← own_H107]
  simp only [List.getD_eq_getElem?_getD, own_X]
  rw [List.getElem?_append_left (by rw [List.length_append]; omega), List.getElem?_append_left (by omega)]
theorem own_XD {ds : List Int32} {j : Nat} (i : Nat) (hi : i = 109 + j) (hj : j < ds.length) : (own_X ds).getD i 0 = ds.getD j 0 := by
  have hl := own_Hl
  subst hi
  simp only [List.getD_eq_getElem?_getD, own_X]
  rw [List.getElem?_append_left (by rw [List.length_append]; omega), List.getElem?_append_right (by omega), hl, Nat.add_sub_cancel_left]
theorem own_XE {ds : List Int32} (i : Nat) (hi : i = 109 + ds.length) : (own_X ds).getD i 0 = (10 : Int32) := by
  have hl := own_Hl
  subst hi
  simp only [List.getD_eq_getElem?_getD, own_X]
  rw [List.getElem?_append_right (by rw [List.length_append]; omega), List.length_append, hl, Nat.sub_self]
  rfl
abbrev own_sp (pk : Int32) (ds : List Int32) (j : Nat) : Prop := ¬ Int32.ofNat j < (4 : Int32) * pk ∨ (Int32.ofNat j < (4 : Int32) * pk ∧ 109 + j < (own_X ds).length ∧ (own_X ds).getD (109 + j) 0 = (32 : Int32))
theorem own_ldcWI {p : Program} {l : Launch} {e : Env} {R : Room} {s : State} {m : MethodId} {args : Array Value} {below : List Frame} {meth : Method} {c : Code} {T : State} {locs : List Loc} {cells slots : Nat} {Z : State} {a0 : Array Value} {h : Heap} {g : JFrame} {own : String} {index : Nat} {x : Int32} (X : Stand p l e R s m args below meth c T locs cells slots) (hx : p.tables.exec = Jvm.exec) (hZ : Z.Warmed39 s.vm) (hown : s.vm.findClass own = some m.cls) (w : (Cond.constant own index x).before a0 Z = true) (eT : T.heap = h) (hg : g.method = m) (hd : decode c.code g.pc = .ok (.ldc_w index, 3)) :
    ∃ T' : State, Stand p l e R s m args below meth c T' locs cells slots ∧ T'.heap = h ∧ ∀ t, Steps p.tables e below (T'.setTop { g with pc := g.pc + 3, stack := .int x :: g.stack }) t → Steps p.tables e below (T.setTop g) t := by
  obtain ⟨k, cf, bytes, hk, hcf, hcp, hb⟩ := Cond.constant_spec hown (mv (args := args) hZ w)
  obtain ⟨k', hk', he⟩ := X.warmed.alike.2.2 _ _ hk
  refine ⟨T, X, eT, fun target hrest => ?_⟩
  subst hg
  jvm_step X.here [hx, hd, ldc_w.wp_int (s := T) (f := g) X.here.top hk' (by rw [he]; exact hcf) hcp, hb]
  exact hrest
abbrev Y0 : MethodName := ⟨"java/lang/StringLatin1", "canEncode", "(C)Z"⟩
abbrev Y1 : MethodName := ⟨"java/lang/StringLatin1", "toBytes", "(C)[B"⟩
abbrev Y2 : MethodName := ⟨"java/lang/String", "<init>", "([BB)V"⟩
abbrev Y3 : MethodName := ⟨"java/util/AbstractCollection", "<init>", "()V"⟩
abbrev Y4 : MethodName := ⟨"java/util/AbstractMap", "<init>", "()V"⟩
abbrev Y5 : MethodName := ⟨"java/util/AbstractSet", "<init>", "()V"⟩
abbrev Y6 : MethodName := ⟨"java/util/TreeMap", "<init>", "()V"⟩
abbrev Y7 : MethodName := ⟨"java/util/TreeSet", "<init>", "(Ljava/util/NavigableMap;)V"⟩
abbrev Y8 : MethodName := ⟨"java/util/AbstractList", "<init>", "()V"⟩
abbrev Y9 : MethodName := ⟨"java/util/TreeSet", "<init>", "()V"⟩
abbrev Y10 : MethodName := ⟨"java/util/ArrayList", "<init>", "()V"⟩
abbrev Y11 : MethodName := ⟨"java/lang/AbstractStringBuilder", "<init>", "(I)V"⟩
abbrev Y12 : MethodName := ⟨"java/lang/String", "coder", "()B"⟩
abbrev Y13 : MethodName := ⟨"java/lang/Math", "min", "(II)I"⟩
abbrev Y14 : MethodName := ⟨"java/lang/Math", "max", "(II)I"⟩
abbrev Y15 : MethodName := ⟨"jdk/internal/util/ArraysSupport", "newLength", "(III)I"⟩
abbrev Y16 : MethodName := ⟨"java/lang/AbstractStringBuilder", "newCapacity", "(I)I"⟩
abbrev Y17 : MethodName := ⟨"java/util/Arrays", "copyOf", "([BI)[B"⟩
abbrev Y18 : MethodName := ⟨"java/lang/AbstractStringBuilder", "inflateIfNeededFor", "(Ljava/lang/String;)V"⟩
abbrev Y19 : MethodName := ⟨"java/lang/String", "getBytes", "([BIB)V"⟩
abbrev Y20 : MethodName := ⟨"java/lang/String", "length", "()I"⟩
abbrev Y21 : MethodName := ⟨"java/lang/AbstractStringBuilder", "ensureCapacityInternal", "(I)V"⟩
abbrev Y22 : MethodName := ⟨"java/lang/AbstractStringBuilder", "putStringAt", "(ILjava/lang/String;)V"⟩
abbrev Y23 : MethodName := ⟨"java/lang/AbstractStringBuilder", "append", "(Ljava/lang/String;)Ljava/lang/AbstractStringBuilder;"⟩
abbrev Y24 : MethodName := ⟨"java/lang/AbstractStringBuilder", "isLatin1", "()Z"⟩
abbrev Y25 : MethodName := ⟨"java/lang/AbstractStringBuilder", "append", "(C)Ljava/lang/AbstractStringBuilder;"⟩
abbrev Y26 : MethodName := ⟨"java/lang/AbstractStringBuilder", "length", "()I"⟩
abbrev Y27 : MethodName := ⟨"java/util/Arrays", "checkLength", "(II)V"⟩
abbrev Y28 : MethodName := ⟨"java/util/Arrays", "copyOfRangeByte", "([BII)[B"⟩
abbrev Y29 : MethodName := ⟨"java/lang/AbstractStringBuilder", "getValue", "()[B"⟩
abbrev Y30 : MethodName := ⟨"java/lang/StringBuilder", "length", "()I"⟩
abbrev Y31 : MethodName := ⟨"java/util/Arrays", "copyOfRange", "([BII)[B"⟩
abbrev Y32 : MethodName := ⟨"java/lang/String", "<init>", "(Ljava/lang/AbstractStringBuilder;Ljava/lang/Void;)V"⟩
abbrev Y33 : MethodName := ⟨"java/lang/String", "<init>", "(Ljava/lang/StringBuilder;)V"⟩
abbrev Y34 : MethodName := ⟨"java/lang/String", "repeatCopyRest", "([BIII)V"⟩
abbrev Y35 : MethodName := ⟨"java/util/ArrayList", "grow", "(I)[Ljava/lang/Object;"⟩
abbrev Y36 : MethodName := ⟨"java/util/ArrayList", "grow", "()[Ljava/lang/Object;"⟩
abbrev Y37 : MethodName := ⟨"java/util/ArrayList", "add", "(Ljava/lang/Object;[Ljava/lang/Object;I)V"⟩
abbrev Y38 : MethodName := ⟨"java/util/ArrayList$Itr", "<init>", "(Ljava/util/ArrayList;)V"⟩
abbrev Y39 : MethodName := ⟨"java/util/ArrayList$Itr", "checkForComodification", "()V"⟩
abbrev Y40 : MethodName := ⟨"java/util/TreeMap$KeySet", "<init>", "(Ljava/util/NavigableMap;)V"⟩
abbrev Y41 : MethodName := ⟨"java/util/TreeMap$PrivateEntryIterator", "<init>", "(Ljava/util/TreeMap;Ljava/util/TreeMap$Entry;)V"⟩
abbrev Y42 : MethodName := ⟨"java/util/TreeMap", "getFirstEntry", "()Ljava/util/TreeMap$Entry;"⟩
abbrev Y43 : MethodName := ⟨"java/util/TreeMap$KeyIterator", "<init>", "(Ljava/util/TreeMap;Ljava/util/TreeMap$Entry;)V"⟩
abbrev Y44 : MethodName := ⟨"java/util/TreeMap", "keyIterator", "()Ljava/util/Iterator;"⟩
abbrev Y45 : MethodName := ⟨"java/util/NavigableMap", "navigableKeySet", "()Ljava/util/NavigableSet;"⟩
abbrev Y46 : MethodName := ⟨"java/util/TreeMap", "navigableKeySet", "()Ljava/util/NavigableSet;"⟩
abbrev Y47 : MethodName := ⟨"java/util/NavigableSet", "iterator", "()Ljava/util/Iterator;"⟩
abbrev Y48 : MethodName := ⟨"java/util/TreeMap$KeySet", "iterator", "()Ljava/util/Iterator;"⟩
abbrev Y49 : MethodName := ⟨"java/util/AbstractMap", "size", "()I"⟩
abbrev Y50 : MethodName := ⟨"java/util/TreeMap", "size", "()I"⟩
abbrev Y51 : MethodName := ⟨"java/util/NavigableMap", "isEmpty", "()Z"⟩
abbrev Y52 : MethodName := ⟨"java/util/AbstractMap", "isEmpty", "()Z"⟩
abbrev Y53 : MethodName := ⟨"java/util/TreeSet", "iterator", "()Ljava/util/Iterator;"⟩
abbrev Y54 : MethodName := ⟨"java/util/Iterator", "hasNext", "()Z"⟩
abbrev Y55 : MethodName := ⟨"java/util/TreeMap$PrivateEntryIterator", "hasNext", "()Z"⟩
abbrev Y56 : MethodName := ⟨"java/util/TreeSet", "isEmpty", "()Z"⟩
abbrev Y57 : MethodName := ⟨"jdk/internal/util/Preconditions", "checkIndex", "(IILjava/util/function/BiFunction;)I"⟩
abbrev Y58 : MethodName := ⟨"java/lang/String", "checkIndex", "(II)V"⟩
abbrev Y59 : MethodName := ⟨"java/lang/String", "isLatin1", "()Z"⟩
abbrev Y60 : MethodName := ⟨"java/lang/StringLatin1", "charAt", "([BI)C"⟩
abbrev Y61 : MethodName := ⟨"java/lang/String", "charAt", "(I)C"⟩
abbrev Y62 : MethodName := ⟨"java/lang/String", "isEmpty", "()Z"⟩
abbrev Y63 : MethodName := ⟨"java/lang/StringBuilder", "<init>", "()V"⟩
abbrev Y64 : MethodName := ⟨"java/lang/String", "repeat", "(I)Ljava/lang/String;"⟩
abbrev Y65 : MethodName := ⟨"java/lang/StringBuilder", "append", "(Ljava/lang/String;)Ljava/lang/StringBuilder;"⟩
abbrev Y66 : MethodName := ⟨"java/lang/StringBuilder", "toString", "()Ljava/lang/String;"⟩
abbrev Y67 : MethodName := ⟨"java/util/List", "add", "(Ljava/lang/Object;)Z"⟩
abbrev Y68 : MethodName := ⟨"java/util/ArrayList", "add", "(Ljava/lang/Object;)Z"⟩
abbrev Y69 : MethodName := ⟨"com/example/typewire/typewire/codegen/JavaFile", "appendImports", "(Ljava/lang/StringBuilder;Ljava/util/TreeSet;)V"⟩
abbrev Y70 : MethodName := ⟨"java/util/List", "iterator", "()Ljava/util/Iterator;"⟩
abbrev Y71 : MethodName := ⟨"java/util/ArrayList", "iterator", "()Ljava/util/Iterator;"⟩
abbrev Y72 : MethodName := ⟨"java/util/ArrayList$Itr", "hasNext", "()Z"⟩
abbrev Y73 : MethodName := ⟨"java/util/Iterator", "next", "()Ljava/lang/Object;"⟩
abbrev Y74 : MethodName := ⟨"java/util/ArrayList$Itr", "next", "()Ljava/lang/Object;"⟩
abbrev Y75 : MethodName := ⟨"java/lang/StringBuilder", "append", "(C)Ljava/lang/StringBuilder;"⟩
abbrev Y76 : MethodName := ⟨"java/lang/String", "valueOf", "(C)Ljava/lang/String;"⟩
abbrev Y77 : MethodName := ⟨"com/example/typewire/typewire/codegen/JavaFile", "<init>", "(Ljava/lang/String;)V"⟩
abbrev Y78 : MethodName := ⟨"com/example/typewire/typewire/codegen/JavaFile", "line", "(Ljava/lang/String;)Lcom/example/typewire/typewire/codegen/JavaFile;"⟩
abbrev Y79 : MethodName := ⟨"com/example/typewire/typewire/codegen/JavaFile", "text", "(Ljava/lang/String;Ljava/lang/String;)Ljava/lang/String;"⟩
abbrev Y80 : MethodName := ⟨"com/example/typewire/typewire/codegen/JavaFileIndentPinLaw", "sp", "(Ljava/lang/String;III)Z"⟩
abbrev Y81 : MethodName := ⟨"com/example/typewire/typewire/codegen/JavaFile", "indent", "()Lcom/example/typewire/typewire/codegen/JavaFile;"⟩
abbrev Dc (b : ByteArray) (n : Nat) (i : Instr) (k : Nat) : Prop := decode b n = .ok (i, k)
abbrev B0 := jdk_29_method_65_code
theorem q0_0 : Dc B0 0 (.iload_n 0) 1 := by decide +kernel
theorem q0_1 : Dc B0 1 (.iload_n 1) 1 := by decide +kernel
theorem q0_2 : Dc B0 2 (.if_icmp .lt 7) 3 := by decide +kernel
theorem q0_5 : Dc B0 5 (.iload_n 0) 1 := by decide +kernel
theorem q0_6 : Dc B0 6 (.goto 4) 3 := by decide +kernel
theorem q0_10 : Dc B0 10 (.ireturn) 1 := by decide +kernel
theorem q0_9 : Dc B0 9 (.iload_n 1) 1 := by decide +kernel
abbrev B1 := jdk_29_method_69_code
theorem q1_0 : Dc B1 0 (.iload_n 0) 1 := by decide +kernel
theorem q1_1 : Dc B1 1 (.iload_n 1) 1 := by decide +kernel
theorem q1_2 : Dc B1 2 (.if_icmp .gt 7) 3 := by decide +kernel
theorem q1_5 : Dc B1 5 (.iload_n 0) 1 := by decide +kernel
theorem q1_6 : Dc B1 6 (.goto 4) 3 := by decide +kernel
theorem q1_10 : Dc B1 10 (.ireturn) 1 := by decide +kernel
theorem q1_9 : Dc B1 9 (.iload_n 1) 1 := by decide +kernel
abbrev B2 := jdk_43_method_3_code
theorem q2_0 : Dc B2 0 (.iload_n 0) 1 := by decide +kernel
theorem q2_1 : Dc B2 1 (.sipush 255) 3 := by decide +kernel
theorem q2_4 : Dc B2 4 (.if_icmp .gt 7) 3 := by decide +kernel
theorem q2_7 : Dc B2 7 (.iconst 1) 1 := by decide +kernel
theorem q2_8 : Dc B2 8 (.goto 4) 3 := by decide +kernel
theorem q2_12 : Dc B2 12 (.ireturn) 1 := by decide +kernel
abbrev B3 := jdk_43_method_46_code
theorem q3_0 : Dc B3 0 (.iconst 1) 1 := by decide +kernel
theorem q3_1 : Dc B3 1 (.newarray .byte) 2 := by decide +kernel
theorem q3_3 : Dc B3 3 (.dup) 1 := by decide +kernel
theorem q3_4 : Dc B3 4 (.iconst 0) 1 := by decide +kernel
theorem q3_5 : Dc B3 5 (.iload_n 0) 1 := by decide +kernel
theorem q3_6 : Dc B3 6 (.i2b) 1 := by decide +kernel
theorem q3_7 : Dc B3 7 (.bastore) 1 := by decide +kernel
theorem q3_8 : Dc B3 8 (.areturn) 1 := by decide +kernel
abbrev B4 := jdk_42_method_151_code
theorem q4_0 : Dc B4 0 (.aload_n 0) 1 := by decide +kernel
theorem q4_1 : Dc B4 1 (.invokespecial 1) 3 := by decide +kernel
theorem q4_4 : Dc B4 4 (.aload_n 0) 1 := by decide +kernel
theorem q4_5 : Dc B4 5 (.aload_n 1) 1 := by decide +kernel
theorem q4_6 : Dc B4 6 (.putfield 9) 3 := by decide +kernel
theorem q4_9 : Dc B4 9 (.aload_n 0) 1 := by decide +kernel
theorem q4_10 : Dc B4 10 (.iload_n 2) 1 := by decide +kernel
theorem q4_11 : Dc B4 11 (.putfield 15) 3 := by decide +kernel
theorem q4_14 : Dc B4 14 (.return_) 1 := by decide +kernel
abbrev B5 := jdk_42_method_139_code
theorem q5_0 : Dc B5 0 (.getstatic 38) 3 := by decide +kernel
theorem q5_3 : Dc B5 3 (.ifCond .eq 23) 3 := by decide +kernel
theorem q5_6 : Dc B5 6 (.iload_n 0) 1 := by decide +kernel
theorem q5_7 : Dc B5 7 (.invokestatic 1015) 3 := by decide +kernel
theorem pd_0 : parseMethodDescriptor "(C)Z" = some ⟨[.char], some .boolean⟩ := by decide +kernel
theorem q5_10 : Dc B5 10 (.ifCond .eq 16) 3 := by decide +kernel
theorem q5_13 : Dc B5 13 (.new 10) 3 := by decide +kernel
theorem q5_16 : Dc B5 16 (.dup) 1 := by decide +kernel
theorem q5_17 : Dc B5 17 (.iload_n 0) 1 := by decide +kernel
theorem q5_18 : Dc B5 18 (.invokestatic 1018) 3 := by decide +kernel
theorem pd_1 : parseMethodDescriptor "(C)[B" = some ⟨[.char], some (.array .byte)⟩ := by decide +kernel
theorem q5_21 : Dc B5 21 (.iconst 0) 1 := by decide +kernel
theorem q5_22 : Dc B5 22 (.invokespecial 209) 3 := by decide +kernel
theorem pd_2 : parseMethodDescriptor "([BB)V" = some ⟨[(.array .byte), .byte], none⟩ := by decide +kernel
theorem q5_25 : Dc B5 25 (.areturn) 1 := by decide +kernel
abbrev B6 := jdk_71_method_1_code
theorem q6_0 : Dc B6 0 (.aload_n 0) 1 := by decide +kernel
theorem q6_1 : Dc B6 1 (.invokespecial 1) 3 := by decide +kernel
theorem q6_4 : Dc B6 4 (.return_) 1 := by decide +kernel
abbrev B7 := jdk_22_method_1_code
theorem q7_0 : Dc B7 0 (.aload_n 0) 1 := by decide +kernel
theorem q7_1 : Dc B7 1 (.invokespecial 1) 3 := by decide +kernel
theorem q7_4 : Dc B7 4 (.return_) 1 := by decide +kernel
abbrev B8 := jdk_91_method_1_code
theorem q8_0 : Dc B8 0 (.aload_n 0) 1 := by decide +kernel
theorem q8_1 : Dc B8 1 (.invokespecial 1) 3 := by decide +kernel
theorem pd_3 : parseMethodDescriptor "()V" = some ⟨[], none⟩ := by decide +kernel
theorem q8_4 : Dc B8 4 (.return_) 1 := by decide +kernel
abbrev B9 := jdk_39_method_1_code
theorem q9_0 : Dc B9 0 (.aload_n 0) 1 := by decide +kernel
theorem q9_1 : Dc B9 1 (.invokespecial 1) 3 := by decide +kernel
theorem q9_4 : Dc B9 4 (.aload_n 0) 1 := by decide +kernel
theorem q9_5 : Dc B9 5 (.iconst 0) 1 := by decide +kernel
theorem q9_6 : Dc B9 6 (.putfield 7) 3 := by decide +kernel
theorem q9_9 : Dc B9 9 (.return_) 1 := by decide +kernel
abbrev B10 := jdk_2729_method_1_code
theorem q10_0 : Dc B10 0 (.aload_n 0) 1 := by decide +kernel
theorem q10_1 : Dc B10 1 (.invokespecial 1) 3 := by decide +kernel
theorem q10_4 : Dc B10 4 (.aload_n 0) 1 := by decide +kernel
theorem q10_5 : Dc B10 5 (.iconst 0) 1 := by decide +kernel
theorem q10_6 : Dc B10 6 (.putfield 7) 3 := by decide +kernel
theorem q10_9 : Dc B10 9 (.aload_n 0) 1 := by decide +kernel
theorem q10_10 : Dc B10 10 (.iconst 0) 1 := by decide +kernel
theorem q10_11 : Dc B10 11 (.putfield 13) 3 := by decide +kernel
theorem q10_14 : Dc B10 14 (.aload_n 0) 1 := by decide +kernel
theorem q10_15 : Dc B10 15 (.aconst_null) 1 := by decide +kernel
theorem q10_16 : Dc B10 16 (.putfield 16) 3 := by decide +kernel
theorem q10_19 : Dc B10 19 (.return_) 1 := by decide +kernel
abbrev B11 := jdk_2756_method_1_code
theorem q11_0 : Dc B11 0 (.aload_n 0) 1 := by decide +kernel
theorem q11_1 : Dc B11 1 (.invokespecial 1) 3 := by decide +kernel
theorem q11_4 : Dc B11 4 (.aload_n 0) 1 := by decide +kernel
theorem q11_5 : Dc B11 5 (.aload_n 1) 1 := by decide +kernel
theorem q11_6 : Dc B11 6 (.putfield 7) 3 := by decide +kernel
theorem q11_9 : Dc B11 9 (.return_) 1 := by decide +kernel
abbrev B12 := jdk_2756_method_2_code
theorem q12_0 : Dc B12 0 (.aload_n 0) 1 := by decide +kernel
theorem q12_1 : Dc B12 1 (.new 13) 3 := by decide +kernel
theorem q12_4 : Dc B12 4 (.dup) 1 := by decide +kernel
theorem q12_5 : Dc B12 5 (.invokespecial 15) 3 := by decide +kernel
theorem q12_8 : Dc B12 8 (.invokespecial 16) 3 := by decide +kernel
theorem pd_4 : parseMethodDescriptor "(Ljava/util/NavigableMap;)V" = some ⟨[(.object "java/util/NavigableMap")], none⟩ := by decide +kernel
theorem q12_11 : Dc B12 11 (.return_) 1 := by decide +kernel
abbrev B13 := jdk_38_method_2_code
theorem q13_0 : Dc B13 0 (.aload_n 0) 1 := by decide +kernel
theorem q13_1 : Dc B13 1 (.invokespecial 1) 3 := by decide +kernel
theorem q13_4 : Dc B13 4 (.aload_n 0) 1 := by decide +kernel
theorem q13_5 : Dc B13 5 (.getstatic 39) 3 := by decide +kernel
theorem q13_8 : Dc B13 8 (.putfield 9) 3 := by decide +kernel
theorem q13_11 : Dc B13 11 (.return_) 1 := by decide +kernel
abbrev B14 := prog_4_method_1_code
theorem q14_0 : Dc B14 0 (.aload_n 0) 1 := by decide +kernel
theorem q14_1 : Dc B14 1 (.invokespecial 1) 3 := by decide +kernel
theorem q14_4 : Dc B14 4 (.aload_n 0) 1 := by decide +kernel
theorem q14_5 : Dc B14 5 (.new 7) 3 := by decide +kernel
theorem q14_8 : Dc B14 8 (.dup) 1 := by decide +kernel
theorem q14_9 : Dc B14 9 (.invokespecial 9) 3 := by decide +kernel
theorem q14_12 : Dc B14 12 (.putfield 10) 3 := by decide +kernel
theorem q14_15 : Dc B14 15 (.aload_n 0) 1 := by decide +kernel
theorem q14_16 : Dc B14 16 (.new 7) 3 := by decide +kernel
theorem q14_19 : Dc B14 19 (.dup) 1 := by decide +kernel
theorem q14_20 : Dc B14 20 (.invokespecial 9) 3 := by decide +kernel
theorem q14_23 : Dc B14 23 (.putfield 16) 3 := by decide +kernel
theorem q14_26 : Dc B14 26 (.aload_n 0) 1 := by decide +kernel
theorem q14_27 : Dc B14 27 (.new 19) 3 := by decide +kernel
theorem q14_30 : Dc B14 30 (.dup) 1 := by decide +kernel
theorem q14_31 : Dc B14 31 (.invokespecial 21) 3 := by decide +kernel
theorem q14_34 : Dc B14 34 (.putfield 22) 3 := by decide +kernel
theorem q14_37 : Dc B14 37 (.aload_n 0) 1 := by decide +kernel
theorem q14_38 : Dc B14 38 (.aload_n 1) 1 := by decide +kernel
theorem q14_39 : Dc B14 39 (.putfield 26) 3 := by decide +kernel
theorem q14_42 : Dc B14 42 (.return_) 1 := by decide +kernel
abbrev B15 := prog_4_method_10_code
theorem q15_0 : Dc B15 0 (.aload_n 0) 1 := by decide +kernel
theorem q15_1 : Dc B15 1 (.dup) 1 := by decide +kernel
theorem q15_2 : Dc B15 2 (.getfield 59) 3 := by decide +kernel
theorem q15_5 : Dc B15 5 (.iconst 1) 1 := by decide +kernel
theorem q15_6 : Dc B15 6 (.iadd) 1 := by decide +kernel
theorem q15_7 : Dc B15 7 (.putfield 59) 3 := by decide +kernel
theorem q15_10 : Dc B15 10 (.aload_n 0) 1 := by decide +kernel
theorem q15_11 : Dc B15 11 (.areturn) 1 := by decide +kernel
abbrev B16 := jdk_68_method_2_code
theorem q16_0 : Dc B16 0 (.aload_n 0) 1 := by decide +kernel
theorem q16_1 : Dc B16 1 (.invokespecial 3) 3 := by decide +kernel
theorem q16_4 : Dc B16 4 (.getstatic 18) 3 := by decide +kernel
theorem q16_7 : Dc B16 7 (.ifCond .eq 18) 3 := by decide +kernel
theorem q16_10 : Dc B16 10 (.aload_n 0) 1 := by decide +kernel
theorem q16_11 : Dc B16 11 (.iload_n 1) 1 := by decide +kernel
theorem q16_12 : Dc B16 12 (.newarray .byte) 2 := by decide +kernel
theorem q16_14 : Dc B16 14 (.putfield 15) 3 := by decide +kernel
theorem q16_17 : Dc B16 17 (.aload_n 0) 1 := by decide +kernel
theorem q16_18 : Dc B16 18 (.iconst 0) 1 := by decide +kernel
theorem q16_19 : Dc B16 19 (.putfield 22) 3 := by decide +kernel
theorem q16_22 : Dc B16 22 (.goto 16) 3 := by decide +kernel
theorem q16_38 : Dc B16 38 (.return_) 1 := by decide +kernel
abbrev B17 := jdk_67_method_1_code
theorem q17_0 : Dc B17 0 (.aload_n 0) 1 := by decide +kernel
theorem q17_1 : Dc B17 1 (.bipush 16) 2 := by decide +kernel
theorem q17_3 : Dc B17 3 (.invokespecial 1) 3 := by decide +kernel
theorem pd_5 : parseMethodDescriptor "(I)V" = some ⟨[.int], none⟩ := by decide +kernel
theorem q17_6 : Dc B17 6 (.return_) 1 := by decide +kernel
abbrev B18 := jdk_42_method_152_code
theorem q18_0 : Dc B18 0 (.getstatic 38) 3 := by decide +kernel
theorem q18_3 : Dc B18 3 (.ifCond .eq 10) 3 := by decide +kernel
theorem q18_6 : Dc B18 6 (.aload_n 0) 1 := by decide +kernel
theorem q18_7 : Dc B18 7 (.getfield 15) 3 := by decide +kernel
theorem q18_10 : Dc B18 10 (.goto 4) 3 := by decide +kernel
theorem q18_14 : Dc B18 14 (.ireturn) 1 := by decide +kernel
abbrev B19 := jdk_42_method_54_code
theorem q19_0 : Dc B19 0 (.aload_n 0) 1 := by decide +kernel
theorem q19_1 : Dc B19 1 (.getfield 9) 3 := by decide +kernel
theorem q19_4 : Dc B19 4 (.arraylength) 1 := by decide +kernel
theorem q19_5 : Dc B19 5 (.aload_n 0) 1 := by decide +kernel
theorem q19_6 : Dc B19 6 (.invokevirtual 335) 3 := by decide +kernel
theorem pd_6 : parseMethodDescriptor "()B" = some ⟨[], some .byte⟩ := by decide +kernel
theorem q19_9 : Dc B19 9 (.ishr) 1 := by decide +kernel
theorem q19_10 : Dc B19 10 (.ireturn) 1 := by decide +kernel
abbrev B20 := jdk_42_method_55_code
theorem q20_0 : Dc B20 0 (.aload_n 0) 1 := by decide +kernel
theorem q20_1 : Dc B20 1 (.getfield 9) 3 := by decide +kernel
theorem q20_4 : Dc B20 4 (.arraylength) 1 := by decide +kernel
theorem q20_5 : Dc B20 5 (.ifCond .ne 7) 3 := by decide +kernel
theorem q20_12 : Dc B20 12 (.iconst 0) 1 := by decide +kernel
theorem q20_13 : Dc B20 13 (.ireturn) 1 := by decide +kernel
abbrev B21 := jdk_68_method_9_code
theorem q21_0 : Dc B21 0 (.aload_n 0) 1 := by decide +kernel
theorem q21_1 : Dc B21 1 (.getfield 15) 3 := by decide +kernel
theorem q21_4 : Dc B21 4 (.arraylength) 1 := by decide +kernel
theorem q21_5 : Dc B21 5 (.aload_n 0) 1 := by decide +kernel
theorem q21_6 : Dc B21 6 (.getfield 22) 3 := by decide +kernel
theorem q21_9 : Dc B21 9 (.ishr) 1 := by decide +kernel
theorem q21_10 : Dc B21 10 (.istore_n 2) 1 := by decide +kernel
theorem q21_11 : Dc B21 11 (.iload_n 1) 1 := by decide +kernel
theorem q21_12 : Dc B21 12 (.iload_n 2) 1 := by decide +kernel
theorem q21_13 : Dc B21 13 (.isub) 1 := by decide +kernel
theorem q21_14 : Dc B21 14 (.ifCond .le 24) 3 := by decide +kernel
theorem q21_38 : Dc B21 38 (.return_) 1 := by decide +kernel
abbrev B22 := jdk_65_method_121_code
theorem q22_0 : Dc B22 0 (.iload_n 1) 1 := by decide +kernel
theorem q22_1 : Dc B22 1 (.aload_n 0) 1 := by decide +kernel
theorem q22_2 : Dc B22 2 (.arraylength) 1 := by decide +kernel
theorem q22_3 : Dc B22 3 (.if_icmp .ne 11) 3 := by decide +kernel
theorem q22_14 : Dc B22 14 (.iload_n 1) 1 := by decide +kernel
theorem q22_15 : Dc B22 15 (.newarray .byte) 2 := by decide +kernel
theorem q22_17 : Dc B22 17 (.astore_n 2) 1 := by decide +kernel
theorem q22_18 : Dc B22 18 (.aload_n 0) 1 := by decide +kernel
theorem q22_19 : Dc B22 19 (.iconst 0) 1 := by decide +kernel
theorem q22_20 : Dc B22 20 (.aload_n 2) 1 := by decide +kernel
theorem q22_21 : Dc B22 21 (.iconst 0) 1 := by decide +kernel
theorem q22_22 : Dc B22 22 (.aload_n 0) 1 := by decide +kernel
theorem q22_23 : Dc B22 23 (.arraylength) 1 := by decide +kernel
theorem q22_24 : Dc B22 24 (.iload_n 1) 1 := by decide +kernel
theorem q22_25 : Dc B22 25 (.invokestatic 304) 3 := by decide +kernel
theorem pd_7 : parseMethodDescriptor "(II)I" = some ⟨[.int, .int], some .int⟩ := by decide +kernel
theorem q22_28 : Dc B22 28 (.invokestatic 150) 3 := by decide +kernel
theorem q22_31 : Dc B22 31 (.aload_n 2) 1 := by decide +kernel
theorem q22_32 : Dc B22 32 (.areturn) 1 := by decide +kernel
abbrev B23 := jdk_48_method_27_code
theorem q23_0 : Dc B23 0 (.iload_n 0) 1 := by decide +kernel
theorem q23_1 : Dc B23 1 (.iload_n 1) 1 := by decide +kernel
theorem q23_2 : Dc B23 2 (.iload_n 2) 1 := by decide +kernel
theorem q23_3 : Dc B23 3 (.invokestatic 194) 3 := by decide +kernel
theorem q23_6 : Dc B23 6 (.iadd) 1 := by decide +kernel
theorem q23_7 : Dc B23 7 (.istore_n 3) 1 := by decide +kernel
theorem q23_8 : Dc B23 8 (.iconst 0) 1 := by decide +kernel
theorem q23_9 : Dc B23 9 (.iload_n 3) 1 := by decide +kernel
theorem q23_10 : Dc B23 10 (.if_icmp .ge 11) 3 := by decide +kernel
theorem q23_13 : Dc B23 13 (.iload_n 3) 1 := by decide +kernel
theorem q23_14 : Dc B23 14 (.ldc 200) 2 := by decide +kernel
theorem q23_16 : Dc B23 16 (.if_icmp .gt 5) 3 := by decide +kernel
theorem q23_19 : Dc B23 19 (.iload_n 3) 1 := by decide +kernel
theorem q23_20 : Dc B23 20 (.ireturn) 1 := by decide +kernel
abbrev B24 := jdk_68_method_10_code
theorem q24_0 : Dc B24 0 (.aload_n 0) 1 := by decide +kernel
theorem q24_1 : Dc B24 1 (.getfield 15) 3 := by decide +kernel
theorem q24_4 : Dc B24 4 (.arraylength) 1 := by decide +kernel
theorem q24_5 : Dc B24 5 (.istore_n 2) 1 := by decide +kernel
theorem q24_6 : Dc B24 6 (.iload_n 1) 1 := by decide +kernel
theorem q24_7 : Dc B24 7 (.aload_n 0) 1 := by decide +kernel
theorem q24_8 : Dc B24 8 (.getfield 22) 3 := by decide +kernel
theorem q24_11 : Dc B24 11 (.ishl) 1 := by decide +kernel
theorem q24_12 : Dc B24 12 (.istore_n 3) 1 := by decide +kernel
theorem q24_13 : Dc B24 13 (.iload_n 3) 1 := by decide +kernel
theorem q24_14 : Dc B24 14 (.iload_n 2) 1 := by decide +kernel
theorem q24_15 : Dc B24 15 (.isub) 1 := by decide +kernel
theorem q24_16 : Dc B24 16 (.istore 4) 2 := by decide +kernel
theorem q24_18 : Dc B24 18 (.iload_n 2) 1 := by decide +kernel
theorem q24_19 : Dc B24 19 (.iload 4) 2 := by decide +kernel
theorem q24_21 : Dc B24 21 (.iload_n 2) 1 := by decide +kernel
theorem q24_22 : Dc B24 22 (.iconst 2) 1 := by decide +kernel
theorem q24_23 : Dc B24 23 (.aload_n 0) 1 := by decide +kernel
theorem q24_24 : Dc B24 24 (.getfield 22) 3 := by decide +kernel
theorem q24_27 : Dc B24 27 (.ishl) 1 := by decide +kernel
theorem q24_28 : Dc B24 28 (.iadd) 1 := by decide +kernel
theorem q24_29 : Dc B24 29 (.invokestatic 114) 3 := by decide +kernel
theorem pd_8 : parseMethodDescriptor "(III)I" = some ⟨[.int, .int, .int], some .int⟩ := by decide +kernel
theorem q24_32 : Dc B24 32 (.istore 5) 2 := by decide +kernel
theorem q24_34 : Dc B24 34 (.iload 5) 2 := by decide +kernel
theorem q24_36 : Dc B24 36 (.ldc 39) 2 := by decide +kernel
theorem q24_38 : Dc B24 38 (.if_icmp .ne 13) 3 := by decide +kernel
theorem q24_51 : Dc B24 51 (.iload 5) 2 := by decide +kernel
theorem q24_53 : Dc B24 53 (.aload_n 0) 1 := by decide +kernel
theorem q24_54 : Dc B24 54 (.getfield 22) 3 := by decide +kernel
theorem q24_57 : Dc B24 57 (.ishr) 1 := by decide +kernel
theorem q24_58 : Dc B24 58 (.ireturn) 1 := by decide +kernel
theorem q21_17 : Dc B21 17 (.aload_n 0) 1 := by decide +kernel
theorem q21_18 : Dc B21 18 (.aload_n 0) 1 := by decide +kernel
theorem q21_19 : Dc B21 19 (.getfield 15) 3 := by decide +kernel
theorem q21_22 : Dc B21 22 (.aload_n 0) 1 := by decide +kernel
theorem q21_23 : Dc B21 23 (.iload_n 1) 1 := by decide +kernel
theorem q21_24 : Dc B21 24 (.invokevirtual 104) 3 := by decide +kernel
theorem pd_9 : parseMethodDescriptor "(I)I" = some ⟨[.int], some .int⟩ := by decide +kernel
theorem q21_27 : Dc B21 27 (.aload_n 0) 1 := by decide +kernel
theorem q21_28 : Dc B21 28 (.getfield 22) 3 := by decide +kernel
theorem q21_31 : Dc B21 31 (.ishl) 1 := by decide +kernel
theorem q21_32 : Dc B21 32 (.invokestatic 108) 3 := by decide +kernel
theorem pd_10 : parseMethodDescriptor "([BI)[B" = some ⟨[(.array .byte), .int], some (.array .byte)⟩ := by decide +kernel
theorem q21_35 : Dc B21 35 (.putfield 15) 3 := by decide +kernel
abbrev B25 := jdk_68_method_71_code
theorem q25_0 : Dc B25 0 (.getstatic 18) 3 := by decide +kernel
theorem q25_3 : Dc B25 3 (.ifCond .eq 18) 3 := by decide +kernel
theorem q25_6 : Dc B25 6 (.aload_n 0) 1 := by decide +kernel
theorem q25_7 : Dc B25 7 (.getfield 22) 3 := by decide +kernel
theorem q25_10 : Dc B25 10 (.aload_n 1) 1 := by decide +kernel
theorem q25_11 : Dc B25 11 (.invokevirtual 40) 3 := by decide +kernel
theorem q25_14 : Dc B25 14 (.if_icmp .eq 7) 3 := by decide +kernel
theorem q25_21 : Dc B25 21 (.return_) 1 := by decide +kernel
abbrev B26 := jdk_42_method_147_code
theorem q26_0 : Dc B26 0 (.aload_n 0) 1 := by decide +kernel
theorem q26_1 : Dc B26 1 (.invokevirtual 335) 3 := by decide +kernel
theorem q26_4 : Dc B26 4 (.iload_n 3) 1 := by decide +kernel
theorem q26_5 : Dc B26 5 (.if_icmp .ne 23) 3 := by decide +kernel
theorem q26_8 : Dc B26 8 (.aload_n 0) 1 := by decide +kernel
theorem q26_9 : Dc B26 9 (.getfield 9) 3 := by decide +kernel
theorem q26_12 : Dc B26 12 (.iconst 0) 1 := by decide +kernel
theorem q26_13 : Dc B26 13 (.aload_n 1) 1 := by decide +kernel
theorem q26_14 : Dc B26 14 (.iload_n 2) 1 := by decide +kernel
theorem q26_15 : Dc B26 15 (.iload_n 3) 1 := by decide +kernel
theorem q26_16 : Dc B26 16 (.ishl) 1 := by decide +kernel
theorem q26_17 : Dc B26 17 (.aload_n 0) 1 := by decide +kernel
theorem q26_18 : Dc B26 18 (.getfield 9) 3 := by decide +kernel
theorem q26_21 : Dc B26 21 (.arraylength) 1 := by decide +kernel
theorem q26_22 : Dc B26 22 (.invokestatic 212) 3 := by decide +kernel
theorem q26_25 : Dc B26 25 (.goto 18) 3 := by decide +kernel
theorem q26_43 : Dc B26 43 (.return_) 1 := by decide +kernel
abbrev B27 := jdk_68_method_73_code
theorem q27_0 : Dc B27 0 (.aload_n 0) 1 := by decide +kernel
theorem q27_1 : Dc B27 1 (.aload_n 2) 1 := by decide +kernel
theorem q27_2 : Dc B27 2 (.invokevirtual 397) 3 := by decide +kernel
theorem pd_11 : parseMethodDescriptor "(Ljava/lang/String;)V" = some ⟨[(.object "java/lang/String")], none⟩ := by decide +kernel
theorem q27_5 : Dc B27 5 (.aload_n 2) 1 := by decide +kernel
theorem q27_6 : Dc B27 6 (.aload_n 0) 1 := by decide +kernel
theorem q27_7 : Dc B27 7 (.getfield 15) 3 := by decide +kernel
theorem q27_10 : Dc B27 10 (.iload_n 1) 1 := by decide +kernel
theorem q27_11 : Dc B27 11 (.aload_n 0) 1 := by decide +kernel
theorem q27_12 : Dc B27 12 (.getfield 22) 3 := by decide +kernel
theorem q27_15 : Dc B27 15 (.invokevirtual 399) 3 := by decide +kernel
theorem pd_12 : parseMethodDescriptor "([BIB)V" = some ⟨[(.array .byte), .int, .byte], none⟩ := by decide +kernel
theorem q27_18 : Dc B27 18 (.return_) 1 := by decide +kernel
abbrev B28 := jdk_68_method_22_code
theorem q28_0 : Dc B28 0 (.aload_n 1) 1 := by decide +kernel
theorem q28_1 : Dc B28 1 (.ifnonnull 8) 3 := by decide +kernel
theorem q28_9 : Dc B28 9 (.aload_n 1) 1 := by decide +kernel
theorem q28_10 : Dc B28 10 (.invokevirtual 32) 3 := by decide +kernel
theorem pd_13 : parseMethodDescriptor "()I" = some ⟨[], some .int⟩ := by decide +kernel
theorem q28_13 : Dc B28 13 (.istore_n 2) 1 := by decide +kernel
theorem q28_14 : Dc B28 14 (.aload_n 0) 1 := by decide +kernel
theorem q28_15 : Dc B28 15 (.aload_n 0) 1 := by decide +kernel
theorem q28_16 : Dc B28 16 (.getfield 79) 3 := by decide +kernel
theorem q28_19 : Dc B28 19 (.iload_n 2) 1 := by decide +kernel
theorem q28_20 : Dc B28 20 (.iadd) 1 := by decide +kernel
theorem q28_21 : Dc B28 21 (.invokevirtual 100) 3 := by decide +kernel
theorem q28_24 : Dc B28 24 (.aload_n 0) 1 := by decide +kernel
theorem q28_25 : Dc B28 25 (.aload_n 0) 1 := by decide +kernel
theorem q28_26 : Dc B28 26 (.getfield 79) 3 := by decide +kernel
theorem q28_29 : Dc B28 29 (.aload_n 1) 1 := by decide +kernel
theorem q28_30 : Dc B28 30 (.invokevirtual 208) 3 := by decide +kernel
theorem pd_14 : parseMethodDescriptor "(ILjava/lang/String;)V" = some ⟨[.int, (.object "java/lang/String")], none⟩ := by decide +kernel
theorem q28_33 : Dc B28 33 (.aload_n 0) 1 := by decide +kernel
theorem q28_34 : Dc B28 34 (.dup) 1 := by decide +kernel
theorem q28_35 : Dc B28 35 (.getfield 79) 3 := by decide +kernel
theorem q28_38 : Dc B28 38 (.iload_n 2) 1 := by decide +kernel
theorem q28_39 : Dc B28 39 (.iadd) 1 := by decide +kernel
theorem q28_40 : Dc B28 40 (.putfield 79) 3 := by decide +kernel
theorem q28_43 : Dc B28 43 (.aload_n 0) 1 := by decide +kernel
theorem q28_44 : Dc B28 44 (.areturn) 1 := by decide +kernel
abbrev B29 := jdk_67_method_7_code
theorem q29_0 : Dc B29 0 (.aload_n 0) 1 := by decide +kernel
theorem q29_1 : Dc B29 1 (.aload_n 1) 1 := by decide +kernel
theorem q29_2 : Dc B29 2 (.invokespecial 29) 3 := by decide +kernel
theorem pd_15 : parseMethodDescriptor "(Ljava/lang/String;)Ljava/lang/AbstractStringBuilder;" = some ⟨[(.object "java/lang/String")], some (.object "java/lang/AbstractStringBuilder")⟩ := by decide +kernel
theorem q29_5 : Dc B29 5 (.pop) 1 := by decide +kernel
theorem q29_6 : Dc B29 6 (.aload_n 0) 1 := by decide +kernel
theorem q29_7 : Dc B29 7 (.areturn) 1 := by decide +kernel
abbrev B30 := jdk_68_method_68_code
theorem q30_0 : Dc B30 0 (.getstatic 18) 3 := by decide +kernel
theorem q30_3 : Dc B30 3 (.ifCond .eq 14) 3 := by decide +kernel
theorem q30_6 : Dc B30 6 (.aload_n 0) 1 := by decide +kernel
theorem q30_7 : Dc B30 7 (.getfield 22) 3 := by decide +kernel
theorem q30_10 : Dc B30 10 (.ifCond .ne 7) 3 := by decide +kernel
theorem q30_13 : Dc B30 13 (.iconst 1) 1 := by decide +kernel
theorem q30_14 : Dc B30 14 (.goto 4) 3 := by decide +kernel
theorem q30_18 : Dc B30 18 (.ireturn) 1 := by decide +kernel
abbrev B31 := jdk_68_method_31_code
theorem q31_0 : Dc B31 0 (.aload_n 0) 1 := by decide +kernel
theorem q31_1 : Dc B31 1 (.aload_n 0) 1 := by decide +kernel
theorem q31_2 : Dc B31 2 (.getfield 79) 3 := by decide +kernel
theorem q31_5 : Dc B31 5 (.iconst 1) 1 := by decide +kernel
theorem q31_6 : Dc B31 6 (.iadd) 1 := by decide +kernel
theorem q31_7 : Dc B31 7 (.invokevirtual 100) 3 := by decide +kernel
theorem q31_10 : Dc B31 10 (.aload_n 0) 1 := by decide +kernel
theorem q31_11 : Dc B31 11 (.invokevirtual 83) 3 := by decide +kernel
theorem pd_16 : parseMethodDescriptor "()Z" = some ⟨[], some .boolean⟩ := by decide +kernel
theorem q31_14 : Dc B31 14 (.ifCond .eq 31) 3 := by decide +kernel
theorem q31_17 : Dc B31 17 (.iload_n 1) 1 := by decide +kernel
theorem q31_18 : Dc B31 18 (.invokestatic 191) 3 := by decide +kernel
theorem q31_21 : Dc B31 21 (.ifCond .eq 24) 3 := by decide +kernel
theorem q31_24 : Dc B31 24 (.aload_n 0) 1 := by decide +kernel
theorem q31_25 : Dc B31 25 (.getfield 15) 3 := by decide +kernel
theorem q31_28 : Dc B31 28 (.aload_n 0) 1 := by decide +kernel
theorem q31_29 : Dc B31 29 (.dup) 1 := by decide +kernel
theorem q31_30 : Dc B31 30 (.getfield 79) 3 := by decide +kernel
theorem q31_33 : Dc B31 33 (.dup_x1) 1 := by decide +kernel
theorem q31_34 : Dc B31 34 (.iconst 1) 1 := by decide +kernel
theorem q31_35 : Dc B31 35 (.iadd) 1 := by decide +kernel
theorem q31_36 : Dc B31 36 (.putfield 79) 3 := by decide +kernel
theorem q31_39 : Dc B31 39 (.iload_n 1) 1 := by decide +kernel
theorem q31_40 : Dc B31 40 (.i2b) 1 := by decide +kernel
theorem q31_41 : Dc B31 41 (.bastore) 1 := by decide +kernel
theorem q31_42 : Dc B31 42 (.goto 33) 3 := by decide +kernel
theorem q31_75 : Dc B31 75 (.aload_n 0) 1 := by decide +kernel
theorem q31_76 : Dc B31 76 (.areturn) 1 := by decide +kernel
abbrev B32 := jdk_67_method_14_code
theorem q32_0 : Dc B32 0 (.aload_n 0) 1 := by decide +kernel
theorem q32_1 : Dc B32 1 (.iload_n 1) 1 := by decide +kernel
theorem q32_2 : Dc B32 2 (.invokespecial 50) 3 := by decide +kernel
theorem pd_17 : parseMethodDescriptor "(C)Ljava/lang/AbstractStringBuilder;" = some ⟨[.char], some (.object "java/lang/AbstractStringBuilder")⟩ := by decide +kernel
theorem q32_5 : Dc B32 5 (.pop) 1 := by decide +kernel
theorem q32_6 : Dc B32 6 (.aload_n 0) 1 := by decide +kernel
theorem q32_7 : Dc B32 7 (.areturn) 1 := by decide +kernel
abbrev B33 := jdk_68_method_64_code
theorem q33_0 : Dc B33 0 (.aload_n 0) 1 := by decide +kernel
theorem q33_1 : Dc B33 1 (.getfield 15) 3 := by decide +kernel
theorem q33_4 : Dc B33 4 (.areturn) 1 := by decide +kernel
abbrev B34 := jdk_68_method_6_code
theorem q34_0 : Dc B34 0 (.aload_n 0) 1 := by decide +kernel
theorem q34_1 : Dc B34 1 (.getfield 79) 3 := by decide +kernel
theorem q34_4 : Dc B34 4 (.ireturn) 1 := by decide +kernel
abbrev B35 := jdk_67_method_93_code
theorem q35_0 : Dc B35 0 (.aload_n 0) 1 := by decide +kernel
theorem q35_1 : Dc B35 1 (.invokespecial 343) 3 := by decide +kernel
theorem q35_4 : Dc B35 4 (.ireturn) 1 := by decide +kernel
abbrev B36 := jdk_65_method_131_code
theorem q36_0 : Dc B36 0 (.iload_n 1) 1 := by decide +kernel
theorem q36_1 : Dc B36 1 (.iload_n 0) 1 := by decide +kernel
theorem q36_2 : Dc B36 2 (.if_icmp .ge 35) 3 := by decide +kernel
theorem q36_37 : Dc B36 37 (.return_) 1 := by decide +kernel
abbrev B37 := jdk_65_method_133_code
theorem q37_0 : Dc B37 0 (.iload_n 1) 1 := by decide +kernel
theorem q37_1 : Dc B37 1 (.iload_n 2) 1 := by decide +kernel
theorem q37_2 : Dc B37 2 (.invokestatic 343) 3 := by decide +kernel
theorem pd_18 : parseMethodDescriptor "(II)V" = some ⟨[.int, .int], none⟩ := by decide +kernel
theorem q37_5 : Dc B37 5 (.iload_n 2) 1 := by decide +kernel
theorem q37_6 : Dc B37 6 (.iload_n 1) 1 := by decide +kernel
theorem q37_7 : Dc B37 7 (.isub) 1 := by decide +kernel
theorem q37_8 : Dc B37 8 (.istore_n 3) 1 := by decide +kernel
theorem q37_9 : Dc B37 9 (.iload_n 3) 1 := by decide +kernel
theorem q37_10 : Dc B37 10 (.newarray .byte) 2 := by decide +kernel
theorem q37_12 : Dc B37 12 (.astore 4) 2 := by decide +kernel
theorem q37_14 : Dc B37 14 (.aload_n 0) 1 := by decide +kernel
theorem q37_15 : Dc B37 15 (.iload_n 1) 1 := by decide +kernel
theorem q37_16 : Dc B37 16 (.aload 4) 2 := by decide +kernel
theorem q37_18 : Dc B37 18 (.iconst 0) 1 := by decide +kernel
theorem q37_19 : Dc B37 19 (.aload_n 0) 1 := by decide +kernel
theorem q37_20 : Dc B37 20 (.arraylength) 1 := by decide +kernel
theorem q37_21 : Dc B37 21 (.iload_n 1) 1 := by decide +kernel
theorem q37_22 : Dc B37 22 (.isub) 1 := by decide +kernel
theorem q37_23 : Dc B37 23 (.iload_n 3) 1 := by decide +kernel
theorem q37_24 : Dc B37 24 (.invokestatic 304) 3 := by decide +kernel
theorem q37_27 : Dc B37 27 (.invokestatic 150) 3 := by decide +kernel
theorem q37_30 : Dc B37 30 (.aload 4) 2 := by decide +kernel
theorem q37_32 : Dc B37 32 (.areturn) 1 := by decide +kernel
abbrev B38 := jdk_65_method_132_code
theorem q38_0 : Dc B38 0 (.iload_n 1) 1 := by decide +kernel
theorem q38_1 : Dc B38 1 (.ifCond .ne 9) 3 := by decide +kernel
theorem q38_4 : Dc B38 4 (.iload_n 2) 1 := by decide +kernel
theorem q38_5 : Dc B38 5 (.aload_n 0) 1 := by decide +kernel
theorem q38_6 : Dc B38 6 (.arraylength) 1 := by decide +kernel
theorem q38_7 : Dc B38 7 (.if_icmp .eq 10) 3 := by decide +kernel
theorem q38_10 : Dc B38 10 (.aload_n 0) 1 := by decide +kernel
theorem q38_11 : Dc B38 11 (.iload_n 1) 1 := by decide +kernel
theorem q38_12 : Dc B38 12 (.iload_n 2) 1 := by decide +kernel
theorem q38_13 : Dc B38 13 (.invokestatic 339) 3 := by decide +kernel
theorem pd_19 : parseMethodDescriptor "([BII)[B" = some ⟨[(.array .byte), .int, .int], some (.array .byte)⟩ := by decide +kernel
theorem q38_16 : Dc B38 16 (.areturn) 1 := by decide +kernel
abbrev B39 := jdk_42_method_150_code
theorem q39_0 : Dc B39 0 (.aload_n 0) 1 := by decide +kernel
theorem q39_1 : Dc B39 1 (.invokespecial 1) 3 := by decide +kernel
theorem q39_4 : Dc B39 4 (.aload_n 1) 1 := by decide +kernel
theorem q39_5 : Dc B39 5 (.invokevirtual 552) 3 := by decide +kernel
theorem pd_20 : parseMethodDescriptor "()[B" = some ⟨[], some (.array .byte)⟩ := by decide +kernel
theorem q39_8 : Dc B39 8 (.astore_n 3) 1 := by decide +kernel
theorem q39_9 : Dc B39 9 (.aload_n 1) 1 := by decide +kernel
theorem q39_10 : Dc B39 10 (.invokevirtual 549) 3 := by decide +kernel
theorem q39_13 : Dc B39 13 (.istore 4) 2 := by decide +kernel
theorem q39_15 : Dc B39 15 (.aload_n 1) 1 := by decide +kernel
theorem q39_16 : Dc B39 16 (.invokevirtual 1047) 3 := by decide +kernel
theorem q39_19 : Dc B39 19 (.ifCond .eq 22) 3 := by decide +kernel
theorem q39_22 : Dc B39 22 (.aload_n 0) 1 := by decide +kernel
theorem q39_23 : Dc B39 23 (.iconst 0) 1 := by decide +kernel
theorem q39_24 : Dc B39 24 (.putfield 15) 3 := by decide +kernel
theorem q39_27 : Dc B39 27 (.aload_n 0) 1 := by decide +kernel
theorem q39_28 : Dc B39 28 (.aload_n 3) 1 := by decide +kernel
theorem q39_29 : Dc B39 29 (.iconst 0) 1 := by decide +kernel
theorem q39_30 : Dc B39 30 (.iload 4) 2 := by decide +kernel
theorem q39_32 : Dc B39 32 (.invokestatic 54) 3 := by decide +kernel
theorem q39_35 : Dc B39 35 (.putfield 9) 3 := by decide +kernel
theorem q39_38 : Dc B39 38 (.goto 59) 3 := by decide +kernel
theorem q39_97 : Dc B39 97 (.return_) 1 := by decide +kernel
abbrev B40 := jdk_42_method_53_code
theorem q40_0 : Dc B40 0 (.aload_n 0) 1 := by decide +kernel
theorem q40_1 : Dc B40 1 (.aload_n 1) 1 := by decide +kernel
theorem q40_2 : Dc B40 2 (.aconst_null) 1 := by decide +kernel
theorem q40_3 : Dc B40 3 (.invokespecial 489) 3 := by decide +kernel
theorem pd_21 : parseMethodDescriptor "(Ljava/lang/AbstractStringBuilder;Ljava/lang/Void;)V" = some ⟨[(.object "java/lang/AbstractStringBuilder"), (.object "java/lang/Void")], none⟩ := by decide +kernel
theorem q40_6 : Dc B40 6 (.return_) 1 := by decide +kernel
abbrev B41 := jdk_67_method_42_code
theorem q41_0 : Dc B41 0 (.new 18) 3 := by decide +kernel
theorem q41_3 : Dc B41 3 (.dup) 1 := by decide +kernel
theorem q41_4 : Dc B41 4 (.aload_n 0) 1 := by decide +kernel
theorem q41_5 : Dc B41 5 (.invokespecial 137) 3 := by decide +kernel
theorem pd_22 : parseMethodDescriptor "(Ljava/lang/StringBuilder;)V" = some ⟨[(.object "java/lang/StringBuilder")], none⟩ := by decide +kernel
theorem q41_8 : Dc B41 8 (.areturn) 1 := by decide +kernel
abbrev B42 := jdk_42_method_145_code
theorem q42_0 : Dc B42 0 (.iload_n 1) 1 := by decide +kernel
theorem q42_1 : Dc B42 1 (.ifCond .ge 31) 3 := by decide +kernel
theorem q42_32 : Dc B42 32 (.iload_n 1) 1 := by decide +kernel
theorem q42_33 : Dc B42 33 (.iconst 1) 1 := by decide +kernel
theorem q42_34 : Dc B42 34 (.if_icmp .ne 5) 3 := by decide +kernel
theorem q42_37 : Dc B42 37 (.aload_n 0) 1 := by decide +kernel
theorem q42_38 : Dc B42 38 (.areturn) 1 := by decide +kernel
abbrev B43 := jdk_42_method_146_code
theorem q43_0 : Dc B43 0 (.iload_n 3) 1 := by decide +kernel
theorem q43_1 : Dc B43 1 (.iload_n 2) 1 := by decide +kernel
theorem q43_2 : Dc B43 2 (.iload_n 3) 1 := by decide +kernel
theorem q43_3 : Dc B43 3 (.isub) 1 := by decide +kernel
theorem q43_4 : Dc B43 4 (.if_icmp .ge 20) 3 := by decide +kernel
theorem q43_24 : Dc B43 24 (.aload_n 0) 1 := by decide +kernel
theorem q43_25 : Dc B43 25 (.iload_n 1) 1 := by decide +kernel
theorem q43_26 : Dc B43 26 (.aload_n 0) 1 := by decide +kernel
theorem q43_27 : Dc B43 27 (.iload_n 1) 1 := by decide +kernel
theorem q43_28 : Dc B43 28 (.iload_n 3) 1 := by decide +kernel
theorem q43_29 : Dc B43 29 (.iadd) 1 := by decide +kernel
theorem q43_30 : Dc B43 30 (.iload_n 2) 1 := by decide +kernel
theorem q43_31 : Dc B43 31 (.iload_n 3) 1 := by decide +kernel
theorem q43_32 : Dc B43 32 (.isub) 1 := by decide +kernel
theorem q43_33 : Dc B43 33 (.invokestatic 212) 3 := by decide +kernel
theorem q43_36 : Dc B43 36 (.return_) 1 := by decide +kernel
theorem q42_39 : Dc B42 39 (.aload_n 0) 1 := by decide +kernel
theorem q42_40 : Dc B42 40 (.getfield 9) 3 := by decide +kernel
theorem q42_43 : Dc B42 43 (.arraylength) 1 := by decide +kernel
theorem q42_44 : Dc B42 44 (.istore_n 2) 1 := by decide +kernel
theorem q42_45 : Dc B42 45 (.iload_n 2) 1 := by decide +kernel
theorem q42_46 : Dc B42 46 (.ifCond .eq 7) 3 := by decide +kernel
theorem q42_49 : Dc B42 49 (.iload_n 1) 1 := by decide +kernel
theorem q42_50 : Dc B42 50 (.ifCond .ne 6) 3 := by decide +kernel
theorem q42_56 : Dc B42 56 (.ldc_w 943) 3 := by decide +kernel
theorem q42_59 : Dc B42 59 (.iload_n 1) 1 := by decide +kernel
theorem q42_60 : Dc B42 60 (.idiv) 1 := by decide +kernel
theorem q42_61 : Dc B42 61 (.iload_n 2) 1 := by decide +kernel
theorem q42_62 : Dc B42 62 (.if_icmp .ge 14) 3 := by decide +kernel
theorem q42_76 : Dc B42 76 (.iload_n 2) 1 := by decide +kernel
theorem q42_77 : Dc B42 77 (.iconst 1) 1 := by decide +kernel
theorem q42_78 : Dc B42 78 (.if_icmp .ne 30) 3 := by decide +kernel
theorem q42_108 : Dc B42 108 (.iload_n 2) 1 := by decide +kernel
theorem q42_109 : Dc B42 109 (.iload_n 1) 1 := by decide +kernel
theorem q42_110 : Dc B42 110 (.imul) 1 := by decide +kernel
theorem q42_111 : Dc B42 111 (.istore_n 3) 1 := by decide +kernel
theorem q42_112 : Dc B42 112 (.iload_n 3) 1 := by decide +kernel
theorem q42_113 : Dc B42 113 (.newarray .byte) 2 := by decide +kernel
theorem q42_115 : Dc B42 115 (.astore 4) 2 := by decide +kernel
theorem q42_117 : Dc B42 117 (.aload_n 0) 1 := by decide +kernel
theorem q42_118 : Dc B42 118 (.getfield 9) 3 := by decide +kernel
theorem q42_121 : Dc B42 121 (.iconst 0) 1 := by decide +kernel
theorem q42_122 : Dc B42 122 (.aload 4) 2 := by decide +kernel
theorem q42_124 : Dc B42 124 (.iconst 0) 1 := by decide +kernel
theorem q42_125 : Dc B42 125 (.iload_n 2) 1 := by decide +kernel
theorem q42_126 : Dc B42 126 (.invokestatic 212) 3 := by decide +kernel
theorem q42_129 : Dc B42 129 (.aload 4) 2 := by decide +kernel
theorem q42_131 : Dc B42 131 (.iconst 0) 1 := by decide +kernel
theorem q42_132 : Dc B42 132 (.iload_n 3) 1 := by decide +kernel
theorem q42_133 : Dc B42 133 (.iload_n 2) 1 := by decide +kernel
theorem q42_134 : Dc B42 134 (.invokestatic 1044) 3 := by decide +kernel
theorem pd_23 : parseMethodDescriptor "([BIII)V" = some ⟨[(.array .byte), .int, .int, .int], none⟩ := by decide +kernel
theorem q42_137 : Dc B42 137 (.new 10) 3 := by decide +kernel
theorem q42_140 : Dc B42 140 (.dup) 1 := by decide +kernel
theorem q42_141 : Dc B42 141 (.aload 4) 2 := by decide +kernel
theorem q42_143 : Dc B42 143 (.aload_n 0) 1 := by decide +kernel
theorem q42_144 : Dc B42 144 (.getfield 15) 3 := by decide +kernel
theorem q42_147 : Dc B42 147 (.invokespecial 209) 3 := by decide +kernel
theorem q42_150 : Dc B42 150 (.areturn) 1 := by decide +kernel
theorem q43_7 : Dc B43 7 (.aload_n 0) 1 := by decide +kernel
theorem q43_8 : Dc B43 8 (.iload_n 1) 1 := by decide +kernel
theorem q43_9 : Dc B43 9 (.aload_n 0) 1 := by decide +kernel
theorem q43_10 : Dc B43 10 (.iload_n 1) 1 := by decide +kernel
theorem q43_11 : Dc B43 11 (.iload_n 3) 1 := by decide +kernel
theorem q43_12 : Dc B43 12 (.iadd) 1 := by decide +kernel
theorem q43_13 : Dc B43 13 (.iload_n 3) 1 := by decide +kernel
theorem q43_14 : Dc B43 14 (.invokestatic 212) 3 := by decide +kernel
theorem q43_17 : Dc B43 17 (.iload_n 3) 1 := by decide +kernel
theorem q43_18 : Dc B43 18 (.iconst 1) 1 := by decide +kernel
theorem q43_19 : Dc B43 19 (.ishl) 1 := by decide +kernel
theorem q43_20 : Dc B43 20 (.istore_n 3) 1 := by decide +kernel
theorem q43_21 : Dc B43 21 (.goto (-21)) 3 := by decide +kernel
abbrev B44 := jdk_38_method_6_code
theorem q44_0 : Dc B44 0 (.aload_n 0) 1 := by decide +kernel
theorem q44_1 : Dc B44 1 (.getfield 9) 3 := by decide +kernel
theorem q44_4 : Dc B44 4 (.arraylength) 1 := by decide +kernel
theorem q44_5 : Dc B44 5 (.istore_n 2) 1 := by decide +kernel
theorem q44_6 : Dc B44 6 (.iload_n 2) 1 := by decide +kernel
theorem q44_7 : Dc B44 7 (.ifCond .gt 13) 3 := by decide +kernel
theorem q44_10 : Dc B44 10 (.aload_n 0) 1 := by decide +kernel
theorem q44_11 : Dc B44 11 (.getfield 9) 3 := by decide +kernel
theorem q44_14 : Dc B44 14 (.getstatic 39) 3 := by decide +kernel
theorem q44_17 : Dc B44 17 (.if_acmp .eq 28) 3 := by decide +kernel
theorem q44_45 : Dc B44 45 (.aload_n 0) 1 := by decide +kernel
theorem q44_46 : Dc B44 46 (.bipush 10) 2 := by decide +kernel
theorem q44_48 : Dc B44 48 (.iload_n 1) 1 := by decide +kernel
theorem q44_49 : Dc B44 49 (.invokestatic 79) 3 := by decide +kernel
theorem q44_52 : Dc B44 52 (.anewarray 7) 3 := by decide +kernel
theorem q44_55 : Dc B44 55 (.dup_x1) 1 := by decide +kernel
theorem q44_56 : Dc B44 56 (.putfield 9) 3 := by decide +kernel
theorem q44_59 : Dc B44 59 (.areturn) 1 := by decide +kernel
abbrev B45 := jdk_38_method_7_code
theorem q45_0 : Dc B45 0 (.aload_n 0) 1 := by decide +kernel
theorem q45_1 : Dc B45 1 (.aload_n 0) 1 := by decide +kernel
theorem q45_2 : Dc B45 2 (.getfield 48) 3 := by decide +kernel
theorem q45_5 : Dc B45 5 (.iconst 1) 1 := by decide +kernel
theorem q45_6 : Dc B45 6 (.iadd) 1 := by decide +kernel
theorem q45_7 : Dc B45 7 (.invokevirtual 69) 3 := by decide +kernel
theorem pd_24 : parseMethodDescriptor "(I)[Ljava/lang/Object;" = some ⟨[.int], some (.array (.object "java/lang/Object"))⟩ := by decide +kernel
theorem q45_10 : Dc B45 10 (.areturn) 1 := by decide +kernel
abbrev B46 := jdk_38_method_24_code
theorem q46_0 : Dc B46 0 (.iload_n 3) 1 := by decide +kernel
theorem q46_1 : Dc B46 1 (.aload_n 2) 1 := by decide +kernel
theorem q46_2 : Dc B46 2 (.arraylength) 1 := by decide +kernel
theorem q46_3 : Dc B46 3 (.if_icmp .ne 8) 3 := by decide +kernel
theorem q46_6 : Dc B46 6 (.aload_n 0) 1 := by decide +kernel
theorem q46_7 : Dc B46 7 (.invokevirtual 129) 3 := by decide +kernel
theorem pd_25 : parseMethodDescriptor "()[Ljava/lang/Object;" = some ⟨[], some (.array (.object "java/lang/Object"))⟩ := by decide +kernel
theorem q46_10 : Dc B46 10 (.astore_n 2) 1 := by decide +kernel
theorem q46_11 : Dc B46 11 (.aload_n 2) 1 := by decide +kernel
theorem q46_12 : Dc B46 12 (.iload_n 3) 1 := by decide +kernel
theorem q46_13 : Dc B46 13 (.aload_n 1) 1 := by decide +kernel
theorem q46_14 : Dc B46 14 (.aastore) 1 := by decide +kernel
theorem q46_15 : Dc B46 15 (.aload_n 0) 1 := by decide +kernel
theorem q46_16 : Dc B46 16 (.iload_n 3) 1 := by decide +kernel
theorem q46_17 : Dc B46 17 (.iconst 1) 1 := by decide +kernel
theorem q46_18 : Dc B46 18 (.iadd) 1 := by decide +kernel
theorem q46_19 : Dc B46 19 (.putfield 48) 3 := by decide +kernel
theorem q46_22 : Dc B46 22 (.return_) 1 := by decide +kernel
abbrev B47 := jdk_38_method_25_code
theorem q47_0 : Dc B47 0 (.aload_n 0) 1 := by decide +kernel
theorem q47_1 : Dc B47 1 (.dup) 1 := by decide +kernel
theorem q47_2 : Dc B47 2 (.getfield 63) 3 := by decide +kernel
theorem q47_5 : Dc B47 5 (.iconst 1) 1 := by decide +kernel
theorem q47_6 : Dc B47 6 (.iadd) 1 := by decide +kernel
theorem q47_7 : Dc B47 7 (.putfield 63) 3 := by decide +kernel
theorem q47_10 : Dc B47 10 (.aload_n 0) 1 := by decide +kernel
theorem q47_11 : Dc B47 11 (.aload_n 1) 1 := by decide +kernel
theorem q47_12 : Dc B47 12 (.aload_n 0) 1 := by decide +kernel
theorem q47_13 : Dc B47 13 (.getfield 9) 3 := by decide +kernel
theorem q47_16 : Dc B47 16 (.aload_n 0) 1 := by decide +kernel
theorem q47_17 : Dc B47 17 (.getfield 48) 3 := by decide +kernel
theorem q47_20 : Dc B47 20 (.invokevirtual 131) 3 := by decide +kernel
theorem pd_26 : parseMethodDescriptor "(Ljava/lang/Object;[Ljava/lang/Object;I)V" = some ⟨[(.object "java/lang/Object"), (.array (.object "java/lang/Object")), .int], none⟩ := by decide +kernel
theorem q47_23 : Dc B47 23 (.iconst 1) 1 := by decide +kernel
theorem q47_24 : Dc B47 24 (.ireturn) 1 := by decide +kernel
abbrev B48 := jdk_49_method_1_code
theorem q48_0 : Dc B48 0 (.aload_n 0) 1 := by decide +kernel
theorem q48_1 : Dc B48 1 (.aload_n 1) 1 := by decide +kernel
theorem q48_2 : Dc B48 2 (.putfield 1) 3 := by decide +kernel
theorem q48_5 : Dc B48 5 (.aload_n 0) 1 := by decide +kernel
theorem q48_6 : Dc B48 6 (.invokespecial 7) 3 := by decide +kernel
theorem q48_9 : Dc B48 9 (.aload_n 0) 1 := by decide +kernel
theorem q48_10 : Dc B48 10 (.iconst (-1)) 1 := by decide +kernel
theorem q48_11 : Dc B48 11 (.putfield 13) 3 := by decide +kernel
theorem q48_14 : Dc B48 14 (.aload_n 0) 1 := by decide +kernel
theorem q48_15 : Dc B48 15 (.aload_n 0) 1 := by decide +kernel
theorem q48_16 : Dc B48 16 (.getfield 1) 3 := by decide +kernel
theorem q48_19 : Dc B48 19 (.getfield 17) 3 := by decide +kernel
theorem q48_22 : Dc B48 22 (.putfield 22) 3 := by decide +kernel
theorem q48_25 : Dc B48 25 (.return_) 1 := by decide +kernel
abbrev B49 := jdk_38_method_55_code
theorem q49_0 : Dc B49 0 (.new 267) 3 := by decide +kernel
theorem q49_3 : Dc B49 3 (.dup) 1 := by decide +kernel
theorem q49_4 : Dc B49 4 (.aload_n 0) 1 := by decide +kernel
theorem q49_5 : Dc B49 5 (.invokespecial 269) 3 := by decide +kernel
theorem pd_27 : parseMethodDescriptor "(Ljava/util/ArrayList;)V" = some ⟨[(.object "java/util/ArrayList")], none⟩ := by decide +kernel
theorem q49_8 : Dc B49 8 (.areturn) 1 := by decide +kernel
abbrev B50 := jdk_49_method_2_code
theorem q50_0 : Dc B50 0 (.aload_n 0) 1 := by decide +kernel
theorem q50_1 : Dc B50 1 (.getfield 25) 3 := by decide +kernel
theorem q50_4 : Dc B50 4 (.aload_n 0) 1 := by decide +kernel
theorem q50_5 : Dc B50 5 (.getfield 1) 3 := by decide +kernel
theorem q50_8 : Dc B50 8 (.getfield 28) 3 := by decide +kernel
theorem q50_11 : Dc B50 11 (.if_icmp .eq 7) 3 := by decide +kernel
theorem q50_14 : Dc B50 14 (.iconst 1) 1 := by decide +kernel
theorem q50_15 : Dc B50 15 (.goto 4) 3 := by decide +kernel
theorem q50_19 : Dc B50 19 (.ireturn) 1 := by decide +kernel
theorem q50_18 : Dc B50 18 (.iconst 0) 1 := by decide +kernel
abbrev B51 := jdk_49_method_6_code
theorem q51_0 : Dc B51 0 (.aload_n 0) 1 := by decide +kernel
theorem q51_1 : Dc B51 1 (.getfield 1) 3 := by decide +kernel
theorem q51_4 : Dc B51 4 (.getfield 17) 3 := by decide +kernel
theorem q51_7 : Dc B51 7 (.aload_n 0) 1 := by decide +kernel
theorem q51_8 : Dc B51 8 (.getfield 22) 3 := by decide +kernel
theorem q51_11 : Dc B51 11 (.if_icmp .eq 11) 3 := by decide +kernel
theorem q51_22 : Dc B51 22 (.return_) 1 := by decide +kernel
abbrev B52 := jdk_49_method_3_code
theorem q52_0 : Dc B52 0 (.aload_n 0) 1 := by decide +kernel
theorem q52_1 : Dc B52 1 (.invokevirtual 31) 3 := by decide +kernel
theorem q52_4 : Dc B52 4 (.aload_n 0) 1 := by decide +kernel
theorem q52_5 : Dc B52 5 (.getfield 25) 3 := by decide +kernel
theorem q52_8 : Dc B52 8 (.istore_n 1) 1 := by decide +kernel
theorem q52_9 : Dc B52 9 (.iload_n 1) 1 := by decide +kernel
theorem q52_10 : Dc B52 10 (.aload_n 0) 1 := by decide +kernel
theorem q52_11 : Dc B52 11 (.getfield 1) 3 := by decide +kernel
theorem q52_14 : Dc B52 14 (.getfield 28) 3 := by decide +kernel
theorem q52_17 : Dc B52 17 (.if_icmp .lt 11) 3 := by decide +kernel
theorem q52_28 : Dc B52 28 (.aload_n 0) 1 := by decide +kernel
theorem q52_29 : Dc B52 29 (.getfield 1) 3 := by decide +kernel
theorem q52_32 : Dc B52 32 (.getfield 37) 3 := by decide +kernel
theorem q52_35 : Dc B52 35 (.astore_n 2) 1 := by decide +kernel
theorem q52_36 : Dc B52 36 (.iload_n 1) 1 := by decide +kernel
theorem q52_37 : Dc B52 37 (.aload_n 2) 1 := by decide +kernel
theorem q52_38 : Dc B52 38 (.arraylength) 1 := by decide +kernel
theorem q52_39 : Dc B52 39 (.if_icmp .lt 11) 3 := by decide +kernel
theorem q52_50 : Dc B52 50 (.aload_n 0) 1 := by decide +kernel
theorem q52_51 : Dc B52 51 (.iload_n 1) 1 := by decide +kernel
theorem q52_52 : Dc B52 52 (.iconst 1) 1 := by decide +kernel
theorem q52_53 : Dc B52 53 (.iadd) 1 := by decide +kernel
theorem q52_54 : Dc B52 54 (.putfield 25) 3 := by decide +kernel
theorem q52_57 : Dc B52 57 (.aload_n 2) 1 := by decide +kernel
theorem q52_58 : Dc B52 58 (.aload_n 0) 1 := by decide +kernel
theorem q52_59 : Dc B52 59 (.iload_n 1) 1 := by decide +kernel
theorem q52_60 : Dc B52 60 (.dup_x1) 1 := by decide +kernel
theorem q52_61 : Dc B52 61 (.putfield 13) 3 := by decide +kernel
theorem q52_64 : Dc B52 64 (.aaload) 1 := by decide +kernel
theorem q52_65 : Dc B52 65 (.areturn) 1 := by decide +kernel
abbrev B53 := jdk_2741_method_1_code
theorem q53_0 : Dc B53 0 (.aload_n 0) 1 := by decide +kernel
theorem q53_1 : Dc B53 1 (.invokespecial 1) 3 := by decide +kernel
theorem q53_4 : Dc B53 4 (.aload_n 0) 1 := by decide +kernel
theorem q53_5 : Dc B53 5 (.aload_n 1) 1 := by decide +kernel
theorem q53_6 : Dc B53 6 (.putfield 7) 3 := by decide +kernel
theorem q53_9 : Dc B53 9 (.return_) 1 := by decide +kernel
abbrev B54 := jdk_2729_method_50_code
theorem q54_0 : Dc B54 0 (.aload_n 0) 1 := by decide +kernel
theorem q54_1 : Dc B54 1 (.getfield 191) 3 := by decide +kernel
theorem q54_4 : Dc B54 4 (.astore_n 1) 1 := by decide +kernel
theorem q54_5 : Dc B54 5 (.aload_n 1) 1 := by decide +kernel
theorem q54_6 : Dc B54 6 (.ifnull 7) 3 := by decide +kernel
theorem q54_13 : Dc B54 13 (.aload_n 0) 1 := by decide +kernel
theorem q54_14 : Dc B54 14 (.new 222) 3 := by decide +kernel
theorem q54_17 : Dc B54 17 (.dup) 1 := by decide +kernel
theorem q54_18 : Dc B54 18 (.aload_n 0) 1 := by decide +kernel
theorem q54_19 : Dc B54 19 (.invokespecial 224) 3 := by decide +kernel
theorem q54_22 : Dc B54 22 (.dup_x1) 1 := by decide +kernel
theorem q54_23 : Dc B54 23 (.putfield 191) 3 := by decide +kernel
theorem q54_26 : Dc B54 26 (.areturn) 1 := by decide +kernel
abbrev B55 := jdk_2729_method_72_code
theorem q55_0 : Dc B55 0 (.aload_n 0) 1 := by decide +kernel
theorem q55_1 : Dc B55 1 (.getfield 101) 3 := by decide +kernel
theorem q55_4 : Dc B55 4 (.astore_n 1) 1 := by decide +kernel
theorem q55_5 : Dc B55 5 (.aload_n 1) 1 := by decide +kernel
theorem q55_6 : Dc B55 6 (.ifnull 18) 3 := by decide +kernel
theorem q55_24 : Dc B55 24 (.aload_n 1) 1 := by decide +kernel
theorem q55_25 : Dc B55 25 (.areturn) 1 := by decide +kernel
abbrev B56 := jdk_2750_method_1_code
theorem q56_0 : Dc B56 0 (.aload_n 0) 1 := by decide +kernel
theorem q56_1 : Dc B56 1 (.aload_n 1) 1 := by decide +kernel
theorem q56_2 : Dc B56 2 (.putfield 1) 3 := by decide +kernel
theorem q56_5 : Dc B56 5 (.aload_n 0) 1 := by decide +kernel
theorem q56_6 : Dc B56 6 (.invokespecial 7) 3 := by decide +kernel
theorem q56_9 : Dc B56 9 (.aload_n 0) 1 := by decide +kernel
theorem q56_10 : Dc B56 10 (.aload_n 1) 1 := by decide +kernel
theorem q56_11 : Dc B56 11 (.getfield 13) 3 := by decide +kernel
theorem q56_14 : Dc B56 14 (.putfield 19) 3 := by decide +kernel
theorem q56_17 : Dc B56 17 (.aload_n 0) 1 := by decide +kernel
theorem q56_18 : Dc B56 18 (.aconst_null) 1 := by decide +kernel
theorem q56_19 : Dc B56 19 (.putfield 22) 3 := by decide +kernel
theorem q56_22 : Dc B56 22 (.aload_n 0) 1 := by decide +kernel
theorem q56_23 : Dc B56 23 (.aload_n 2) 1 := by decide +kernel
theorem q56_24 : Dc B56 24 (.putfield 26) 3 := by decide +kernel
theorem q56_27 : Dc B56 27 (.return_) 1 := by decide +kernel
abbrev B57 := jdk_2740_method_1_code
theorem q57_0 : Dc B57 0 (.aload_n 0) 1 := by decide +kernel
theorem q57_1 : Dc B57 1 (.aload_n 1) 1 := by decide +kernel
theorem q57_2 : Dc B57 2 (.aload_n 2) 1 := by decide +kernel
theorem q57_3 : Dc B57 3 (.invokespecial 1) 3 := by decide +kernel
theorem pd_28 : parseMethodDescriptor "(Ljava/util/TreeMap;Ljava/util/TreeMap$Entry;)V" = some ⟨[(.object "java/util/TreeMap"), (.object "java/util/TreeMap$Entry")], none⟩ := by decide +kernel
theorem q57_6 : Dc B57 6 (.return_) 1 := by decide +kernel
abbrev B58 := jdk_2729_method_65_code
theorem q58_0 : Dc B58 0 (.new 269) 3 := by decide +kernel
theorem q58_3 : Dc B58 3 (.dup) 1 := by decide +kernel
theorem q58_4 : Dc B58 4 (.aload_n 0) 1 := by decide +kernel
theorem q58_5 : Dc B58 5 (.aload_n 0) 1 := by decide +kernel
theorem q58_6 : Dc B58 6 (.invokevirtual 54) 3 := by decide +kernel
theorem pd_29 : parseMethodDescriptor "()Ljava/util/TreeMap$Entry;" = some ⟨[], some (.object "java/util/TreeMap$Entry")⟩ := by decide +kernel
theorem q58_9 : Dc B58 9 (.invokespecial 271) 3 := by decide +kernel
theorem q58_12 : Dc B58 12 (.areturn) 1 := by decide +kernel
abbrev B59 := jdk_2741_method_2_code
theorem q59_0 : Dc B59 0 (.aload_n 0) 1 := by decide +kernel
theorem q59_1 : Dc B59 1 (.getfield 7) 3 := by decide +kernel
theorem q59_4 : Dc B59 4 (.instanceof 13) 3 := by decide +kernel
theorem q59_7 : Dc B59 7 (.ifCond .eq 14) 3 := by decide +kernel
theorem q59_10 : Dc B59 10 (.aload_n 0) 1 := by decide +kernel
theorem q59_11 : Dc B59 11 (.getfield 7) 3 := by decide +kernel
theorem q59_14 : Dc B59 14 (.checkcast 13) 3 := by decide +kernel
theorem q59_17 : Dc B59 17 (.invokevirtual 15) 3 := by decide +kernel
theorem pd_30 : parseMethodDescriptor "()Ljava/util/Iterator;" = some ⟨[], some (.object "java/util/Iterator")⟩ := by decide +kernel
theorem q59_20 : Dc B59 20 (.areturn) 1 := by decide +kernel
abbrev B60 := jdk_2756_method_6_code
theorem q60_0 : Dc B60 0 (.aload_n 0) 1 := by decide +kernel
theorem q60_1 : Dc B60 1 (.getfield 7) 3 := by decide +kernel
theorem q60_4 : Dc B60 4 (.invokeinterface 34 1) 5 := by decide +kernel
theorem pd_31 : parseMethodDescriptor "()Ljava/util/NavigableSet;" = some ⟨[], some (.object "java/util/NavigableSet")⟩ := by decide +kernel
theorem q60_9 : Dc B60 9 (.invokeinterface 40 1) 5 := by decide +kernel
theorem q60_14 : Dc B60 14 (.areturn) 1 := by decide +kernel
abbrev B61 := jdk_2750_method_2_code
theorem q61_0 : Dc B61 0 (.aload_n 0) 1 := by decide +kernel
theorem q61_1 : Dc B61 1 (.getfield 26) 3 := by decide +kernel
theorem q61_4 : Dc B61 4 (.ifnull 7) 3 := by decide +kernel
theorem q61_11 : Dc B61 11 (.iconst 0) 1 := by decide +kernel
theorem q61_12 : Dc B61 12 (.ireturn) 1 := by decide +kernel
abbrev B62 := jdk_2729_method_5_code
theorem q62_0 : Dc B62 0 (.aload_n 0) 1 := by decide +kernel
theorem q62_1 : Dc B62 1 (.getfield 7) 3 := by decide +kernel
theorem q62_4 : Dc B62 4 (.ireturn) 1 := by decide +kernel
abbrev B63 := jdk_71_method_3_code
theorem q63_0 : Dc B63 0 (.aload_n 0) 1 := by decide +kernel
theorem q63_1 : Dc B63 1 (.invokevirtual 19) 3 := by decide +kernel
theorem q63_4 : Dc B63 4 (.ifCond .ne 7) 3 := by decide +kernel
theorem q63_7 : Dc B63 7 (.iconst 1) 1 := by decide +kernel
theorem q63_8 : Dc B63 8 (.goto 4) 3 := by decide +kernel
theorem q63_12 : Dc B63 12 (.ireturn) 1 := by decide +kernel
abbrev B64 := jdk_2756_method_10_code
theorem q64_0 : Dc B64 0 (.aload_n 0) 1 := by decide +kernel
theorem q64_1 : Dc B64 1 (.getfield 7) 3 := by decide +kernel
theorem q64_4 : Dc B64 4 (.invokeinterface 57 1) 5 := by decide +kernel
theorem q64_9 : Dc B64 9 (.ireturn) 1 := by decide +kernel
abbrev B65 := prog_4_method_14_code
theorem q65_0 : Dc B65 0 (.aload_n 1) 1 := by decide +kernel
theorem q65_1 : Dc B65 1 (.invokevirtual 155) 3 := by decide +kernel
theorem q65_4 : Dc B65 4 (.astore_n 2) 1 := by decide +kernel
theorem q65_5 : Dc B65 5 (.aload_n 2) 1 := by decide +kernel
theorem q65_6 : Dc B65 6 (.invokeinterface 143 1) 5 := by decide +kernel
theorem q65_11 : Dc B65 11 (.ifCond .eq 32) 3 := by decide +kernel
theorem q65_43 : Dc B65 43 (.aload_n 1) 1 := by decide +kernel
theorem q65_44 : Dc B65 44 (.invokevirtual 160) 3 := by decide +kernel
theorem q65_47 : Dc B65 47 (.ifCond .ne 10) 3 := by decide +kernel
theorem q65_57 : Dc B65 57 (.return_) 1 := by decide +kernel
abbrev B66 := jdk_41_method_11_code
theorem q66_0 : Dc B66 0 (.iload_n 0) 1 := by decide +kernel
theorem q66_1 : Dc B66 1 (.ifCond .lt 8) 3 := by decide +kernel
theorem q66_4 : Dc B66 4 (.iload_n 0) 1 := by decide +kernel
theorem q66_5 : Dc B66 5 (.iload_n 1) 1 := by decide +kernel
theorem q66_6 : Dc B66 6 (.if_icmp .lt 10) 3 := by decide +kernel
theorem q66_16 : Dc B66 16 (.iload_n 0) 1 := by decide +kernel
theorem q66_17 : Dc B66 17 (.ireturn) 1 := by decide +kernel
abbrev B67 := jdk_42_method_155_code
theorem q67_0 : Dc B67 0 (.iload_n 0) 1 := by decide +kernel
theorem q67_1 : Dc B67 1 (.iload_n 1) 1 := by decide +kernel
theorem q67_2 : Dc B67 2 (.getstatic 1053) 3 := by decide +kernel
theorem q67_5 : Dc B67 5 (.invokestatic 1059) 3 := by decide +kernel
theorem pd_32 : parseMethodDescriptor "(IILjava/util/function/BiFunction;)I" = some ⟨[.int, .int, (.object "java/util/function/BiFunction")], some .int⟩ := by decide +kernel
theorem q67_8 : Dc B67 8 (.pop) 1 := by decide +kernel
theorem q67_9 : Dc B67 9 (.return_) 1 := by decide +kernel
abbrev B68 := jdk_42_method_154_code
theorem q68_0 : Dc B68 0 (.getstatic 38) 3 := by decide +kernel
theorem q68_3 : Dc B68 3 (.ifCond .eq 14) 3 := by decide +kernel
theorem q68_6 : Dc B68 6 (.aload_n 0) 1 := by decide +kernel
theorem q68_7 : Dc B68 7 (.getfield 15) 3 := by decide +kernel
theorem q68_10 : Dc B68 10 (.ifCond .ne 7) 3 := by decide +kernel
theorem q68_13 : Dc B68 13 (.iconst 1) 1 := by decide +kernel
theorem q68_14 : Dc B68 14 (.goto 4) 3 := by decide +kernel
theorem q68_18 : Dc B68 18 (.ireturn) 1 := by decide +kernel
abbrev B69 := jdk_43_method_2_code
theorem q69_0 : Dc B69 0 (.iload_n 1) 1 := by decide +kernel
theorem q69_1 : Dc B69 1 (.aload_n 0) 1 := by decide +kernel
theorem q69_2 : Dc B69 2 (.arraylength) 1 := by decide +kernel
theorem q69_3 : Dc B69 3 (.invokestatic 9) 3 := by decide +kernel
theorem q69_6 : Dc B69 6 (.aload_n 0) 1 := by decide +kernel
theorem q69_7 : Dc B69 7 (.iload_n 1) 1 := by decide +kernel
theorem q69_8 : Dc B69 8 (.baload) 1 := by decide +kernel
theorem q69_9 : Dc B69 9 (.sipush 255) 3 := by decide +kernel
theorem q69_12 : Dc B69 12 (.iand) 1 := by decide +kernel
theorem q69_13 : Dc B69 13 (.i2c) 1 := by decide +kernel
theorem q69_14 : Dc B69 14 (.ireturn) 1 := by decide +kernel
abbrev B70 := jdk_42_method_56_code
theorem q70_0 : Dc B70 0 (.aload_n 0) 1 := by decide +kernel
theorem q70_1 : Dc B70 1 (.invokevirtual 492) 3 := by decide +kernel
theorem q70_4 : Dc B70 4 (.ifCond .eq 12) 3 := by decide +kernel
theorem q70_7 : Dc B70 7 (.aload_n 0) 1 := by decide +kernel
theorem q70_8 : Dc B70 8 (.getfield 9) 3 := by decide +kernel
theorem q70_11 : Dc B70 11 (.iload_n 1) 1 := by decide +kernel
theorem q70_12 : Dc B70 12 (.invokestatic 495) 3 := by decide +kernel
theorem pd_33 : parseMethodDescriptor "([BI)C" = some ⟨[(.array .byte), .int], some .char⟩ := by decide +kernel
theorem q70_15 : Dc B70 15 (.ireturn) 1 := by decide +kernel
abbrev B71 := method_3_code
theorem q71_0 : Dc B71 0 (.iload_n 2) 1 := by decide +kernel
theorem q71_1 : Dc B71 1 (.iconst 4) 1 := by decide +kernel
theorem q71_2 : Dc B71 2 (.iload_n 3) 1 := by decide +kernel
theorem q71_3 : Dc B71 3 (.imul) 1 := by decide +kernel
theorem q71_4 : Dc B71 4 (.if_icmp .ge 15) 3 := by decide +kernel
theorem q71_19 : Dc B71 19 (.iconst 1) 1 := by decide +kernel
theorem q71_20 : Dc B71 20 (.goto 4) 3 := by decide +kernel
theorem q71_24 : Dc B71 24 (.ireturn) 1 := by decide +kernel
theorem q71_7 : Dc B71 7 (.aload_n 0) 1 := by decide +kernel
theorem q71_8 : Dc B71 8 (.iload_n 1) 1 := by decide +kernel
theorem q71_9 : Dc B71 9 (.iload_n 2) 1 := by decide +kernel
theorem q71_10 : Dc B71 10 (.iadd) 1 := by decide +kernel
theorem q71_11 : Dc B71 11 (.invokevirtual 40) 3 := by decide +kernel
theorem pd_34 : parseMethodDescriptor "(I)C" = some ⟨[.int], some .char⟩ := by decide +kernel
theorem q71_14 : Dc B71 14 (.bipush 32) 2 := by decide +kernel
theorem q71_16 : Dc B71 16 (.if_icmp .ne 7) 3 := by decide +kernel
theorem q42_53 : Dc B42 53 (.ldc 7) 2 := by decide +kernel
theorem q42_55 : Dc B42 55 (.areturn) 1 := by decide +kernel
abbrev B72 := prog_4_method_4_code
theorem q72_0 : Dc B72 0 (.aload_n 0) 1 := by decide +kernel
theorem q72_1 : Dc B72 1 (.getfield 22) 3 := by decide +kernel
theorem q72_4 : Dc B72 4 (.aload_n 1) 1 := by decide +kernel
theorem q72_5 : Dc B72 5 (.invokevirtual 48) 3 := by decide +kernel
theorem q72_8 : Dc B72 8 (.ifCond .eq 8) 3 := by decide +kernel
theorem q72_16 : Dc B72 16 (.new 54) 3 := by decide +kernel
theorem q72_19 : Dc B72 19 (.dup) 1 := by decide +kernel
theorem q72_20 : Dc B72 20 (.invokespecial 56) 3 := by decide +kernel
theorem q72_23 : Dc B72 23 (.ldc 57) 2 := by decide +kernel
theorem q72_25 : Dc B72 25 (.aload_n 0) 1 := by decide +kernel
theorem q72_26 : Dc B72 26 (.getfield 59) 3 := by decide +kernel
theorem q72_29 : Dc B72 29 (.invokevirtual 63) 3 := by decide +kernel
theorem pd_35 : parseMethodDescriptor "(I)Ljava/lang/String;" = some ⟨[.int], some (.object "java/lang/String")⟩ := by decide +kernel
theorem q72_32 : Dc B72 32 (.invokevirtual 67) 3 := by decide +kernel
theorem pd_36 : parseMethodDescriptor "(Ljava/lang/String;)Ljava/lang/StringBuilder;" = some ⟨[(.object "java/lang/String")], some (.object "java/lang/StringBuilder")⟩ := by decide +kernel
theorem q72_35 : Dc B72 35 (.aload_n 1) 1 := by decide +kernel
theorem q72_36 : Dc B72 36 (.invokevirtual 67) 3 := by decide +kernel
theorem q72_39 : Dc B72 39 (.invokevirtual 71) 3 := by decide +kernel
theorem pd_37 : parseMethodDescriptor "()Ljava/lang/String;" = some ⟨[], some (.object "java/lang/String")⟩ := by decide +kernel
theorem q72_42 : Dc B72 42 (.invokeinterface 74 2) 5 := by decide +kernel
theorem pd_38 : parseMethodDescriptor "(Ljava/lang/Object;)Z" = some ⟨[(.object "java/lang/Object")], some .boolean⟩ := by decide +kernel
theorem q72_47 : Dc B72 47 (.pop) 1 := by decide +kernel
theorem q72_48 : Dc B72 48 (.aload_n 0) 1 := by decide +kernel
theorem q72_49 : Dc B72 49 (.areturn) 1 := by decide +kernel
abbrev B73 := prog_4_method_13_code
theorem q73_0 : Dc B73 0 (.new 54) 3 := by decide +kernel
theorem q73_3 : Dc B73 3 (.dup) 1 := by decide +kernel
theorem q73_4 : Dc B73 4 (.invokespecial 56) 3 := by decide +kernel
theorem q73_7 : Dc B73 7 (.astore_n 3) 1 := by decide +kernel
theorem q73_8 : Dc B73 8 (.aload_n 3) 1 := by decide +kernel
theorem q73_9 : Dc B73 9 (.ldc 127) 2 := by decide +kernel
theorem q73_11 : Dc B73 11 (.invokevirtual 67) 3 := by decide +kernel
theorem q73_14 : Dc B73 14 (.aload_n 2) 1 := by decide +kernel
theorem q73_15 : Dc B73 15 (.invokevirtual 67) 3 := by decide +kernel
theorem q73_18 : Dc B73 18 (.ldc 129) 2 := by decide +kernel
theorem q73_20 : Dc B73 20 (.invokevirtual 67) 3 := by decide +kernel
theorem q73_23 : Dc B73 23 (.pop) 1 := by decide +kernel
theorem q73_24 : Dc B73 24 (.aload_n 3) 1 := by decide +kernel
theorem q73_25 : Dc B73 25 (.ldc 131) 2 := by decide +kernel
theorem q73_27 : Dc B73 27 (.invokevirtual 67) 3 := by decide +kernel
theorem q73_30 : Dc B73 30 (.aload_n 1) 1 := by decide +kernel
theorem q73_31 : Dc B73 31 (.invokevirtual 67) 3 := by decide +kernel
theorem q73_34 : Dc B73 34 (.ldc 133) 2 := by decide +kernel
theorem q73_36 : Dc B73 36 (.invokevirtual 67) 3 := by decide +kernel
theorem q73_39 : Dc B73 39 (.pop) 1 := by decide +kernel
theorem q73_40 : Dc B73 40 (.aload_n 3) 1 := by decide +kernel
theorem q73_41 : Dc B73 41 (.aload_n 0) 1 := by decide +kernel
theorem q73_42 : Dc B73 42 (.getfield 10) 3 := by decide +kernel
theorem q73_45 : Dc B73 45 (.invokestatic 135) 3 := by decide +kernel
theorem pd_39 : parseMethodDescriptor "(Ljava/lang/StringBuilder;Ljava/util/TreeSet;)V" = some ⟨[(.object "java/lang/StringBuilder"), (.object "java/util/TreeSet")], none⟩ := by decide +kernel
theorem q73_48 : Dc B73 48 (.aload_n 3) 1 := by decide +kernel
theorem q73_49 : Dc B73 49 (.aload_n 0) 1 := by decide +kernel
theorem q73_50 : Dc B73 50 (.getfield 16) 3 := by decide +kernel
theorem q73_53 : Dc B73 53 (.invokestatic 135) 3 := by decide +kernel
theorem q73_56 : Dc B73 56 (.aload_n 0) 1 := by decide +kernel
theorem q73_57 : Dc B73 57 (.getfield 22) 3 := by decide +kernel
theorem q73_60 : Dc B73 60 (.invokeinterface 139 1) 5 := by decide +kernel
theorem q73_65 : Dc B73 65 (.astore 4) 2 := by decide +kernel
theorem q73_67 : Dc B73 67 (.aload 4) 2 := by decide +kernel
theorem q73_69 : Dc B73 69 (.invokeinterface 143 1) 5 := by decide +kernel
theorem q73_74 : Dc B73 74 (.ifCond .eq 30) 3 := by decide +kernel
theorem q73_77 : Dc B73 77 (.aload 4) 2 := by decide +kernel
theorem q73_79 : Dc B73 79 (.invokeinterface 148 1) 5 := by decide +kernel
theorem pd_40 : parseMethodDescriptor "()Ljava/lang/Object;" = some ⟨[], some (.object "java/lang/Object")⟩ := by decide +kernel
theorem q73_84 : Dc B73 84 (.checkcast 39) 3 := by decide +kernel
theorem q73_87 : Dc B73 87 (.astore 5) 2 := by decide +kernel
theorem q73_89 : Dc B73 89 (.aload_n 3) 1 := by decide +kernel
theorem q73_90 : Dc B73 90 (.aload 5) 2 := by decide +kernel
theorem q73_92 : Dc B73 92 (.invokevirtual 67) 3 := by decide +kernel
theorem q73_95 : Dc B73 95 (.bipush 10) 2 := by decide +kernel
theorem q73_97 : Dc B73 97 (.invokevirtual 152) 3 := by decide +kernel
theorem pd_41 : parseMethodDescriptor "(C)Ljava/lang/StringBuilder;" = some ⟨[.char], some (.object "java/lang/StringBuilder")⟩ := by decide +kernel
theorem q73_100 : Dc B73 100 (.pop) 1 := by decide +kernel
theorem q73_101 : Dc B73 101 (.goto (-34)) 3 := by decide +kernel
theorem q73_104 : Dc B73 104 (.aload_n 3) 1 := by decide +kernel
theorem q73_105 : Dc B73 105 (.invokevirtual 71) 3 := by decide +kernel
theorem q73_108 : Dc B73 108 (.areturn) 1 := by decide +kernel
theorem pd_42 : parseMethodDescriptor "(C)Ljava/lang/String;" = some ⟨[.char], some (.object "java/lang/String")⟩ := by decide +kernel
theorem pd_43 : parseMethodDescriptor "(Ljava/lang/String;)Lcom/example/typewire/typewire/codegen/JavaFile;" = some ⟨[(.object "java/lang/String")], some (.object "com/example/typewire/typewire/codegen/JavaFile")⟩ := by decide +kernel
theorem pd_44 : parseMethodDescriptor "(Ljava/lang/String;Ljava/lang/String;)Ljava/lang/String;" = some ⟨[(.object "java/lang/String"), (.object "java/lang/String")], some (.object "java/lang/String")⟩ := by decide +kernel
theorem pd_45 : parseMethodDescriptor "(Ljava/lang/String;III)Z" = some ⟨[(.object "java/lang/String"), .int, .int, .int], some .boolean⟩ := by decide +kernel
theorem pd_46 : parseMethodDescriptor "()Lcom/example/typewire/typewire/codegen/JavaFile;" = some ⟨[], some (.object "com/example/typewire/typewire/codegen/JavaFile")⟩ := by decide +kernel
theorem pf_rmMX : plainFor Y14 = true := by decide +kernel
theorem ef_II_2 (m : MethodId) (x0 : Int32) (x1 : Int32) : entryFrame m #[(.int x0), (.int x1)] 2 = mkF m 0 #[.val (.int x0), .val (.int x1)] [] := by first | (simp [entryFrame, mkF, argsToLocals, Value.category]; done) | rfl
theorem pf_rmMX2 : plainFor Y14 = true := by decide +kernel
theorem pf_rmMN : plainFor Y13 = true := by decide +kernel
theorem pf_rmMN2 : plainFor Y13 = true := by decide +kernel
theorem pn_java_lang_StringLatin1 : plainName "java/lang/StringLatin1" = true := by first | (simp [plainName, overriddenIn]; done) | decide +kernel
theorem ef_I_1 (m : MethodId) (x0 : Int32) : entryFrame m #[(.int x0)] 1 = mkF m 0 #[.val (.int x0)] [] := by first | (simp [entryFrame, mkF, argsToLocals, Value.category]; done) | rfl
theorem pn_java_lang_String : plainName "java/lang/String" = true := by first | (simp [plainName, overriddenIn]; done) | decide +kernel
theorem ef_RRI_3 (m : MethodId) (x0 : Addr) (x1 : Addr) (x2 : Int32) : entryFrame m #[(.ref x0), (.ref x1), (.int x2)] 3 = mkF m 0 #[.val (.ref x0), .val (.ref x1), .val (.int x2)] [] := by first | (simp [entryFrame, mkF, argsToLocals, Value.category]; done) | rfl
theorem pn_java_util_AbstractMap : plainName "java/util/AbstractMap" = true := by first | (simp [plainName, overriddenIn]; done) | decide +kernel
theorem ef_R_1 (m : MethodId) (x0 : Addr) : entryFrame m #[(.ref x0)] 1 = mkF m 0 #[.val (.ref x0)] [] := by first | (simp [entryFrame, mkF, argsToLocals, Value.category]; done) | rfl
theorem pn_java_util_AbstractCollection : plainName "java/util/AbstractCollection" = true := by first | (simp [plainName, overriddenIn]; done) | decide +kernel
theorem pn_java_util_AbstractSet : plainName "java/util/AbstractSet" = true := by first | (simp [plainName, overriddenIn]; done) | decide +kernel
theorem pn_java_util_AbstractList : plainName "java/util/AbstractList" = true := by first | (simp [plainName, overriddenIn]; done) | decide +kernel
theorem pn_java_util_TreeMap : plainName "java/util/TreeMap" = true := by first | (simp [plainName, overriddenIn]; done) | decide +kernel
theorem pn_java_util_TreeSet : plainName "java/util/TreeSet" = true := by first | (simp [plainName, overriddenIn]; done) | decide +kernel
theorem ef_RR_2 (m : MethodId) (x0 : Addr) (x1 : Addr) : entryFrame m #[(.ref x0), (.ref x1)] 2 = mkF m 0 #[.val (.ref x0), .val (.ref x1)] [] := by first | (simp [entryFrame, mkF, argsToLocals, Value.category]; done) | rfl
theorem pn_java_util_ArrayList : plainName "java/util/ArrayList" = true := by first | (simp [plainName, overriddenIn]; done) | decide +kernel
theorem pn_com_example_typewire_typewire_codegen_JavaFile : plainName "com/example/typewire/typewire/codegen/JavaFile" = true := by first | (simp [plainName, overriddenIn]; done) | decide +kernel
theorem pn_java_lang_AbstractStringBuilder : plainName "java/lang/AbstractStringBuilder" = true := by first | (simp [plainName, overriddenIn]; done) | decide +kernel
theorem ef_RI_2 (m : MethodId) (x0 : Addr) (x1 : Int32) : entryFrame m #[(.ref x0), (.int x1)] 2 = mkF m 0 #[.val (.ref x0), .val (.int x1)] [] := by first | (simp [entryFrame, mkF, argsToLocals, Value.category]; done) | rfl
theorem pn_java_lang_StringBuilder : plainName "java/lang/StringBuilder" = true := by first | (simp [plainName, overriddenIn]; done) | decide +kernel
theorem ef_RI_3 (m : MethodId) (x0 : Addr) (x1 : Int32) : entryFrame m #[(.ref x0), (.int x1)] 3 = mkF m 0 #[.val (.ref x0), .val (.int x1), .unset] [] := by first | (simp [entryFrame, mkF, argsToLocals, Value.category]; done) | rfl
theorem pn_java_util_Arrays : plainName "java/util/Arrays" = true := by first | (simp [plainName, overriddenIn]; done) | decide +kernel
theorem pn_jdk_internal_util_ArraysSupport : plainName "jdk/internal/util/ArraysSupport" = true := by first | (simp [plainName, overriddenIn]; done) | decide +kernel
theorem ef_III_4 (m : MethodId) (x0 : Int32) (x1 : Int32) (x2 : Int32) : entryFrame m #[(.int x0), (.int x1), (.int x2)] 4 = mkF m 0 #[.val (.int x0), .val (.int x1), .val (.int x2), .unset] [] := by first | (simp [entryFrame, mkF, argsToLocals, Value.category]; done) | rfl
theorem ef_RI_6 (m : MethodId) (x0 : Addr) (x1 : Int32) : entryFrame m #[(.ref x0), (.int x1)] 6 = mkF m 0 #[.val (.ref x0), .val (.int x1), .unset, .unset, .unset, .unset] [] := by first | (simp [entryFrame, mkF, argsToLocals, Value.category]; done) | rfl
theorem ef_RRII_4 (m : MethodId) (x0 : Addr) (x1 : Addr) (x2 : Int32) (x3 : Int32) : entryFrame m #[(.ref x0), (.ref x1), (.int x2), (.int x3)] 4 = mkF m 0 #[.val (.ref x0), .val (.ref x1), .val (.int x2), .val (.int x3)] [] := by first | (simp [entryFrame, mkF, argsToLocals, Value.category]; done) | rfl
theorem ef_RIR_3 (m : MethodId) (x0 : Addr) (x1 : Int32) (x2 : Addr) : entryFrame m #[(.ref x0), (.int x1), (.ref x2)] 3 = mkF m 0 #[.val (.ref x0), .val (.int x1), .val (.ref x2)] [] := by first | (simp [entryFrame, mkF, argsToLocals, Value.category]; done) | rfl
theorem ef_RR_3 (m : MethodId) (x0 : Addr) (x1 : Addr) : entryFrame m #[(.ref x0), (.ref x1)] 3 = mkF m 0 #[.val (.ref x0), .val (.ref x1), .unset] [] := by first | (simp [entryFrame, mkF, argsToLocals, Value.category]; done) | rfl
theorem ef_RII_5 (m : MethodId) (x0 : Addr) (x1 : Int32) (x2 : Int32) : entryFrame m #[(.ref x0), (.int x1), (.int x2)] 5 = mkF m 0 #[.val (.ref x0), .val (.int x1), .val (.int x2), .unset, .unset] [] := by first | (simp [entryFrame, mkF, argsToLocals, Value.category]; done) | rfl
theorem ef_RII_3 (m : MethodId) (x0 : Addr) (x1 : Int32) (x2 : Int32) : entryFrame m #[(.ref x0), (.int x1), (.int x2)] 3 = mkF m 0 #[.val (.ref x0), .val (.int x1), .val (.int x2)] [] := by first | (simp [entryFrame, mkF, argsToLocals, Value.category]; done) | rfl
theorem ef_RRN_5 (m : MethodId) (x0 : Addr) (x1 : Addr) : entryFrame m #[(.ref x0), (.ref x1), .null] 5 = mkF m 0 #[.val (.ref x0), .val (.ref x1), .val .null, .unset, .unset] [] := by first | (simp [entryFrame, mkF, argsToLocals, Value.category]; done) | rfl
theorem ef_RI_5 (m : MethodId) (x0 : Addr) (x1 : Int32) : entryFrame m #[(.ref x0), (.int x1)] 5 = mkF m 0 #[.val (.ref x0), .val (.int x1), .unset, .unset, .unset] [] := by first | (simp [entryFrame, mkF, argsToLocals, Value.category]; done) | rfl
theorem ef_RIII_4 (m : MethodId) (x0 : Addr) (x1 : Int32) (x2 : Int32) (x3 : Int32) : entryFrame m #[(.ref x0), (.int x1), (.int x2), (.int x3)] 4 = mkF m 0 #[.val (.ref x0), .val (.int x1), .val (.int x2), .val (.int x3)] [] := by first | (simp [entryFrame, mkF, argsToLocals, Value.category]; done) | rfl
theorem ef_RI_4 (m : MethodId) (x0 : Addr) (x1 : Int32) : entryFrame m #[(.ref x0), (.int x1)] 4 = mkF m 0 #[.val (.ref x0), .val (.int x1), .unset, .unset] [] := by first | (simp [entryFrame, mkF, argsToLocals, Value.category]; done) | rfl
theorem ef_RRRI_4 (m : MethodId) (x0 : Addr) (x1 : Addr) (x2 : Addr) (x3 : Int32) : entryFrame m #[(.ref x0), (.ref x1), (.ref x2), (.int x3)] 4 = mkF m 0 #[.val (.ref x0), .val (.ref x1), .val (.ref x2), .val (.int x3)] [] := by first | (simp [entryFrame, mkF, argsToLocals, Value.category]; done) | rfl
theorem pn_java_util_ArrayList_Itr : plainName "java/util/ArrayList$Itr" = true := by first | (simp [plainName, overriddenIn]; done) | decide +kernel
theorem ef_R_3 (m : MethodId) (x0 : Addr) : entryFrame m #[(.ref x0)] 3 = mkF m 0 #[.val (.ref x0), .unset, .unset] [] := by first | (simp [entryFrame, mkF, argsToLocals, Value.category]; done) | rfl
theorem pn_java_util_TreeMap_KeySet : plainName "java/util/TreeMap$KeySet" = true := by first | (simp [plainName, overriddenIn]; done) | decide +kernel
theorem ef_R_2 (m : MethodId) (x0 : Addr) : entryFrame m #[(.ref x0)] 2 = mkF m 0 #[.val (.ref x0), .unset] [] := by first | (simp [entryFrame, mkF, argsToLocals, Value.category]; done) | rfl
theorem pn_java_util_TreeMap_PrivateEntryIterator : plainName "java/util/TreeMap$PrivateEntryIterator" = true := by first | (simp [plainName, overriddenIn]; done) | decide +kernel
theorem ef_RRN_3 (m : MethodId) (x0 : Addr) (x1 : Addr) : entryFrame m #[(.ref x0), (.ref x1), .null] 3 = mkF m 0 #[.val (.ref x0), .val (.ref x1), .val .null] [] := by first | (simp [entryFrame, mkF, argsToLocals, Value.category]; done) | rfl
theorem pn_java_util_TreeMap_KeyIterator : plainName "java/util/TreeMap$KeyIterator" = true := by first | (simp [plainName, overriddenIn]; done) | decide +kernel
theorem ef_RR_4 (m : MethodId) (x0 : Addr) (x1 : Addr) : entryFrame m #[(.ref x0), (.ref x1)] 4 = mkF m 0 #[.val (.ref x0), .val (.ref x1), .unset, .unset] [] := by first | (simp [entryFrame, mkF, argsToLocals, Value.category]; done) | rfl
theorem pn_jdk_internal_util_Preconditions : plainName "jdk/internal/util/Preconditions" = true := by first | (simp [plainName, overriddenIn]; done) | decide +kernel
theorem ef_IIV_3 (m : MethodId) (x0 : Int32) (x1 : Int32) (x2 : Value) (h2 : x2.isRef = true) : entryFrame m #[(.int x0), (.int x1), x2] 3 = mkF m 0 #[.val (.int x0), .val (.int x1), .val x2] [] := by rcases ref_cases h2 with rfl | ⟨_, rfl⟩ <;> rfl
theorem pn_com_example_typewire_typewire_codegen_JavaFileIndentPinLaw : plainName "com/example/typewire/typewire/codegen/JavaFileIndentPinLaw" = true := by first | (simp [plainName, overriddenIn]; done) | decide +kernel
theorem ef_RRR_6 (m : MethodId) (x0 : Addr) (x1 : Addr) (x2 : Addr) : entryFrame m #[(.ref x0), (.ref x1), (.ref x2)] 6 = mkF m 0 #[.val (.ref x0), .val (.ref x1), .val (.ref x2), .unset, .unset, .unset] [] := by first | (simp [entryFrame, mkF, argsToLocals, Value.category]; done) | rfl
theorem ef_II_L (m : MethodId) (x0 : Int32) (x1 : Int32) : entryFrame m #[(.int x0), (.int x1)] maxLocals = mkF m 0 #[.val (.int x0), .val (.int x1), .unset, .unset, .unset, .unset, .unset, .unset, .unset, .unset, .unset, .unset] [] := by first | (simp [entryFrame, mkF, argsToLocals, Value.category, maxLocals]; done) | rfl
theorem rmMX (l : Launch) (Z : State) (a0 : Array Value) (hw : own_T a0 Z) (wds : List Jvm.Cond) (p1 : Int32) (p2 : Int32) (h0 : Heap) (n0 : Nat) (O0 : Old Z n0 h0)  (hlt : ¬ p1 < p2) :
    OwnN.Ct l Z Y14 jdk_29_method_65_code 2 (some .int) wds (⟨0, 0, 0, 0⟩ : Room) #[(.int p1), (.int p2)] n0 h0 [] (fun v h => v = some (.int p1) ∧ h = h0) := by
  refine OwnN.Ct.of pf_rmMX O0 all0 ?_
  intro p e s m below meth c hx hby hml hret hnm
  refine OwnN.Go.cast (ef_II_2 m p1 p2) ?_
  refine OwnN.Go.sp (g' := (mkF m 10 #[.val (.int p1), .val (.int p2)] [(.int p1)])) (fun T A t r => XS.iloadN A hx rfl (hb hby q0_0) rfl (XS.iloadN A hx rfl (hb hby q0_1) rfl (XS.icmpNo A hx rfl (hb hby q0_2) rfl (flt hlt).1 (XS.iloadN A hx rfl (hb hby q0_5) rfl (XS.goto A hx rfl (pc0 := 6) (pc' := 10) rfl (hb hby q0_6) (by decide) (by decide) r))))) ?_
  exact OwnN.Go.ret (v := (some (.int p1))) (fun s' T L_ fs X hr => retI X hx hret (hb hby q0_10) hr) (fun h => by rw [hret] at h; cases h) (by decide) (by decide) ⟨rfl, rfl⟩
theorem rmMX2 (l : Launch) (Z : State) (a0 : Array Value) (hw : own_T a0 Z) (wds : List Jvm.Cond) (p1 : Int32) (p2 : Int32) (h0 : Heap) (n0 : Nat) (O0 : Old Z n0 h0)  (hlt : p1 < p2) :
    OwnN.Ct l Z Y14 jdk_29_method_65_code 2 (some .int) wds (⟨0, 0, 0, 0⟩ : Room) #[(.int p1), (.int p2)] n0 h0 [] (fun v h => v = some (.int p2) ∧ h = h0) := by
  refine OwnN.Ct.of pf_rmMX2 O0 all0 ?_
  intro p e s m below meth c hx hby hml hret hnm
  refine OwnN.Go.cast (ef_II_2 m p1 p2) ?_
  refine OwnN.Go.sp (g' := (mkF m 10 #[.val (.int p1), .val (.int p2)] [(.int p2)])) (fun T A t r => XS.iloadN A hx rfl (hb hby q0_0) rfl (XS.iloadN A hx rfl (hb hby q0_1) rfl (XS.icmpYes A hx rfl (pc0 := 2) (pc' := 9) rfl (hb hby q0_2) rfl (tlt hlt).1 (by decide) (by decide) (XS.iloadN A hx rfl (hb hby q0_9) rfl r)))) ?_
  exact OwnN.Go.ret (v := (some (.int p2))) (fun s' T L_ fs X hr => retI X hx hret (hb hby q0_10) hr) (fun h => by rw [hret] at h; cases h) (by decide) (by decide) ⟨rfl, rfl⟩
theorem rmMN (l : Launch) (Z : State) (a0 : Array Value) (hw : own_T a0 Z) (wds : List Jvm.Cond) (p1 : Int32) (p2 : Int32) (h0 : Heap) (n0 : Nat) (O0 : Old Z n0 h0)  (hlt : ¬ p2 < p1) :
    OwnN.Ct l Z Y13 jdk_29_method_69_code 2 (some .int) wds (⟨0, 0, 0, 0⟩ : Room) #[(.int p1), (.int p2)] n0 h0 [] (fun v h => v = some (.int p1) ∧ h = h0) := by
  refine OwnN.Ct.of pf_rmMN O0 all0 ?_
  intro p e s m below meth c hx hby hml hret hnm
  refine OwnN.Go.cast (ef_II_2 m p1 p2) ?_
  refine OwnN.Go.sp (g' := (mkF m 10 #[.val (.int p1), .val (.int p2)] [(.int p1)])) (fun T A t r => XS.iloadN A hx rfl (hb hby q1_0) rfl (XS.iloadN A hx rfl (hb hby q1_1) rfl (XS.icmpNo A hx rfl (hb hby q1_2) rfl (flt hlt).2.2.1 (XS.iloadN A hx rfl (hb hby q1_5) rfl (XS.goto A hx rfl (pc0 := 6) (pc' := 10) rfl (hb hby q1_6) (by decide) (by decide) r))))) ?_
  exact OwnN.Go.ret (v := (some (.int p1))) (fun s' T L_ fs X hr => retI X hx hret (hb hby q1_10) hr) (fun h => by rw [hret] at h; cases h) (by decide) (by decide) ⟨rfl, rfl⟩
theorem rmMN2 (l : Launch) (Z : State) (a0 : Array Value) (hw : own_T a0 Z) (wds : List Jvm.Cond) (p1 : Int32) (p2 : Int32) (h0 : Heap) (n0 : Nat) (O0 : Old Z n0 h0)  (hlt : p2 < p1) :
    OwnN.Ct l Z Y13 jdk_29_method_69_code 2 (some .int) wds (⟨0, 0, 0, 0⟩ : Room) #[(.int p1), (.int p2)] n0 h0 [] (fun v h => v = some (.int p2) ∧ h = h0) := by
  refine OwnN.Ct.of pf_rmMN2 O0 all0 ?_
  intro p e s m below meth c hx hby hml hret hnm
  refine OwnN.Go.cast (ef_II_2 m p1 p2) ?_
  refine OwnN.Go.sp (g' := (mkF m 10 #[.val (.int p1), .val (.int p2)] [(.int p2)])) (fun T A t r => XS.iloadN A hx rfl (hb hby q1_0) rfl (XS.iloadN A hx rfl (hb hby q1_1) rfl (XS.icmpYes A hx rfl (pc0 := 2) (pc' := 9) rfl (hb hby q1_2) rfl (tlt hlt).2.2.1 (by decide) (by decide) (XS.iloadN A hx rfl (hb hby q1_9) rfl r)))) ?_
  exact OwnN.Go.ret (v := (some (.int p2))) (fun s' T L_ fs X hr => retI X hx hret (hb hby q1_10) hr) (fun h => by rw [hret] at h; cases h) (by decide) (by decide) ⟨rfl, rfl⟩
theorem rmCE (l : Launch) (Z : State) (a0 : Array Value) (hw : own_T a0 Z) (wds : List Jvm.Cond) (p1 : Int32) (h0 : Heap) (n0 : Nat) (O0 : Old Z n0 h0)  (hq : ¬ (255 : Int32) < p1) :
    OwnN.Ct l Z Y0 jdk_43_method_3_code 1 (some .boolean) wds (⟨0, 0, 0, 0⟩ : Room) #[(.int p1)] n0 h0 [] (fun v h => v = some (.int 1) ∧ h = h0) := by
  refine OwnN.Ct.of (plainFor_of_name pn_java_lang_StringLatin1) O0 all0 ?_
  intro p e s m below meth c hx hby hml hret hnm
  refine OwnN.Go.cast (ef_I_1 m p1) ?_
  refine OwnN.Go.sp (g' := (mkF m 12 #[.val (.int p1)] [(.int 1)])) (fun T A t r => XS.iloadN A hx rfl (hb hby q2_0) rfl (XS.sipush A hx rfl (hb hby q2_1) (XS.icmpNo A hx rfl (hb hby q2_4) rfl (flt hq).2.2.1 (XS.iconst A hx rfl (hb hby q2_7) (XS.goto A hx rfl (pc0 := 8) (pc' := 12) rfl (hb hby q2_8) (by decide) (by decide) r))))) ?_
  exact OwnN.Go.ret (v := (some (.int (nar .boolean (1 : Int32))))) (fun s' T L_ fs X hr => retN X hx (t := .boolean) hret (by simp) (hb hby q2_12) hr) (fun h => by rw [hret] at h; cases h) (by decide) (by decide) ⟨rfl, rfl⟩
theorem rmTB (l : Launch) (Z : State) (a0 : Array Value) (hw : own_T a0 Z) (wds : List Jvm.Cond) (p1 : Int32) (h0 : Heap) (n0 : Nat) (O0 : Old Z n0 h0)   :
    OwnN.Ct l Z Y1 jdk_43_method_46_code 1 (some (.array .byte)) wds (⟨0, 1, 1, 0⟩ : Room) #[(.int p1)] n0 h0 [] (fun v h => ∃ (t : Addr) (kb : ClassId), v = some (.ref t) ∧ h0.size ≤ t ∧ Arv Z h t kb .byte (Int32.ofNat [p1].length) (own_B [p1]) (.int 0)) := by
  refine OwnN.Ct.of (plainFor_of_name pn_java_lang_StringLatin1) O0 all0 ?_
  intro p e s m below meth c hx hby hml hret hnm
  refine OwnN.Go.cast (ef_I_1 m p1) ?_
  refine OwnN.Go.sp (g' := (mkF m 1 #[.val (.int p1)] [(.int 1)])) (fun T A t r => XS.iconst A hx rfl (hb hby q3_0) r) ?_
  refine OwnN.Go.newP (ty := .byte) (dv := (.int 0)) (cap := 1) (k' := 1) (n' := 1) (pc' := 3) (hb hby q3_1) rfl rfl (own_w hw 14 rfl) (by decide) (by decide) (by decide) rfl rfl rfl (by decide) (by decide) ?_
  intro b11 h11 k11 g11 sz11 E11 A11
  have V11 : Arv Z h11 b11 k11 .byte (1 : Int32) [(.int 0)] (.int 0) := A11.pad (pad_rep [] (.int 0) 1)
  refine OwnN.Go.sp (g' := (mkF m 7 #[.val (.int p1)] [(.int (p1.toInt8.toInt32)), (.int 0), (.ref b11), (.ref b11)])) (fun T A t r => XS.dup A hx rfl (hb hby q3_3) rfl rfl (XS.iconst A hx rfl (hb hby q3_4) (XS.iloadN A hx rfl (hb hby q3_5) rfl (XS.i2b A hx rfl (hb hby q3_6) rfl r)))) ?_
  refine OwnN.Go.w (g' := (mkF m 8 #[.val (.int p1)] [(.ref b11)])) (fun s' T L_ X eT hZ hown => own_stB X hx hZ eT V11 (j := (0 : Int32)) ⟨by decide, by decide⟩ (g := (mkF m 7 #[.val (.int p1)] [(.int (p1.toInt8.toInt32)), (.int 0), (.ref b11), (.ref b11)])) rfl rfl (hb hby q3_7)) (Or.inr sz11) ?_
  intro h12 W12
  have V12 : Arv Z h12 b11 k11 .byte (1 : Int32) [(.int p1.toInt8.toInt32)] (.int 0) := own_set V11 (fits_nar_byte _) W12 (congrArg Value.int (own_narB _)) 0 rfl (Nat.le_of_ble_eq_true rfl)
  exact OwnN.Go.ret (v := (some (.ref b11))) (fun s' T L_ fs X hr => own_retR X hx hret rfl rfl (hb hby q3_8) hr) (fun h => by rw [hret] at h; cases h) (by decide) (by decide) ⟨_, _, rfl, sz11, V12⟩
theorem rmSI (l : Launch) (Z : State) (a0 : Array Value) (hw : own_T a0 Z) (wds : List Jvm.Cond) (a1 : Addr) (a2 : Addr) (u1 : Value) (u2 : Value) (h0 : Heap) (n0 : Nat) (O0 : Old Z n0 h0) (g_a1 : n0 ≤ a1) (E1 : Exa Z h0 a1 "java/lang/String") (F1 : Fld Z h0 a1 "java/lang/String" "value" "[B" u1) (F2 : Fld Z h0 a1 "java/lang/String" "coder" "B" u2) :
    OwnN.Ct l Z Y2 jdk_42_method_151_code 3 none wds (⟨1, 0, 0, 12⟩ : Room) #[(.ref a1), (.ref a2), (.int 0)] n0 h0 [a1] (fun v h => v = none ∧ Exa Z h a1 "java/lang/String" ∧ Fld Z h a1 "java/lang/String" "coder" "B" (.int 0) ∧ Fld Z h a1 "java/lang/String" "value" "[B" (.ref a2)) := by
  refine OwnN.Ct.of (plainFor_of_name pn_java_lang_String) O0 (allS g_a1 all0) ?_
  intro p e s m below meth c hx hby hml hret hnm
  refine OwnN.Go.cast (ef_RRI_3 m a1 a2 (0 : Int32)) ?_
  refine OwnN.Go.sp (g' := (mkF m 1 #[.val (.ref a1), .val (.ref a2), .val (.int 0)] [(.ref a1)])) (fun T A t r => XS.aloadN A hx rfl (hb hby q4_0) rfl rfl r) ?_
  refine OwnN.Go.v (g' := (mkF m 4 #[.val (.ref a1), .val (.ref a2), .val (.int 0)] [])) (fun s' T L_ X eT hZ hown => initO X hx hZ hown (own_w hw 19 rfl) (own_w hw 20 rfl) (own_w hw 21 rfl) eT (g := (mkF m 1 #[.val (.ref a1), .val (.ref a2), .val (.int 0)] [(.ref a1)])) rfl hml.symm rfl (hb hby q4_1) (by decide) (W := 0) (catOf (Nat.le_of_ble_eq_true rfl)) (by decide)) ?_
  refine OwnN.Go.sp (g' := (mkF m 6 #[.val (.ref a1), .val (.ref a2), .val (.int 0)] [(.ref a2), (.ref a1)])) (fun T A t r => XS.aloadN A hx rfl (hb hby q4_4) rfl rfl (XS.aloadN A hx rfl (hb hby q4_5) rfl rfl r)) ?_
  refine OwnN.Go.w (g' := (mkF m 9 #[.val (.ref a1), .val (.ref a2), .val (.int 0)] [])) (fun s' T L_ X eT hZ hown => putF X hx hZ hown (host := "") (Or.inl (own_w hw 22 rfl)) Via.refl eT F1 E1 (Or.inr ⟨(own_w hw 23 rfl), rfl, hnm⟩) (own_w hw 10 rfl) (ty := (.array .byte)) (by decide) rfl rfl (g := (mkF m 6 #[.val (.ref a1), .val (.ref a2), .val (.int 0)] [(.ref a2), (.ref a1)])) rfl rfl (hb hby q4_6)) (Or.inl (List.mem_of_getElem? (i := 0) rfl)) ?_
  intro h12 W12
  have F12 := F1.same W12
  refine OwnN.Go.sp (g' := (mkF m 11 #[.val (.ref a1), .val (.ref a2), .val (.int 0)] [(.int 0), (.ref a1)])) (fun T A t r => XS.aloadN A hx rfl (hb hby q4_9) rfl rfl (XS.iloadN A hx rfl (hb hby q4_10) rfl r)) ?_
  have f13 := (E1.wr W12)
  have f14 := (F2.other W12 (Or.inr (slot_ne (Or.inr (own_w hw 25 rfl)) (Or.inr (own_w hw 23 rfl)) (by decide) (t := .byte) (t' := (.array .byte)) (by decide) (by decide))))
  refine OwnN.Go.w (g' := (mkF m 14 #[.val (.ref a1), .val (.ref a2), .val (.int 0)] [])) (fun s' T L_ X eT hZ hown => putF X hx hZ hown (host := "") (Or.inl (own_w hw 24 rfl)) Via.refl eT f14 f13 (Or.inr ⟨(own_w hw 25 rfl), rfl, hnm⟩) (own_w hw 10 rfl) (ty := .byte) (by decide) (by decide) (by decide) (g := (mkF m 11 #[.val (.ref a1), .val (.ref a2), .val (.int 0)] [(.int 0), (.ref a1)])) rfl rfl (hb hby q4_11)) (Or.inl (List.mem_of_getElem? (i := 0) rfl)) ?_
  intro h16 W16
  have F16 := f14.same W16
  have f17 := (f13.wr W16)
  have f18 := (F12.other W16 (Or.inr (slot_ne (Or.inr (own_w hw 23 rfl)) (Or.inr (own_w hw 25 rfl)) (by decide) (t := (.array .byte)) (t' := .byte) (by decide) (by decide))))
  exact OwnN.Go.ret (v := none) (fun s' T L_ fs X hr => X.returnOut hx hret (hb hby q4_14) hr) (fun _ => rfl) (by decide) (by decide) ⟨rfl, f17, F16, f18⟩
theorem rmVO (l : Launch) (Z : State) (a0 : Array Value) (hw : own_T a0 Z) (wds : List Jvm.Cond) (p1 : Int32) (zS : Int32) (h0 : Heap) (n0 : Nat) (O0 : Old Z n0 h0)  (hq : ¬ (255 : Int32) < p1) (S0 : Sta Z Z.heap "java/lang/String" "COMPACT_STRINGS" "Z" (.int zS)) (P0 : ¬ zS = (0 : Int32)) :
    OwnN.Ct l Z Y76 jdk_42_method_139_code 1 (some (.object "java/lang/String")) wds (⟨2, 2, 5, 27⟩ : Room) #[(.int p1)] n0 h0 [] (fun v h => ∃ (sa ta : Addr) (ka : ClassId), v = some (.ref sa) ∧ Exa Z h sa "java/lang/String" ∧ Fld Z h sa "java/lang/String" "coder" "B" (.int 0) ∧ Fld Z h sa "java/lang/String" "value" "[B" (.ref ta) ∧ Arv Z h ta ka .byte (Int32.ofNat [p1].length) (own_B [p1]) (.int 0)) := by
  refine OwnN.Ct.of (plainFor_of_name pn_java_lang_String) O0 all0 ?_
  intro p e s m below meth c hx hby hml hret hnm
  refine OwnN.Go.cast (ef_I_1 m p1) ?_
  refine OwnN.Go.old fun O11 => ?_
  have St12 := Sta.ext O11.2 S0
  refine OwnN.Go.v (g' := (mkF m 3 #[.val (.int p1)] [(.int zS)])) (fun s' T L_ X eT hZ hown => getS2 X hx hZ hown (host := "") (Or.inl (own_w hw 4 rfl)) Via.refl eT St12 (g := (mkF m 0 #[.val (.int p1)] [])) rfl (hb hby q5_0)) ?_
  refine OwnN.Go.sp (g' := (mkF m 7 #[.val (.int p1)] [(.int p1)])) (fun T A t r => XS.ifNo A hx rfl (hb hby q5_3) rfl ((if0 _ _).trans (feq P0).1) (XS.iloadN A hx rfl (hb hby q5_6) rfl r)) ?_
  refine OwnN.Go.callSP (W := 0) (y := Y0) (argsL := [(.int p1)]) (rest := []) (pc' := 10) (hb hby q5_7) (own_w hw 5 rfl) (own_w hw 6 rfl) (own_w hw 7 rfl) (own_w hw 8 rfl) (by decide) (fun s' hZ => OwnN.Ct.bk (rmCE l Z a0 hw [] p1 h0 n0 O11 hq) hZ (own_w hw 8 rfl) (own_w hw 7 rfl) (by decide) (by decide)) hml.symm (lenOf pd_0 rfl) rfl (Nat.le_of_ble_eq_true rfl) rfl (by decide) (by decide) ?_
  rintro v13 rfl
  refine OwnN.Go.sp (g' := (mkF m 13 #[.val (.int p1)] [])) (fun T A t r => XS.ifNo A hx rfl (hb hby q5_10) rfl ((if0 _ _).trans (feq (by decide : ¬ ((1 : Int32) = (0 : Int32)))).1) r) ?_
  refine OwnN.Go.newO (k' := 1) (n' := 4) (pc' := 16) (hb hby q5_13) (own_w hw 9 rfl) (own_w hw 10 rfl) (own_w hw 2 rfl) rfl rfl rfl (by decide) (by decide) ?_
  intro b14 h14 g14 sz14 E14 A14 D14
  have F14_value : Fld Z h14 b14 "java/lang/String" "value" "[B" .null := D14 (Or.inr (own_w hw 23 rfl)) (ty := (.array .byte)) (by decide)
  have F14_coder : Fld Z h14 b14 "java/lang/String" "coder" "B" (.int 0) := D14 (Or.inr (own_w hw 25 rfl)) (ty := .byte) (by decide)
  refine OwnN.Go.sp (g' := (mkF m 18 #[.val (.int p1)] [(.int p1), (.ref b14), (.ref b14)])) (fun T A t r => XS.dup A hx rfl (hb hby q5_16) rfl rfl (XS.iloadN A hx rfl (hb hby q5_17) rfl r)) ?_
  refine OwnN.Go.old fun O15 => ?_
  refine OwnN.Go.callS (ws' := []) (W := 2) (y := Y1) (argsL := [(.int p1)]) (rest := [(.ref b14), (.ref b14)]) (pc' := 21) (k' := 2) (n' := 5) (hb hby q5_18) (own_w hw 11 rfl) (own_w hw 12 rfl) (own_w hw 7 rfl) (own_w hw 13 rfl) (by decide) (fun s' hZ => OwnN.Ct.bk (rmTB l Z a0 hw [] p1 h14 n0 O15) hZ (own_w hw 13 rfl) (own_w hw 7 rfl) (by decide) (by decide)) hml.symm (lenOf pd_1 rfl) rfl (Nat.le_of_ble_eq_true rfl) rfl rfl rfl (by decide) (by decide) all0 ?_
  rintro v16 h16 K16 ⟨t16, kb16, rfl, ge16, V16⟩
  refine OwnN.Go.sp (g' := (mkF m 22 #[.val (.int p1)] [(.int 0), (.ref t16), (.ref b14), (.ref b14)])) (fun T A t r => XS.iconst A hx rfl (hb hby q5_21) r) ?_
  refine OwnN.Go.old fun O17 => ?_
  have f18 := (A14.keep K16)
  have f19 := (F14_value.keep K16 nin0)
  have f20 := (F14_coder.keep K16 nin0)
  refine OwnN.Go.callC (a := b14) (ws' := [b14]) (W := 1) (y := Y2) (argsL := [(.ref t16), (.int 0)]) (rest := [(.ref b14)]) (pc' := 25) (k' := 2) (n' := 5) (hb hby q5_22) rfl (own_w hw 15 rfl) (own_w hw 16 rfl) (own_w hw 18 rfl) (by decide) (fun s' hZ => OwnN.Ct.bk (rmSI l Z a0 hw [] b14 t16 _ _ h16 n0 O17 (Nat.le_trans (Old.le O0) sz14) f18 f19 f20) hZ (own_w hw 18 rfl) (own_w hw 2 rfl) (by decide) (by decide)) hml.symm (lenOf pd_2 rfl) rfl (Nat.le_of_ble_eq_true rfl) rfl rfl rfl (by decide) (by decide) (allS (Or.inr sz14) all0) ?_
  rintro v21 h21 K21 ⟨rfl, E21, C21, F21⟩
  have ne22 : b14 ≠ t16 := Nat.ne_of_lt (Nat.lt_of_lt_of_le A14.lt ge16)
  have f23 := (V16.keep K21 (ninS (Ne.symm ne22) nin0))
  exact OwnN.Go.ret (v := (some (.ref b14))) (fun s' T L_ fs X hr => own_retR X hx hret rfl rfl (hb hby q5_25) hr) (fun h => by rw [hret] at h; cases h) (by decide) (by decide) ⟨_, _, _, rfl, E21, C21, F21, f23⟩
theorem rmAMI (l : Launch) (Z : State) (a0 : Array Value) (hw : own_T a0 Z) (wds : List Jvm.Cond) (a1 : Addr) (h0 : Heap) (n0 : Nat) (O0 : Old Z n0 h0)   :
    OwnN.Ct l Z Y4 jdk_71_method_1_code 1 none wds (⟨1, 0, 0, 12⟩ : Room) #[(.ref a1)] n0 h0 [] (fun v h => v = none ∧ h = h0) := by
  refine OwnN.Ct.of (plainFor_of_name pn_java_util_AbstractMap) O0 all0 ?_
  intro p e s m below meth c hx hby hml hret hnm
  refine OwnN.Go.cast (ef_R_1 m a1) ?_
  refine OwnN.Go.sp (g' := (mkF m 1 #[.val (.ref a1)] [(.ref a1)])) (fun T A t r => XS.aloadN A hx rfl (hb hby q6_0) rfl rfl r) ?_
  refine OwnN.Go.v (g' := (mkF m 4 #[.val (.ref a1)] [])) (fun s' T L_ X eT hZ hown => initO X hx hZ hown (own_w hw 55 rfl) (own_w hw 20 rfl) (own_w hw 21 rfl) eT (g := (mkF m 1 #[.val (.ref a1)] [(.ref a1)])) rfl hml.symm rfl (hb hby q6_1) (by decide) (W := 0) (catOf (Nat.le_of_ble_eq_true rfl)) (by decide)) ?_
  exact OwnN.Go.ret (v := none) (fun s' T L_ fs X hr => X.returnOut hx hret (hb hby q6_4) hr) (fun _ => rfl) (by decide) (by decide) ⟨rfl, rfl⟩
theorem rmACI (l : Launch) (Z : State) (a0 : Array Value) (hw : own_T a0 Z) (wds : List Jvm.Cond) (a1 : Addr) (h0 : Heap) (n0 : Nat) (O0 : Old Z n0 h0)   :
    OwnN.Ct l Z Y3 jdk_22_method_1_code 1 none wds (⟨1, 0, 0, 12⟩ : Room) #[(.ref a1)] n0 h0 [] (fun v h => v = none ∧ h = h0) := by
  refine OwnN.Ct.of (plainFor_of_name pn_java_util_AbstractCollection) O0 all0 ?_
  intro p e s m below meth c hx hby hml hret hnm
  refine OwnN.Go.cast (ef_R_1 m a1) ?_
  refine OwnN.Go.sp (g' := (mkF m 1 #[.val (.ref a1)] [(.ref a1)])) (fun T A t r => XS.aloadN A hx rfl (hb hby q7_0) rfl rfl r) ?_
  refine OwnN.Go.v (g' := (mkF m 4 #[.val (.ref a1)] [])) (fun s' T L_ X eT hZ hown => initO X hx hZ hown (own_w hw 78 rfl) (own_w hw 20 rfl) (own_w hw 21 rfl) eT (g := (mkF m 1 #[.val (.ref a1)] [(.ref a1)])) rfl hml.symm rfl (hb hby q7_1) (by decide) (W := 0) (catOf (Nat.le_of_ble_eq_true rfl)) (by decide)) ?_
  exact OwnN.Go.ret (v := none) (fun s' T L_ fs X hr => X.returnOut hx hret (hb hby q7_4) hr) (fun _ => rfl) (by decide) (by decide) ⟨rfl, rfl⟩
theorem rmASI (l : Launch) (Z : State) (a0 : Array Value) (hw : own_T a0 Z) (wds : List Jvm.Cond) (a1 : Addr) (h0 : Heap) (n0 : Nat) (O0 : Old Z n0 h0)   :
    OwnN.Ct l Z Y5 jdk_91_method_1_code 1 none wds (⟨2, 0, 0, 24⟩ : Room) #[(.ref a1)] n0 h0 [] (fun v h => v = none ∧ h = h0) := by
  refine OwnN.Ct.of (plainFor_of_name pn_java_util_AbstractSet) O0 all0 ?_
  intro p e s m below meth c hx hby hml hret hnm
  refine OwnN.Go.cast (ef_R_1 m a1) ?_
  refine OwnN.Go.sp (g' := (mkF m 1 #[.val (.ref a1)] [(.ref a1)])) (fun T A t r => XS.aloadN A hx rfl (hb hby q8_0) rfl rfl r) ?_
  refine OwnN.Go.old fun O11 => ?_
  refine OwnN.Go.callCP (a := a1) (W := 0) (y := Y3) (argsL := []) (rest := []) (pc' := 4) (hb hby q8_1) rfl (own_w hw 72 rfl) (own_w hw 73 rfl) (own_w hw 77 rfl) (by decide) (fun s' hZ => OwnN.Ct.bk (rmACI l Z a0 hw [] a1 h0 n0 O11) hZ (own_w hw 77 rfl) (own_w hw 76 rfl) (by decide) (by decide)) hml.symm (lenOf pd_3 rfl) rfl (Nat.le_of_ble_eq_true rfl) rfl (by decide) (by decide) ?_
  rintro v12 rfl
  exact OwnN.Go.ret (v := none) (fun s' T L_ fs X hr => X.returnOut hx hret (hb hby q8_4) hr) (fun _ => rfl) (by decide) (by decide) ⟨rfl, rfl⟩
theorem rmALI (l : Launch) (Z : State) (a0 : Array Value) (hw : own_T a0 Z) (wds : List Jvm.Cond) (a1 : Addr) (h0 : Heap) (n0 : Nat) (O0 : Old Z n0 h0) (g_a1 : n0 ≤ a1) (E1 : Exa Z h0 a1 "java/util/ArrayList") (FE : Fld Z h0 a1 "java/util/ArrayList" "elementData" "[Ljava/lang/Object;" .null) (FS : Fld Z h0 a1 "java/util/ArrayList" "size" "I" (.int 0)) (FM : Fld Z h0 a1 "java/util/AbstractList" "modCount" "I" (.int 0)) :
    OwnN.Ct l Z Y8 jdk_39_method_1_code 1 none wds (⟨2, 0, 0, 24⟩ : Room) #[(.ref a1)] n0 h0 [a1] (fun v h => v = none ∧ Fld Z h a1 "java/util/ArrayList" "elementData" "[Ljava/lang/Object;" .null ∧ Fld Z h a1 "java/util/ArrayList" "size" "I" (.int 0) ∧ Fld Z h a1 "java/util/AbstractList" "modCount" "I" (.int 0)) := by
  refine OwnN.Ct.of (plainFor_of_name pn_java_util_AbstractList) O0 (allS g_a1 all0) ?_
  intro p e s m below meth c hx hby hml hret hnm
  refine OwnN.Go.cast (ef_R_1 m a1) ?_
  refine OwnN.Go.sp (g' := (mkF m 1 #[.val (.ref a1)] [(.ref a1)])) (fun T A t r => XS.aloadN A hx rfl (hb hby q9_0) rfl rfl r) ?_
  refine OwnN.Go.old fun O11 => ?_
  refine OwnN.Go.callCP (a := a1) (W := 0) (y := Y3) (argsL := []) (rest := []) (pc' := 4) (hb hby q9_1) rfl (own_w hw 97 rfl) (own_w hw 73 rfl) (own_w hw 77 rfl) (by decide) (fun s' hZ => OwnN.Ct.bk (rmACI l Z a0 hw [] a1 h0 n0 O11) hZ (own_w hw 77 rfl) (own_w hw 76 rfl) (by decide) (by decide)) hml.symm (lenOf pd_3 rfl) rfl (Nat.le_of_ble_eq_true rfl) rfl (by decide) (by decide) ?_
  rintro v12 rfl
  refine OwnN.Go.sp (g' := (mkF m 6 #[.val (.ref a1)] [(.int 0), (.ref a1)])) (fun T A t r => XS.aloadN A hx rfl (hb hby q9_4) rfl rfl (XS.iconst A hx rfl (hb hby q9_5) r)) ?_
  refine OwnN.Go.w (g' := (mkF m 9 #[.val (.ref a1)] [])) (fun s' T L_ X eT hZ hown => putF X hx hZ hown (host := "") (Or.inl (own_w hw 99 rfl)) Via.refl eT FM E1 (Or.inl (own_w hw 100 rfl)) (own_w hw 86 rfl) (ty := .int) (by decide) rfl rfl (g := (mkF m 6 #[.val (.ref a1)] [(.int 0), (.ref a1)])) rfl rfl (hb hby q9_6)) (Or.inl (List.mem_of_getElem? (i := 0) rfl)) ?_
  intro h14 W14
  have F14 := FM.same W14
  have f15 := (FE.other W14 (Or.inr (slot_ne (Or.inl (own_w hw 103 rfl)) (Or.inl (own_w hw 100 rfl)) (by decide) (t := (.array (.object "java/lang/Object"))) (t' := .int) (by decide) (by decide))))
  have f16 := (FS.other W14 (Or.inr (slot_ne (Or.inl (own_w hw 249 rfl)) (Or.inl (own_w hw 100 rfl)) (by decide) (t := .int) (t' := .int) (by decide) (by decide))))
  exact OwnN.Go.ret (v := none) (fun s' T L_ fs X hr => X.returnOut hx hret (hb hby q9_9) hr) (fun _ => rfl) (by decide) (by decide) ⟨rfl, f15, f16, F14⟩
theorem rmTMI (l : Launch) (Z : State) (a0 : Array Value) (hw : own_T a0 Z) (wds : List Jvm.Cond) (a1 : Addr) (h0 : Heap) (n0 : Nat) (O0 : Old Z n0 h0) (g_a1 : n0 ≤ a1) (E1 : Exa Z h0 a1 "java/util/TreeMap") (FC : Fld Z h0 a1 "java/util/TreeMap" "comparator" "Ljava/util/Comparator;" .null) (F_size : Fld Z h0 a1 "java/util/TreeMap" "size" "I" (.int 0)) (F_modCount : Fld Z h0 a1 "java/util/TreeMap" "modCount" "I" (.int 0)) (F_root : Fld Z h0 a1 "java/util/TreeMap" "root" "Ljava/util/TreeMap$Entry;" .null) (F_navigableKeySet : Fld Z h0 a1 "java/util/TreeMap" "navigableKeySet" "Ljava/util/TreeMap$KeySet;" .null) :
    OwnN.Ct l Z Y6 jdk_2729_method_1_code 1 none wds (⟨2, 0, 0, 24⟩ : Room) #[(.ref a1)] n0 h0 [a1] (fun v h => v = none ∧ Fld Z h a1 "java/util/TreeMap" "size" "I" (.int 0) ∧ Fld Z h a1 "java/util/TreeMap" "modCount" "I" (.int 0) ∧ Fld Z h a1 "java/util/TreeMap" "root" "Ljava/util/TreeMap$Entry;" .null ∧ Fld Z h a1 "java/util/TreeMap" "navigableKeySet" "Ljava/util/TreeMap$KeySet;" .null) := by
  refine OwnN.Ct.of (plainFor_of_name pn_java_util_TreeMap) O0 (allS g_a1 all0) ?_
  intro p e s m below meth c hx hby hml hret hnm
  refine OwnN.Go.cast (ef_R_1 m a1) ?_
  refine OwnN.Go.sp (g' := (mkF m 1 #[.val (.ref a1)] [(.ref a1)])) (fun T A t r => XS.aloadN A hx rfl (hb hby q10_0) rfl rfl r) ?_
  refine OwnN.Go.old fun O11 => ?_
  refine OwnN.Go.callCP (a := a1) (W := 0) (y := Y4) (argsL := []) (rest := []) (pc' := 4) (hb hby q10_1) rfl (own_w hw 49 rfl) (own_w hw 50 rfl) (own_w hw 54 rfl) (by decide) (fun s' hZ => OwnN.Ct.bk (rmAMI l Z a0 hw [] a1 h0 n0 O11) hZ (own_w hw 54 rfl) (own_w hw 53 rfl) (by decide) (by decide)) hml.symm (lenOf pd_3 rfl) rfl (Nat.le_of_ble_eq_true rfl) rfl (by decide) (by decide) ?_
  rintro v12 rfl
  refine OwnN.Go.sp (g' := (mkF m 6 #[.val (.ref a1)] [(.int 0), (.ref a1)])) (fun T A t r => XS.aloadN A hx rfl (hb hby q10_4) rfl rfl (XS.iconst A hx rfl (hb hby q10_5) r)) ?_
  refine OwnN.Go.w (g' := (mkF m 9 #[.val (.ref a1)] [])) (fun s' T L_ X eT hZ hown => putF X hx hZ hown (host := "") (Or.inl (own_w hw 56 rfl)) Via.refl eT F_size E1 (Or.inl (own_w hw 57 rfl)) (own_w hw 43 rfl) (ty := .int) (by decide) rfl rfl (g := (mkF m 6 #[.val (.ref a1)] [(.int 0), (.ref a1)])) rfl rfl (hb hby q10_6)) (Or.inl (List.mem_of_getElem? (i := 0) rfl)) ?_
  intro h14 W14
  have F14 := F_size.same W14
  refine OwnN.Go.sp (g' := (mkF m 11 #[.val (.ref a1)] [(.int 0), (.ref a1)])) (fun T A t r => XS.aloadN A hx rfl (hb hby q10_9) rfl rfl (XS.iconst A hx rfl (hb hby q10_10) r)) ?_
  have f15 := (E1.wr W14)
  have f16 := (F_modCount.other W14 (Or.inr (slot_ne (Or.inl (own_w hw 59 rfl)) (Or.inl (own_w hw 57 rfl)) (by decide) (t := .int) (t' := .int) (by decide) (by decide))))
  refine OwnN.Go.w (g' := (mkF m 14 #[.val (.ref a1)] [])) (fun s' T L_ X eT hZ hown => putF X hx hZ hown (host := "") (Or.inl (own_w hw 58 rfl)) Via.refl eT f16 f15 (Or.inl (own_w hw 59 rfl)) (own_w hw 43 rfl) (ty := .int) (by decide) rfl rfl (g := (mkF m 11 #[.val (.ref a1)] [(.int 0), (.ref a1)])) rfl rfl (hb hby q10_11)) (Or.inl (List.mem_of_getElem? (i := 0) rfl)) ?_
  intro h18 W18
  have F18 := f16.same W18
  refine OwnN.Go.sp (g' := (mkF m 16 #[.val (.ref a1)] [.null, (.ref a1)])) (fun T A t r => XS.aloadN A hx rfl (hb hby q10_14) rfl rfl (XS.aconstNull A hx rfl (hb hby q10_15) r)) ?_
  have f19 := (f15.wr W18)
  have f20 := ((FC.other W14 (Or.inr (slot_ne (Or.inr (own_w hw 61 rfl)) (Or.inl (own_w hw 57 rfl)) (by decide) (t := (.object "java/util/Comparator")) (t' := .int) (by decide) (by decide)))).other W18 (Or.inr (slot_ne (Or.inr (own_w hw 61 rfl)) (Or.inl (own_w hw 59 rfl)) (by decide) (t := (.object "java/util/Comparator")) (t' := .int) (by decide) (by decide))))
  refine OwnN.Go.w (g' := (mkF m 19 #[.val (.ref a1)] [])) (fun s' T L_ X eT hZ hown => putF X hx hZ hown (host := "") (Or.inl (own_w hw 60 rfl)) Via.refl eT f20 f19 (Or.inr ⟨(own_w hw 61 rfl), rfl, hnm⟩) (own_w hw 43 rfl) (ty := (.object "java/util/Comparator")) (by decide) rfl rfl (g := (mkF m 16 #[.val (.ref a1)] [.null, (.ref a1)])) rfl rfl (hb hby q10_16)) (Or.inl (List.mem_of_getElem? (i := 0) rfl)) ?_
  intro h22 W22
  have F22 := f20.same W22
  have f23 := ((F14.other W18 (Or.inr (slot_ne (Or.inl (own_w hw 57 rfl)) (Or.inl (own_w hw 59 rfl)) (by decide) (t := .int) (t' := .int) (by decide) (by decide)))).other W22 (Or.inr (slot_ne (Or.inl (own_w hw 57 rfl)) (Or.inr (own_w hw 61 rfl)) (by decide) (t := .int) (t' := (.object "java/util/Comparator")) (by decide) (by decide))))
  have f24 := (F18.other W22 (Or.inr (slot_ne (Or.inl (own_w hw 59 rfl)) (Or.inr (own_w hw 61 rfl)) (by decide) (t := .int) (t' := (.object "java/util/Comparator")) (by decide) (by decide))))
  have f25 := (((F_root.other W14 (Or.inr (slot_ne (Or.inl (own_w hw 352 rfl)) (Or.inl (own_w hw 57 rfl)) (by decide) (t := (.object "java/util/TreeMap$Entry")) (t' := .int) (by decide) (by decide)))).other W18 (Or.inr (slot_ne (Or.inl (own_w hw 352 rfl)) (Or.inl (own_w hw 59 rfl)) (by decide) (t := (.object "java/util/TreeMap$Entry")) (t' := .int) (by decide) (by decide)))).other W22 (Or.inr (slot_ne (Or.inl (own_w hw 352 rfl)) (Or.inr (own_w hw 61 rfl)) (by decide) (t := (.object "java/util/TreeMap$Entry")) (t' := (.object "java/util/Comparator")) (by decide) (by decide))))
  have f26 := (((F_navigableKeySet.other W14 (Or.inr (slot_ne (Or.inl (own_w hw 315 rfl)) (Or.inl (own_w hw 57 rfl)) (by decide) (t := (.object "java/util/TreeMap$KeySet")) (t' := .int) (by decide) (by decide)))).other W18 (Or.inr (slot_ne (Or.inl (own_w hw 315 rfl)) (Or.inl (own_w hw 59 rfl)) (by decide) (t := (.object "java/util/TreeMap$KeySet")) (t' := .int) (by decide) (by decide)))).other W22 (Or.inr (slot_ne (Or.inl (own_w hw 315 rfl)) (Or.inr (own_w hw 61 rfl)) (by decide) (t := (.object "java/util/TreeMap$KeySet")) (t' := (.object "java/util/Comparator")) (by decide) (by decide))))
  exact OwnN.Go.ret (v := none) (fun s' T L_ fs X hr => X.returnOut hx hret (hb hby q10_19) hr) (fun _ => rfl) (by decide) (by decide) ⟨rfl, f23, f24, f25, f26⟩
theorem rmTSJ (l : Launch) (Z : State) (a0 : Array Value) (hw : own_T a0 Z) (wds : List Jvm.Cond) (a1 : Addr) (a2 : Addr) (h0 : Heap) (n0 : Nat) (O0 : Old Z n0 h0) (g_a1 : n0 ≤ a1) (E1 : Exa Z h0 a1 "java/util/TreeSet") (F1 : Fld Z h0 a1 "java/util/TreeSet" "m" "Ljava/util/NavigableMap;" .null) :
    OwnN.Ct l Z Y7 jdk_2756_method_1_code 2 none wds (⟨3, 0, 0, 36⟩ : Room) #[(.ref a1), (.ref a2)] n0 h0 [a1] (fun v h => v = none ∧ Fld Z h a1 "java/util/TreeSet" "m" "Ljava/util/NavigableMap;" (.ref a2)) := by
  refine OwnN.Ct.of (plainFor_of_name pn_java_util_TreeSet) O0 (allS g_a1 all0) ?_
  intro p e s m below meth c hx hby hml hret hnm
  refine OwnN.Go.cast (ef_RR_2 m a1 a2) ?_
  refine OwnN.Go.sp (g' := (mkF m 1 #[.val (.ref a1), .val (.ref a2)] [(.ref a1)])) (fun T A t r => XS.aloadN A hx rfl (hb hby q11_0) rfl rfl r) ?_
  refine OwnN.Go.old fun O11 => ?_
  refine OwnN.Go.callCP (a := a1) (W := 0) (y := Y5) (argsL := []) (rest := []) (pc' := 4) (hb hby q11_1) rfl (own_w hw 66 rfl) (own_w hw 67 rfl) (own_w hw 71 rfl) (by decide) (fun s' hZ => OwnN.Ct.bk (rmASI l Z a0 hw [] a1 h0 n0 O11) hZ (own_w hw 71 rfl) (own_w hw 70 rfl) (by decide) (by decide)) hml.symm (lenOf pd_3 rfl) rfl (Nat.le_of_ble_eq_true rfl) rfl (by decide) (by decide) ?_
  rintro v12 rfl
  refine OwnN.Go.sp (g' := (mkF m 6 #[.val (.ref a1), .val (.ref a2)] [(.ref a2), (.ref a1)])) (fun T A t r => XS.aloadN A hx rfl (hb hby q11_4) rfl rfl (XS.aloadN A hx rfl (hb hby q11_5) rfl rfl r)) ?_
  refine OwnN.Go.w (g' := (mkF m 9 #[.val (.ref a1), .val (.ref a2)] [])) (fun s' T L_ X eT hZ hown => putF X hx hZ hown (host := "") (Or.inl (own_w hw 79 rfl)) Via.refl eT F1 E1 (Or.inl (own_w hw 80 rfl)) (own_w hw 37 rfl) (ty := (.object "java/util/NavigableMap")) (by decide) rfl rfl (g := (mkF m 6 #[.val (.ref a1), .val (.ref a2)] [(.ref a2), (.ref a1)])) rfl rfl (hb hby q11_6)) (Or.inl (List.mem_of_getElem? (i := 0) rfl)) ?_
  intro h14 W14
  have F14 := F1.same W14
  exact OwnN.Go.ret (v := none) (fun s' T L_ fs X hr => X.returnOut hx hret (hb hby q11_9) hr) (fun _ => rfl) (by decide) (by decide) ⟨rfl, F14⟩
theorem rmTSI (l : Launch) (Z : State) (a0 : Array Value) (hw : own_T a0 Z) (wds : List Jvm.Cond) (a1 : Addr) (h0 : Heap) (n0 : Nat) (O0 : Old Z n0 h0) (g_a1 : n0 ≤ a1) (E1 : Exa Z h0 a1 "java/util/TreeSet") (F1 : Fld Z h0 a1 "java/util/TreeSet" "m" "Ljava/util/NavigableMap;" .null) :
    OwnN.Ct l Z Y9 jdk_2756_method_2_code 1 none wds (⟨4, 1, 9, 49⟩ : Room) #[(.ref a1)] n0 h0 [a1] (fun v h => ∃ tm : Addr, v = none ∧ h0.size ≤ tm ∧ Fld Z h a1 "java/util/TreeSet" "m" "Ljava/util/NavigableMap;" (.ref tm) ∧ Exa Z h tm "java/util/TreeMap" ∧ Fld Z h tm "java/util/TreeMap" "size" "I" (.int 0) ∧ Fld Z h tm "java/util/TreeMap" "modCount" "I" (.int 0) ∧ Fld Z h tm "java/util/TreeMap" "root" "Ljava/util/TreeMap$Entry;" .null ∧ Fld Z h tm "java/util/TreeMap" "navigableKeySet" "Ljava/util/TreeMap$KeySet;" .null) := by
  refine OwnN.Ct.of (plainFor_of_name pn_java_util_TreeSet) O0 (allS g_a1 all0) ?_
  intro p e s m below meth c hx hby hml hret hnm
  refine OwnN.Go.cast (ef_R_1 m a1) ?_
  refine OwnN.Go.sp (g' := (mkF m 1 #[.val (.ref a1)] [(.ref a1)])) (fun T A t r => XS.aloadN A hx rfl (hb hby q12_0) rfl rfl r) ?_
  refine OwnN.Go.newO (k' := 1) (n' := 9) (pc' := 4) (hb hby q12_1) (own_w hw 42 rfl) (own_w hw 43 rfl) (own_w hw 44 rfl) rfl rfl rfl (by decide) (by decide) ?_
  intro b11 h11 g11 sz11 E11 A11 D11
  have F11_size : Fld Z h11 b11 "java/util/TreeMap" "size" "I" (.int 0) := D11 (Or.inl (own_w hw 57 rfl)) (ty := .int) (by decide)
  have F11_modCount : Fld Z h11 b11 "java/util/TreeMap" "modCount" "I" (.int 0) := D11 (Or.inl (own_w hw 59 rfl)) (ty := .int) (by decide)
  have F11_comparator : Fld Z h11 b11 "java/util/TreeMap" "comparator" "Ljava/util/Comparator;" .null := D11 (Or.inr (own_w hw 61 rfl)) (ty := (.object "java/util/Comparator")) (by decide)
  have F11_navigableKeySet : Fld Z h11 b11 "java/util/TreeMap" "navigableKeySet" "Ljava/util/TreeMap$KeySet;" .null := D11 (Or.inl (own_w hw 315 rfl)) (ty := (.object "java/util/TreeMap$KeySet")) (by decide)
  have F11_root : Fld Z h11 b11 "java/util/TreeMap" "root" "Ljava/util/TreeMap$Entry;" .null := D11 (Or.inl (own_w hw 352 rfl)) (ty := (.object "java/util/TreeMap$Entry")) (by decide)
  refine OwnN.Go.sp (g' := (mkF m 5 #[.val (.ref a1)] [(.ref b11), (.ref b11), (.ref a1)])) (fun T A t r => XS.dup A hx rfl (hb hby q12_4) rfl rfl r) ?_
  refine OwnN.Go.old fun O12 => ?_
  refine OwnN.Go.callC (a := b11) (ws' := [b11]) (W := 2) (y := Y6) (argsL := []) (rest := [(.ref b11), (.ref a1)]) (pc' := 8) (k' := 1) (n' := 9) (hb hby q12_5) rfl (own_w hw 45 rfl) (own_w hw 46 rfl) (own_w hw 48 rfl) (by decide) (fun s' hZ => OwnN.Ct.bk (rmTMI l Z a0 hw [] b11 h11 n0 O12 (Nat.le_trans (Old.le O0) sz11) A11 F11_comparator F11_size F11_modCount F11_root F11_navigableKeySet) hZ (own_w hw 48 rfl) (own_w hw 44 rfl) (by decide) (by decide)) hml.symm (lenOf pd_3 rfl) rfl (Nat.le_of_ble_eq_true rfl) rfl rfl rfl (by decide) (by decide) (allS (Or.inr sz11) all0) ?_
  rintro v13 h13 K13 ⟨rfl, Fa13, Fb13, Fc13, Fd13⟩
  refine OwnN.Go.old fun O14 => ?_
  have f15 := ((E1.ext E11).keep K13)
  have ne16 : a1 ≠ b11 := Nat.ne_of_lt (Nat.lt_of_lt_of_le E1.lt (Nat.le_of_eq g11.symm))
  have f17 := ((F1.ext E11).keep K13 (ninS ne16 nin0))
  refine OwnN.Go.callC (a := a1) (ws' := [a1]) (W := 0) (y := Y7) (argsL := [(.ref b11)]) (rest := []) (pc' := 11) (k' := 1) (n' := 9) (hb hby q12_8) rfl (own_w hw 62 rfl) (own_w hw 63 rfl) (own_w hw 65 rfl) (by decide) (fun s' hZ => OwnN.Ct.bk (rmTSJ l Z a0 hw [] a1 b11 h13 n0 O14 g_a1 f15 f17) hZ (own_w hw 65 rfl) (own_w hw 38 rfl) (by decide) (by decide)) hml.symm (lenOf pd_4 rfl) rfl (Nat.le_of_ble_eq_true rfl) rfl rfl rfl (by decide) (by decide) (allS (Or.inl (List.mem_of_getElem? (i := 0) rfl)) all0) ?_
  rintro v18 h18 K18 ⟨rfl, Fm18⟩
  have f19 := ((A11.keep K13).keep K18)
  have f20 := (Fa13.keep K18 (ninS (Ne.symm ne16) nin0))
  have f21 := (Fb13.keep K18 (ninS (Ne.symm ne16) nin0))
  have f22 := (Fc13.keep K18 (ninS (Ne.symm ne16) nin0))
  have f23 := (Fd13.keep K18 (ninS (Ne.symm ne16) nin0))
  exact OwnN.Go.ret (v := none) (fun s' T L_ fs X hr => X.returnOut hx hret (hb hby q12_11) hr) (fun _ => rfl) (by decide) (by decide) ⟨_, rfl, sz11, Fm18, f19, f20, f21, f22, f23⟩
theorem rmALN (l : Launch) (Z : State) (a0 : Array Value) (hw : own_T a0 Z) (wds : List Jvm.Cond) (a1 : Addr) (dE : Addr) (kD : ClassId) (h0 : Heap) (n0 : Nat) (O0 : Old Z n0 h0) (g_a1 : n0 ≤ a1) (E1 : Exa Z h0 a1 "java/util/ArrayList") (FE : Fld Z h0 a1 "java/util/ArrayList" "elementData" "[Ljava/lang/Object;" .null) (FS : Fld Z h0 a1 "java/util/ArrayList" "size" "I" (.int 0)) (FM : Fld Z h0 a1 "java/util/AbstractList" "modCount" "I" (.int 0)) (SD : Sta Z Z.heap "java/util/ArrayList" "DEFAULTCAPACITY_EMPTY_ELEMENTDATA" "[Ljava/lang/Object;" (.ref dE)) (AD : Arv Z Z.heap dE kD (.object "java/lang/Object") (0 : Int32) [] .null) :
    OwnN.Ct l Z Y10 jdk_38_method_2_code 1 none wds (⟨3, 0, 0, 36⟩ : Room) #[(.ref a1)] n0 h0 [a1] (fun v h => v = none ∧ Fld Z h a1 "java/util/ArrayList" "elementData" "[Ljava/lang/Object;" (.ref dE) ∧ Fld Z h a1 "java/util/ArrayList" "size" "I" (.int 0) ∧ Fld Z h a1 "java/util/AbstractList" "modCount" "I" (.int 0)) := by
  refine OwnN.Ct.of (plainFor_of_name pn_java_util_ArrayList) O0 (allS g_a1 all0) ?_
  intro p e s m below meth c hx hby hml hret hnm
  refine OwnN.Go.cast (ef_R_1 m a1) ?_
  refine OwnN.Go.sp (g' := (mkF m 1 #[.val (.ref a1)] [(.ref a1)])) (fun T A t r => XS.aloadN A hx rfl (hb hby q13_0) rfl rfl r) ?_
  refine OwnN.Go.old fun O11 => ?_
  refine OwnN.Go.callC (a := a1) (ws' := [a1]) (W := 0) (y := Y8) (argsL := []) (rest := []) (pc' := 4) (k' := 0) (n' := 0) (hb hby q13_1) rfl (own_w hw 91 rfl) (own_w hw 92 rfl) (own_w hw 96 rfl) (by decide) (fun s' hZ => OwnN.Ct.bk (rmALI l Z a0 hw [] a1 h0 n0 O11 g_a1 E1 FE FS FM) hZ (own_w hw 96 rfl) (own_w hw 95 rfl) (by decide) (by decide)) hml.symm (lenOf pd_3 rfl) rfl (Nat.le_of_ble_eq_true rfl) rfl rfl rfl (by decide) (by decide) (allS (Or.inl (List.mem_of_getElem? (i := 0) rfl)) all0) ?_
  rintro v12 h12 K12 ⟨rfl, FE12, FS12, FM12⟩
  refine OwnN.Go.sp (g' := (mkF m 5 #[.val (.ref a1)] [(.ref a1)])) (fun T A t r => XS.aloadN A hx rfl (hb hby q13_4) rfl rfl r) ?_
  refine OwnN.Go.old fun O13 => ?_
  have St14 := Sta.ext O13.2 SD
  refine OwnN.Go.v (g' := (mkF m 8 #[.val (.ref a1)] [(.ref dE), (.ref a1)])) (fun s' T L_ X eT hZ hown => getS2 X hx hZ hown (host := "") (Or.inl (own_w hw 101 rfl)) Via.refl eT St14 (g := (mkF m 5 #[.val (.ref a1)] [(.ref a1)])) rfl (hb hby q13_5)) ?_
  have f15 := (E1.keep K12)
  refine OwnN.Go.w (g' := (mkF m 11 #[.val (.ref a1)] [])) (fun s' T L_ X eT hZ hown => putF X hx hZ hown (host := "") (Or.inl (own_w hw 102 rfl)) Via.refl eT FE12 f15 (Or.inl (own_w hw 103 rfl)) (own_w hw 86 rfl) (ty := (.array (.object "java/lang/Object"))) (by decide) rfl rfl (g := (mkF m 8 #[.val (.ref a1)] [(.ref dE), (.ref a1)])) rfl rfl (hb hby q13_8)) (Or.inl (List.mem_of_getElem? (i := 0) rfl)) ?_
  intro h17 W17
  have F17 := FE12.same W17
  have f18 := (FS12.other W17 (Or.inr (slot_ne (Or.inl (own_w hw 249 rfl)) (Or.inl (own_w hw 103 rfl)) (by decide) (t := .int) (t' := (.array (.object "java/lang/Object"))) (by decide) (by decide))))
  have f19 := (FM12.other W17 (Or.inr (slot_ne (Or.inl (own_w hw 100 rfl)) (Or.inl (own_w hw 103 rfl)) (by decide) (t := .int) (t' := (.array (.object "java/lang/Object"))) (by decide) (by decide))))
  exact OwnN.Go.ret (v := none) (fun s' T L_ fs X hr => X.returnOut hx hret (hb hby q13_11) hr) (fun _ => rfl) (by decide) (by decide) ⟨rfl, F17, f18, f19⟩
theorem rmJFI (l : Launch) (Z : State) (a0 : Array Value) (hw : own_T a0 Z) (wds : List Jvm.Cond) (a1 : Addr) (a2 : Addr) (dE : Addr) (kD : ClassId) (h0 : Heap) (n0 : Nat) (O0 : Old Z n0 h0) (g_a1 : n0 ≤ a1) (E1 : Exa Z h0 a1 "com/example/typewire/typewire/codegen/JavaFile") (F_javaImports : Fld Z h0 a1 "com/example/typewire/typewire/codegen/JavaFile" "javaImports" "Ljava/util/TreeSet;" .null) (F_otherImports : Fld Z h0 a1 "com/example/typewire/typewire/codegen/JavaFile" "otherImports" "Ljava/util/TreeSet;" .null) (F_lines : Fld Z h0 a1 "com/example/typewire/typewire/codegen/JavaFile" "lines" "Ljava/util/List;" .null) (F_className : Fld Z h0 a1 "com/example/typewire/typewire/codegen/JavaFile" "className" "Ljava/lang/String;" .null) (FD : Fld Z h0 a1 "com/example/typewire/typewire/codegen/JavaFile" "depth" "I" (.int 0)) (SD : Sta Z Z.heap "java/util/ArrayList" "DEFAULTCAPACITY_EMPTY_ELEMENTDATA" "[Ljava/lang/Object;" (.ref dE)) (AD : Arv Z Z.heap dE kD (.object "java/lang/Object") (0 : Int32) [] .null) :
    OwnN.Ct l Z Y77 prog_4_method_1_code 2 none wds (⟨5, 5, 23, 63⟩ : Room) #[(.ref a1), (.ref a2)] n0 h0 [a1] (fun v h => ∃ s1 m1 s2 m2 al : Addr, v = none ∧ Fld Z h a1 "com/example/typewire/typewire/codegen/JavaFile" "javaImports" "Ljava/util/TreeSet;" (.ref s1) ∧ Fld Z h a1 "com/example/typewire/typewire/codegen/JavaFile" "otherImports" "Ljava/util/TreeSet;" (.ref s2) ∧ Fld Z h a1 "com/example/typewire/typewire/codegen/JavaFile" "lines" "Ljava/util/List;" (.ref al) ∧ Fld Z h a1 "com/example/typewire/typewire/codegen/JavaFile" "depth" "I" (.int 0) ∧ Exa Z h s1 "java/util/TreeSet" ∧ Fld Z h s1 "java/util/TreeSet" "m" "Ljava/util/NavigableMap;" (.ref m1) ∧ Exa Z h m1 "java/util/TreeMap" ∧ Fld Z h m1 "java/util/TreeMap" "size" "I" (.int 0) ∧ Fld Z h m1 "java/util/TreeMap" "modCount" "I" (.int 0) ∧ Fld Z h m1 "java/util/TreeMap" "root" "Ljava/util/TreeMap$Entry;" .null ∧ Fld Z h m1 "java/util/TreeMap" "navigableKeySet" "Ljava/util/TreeMap$KeySet;" .null ∧ Exa Z h s2 "java/util/TreeSet" ∧ Fld Z h s2 "java/util/TreeSet" "m" "Ljava/util/NavigableMap;" (.ref m2) ∧ Exa Z h m2 "java/util/TreeMap" ∧ Fld Z h m2 "java/util/TreeMap" "size" "I" (.int 0) ∧ Fld Z h m2 "java/util/TreeMap" "modCount" "I" (.int 0) ∧ Fld Z h m2 "java/util/TreeMap" "root" "Ljava/util/TreeMap$Entry;" .null ∧ Fld Z h m2 "java/util/TreeMap" "navigableKeySet" "Ljava/util/TreeMap$KeySet;" .null ∧ m1 ≠ m2 ∧ h0.size ≤ m1 ∧ h0.size ≤ m2 ∧ h0.size ≤ al ∧ Exa Z h al "java/util/ArrayList" ∧ Fld Z h al "java/util/ArrayList" "elementData" "[Ljava/lang/Object;" (.ref dE) ∧ Fld Z h al "java/util/ArrayList" "size" "I" (.int 0) ∧ Fld Z h al "java/util/AbstractList" "modCount" "I" (.int 0)) := by
  refine OwnN.Ct.of (plainFor_of_name pn_com_example_typewire_typewire_codegen_JavaFile) O0 (allS g_a1 all0) ?_
  intro p e s m below meth c hx hby hml hret hnm
  refine OwnN.Go.cast (ef_RR_2 m a1 a2) ?_
  refine OwnN.Go.sp (g' := (mkF m 1 #[.val (.ref a1), .val (.ref a2)] [(.ref a1)])) (fun T A t r => XS.aloadN A hx rfl (hb hby q14_0) rfl rfl r) ?_
  refine OwnN.Go.v (g' := (mkF m 4 #[.val (.ref a1), .val (.ref a2)] [])) (fun s' T L_ X eT hZ hown => initO X hx hZ hown (own_w hw 35 rfl) (own_w hw 20 rfl) (own_w hw 21 rfl) eT (g := (mkF m 1 #[.val (.ref a1), .val (.ref a2)] [(.ref a1)])) rfl hml.symm rfl (hb hby q14_1) (by decide) (W := 0) (catOf (Nat.le_of_ble_eq_true rfl)) (by decide)) ?_
  refine OwnN.Go.sp (g' := (mkF m 5 #[.val (.ref a1), .val (.ref a2)] [(.ref a1)])) (fun T A t r => XS.aloadN A hx rfl (hb hby q14_4) rfl rfl r) ?_
  refine OwnN.Go.newO (k' := 1) (n' := 1) (pc' := 8) (hb hby q14_5) (own_w hw 36 rfl) (own_w hw 37 rfl) (own_w hw 38 rfl) rfl rfl rfl (by decide) (by decide) ?_
  intro b11 h11 g11 sz11 E11 A11 D11
  have F11_m : Fld Z h11 b11 "java/util/TreeSet" "m" "Ljava/util/NavigableMap;" .null := D11 (Or.inl (own_w hw 80 rfl)) (ty := (.object "java/util/NavigableMap")) (by decide)
  refine OwnN.Go.sp (g' := (mkF m 9 #[.val (.ref a1), .val (.ref a2)] [(.ref b11), (.ref b11), (.ref a1)])) (fun T A t r => XS.dup A hx rfl (hb hby q14_8) rfl rfl r) ?_
  refine OwnN.Go.keep fun KK12 => ?_
  refine OwnN.Go.old fun O13 => ?_
  refine OwnN.Go.callC (a := b11) (ws' := [b11]) (W := 2) (y := Y9) (argsL := []) (rest := [(.ref b11), (.ref a1)]) (pc' := 12) (k' := 2) (n' := 10) (hb hby q14_9) rfl (own_w hw 39 rfl) (own_w hw 40 rfl) (own_w hw 41 rfl) (by decide) (fun s' hZ => OwnN.Ct.bk (rmTSI l Z a0 hw [] b11 h11 n0 O13 (Nat.le_trans (Old.le O0) sz11) A11 F11_m) hZ (own_w hw 41 rfl) (own_w hw 38 rfl) (by decide) (by decide)) hml.symm (lenOf pd_3 rfl) rfl (Nat.le_of_ble_eq_true rfl) rfl rfl rfl (by decide) (by decide) (allS (Or.inr sz11) all0) ?_
  rintro v14 h14 K14 ⟨tm14, rfl, ge14, Fm14, Em14, Fa14, Fb14, Fc14, Fd14⟩
  have f15 := ((E1.ext E11).keep K14)
  have ne16 : a1 ≠ b11 := Nat.ne_of_lt (Nat.lt_of_lt_of_le E1.lt (Nat.le_of_eq g11.symm))
  have f17 := ((F_javaImports.ext E11).keep K14 (ninS ne16 nin0))
  refine OwnN.Go.w (g' := (mkF m 15 #[.val (.ref a1), .val (.ref a2)] [])) (fun s' T L_ X eT hZ hown => putF X hx hZ hown (host := "") (Or.inl (own_w hw 81 rfl)) Via.refl eT f17 f15 (Or.inr ⟨(own_w hw 82 rfl), rfl, hnm⟩) (own_w hw 27 rfl) (ty := (.object "java/util/TreeSet")) (by decide) rfl rfl (g := (mkF m 12 #[.val (.ref a1), .val (.ref a2)] [(.ref b11), (.ref a1)])) rfl rfl (hb hby q14_12)) (Or.inl (List.mem_of_getElem? (i := 0) rfl)) ?_
  intro h19 W19
  have F19 := f17.same W19
  refine OwnN.Go.sp (g' := (mkF m 16 #[.val (.ref a1), .val (.ref a2)] [(.ref a1)])) (fun T A t r => XS.aloadN A hx rfl (hb hby q14_15) rfl rfl r) ?_
  refine OwnN.Go.newO (k' := 3) (n' := 11) (pc' := 19) (hb hby q14_16) (own_w hw 36 rfl) (own_w hw 37 rfl) (own_w hw 38 rfl) rfl rfl rfl (by decide) (by decide) ?_
  intro b20 h20 g20 sz20 E20 A20 D20
  have F20_m : Fld Z h20 b20 "java/util/TreeSet" "m" "Ljava/util/NavigableMap;" .null := D20 (Or.inl (own_w hw 80 rfl)) (ty := (.object "java/util/NavigableMap")) (by decide)
  refine OwnN.Go.sp (g' := (mkF m 20 #[.val (.ref a1), .val (.ref a2)] [(.ref b20), (.ref b20), (.ref a1)])) (fun T A t r => XS.dup A hx rfl (hb hby q14_19) rfl rfl r) ?_
  refine OwnN.Go.keep fun KK21 => ?_
  refine OwnN.Go.old fun O22 => ?_
  refine OwnN.Go.callC (a := b20) (ws' := [b20]) (W := 2) (y := Y9) (argsL := []) (rest := [(.ref b20), (.ref a1)]) (pc' := 23) (k' := 4) (n' := 20) (hb hby q14_20) rfl (own_w hw 39 rfl) (own_w hw 40 rfl) (own_w hw 41 rfl) (by decide) (fun s' hZ => OwnN.Ct.bk (rmTSI l Z a0 hw [] b20 h20 n0 O22 (Nat.le_trans (Old.le O0) sz20) A20 F20_m) hZ (own_w hw 41 rfl) (own_w hw 38 rfl) (by decide) (by decide)) hml.symm (lenOf pd_3 rfl) rfl (Nat.le_of_ble_eq_true rfl) rfl rfl rfl (by decide) (by decide) (allS (Or.inr sz20) all0) ?_
  rintro v23 h23 K23 ⟨tm23, rfl, ge23, Fm23, Em23, Fa23, Fb23, Fc23, Fd23⟩
  have f24 := (((f15.wr W19).ext E20).keep K23)
  have f25 := (f15.wr W19)
  have ne26 : a1 ≠ b20 := Nat.ne_of_lt (Nat.lt_of_lt_of_le f25.lt (Nat.le_of_eq g20.symm))
  have f27 := (((((F_otherImports.ext E11).keep K14 (ninS ne16 nin0)).other W19 (Or.inr (slot_ne (Or.inr (own_w hw 84 rfl)) (Or.inr (own_w hw 82 rfl)) (by decide) (t := (.object "java/util/TreeSet")) (t' := (.object "java/util/TreeSet")) (by decide) (by decide)))).ext E20).keep K23 (ninS ne26 nin0))
  refine OwnN.Go.w (g' := (mkF m 26 #[.val (.ref a1), .val (.ref a2)] [])) (fun s' T L_ X eT hZ hown => putF X hx hZ hown (host := "") (Or.inl (own_w hw 83 rfl)) Via.refl eT f27 f24 (Or.inr ⟨(own_w hw 84 rfl), rfl, hnm⟩) (own_w hw 27 rfl) (ty := (.object "java/util/TreeSet")) (by decide) rfl rfl (g := (mkF m 23 #[.val (.ref a1), .val (.ref a2)] [(.ref b20), (.ref a1)])) rfl rfl (hb hby q14_23)) (Or.inl (List.mem_of_getElem? (i := 0) rfl)) ?_
  intro h29 W29
  have F29 := f27.same W29
  refine OwnN.Go.sp (g' := (mkF m 27 #[.val (.ref a1), .val (.ref a2)] [(.ref a1)])) (fun T A t r => XS.aloadN A hx rfl (hb hby q14_26) rfl rfl r) ?_
  refine OwnN.Go.newO (k' := 5) (n' := 23) (pc' := 30) (hb hby q14_27) (own_w hw 85 rfl) (own_w hw 86 rfl) (own_w hw 87 rfl) rfl rfl rfl (by decide) (by decide) ?_
  intro b30 h30 g30 sz30 E30 A30 D30
  have F30_modCount : Fld Z h30 b30 "java/util/AbstractList" "modCount" "I" (.int 0) := D30 (Or.inl (own_w hw 100 rfl)) (ty := .int) (by decide)
  have F30_elementData : Fld Z h30 b30 "java/util/ArrayList" "elementData" "[Ljava/lang/Object;" .null := D30 (Or.inl (own_w hw 103 rfl)) (ty := (.array (.object "java/lang/Object"))) (by decide)
  have F30_size : Fld Z h30 b30 "java/util/ArrayList" "size" "I" (.int 0) := D30 (Or.inl (own_w hw 249 rfl)) (ty := .int) (by decide)
  refine OwnN.Go.sp (g' := (mkF m 31 #[.val (.ref a1), .val (.ref a2)] [(.ref b30), (.ref b30), (.ref a1)])) (fun T A t r => XS.dup A hx rfl (hb hby q14_30) rfl rfl r) ?_
  refine OwnN.Go.old fun O31 => ?_
  refine OwnN.Go.callC (a := b30) (ws' := [b30]) (W := 2) (y := Y10) (argsL := []) (rest := [(.ref b30), (.ref a1)]) (pc' := 34) (k' := 5) (n' := 23) (hb hby q14_31) rfl (own_w hw 88 rfl) (own_w hw 89 rfl) (own_w hw 90 rfl) (by decide) (fun s' hZ => OwnN.Ct.bk (rmALN l Z a0 hw [] b30 dE kD h30 n0 O31 (Nat.le_trans (Old.le O0) sz30) A30 F30_elementData F30_size F30_modCount SD AD) hZ (own_w hw 90 rfl) (own_w hw 87 rfl) (by decide) (by decide)) hml.symm (lenOf pd_3 rfl) rfl (Nat.le_of_ble_eq_true rfl) rfl rfl rfl (by decide) (by decide) (allS (Or.inr sz30) all0) ?_
  rintro v32 h32 K32 ⟨rfl, FE32, FS32, FM32⟩
  have f33 := (((f24.wr W29).ext E30).keep K32)
  have f34 := (f24.wr W29)
  have ne35 : a1 ≠ b30 := Nat.ne_of_lt (Nat.lt_of_lt_of_le f34.lt (Nat.le_of_eq g30.symm))
  have f36 := ((((((((F_lines.ext E11).keep K14 (ninS ne16 nin0)).other W19 (Or.inr (slot_ne (Or.inr (own_w hw 105 rfl)) (Or.inr (own_w hw 82 rfl)) (by decide) (t := (.object "java/util/List")) (t' := (.object "java/util/TreeSet")) (by decide) (by decide)))).ext E20).keep K23 (ninS ne26 nin0)).other W29 (Or.inr (slot_ne (Or.inr (own_w hw 105 rfl)) (Or.inr (own_w hw 84 rfl)) (by decide) (t := (.object "java/util/List")) (t' := (.object "java/util/TreeSet")) (by decide) (by decide)))).ext E30).keep K32 (ninS ne35 nin0))
  refine OwnN.Go.w (g' := (mkF m 37 #[.val (.ref a1), .val (.ref a2)] [])) (fun s' T L_ X eT hZ hown => putF X hx hZ hown (host := "") (Or.inl (own_w hw 104 rfl)) Via.refl eT f36 f33 (Or.inr ⟨(own_w hw 105 rfl), rfl, hnm⟩) (own_w hw 27 rfl) (ty := (.object "java/util/List")) (by decide) rfl rfl (g := (mkF m 34 #[.val (.ref a1), .val (.ref a2)] [(.ref b30), (.ref a1)])) rfl rfl (hb hby q14_34)) (Or.inl (List.mem_of_getElem? (i := 0) rfl)) ?_
  intro h38 W38
  have F38 := f36.same W38
  refine OwnN.Go.sp (g' := (mkF m 39 #[.val (.ref a1), .val (.ref a2)] [(.ref a2), (.ref a1)])) (fun T A t r => XS.aloadN A hx rfl (hb hby q14_37) rfl rfl (XS.aloadN A hx rfl (hb hby q14_38) rfl rfl r)) ?_
  have f39 := (f33.wr W38)
  have f40 := (((((((((F_className.ext E11).keep K14 (ninS ne16 nin0)).other W19 (Or.inr (slot_ne (Or.inr (own_w hw 107 rfl)) (Or.inr (own_w hw 82 rfl)) (by decide) (t := (.object "java/lang/String")) (t' := (.object "java/util/TreeSet")) (by decide) (by decide)))).ext E20).keep K23 (ninS ne26 nin0)).other W29 (Or.inr (slot_ne (Or.inr (own_w hw 107 rfl)) (Or.inr (own_w hw 84 rfl)) (by decide) (t := (.object "java/lang/String")) (t' := (.object "java/util/TreeSet")) (by decide) (by decide)))).ext E30).keep K32 (ninS ne35 nin0)).other W38 (Or.inr (slot_ne (Or.inr (own_w hw 107 rfl)) (Or.inr (own_w hw 105 rfl)) (by decide) (t := (.object "java/lang/String")) (t' := (.object "java/util/List")) (by decide) (by decide))))
  refine OwnN.Go.w (g' := (mkF m 42 #[.val (.ref a1), .val (.ref a2)] [])) (fun s' T L_ X eT hZ hown => putF X hx hZ hown (host := "") (Or.inl (own_w hw 106 rfl)) Via.refl eT f40 f39 (Or.inr ⟨(own_w hw 107 rfl), rfl, hnm⟩) (own_w hw 27 rfl) (ty := (.object "java/lang/String")) (by decide) rfl rfl (g := (mkF m 39 #[.val (.ref a1), .val (.ref a2)] [(.ref a2), (.ref a1)])) rfl rfl (hb hby q14_39)) (Or.inl (List.mem_of_getElem? (i := 0) rfl)) ?_
  intro h42 W42
  have F42 := f40.same W42
  have f43 := ((Em14.wr W19).ext E20)
  have ne44 : tm14 ≠ tm23 := Nat.ne_of_lt (Nat.lt_of_lt_of_le f43.lt ge23)
  have f45 := (((((((F19.ext E20).keep K23 (ninS ne26 nin0)).other W29 (Or.inr (slot_ne (Or.inr (own_w hw 82 rfl)) (Or.inr (own_w hw 84 rfl)) (by decide) (t := (.object "java/util/TreeSet")) (t' := (.object "java/util/TreeSet")) (by decide) (by decide)))).ext E30).keep K32 (ninS ne35 nin0)).other W38 (Or.inr (slot_ne (Or.inr (own_w hw 82 rfl)) (Or.inr (own_w hw 105 rfl)) (by decide) (t := (.object "java/util/TreeSet")) (t' := (.object "java/util/List")) (by decide) (by decide)))).other W42 (Or.inr (slot_ne (Or.inr (own_w hw 82 rfl)) (Or.inr (own_w hw 107 rfl)) (by decide) (t := (.object "java/util/TreeSet")) (t' := (.object "java/lang/String")) (by decide) (by decide))))
  have f46 := ((((F29.ext E30).keep K32 (ninS ne35 nin0)).other W38 (Or.inr (slot_ne (Or.inr (own_w hw 84 rfl)) (Or.inr (own_w hw 105 rfl)) (by decide) (t := (.object "java/util/TreeSet")) (t' := (.object "java/util/List")) (by decide) (by decide)))).other W42 (Or.inr (slot_ne (Or.inr (own_w hw 84 rfl)) (Or.inr (own_w hw 107 rfl)) (by decide) (t := (.object "java/util/TreeSet")) (t' := (.object "java/lang/String")) (by decide) (by decide))))
  have f47 := (F38.other W42 (Or.inr (slot_ne (Or.inr (own_w hw 105 rfl)) (Or.inr (own_w hw 107 rfl)) (by decide) (t := (.object "java/util/List")) (t' := (.object "java/lang/String")) (by decide) (by decide))))
  have f48 := ((((((((((FD.ext E11).keep K14 (ninS ne16 nin0)).other W19 (Or.inr (slot_ne (Or.inl (own_w hw 138 rfl)) (Or.inr (own_w hw 82 rfl)) (by decide) (t := .int) (t' := (.object "java/util/TreeSet")) (by decide) (by decide)))).ext E20).keep K23 (ninS ne26 nin0)).other W29 (Or.inr (slot_ne (Or.inl (own_w hw 138 rfl)) (Or.inr (own_w hw 84 rfl)) (by decide) (t := .int) (t' := (.object "java/util/TreeSet")) (by decide) (by decide)))).ext E30).keep K32 (ninS ne35 nin0)).other W38 (Or.inr (slot_ne (Or.inl (own_w hw 138 rfl)) (Or.inr (own_w hw 105 rfl)) (by decide) (t := .int) (t' := (.object "java/util/List")) (by decide) (by decide)))).other W42 (Or.inr (slot_ne (Or.inl (own_w hw 138 rfl)) (Or.inr (own_w hw 107 rfl)) (by decide) (t := .int) (t' := (.object "java/lang/String")) (by decide) (by decide))))
  have f49 := (((((((((A11.keep K14).wr W19).ext E20).keep K23).wr W29).ext E30).keep K32).wr W38).wr W42)
  have f50 := ((A11.keep K14).wr W19)
  have ne51 : b11 ≠ b20 := Nat.ne_of_lt (Nat.lt_of_lt_of_le f50.lt (Nat.le_of_eq g20.symm))
  have f52 := (((f50.ext E20).keep K23).wr W29)
  have ne53 : b11 ≠ b30 := Nat.ne_of_lt (Nat.lt_of_lt_of_le f52.lt (Nat.le_of_eq g30.symm))
  have f54 := ((((((((Fm14.other W19 (Or.inl (Ne.symm ne16))).ext E20).keep K23 (ninS ne51 nin0)).other W29 (Or.inl (Ne.symm ne16))).ext E30).keep K32 (ninS ne53 nin0)).other W38 (Or.inl (Ne.symm ne16))).other W42 (Or.inl (Ne.symm ne16)))
  have f55 := ((((((f43.keep K23).wr W29).ext E30).keep K32).wr W38).wr W42)
  have f56 := (E1.ext E11)
  have ne57 : a1 ≠ tm14 := Nat.ne_of_lt (Nat.lt_of_lt_of_le f56.lt ge14)
  have f58 := (Em14.wr W19)
  have ne59 : tm14 ≠ b20 := Nat.ne_of_lt (Nat.lt_of_lt_of_le f58.lt (Nat.le_of_eq g20.symm))
  have f60 := ((f43.keep K23).wr W29)
  have ne61 : tm14 ≠ b30 := Nat.ne_of_lt (Nat.lt_of_lt_of_le f60.lt (Nat.le_of_eq g30.symm))
  have f62 := ((((((((Fa14.other W19 (Or.inl (Ne.symm ne57))).ext E20).keep K23 (ninS ne59 nin0)).other W29 (Or.inl (Ne.symm ne57))).ext E30).keep K32 (ninS ne61 nin0)).other W38 (Or.inl (Ne.symm ne57))).other W42 (Or.inl (Ne.symm ne57)))
  have f63 := ((((((((Fb14.other W19 (Or.inl (Ne.symm ne57))).ext E20).keep K23 (ninS ne59 nin0)).other W29 (Or.inl (Ne.symm ne57))).ext E30).keep K32 (ninS ne61 nin0)).other W38 (Or.inl (Ne.symm ne57))).other W42 (Or.inl (Ne.symm ne57)))
  have f64 := ((((((((Fc14.other W19 (Or.inl (Ne.symm ne57))).ext E20).keep K23 (ninS ne59 nin0)).other W29 (Or.inl (Ne.symm ne57))).ext E30).keep K32 (ninS ne61 nin0)).other W38 (Or.inl (Ne.symm ne57))).other W42 (Or.inl (Ne.symm ne57)))
  have f65 := ((((((((Fd14.other W19 (Or.inl (Ne.symm ne57))).ext E20).keep K23 (ninS ne59 nin0)).other W29 (Or.inl (Ne.symm ne57))).ext E30).keep K32 (ninS ne61 nin0)).other W38 (Or.inl (Ne.symm ne57))).other W42 (Or.inl (Ne.symm ne57)))
  have f66 := ((((((A20.keep K23).wr W29).ext E30).keep K32).wr W38).wr W42)
  have f67 := ((A20.keep K23).wr W29)
  have ne68 : b20 ≠ b30 := Nat.ne_of_lt (Nat.lt_of_lt_of_le f67.lt (Nat.le_of_eq g30.symm))
  have f69 := (((((Fm23.other W29 (Or.inl (Ne.symm ne26))).ext E30).keep K32 (ninS ne68 nin0)).other W38 (Or.inl (Ne.symm ne26))).other W42 (Or.inl (Ne.symm ne26)))
  have f70 := (((((Em23.wr W29).ext E30).keep K32).wr W38).wr W42)
  have f71 := (f25.ext E20)
  have ne72 : a1 ≠ tm23 := Nat.ne_of_lt (Nat.lt_of_lt_of_le f71.lt ge23)
  have f73 := (Em23.wr W29)
  have ne74 : tm23 ≠ b30 := Nat.ne_of_lt (Nat.lt_of_lt_of_le f73.lt (Nat.le_of_eq g30.symm))
  have f75 := (((((Fa23.other W29 (Or.inl (Ne.symm ne72))).ext E30).keep K32 (ninS ne74 nin0)).other W38 (Or.inl (Ne.symm ne72))).other W42 (Or.inl (Ne.symm ne72)))
  have f76 := (((((Fb23.other W29 (Or.inl (Ne.symm ne72))).ext E30).keep K32 (ninS ne74 nin0)).other W38 (Or.inl (Ne.symm ne72))).other W42 (Or.inl (Ne.symm ne72)))
  have f77 := (((((Fc23.other W29 (Or.inl (Ne.symm ne72))).ext E30).keep K32 (ninS ne74 nin0)).other W38 (Or.inl (Ne.symm ne72))).other W42 (Or.inl (Ne.symm ne72)))
  have f78 := (((((Fd23.other W29 (Or.inl (Ne.symm ne72))).ext E30).keep K32 (ninS ne74 nin0)).other W38 (Or.inl (Ne.symm ne72))).other W42 (Or.inl (Ne.symm ne72)))
  have f79 := (((A30.keep K32).wr W38).wr W42)
  have f80 := ((FE32.other W38 (Or.inl (Ne.symm ne35))).other W42 (Or.inl (Ne.symm ne35)))
  have f81 := ((FS32.other W38 (Or.inl (Ne.symm ne35))).other W42 (Or.inl (Ne.symm ne35)))
  have f82 := ((FM32.other W38 (Or.inl (Ne.symm ne35))).other W42 (Or.inl (Ne.symm ne35)))
  exact OwnN.Go.ret (v := none) (fun s' T L_ fs X hr => X.returnOut hx hret (hb hby q14_42) hr) (fun _ => rfl) (by decide) (by decide) ⟨_, _, _, _, _, rfl, f45, f46, f47, f48, f49, f54, f55, f62, f63, f64, f65, f66, f69, f70, f75, f76, f77, f78, ne44, (Nat.le_trans KK12.1 ge14), (Nat.le_trans KK21.1 ge23), sz30, f79, f80, f81, f82⟩
theorem rmJI0 (l : Launch) (Z : State) (a0 : Array Value) (hw : own_T a0 Z) (wds : List Jvm.Cond) (a1 : Addr) (u0 : Value) (u1 : Value) (u2 : Value) (h0 : Heap) (n0 : Nat) (O0 : Old Z n0 h0) (g_a1 : n0 ≤ a1) (E1 : Exa Z h0 a1 "com/example/typewire/typewire/codegen/JavaFile") (FD : Fld Z h0 a1 "com/example/typewire/typewire/codegen/JavaFile" "depth" "I" (.int 0)) (F_javaImports : Fld Z h0 a1 "com/example/typewire/typewire/codegen/JavaFile" "javaImports" "Ljava/util/TreeSet;" u0) (F_otherImports : Fld Z h0 a1 "com/example/typewire/typewire/codegen/JavaFile" "otherImports" "Ljava/util/TreeSet;" u1) (F_lines : Fld Z h0 a1 "com/example/typewire/typewire/codegen/JavaFile" "lines" "Ljava/util/List;" u2) :
    OwnN.Ct l Z Y81 prog_4_method_10_code 1 (some (.object "com/example/typewire/typewire/codegen/JavaFile")) wds (⟨0, 0, 0, 0⟩ : Room) #[(.ref a1)] n0 h0 [a1] (fun v h => v = some (.ref a1) ∧ Fld Z h a1 "com/example/typewire/typewire/codegen/JavaFile" "depth" "I" (.int 1) ∧ Fld Z h a1 "com/example/typewire/typewire/codegen/JavaFile" "javaImports" "Ljava/util/TreeSet;" u0 ∧ Fld Z h a1 "com/example/typewire/typewire/codegen/JavaFile" "otherImports" "Ljava/util/TreeSet;" u1 ∧ Fld Z h a1 "com/example/typewire/typewire/codegen/JavaFile" "lines" "Ljava/util/List;" u2) := by
  refine OwnN.Ct.of (plainFor_of_name pn_com_example_typewire_typewire_codegen_JavaFile) O0 (allS g_a1 all0) ?_
  intro p e s m below meth c hx hby hml hret hnm
  refine OwnN.Go.cast (ef_R_1 m a1) ?_
  refine OwnN.Go.sp (g' := (mkF m 2 #[.val (.ref a1)] [(.ref a1), (.ref a1)])) (fun T A t r => XS.aloadN A hx rfl (hb hby q15_0) rfl rfl (XS.dup A hx rfl (hb hby q15_1) rfl rfl r)) ?_
  refine OwnN.Go.v (g' := (mkF m 5 #[.val (.ref a1)] [(.int 0), (.ref a1)])) (fun s' T L_ X eT hZ hown => getF X hx hZ hown (host := "") (Or.inl (own_w hw 137 rfl)) Via.refl eT FD (g := (mkF m 2 #[.val (.ref a1)] [(.ref a1), (.ref a1)])) rfl rfl (hb hby q15_2)) ?_
  refine OwnN.Go.sp (g' := (mkF m 7 #[.val (.ref a1)] [(.int 1), (.ref a1)])) (fun T A t r => XS.iconst A hx rfl (hb hby q15_5) (XS.iadd A hx rfl (hb hby q15_6) rfl r)) ?_
  refine OwnN.Go.w (g' := (mkF m 10 #[.val (.ref a1)] [])) (fun s' T L_ X eT hZ hown => putF X hx hZ hown (host := "") (Or.inl (own_w hw 137 rfl)) Via.refl eT FD E1 (Or.inl (own_w hw 138 rfl)) (own_w hw 27 rfl) (ty := .int) (by decide) rfl rfl (g := (mkF m 7 #[.val (.ref a1)] [(.int 1), (.ref a1)])) rfl rfl (hb hby q15_7)) (Or.inl (List.mem_of_getElem? (i := 0) rfl)) ?_
  intro h12 W12
  have F12 := FD.same W12
  refine OwnN.Go.sp (g' := (mkF m 11 #[.val (.ref a1)] [(.ref a1)])) (fun T A t r => XS.aloadN A hx rfl (hb hby q15_10) rfl rfl r) ?_
  have f13 := (F_javaImports.other W12 (Or.inr (slot_ne (Or.inr (own_w hw 82 rfl)) (Or.inl (own_w hw 138 rfl)) (by decide) (t := (.object "java/util/TreeSet")) (t' := .int) (by decide) (by decide))))
  have f14 := (F_otherImports.other W12 (Or.inr (slot_ne (Or.inr (own_w hw 84 rfl)) (Or.inl (own_w hw 138 rfl)) (by decide) (t := (.object "java/util/TreeSet")) (t' := .int) (by decide) (by decide))))
  have f15 := (F_lines.other W12 (Or.inr (slot_ne (Or.inr (own_w hw 105 rfl)) (Or.inl (own_w hw 138 rfl)) (by decide) (t := (.object "java/util/List")) (t' := .int) (by decide) (by decide))))
  exact OwnN.Go.ret (v := (some (.ref a1))) (fun s' T L_ fs X hr => own_retR X hx hret rfl rfl (hb hby q15_11) hr) (fun h => by rw [hret] at h; cases h) (by decide) (by decide) ⟨rfl, F12, f13, f14, f15⟩
theorem rmJI1 (l : Launch) (Z : State) (a0 : Array Value) (hw : own_T a0 Z) (wds : List Jvm.Cond) (a1 : Addr) (u0 : Value) (u1 : Value) (u2 : Value) (h0 : Heap) (n0 : Nat) (O0 : Old Z n0 h0) (g_a1 : n0 ≤ a1) (E1 : Exa Z h0 a1 "com/example/typewire/typewire/codegen/JavaFile") (FD : Fld Z h0 a1 "com/example/typewire/typewire/codegen/JavaFile" "depth" "I" (.int 1)) (F_javaImports : Fld Z h0 a1 "com/example/typewire/typewire/codegen/JavaFile" "javaImports" "Ljava/util/TreeSet;" u0) (F_otherImports : Fld Z h0 a1 "com/example/typewire/typewire/codegen/JavaFile" "otherImports" "Ljava/util/TreeSet;" u1) (F_lines : Fld Z h0 a1 "com/example/typewire/typewire/codegen/JavaFile" "lines" "Ljava/util/List;" u2) :
    OwnN.Ct l Z Y81 prog_4_method_10_code 1 (some (.object "com/example/typewire/typewire/codegen/JavaFile")) wds (⟨0, 0, 0, 0⟩ : Room) #[(.ref a1)] n0 h0 [a1] (fun v h => v = some (.ref a1) ∧ Fld Z h a1 "com/example/typewire/typewire/codegen/JavaFile" "depth" "I" (.int 2) ∧ Fld Z h a1 "com/example/typewire/typewire/codegen/JavaFile" "javaImports" "Ljava/util/TreeSet;" u0 ∧ Fld Z h a1 "com/example/typewire/typewire/codegen/JavaFile" "otherImports" "Ljava/util/TreeSet;" u1 ∧ Fld Z h a1 "com/example/typewire/typewire/codegen/JavaFile" "lines" "Ljava/util/List;" u2) := by
  refine OwnN.Ct.of (plainFor_of_name pn_com_example_typewire_typewire_codegen_JavaFile) O0 (allS g_a1 all0) ?_
  intro p e s m below meth c hx hby hml hret hnm
  refine OwnN.Go.cast (ef_R_1 m a1) ?_
  refine OwnN.Go.sp (g' := (mkF m 2 #[.val (.ref a1)] [(.ref a1), (.ref a1)])) (fun T A t r => XS.aloadN A hx rfl (hb hby q15_0) rfl rfl (XS.dup A hx rfl (hb hby q15_1) rfl rfl r)) ?_
  refine OwnN.Go.v (g' := (mkF m 5 #[.val (.ref a1)] [(.int 1), (.ref a1)])) (fun s' T L_ X eT hZ hown => getF X hx hZ hown (host := "") (Or.inl (own_w hw 137 rfl)) Via.refl eT FD (g := (mkF m 2 #[.val (.ref a1)] [(.ref a1), (.ref a1)])) rfl rfl (hb hby q15_2)) ?_
  refine OwnN.Go.sp (g' := (mkF m 7 #[.val (.ref a1)] [(.int 2), (.ref a1)])) (fun T A t r => XS.iconst A hx rfl (hb hby q15_5) (XS.iadd A hx rfl (hb hby q15_6) rfl r)) ?_
  refine OwnN.Go.w (g' := (mkF m 10 #[.val (.ref a1)] [])) (fun s' T L_ X eT hZ hown => putF X hx hZ hown (host := "") (Or.inl (own_w hw 137 rfl)) Via.refl eT FD E1 (Or.inl (own_w hw 138 rfl)) (own_w hw 27 rfl) (ty := .int) (by decide) rfl rfl (g := (mkF m 7 #[.val (.ref a1)] [(.int 2), (.ref a1)])) rfl rfl (hb hby q15_7)) (Or.inl (List.mem_of_getElem? (i := 0) rfl)) ?_
  intro h12 W12
  have F12 := FD.same W12
  refine OwnN.Go.sp (g' := (mkF m 11 #[.val (.ref a1)] [(.ref a1)])) (fun T A t r => XS.aloadN A hx rfl (hb hby q15_10) rfl rfl r) ?_
  have f13 := (F_javaImports.other W12 (Or.inr (slot_ne (Or.inr (own_w hw 82 rfl)) (Or.inl (own_w hw 138 rfl)) (by decide) (t := (.object "java/util/TreeSet")) (t' := .int) (by decide) (by decide))))
  have f14 := (F_otherImports.other W12 (Or.inr (slot_ne (Or.inr (own_w hw 84 rfl)) (Or.inl (own_w hw 138 rfl)) (by decide) (t := (.object "java/util/TreeSet")) (t' := .int) (by decide) (by decide))))
  have f15 := (F_lines.other W12 (Or.inr (slot_ne (Or.inr (own_w hw 105 rfl)) (Or.inl (own_w hw 138 rfl)) (by decide) (t := (.object "java/util/List")) (t' := .int) (by decide) (by decide))))
  exact OwnN.Go.ret (v := (some (.ref a1))) (fun s' T L_ fs X hr => own_retR X hx hret rfl rfl (hb hby q15_11) hr) (fun h => by rw [hret] at h; cases h) (by decide) (by decide) ⟨rfl, F12, f13, f14, f15⟩
theorem rmJI2 (l : Launch) (Z : State) (a0 : Array Value) (hw : own_T a0 Z) (wds : List Jvm.Cond) (a1 : Addr) (u0 : Value) (u1 : Value) (u2 : Value) (h0 : Heap) (n0 : Nat) (O0 : Old Z n0 h0) (g_a1 : n0 ≤ a1) (E1 : Exa Z h0 a1 "com/example/typewire/typewire/codegen/JavaFile") (FD : Fld Z h0 a1 "com/example/typewire/typewire/codegen/JavaFile" "depth" "I" (.int 2)) (F_javaImports : Fld Z h0 a1 "com/example/typewire/typewire/codegen/JavaFile" "javaImports" "Ljava/util/TreeSet;" u0) (F_otherImports : Fld Z h0 a1 "com/example/typewire/typewire/codegen/JavaFile" "otherImports" "Ljava/util/TreeSet;" u1) (F_lines : Fld Z h0 a1 "com/example/typewire/typewire/codegen/JavaFile" "lines" "Ljava/util/List;" u2) :
    OwnN.Ct l Z Y81 prog_4_method_10_code 1 (some (.object "com/example/typewire/typewire/codegen/JavaFile")) wds (⟨0, 0, 0, 0⟩ : Room) #[(.ref a1)] n0 h0 [a1] (fun v h => v = some (.ref a1) ∧ Fld Z h a1 "com/example/typewire/typewire/codegen/JavaFile" "depth" "I" (.int 3) ∧ Fld Z h a1 "com/example/typewire/typewire/codegen/JavaFile" "javaImports" "Ljava/util/TreeSet;" u0 ∧ Fld Z h a1 "com/example/typewire/typewire/codegen/JavaFile" "otherImports" "Ljava/util/TreeSet;" u1 ∧ Fld Z h a1 "com/example/typewire/typewire/codegen/JavaFile" "lines" "Ljava/util/List;" u2) := by
  refine OwnN.Ct.of (plainFor_of_name pn_com_example_typewire_typewire_codegen_JavaFile) O0 (allS g_a1 all0) ?_
  intro p e s m below meth c hx hby hml hret hnm
  refine OwnN.Go.cast (ef_R_1 m a1) ?_
  refine OwnN.Go.sp (g' := (mkF m 2 #[.val (.ref a1)] [(.ref a1), (.ref a1)])) (fun T A t r => XS.aloadN A hx rfl (hb hby q15_0) rfl rfl (XS.dup A hx rfl (hb hby q15_1) rfl rfl r)) ?_
  refine OwnN.Go.v (g' := (mkF m 5 #[.val (.ref a1)] [(.int 2), (.ref a1)])) (fun s' T L_ X eT hZ hown => getF X hx hZ hown (host := "") (Or.inl (own_w hw 137 rfl)) Via.refl eT FD (g := (mkF m 2 #[.val (.ref a1)] [(.ref a1), (.ref a1)])) rfl rfl (hb hby q15_2)) ?_
  refine OwnN.Go.sp (g' := (mkF m 7 #[.val (.ref a1)] [(.int 3), (.ref a1)])) (fun T A t r => XS.iconst A hx rfl (hb hby q15_5) (XS.iadd A hx rfl (hb hby q15_6) rfl r)) ?_
  refine OwnN.Go.w (g' := (mkF m 10 #[.val (.ref a1)] [])) (fun s' T L_ X eT hZ hown => putF X hx hZ hown (host := "") (Or.inl (own_w hw 137 rfl)) Via.refl eT FD E1 (Or.inl (own_w hw 138 rfl)) (own_w hw 27 rfl) (ty := .int) (by decide) rfl rfl (g := (mkF m 7 #[.val (.ref a1)] [(.int 3), (.ref a1)])) rfl rfl (hb hby q15_7)) (Or.inl (List.mem_of_getElem? (i := 0) rfl)) ?_
  intro h12 W12
  have F12 := FD.same W12
  refine OwnN.Go.sp (g' := (mkF m 11 #[.val (.ref a1)] [(.ref a1)])) (fun T A t r => XS.aloadN A hx rfl (hb hby q15_10) rfl rfl r) ?_
  have f13 := (F_javaImports.other W12 (Or.inr (slot_ne (Or.inr (own_w hw 82 rfl)) (Or.inl (own_w hw 138 rfl)) (by decide) (t := (.object "java/util/TreeSet")) (t' := .int) (by decide) (by decide))))
  have f14 := (F_otherImports.other W12 (Or.inr (slot_ne (Or.inr (own_w hw 84 rfl)) (Or.inl (own_w hw 138 rfl)) (by decide) (t := (.object "java/util/TreeSet")) (t' := .int) (by decide) (by decide))))
  have f15 := (F_lines.other W12 (Or.inr (slot_ne (Or.inr (own_w hw 105 rfl)) (Or.inl (own_w hw 138 rfl)) (by decide) (t := (.object "java/util/List")) (t' := .int) (by decide) (by decide))))
  exact OwnN.Go.ret (v := (some (.ref a1))) (fun s' T L_ fs X hr => own_retR X hx hret rfl rfl (hb hby q15_11) hr) (fun h => by rw [hret] at h; cases h) (by decide) (by decide) ⟨rfl, F12, f13, f14, f15⟩
theorem rmSBA (l : Launch) (Z : State) (a0 : Array Value) (hw : own_T a0 Z) (wds : List Jvm.Cond) (a1 : Addr) (zS : Int32) (h0 : Heap) (n0 : Nat) (O0 : Old Z n0 h0) (g_a1 : n0 ≤ a1) (E1 : Exa Z h0 a1 "java/lang/StringBuilder") (F1 : Fld Z h0 a1 "java/lang/AbstractStringBuilder" "value" "[B" .null) (F2 : Fld Z h0 a1 "java/lang/AbstractStringBuilder" "coder" "B" (.int 0)) (F3 : Fld Z h0 a1 "java/lang/AbstractStringBuilder" "count" "I" (.int 0)) (S0 : Sta Z Z.heap "java/lang/String" "COMPACT_STRINGS" "Z" (.int zS)) (P0 : ¬ zS = (0 : Int32)) :
    OwnN.Ct l Z Y11 jdk_68_method_2_code 2 none wds (⟨1, 1, 16, 12⟩ : Room) #[(.ref a1), (.int 16)] n0 h0 [a1] (fun v h => ∃ (t : Addr) (kb : ClassId), v = none ∧ h0.size ≤ t ∧ Fld Z h a1 "java/lang/AbstractStringBuilder" "value" "[B" (.ref t) ∧ Fld Z h a1 "java/lang/AbstractStringBuilder" "coder" "B" (.int 0) ∧ Fld Z h a1 "java/lang/AbstractStringBuilder" "count" "I" (.int (Int32.ofNat ([] : List Int32).length)) ∧ Arv Z h t kb .byte (16 : Int32) (own_B ([] : List Int32)) (.int 0)) := by
  refine OwnN.Ct.of (plainFor_of_name pn_java_lang_AbstractStringBuilder) O0 (allS g_a1 all0) ?_
  intro p e s m below meth c hx hby hml hret hnm
  refine OwnN.Go.cast (ef_RI_2 m a1 (16 : Int32)) ?_
  refine OwnN.Go.sp (g' := (mkF m 1 #[.val (.ref a1), .val (.int 16)] [(.ref a1)])) (fun T A t r => XS.aloadN A hx rfl (hb hby q16_0) rfl rfl r) ?_
  refine OwnN.Go.v (g' := (mkF m 4 #[.val (.ref a1), .val (.int 16)] [])) (fun s' T L_ X eT hZ hown => initO X hx hZ hown (own_w hw 130 rfl) (own_w hw 20 rfl) (own_w hw 21 rfl) eT (g := (mkF m 1 #[.val (.ref a1), .val (.int 16)] [(.ref a1)])) rfl hml.symm rfl (hb hby q16_1) (by decide) (W := 0) (catOf (Nat.le_of_ble_eq_true rfl)) (by decide)) ?_
  refine OwnN.Go.old fun O11 => ?_
  have St12 := Sta.ext O11.2 S0
  refine OwnN.Go.v (g' := (mkF m 7 #[.val (.ref a1), .val (.int 16)] [(.int zS)])) (fun s' T L_ X eT hZ hown => getS2 X hx hZ hown (host := "") (Or.inl (own_w hw 131 rfl)) Via.refl eT St12 (g := (mkF m 4 #[.val (.ref a1), .val (.int 16)] [])) rfl (hb hby q16_4)) ?_
  refine OwnN.Go.sp (g' := (mkF m 12 #[.val (.ref a1), .val (.int 16)] [(.int 16), (.ref a1)])) (fun T A t r => XS.ifNo A hx rfl (hb hby q16_7) rfl ((if0 _ _).trans (feq P0).1) (XS.aloadN A hx rfl (hb hby q16_10) rfl rfl (XS.iloadN A hx rfl (hb hby q16_11) rfl r))) ?_
  refine OwnN.Go.newP (ty := .byte) (dv := (.int 0)) (cap := 16) (k' := 1) (n' := 16) (pc' := 14) (hb hby q16_12) rfl rfl (own_w hw 14 rfl) (by decide) (by decide) (by decide) rfl rfl rfl (by decide) (by decide) ?_
  intro b13 h13 k13 g13 sz13 E13 A13
  have V13 : Arv Z h13 b13 k13 .byte (16 : Int32) [(.int 0), (.int 0), (.int 0), (.int 0), (.int 0), (.int 0), (.int 0), (.int 0), (.int 0), (.int 0), (.int 0), (.int 0), (.int 0), (.int 0), (.int 0), (.int 0)] (.int 0) := A13.pad (pad_rep [] (.int 0) 16)
  have f14 := (E1.ext E13)
  have f15 := (F1.ext E13)
  refine OwnN.Go.w (g' := (mkF m 17 #[.val (.ref a1), .val (.int 16)] [])) (fun s' T L_ X eT hZ hown => putF X hx hZ hown (host := "") (Or.inl (own_w hw 132 rfl)) Via.refl eT f15 f14 (Or.inl (own_w hw 133 rfl)) (own_w hw 119 rfl) (ty := (.array .byte)) (by decide) rfl rfl (g := (mkF m 14 #[.val (.ref a1), .val (.int 16)] [(.ref b13), (.ref a1)])) rfl rfl (hb hby q16_14)) (Or.inl (List.mem_of_getElem? (i := 0) rfl)) ?_
  intro h17 W17
  have F17 := f15.same W17
  refine OwnN.Go.sp (g' := (mkF m 19 #[.val (.ref a1), .val (.int 16)] [(.int 0), (.ref a1)])) (fun T A t r => XS.aloadN A hx rfl (hb hby q16_17) rfl rfl (XS.iconst A hx rfl (hb hby q16_18) r)) ?_
  have f18 := (f14.wr W17)
  have f19 := ((F2.ext E13).other W17 (Or.inr (slot_ne (Or.inl (own_w hw 135 rfl)) (Or.inl (own_w hw 133 rfl)) (by decide) (t := .byte) (t' := (.array .byte)) (by decide) (by decide))))
  refine OwnN.Go.w (g' := (mkF m 22 #[.val (.ref a1), .val (.int 16)] [])) (fun s' T L_ X eT hZ hown => putF X hx hZ hown (host := "") (Or.inl (own_w hw 134 rfl)) Via.refl eT f19 f18 (Or.inl (own_w hw 135 rfl)) (own_w hw 119 rfl) (ty := .byte) (by decide) (by decide) (by decide) (g := (mkF m 19 #[.val (.ref a1), .val (.int 16)] [(.int 0), (.ref a1)])) rfl rfl (hb hby q16_19)) (Or.inl (List.mem_of_getElem? (i := 0) rfl)) ?_
  intro h21 W21
  have F21 := f19.same W21
  refine OwnN.Go.sp (g' := (mkF m 38 #[.val (.ref a1), .val (.int 16)] [])) (fun T A t r => XS.goto A hx rfl (pc0 := 22) (pc' := 38) rfl (hb hby q16_22) (by decide) (by decide) r) ?_
  have f22 := (F17.other W21 (Or.inr (slot_ne (Or.inl (own_w hw 133 rfl)) (Or.inl (own_w hw 135 rfl)) (by decide) (t := (.array .byte)) (t' := .byte) (by decide) (by decide))))
  have f23 := (((F3.ext E13).other W17 (Or.inr (slot_ne (Or.inl (own_w hw 166 rfl)) (Or.inl (own_w hw 133 rfl)) (by decide) (t := .int) (t' := (.array .byte)) (by decide) (by decide)))).other W21 (Or.inr (slot_ne (Or.inl (own_w hw 166 rfl)) (Or.inl (own_w hw 135 rfl)) (by decide) (t := .int) (t' := .byte) (by decide) (by decide))))
  have ne24 : a1 ≠ b13 := Nat.ne_of_lt (Nat.lt_of_lt_of_le E1.lt (Nat.le_of_eq g13.symm))
  have f25 := ((A13.other W17 (Ne.symm ne24)).other W21 (Ne.symm ne24))
  exact OwnN.Go.ret (v := none) (fun s' T L_ fs X hr => X.returnOut hx hret (hb hby q16_38) hr) (fun _ => rfl) (by decide) (by decide) ⟨_, _, rfl, sz13, f22, F21, f23, f25⟩
theorem rmSBI (l : Launch) (Z : State) (a0 : Array Value) (hw : own_T a0 Z) (wds : List Jvm.Cond) (a1 : Addr) (zS : Int32) (h0 : Heap) (n0 : Nat) (O0 : Old Z n0 h0) (g_a1 : n0 ≤ a1) (E1 : Exa Z h0 a1 "java/lang/StringBuilder") (F1 : Fld Z h0 a1 "java/lang/AbstractStringBuilder" "value" "[B" .null) (F2 : Fld Z h0 a1 "java/lang/AbstractStringBuilder" "coder" "B" (.int 0)) (F3 : Fld Z h0 a1 "java/lang/AbstractStringBuilder" "count" "I" (.int 0)) (S0 : Sta Z Z.heap "java/lang/String" "COMPACT_STRINGS" "Z" (.int zS)) (P0 : ¬ zS = (0 : Int32)) :
    OwnN.Ct l Z Y63 jdk_67_method_1_code 1 none wds (⟨2, 1, 16, 25⟩ : Room) #[(.ref a1)] n0 h0 [a1] (fun v h => ∃ (t : Addr) (kb : ClassId), v = none ∧ h0.size ≤ t ∧ Fld Z h a1 "java/lang/AbstractStringBuilder" "value" "[B" (.ref t) ∧ Fld Z h a1 "java/lang/AbstractStringBuilder" "coder" "B" (.int 0) ∧ Fld Z h a1 "java/lang/AbstractStringBuilder" "count" "I" (.int (Int32.ofNat ([] : List Int32).length)) ∧ Arv Z h t kb .byte (16 : Int32) (own_B ([] : List Int32)) (.int 0)) := by
  refine OwnN.Ct.of (plainFor_of_name pn_java_lang_StringBuilder) O0 (allS g_a1 all0) ?_
  intro p e s m below meth c hx hby hml hret hnm
  refine OwnN.Go.cast (ef_R_1 m a1) ?_
  refine OwnN.Go.sp (g' := (mkF m 3 #[.val (.ref a1)] [(.int 16), (.ref a1)])) (fun T A t r => XS.aloadN A hx rfl (hb hby q17_0) rfl rfl (XS.bipush A hx rfl (hb hby q17_1) r)) ?_
  refine OwnN.Go.old fun O11 => ?_
  refine OwnN.Go.callC (a := a1) (ws' := [a1]) (W := 0) (y := Y11) (argsL := [(.int 16)]) (rest := []) (pc' := 6) (k' := 1) (n' := 16) (hb hby q17_3) rfl (own_w hw 124 rfl) (own_w hw 125 rfl) (own_w hw 129 rfl) (by decide) (fun s' hZ => OwnN.Ct.bk (rmSBA l Z a0 hw [] a1 zS h0 n0 O11 g_a1 E1 F1 F2 F3 S0 P0) hZ (own_w hw 129 rfl) (own_w hw 128 rfl) (by decide) (by decide)) hml.symm (lenOf pd_5 rfl) rfl (Nat.le_of_ble_eq_true rfl) rfl rfl rfl (by decide) (by decide) (allS (Or.inl (List.mem_of_getElem? (i := 0) rfl)) all0) ?_
  rintro v12 h12 K12 ⟨t12, kb12, rfl, ge12, V12, C12, N12, B12⟩
  exact OwnN.Go.ret (v := none) (fun s' T L_ fs X hr => X.returnOut hx hret (hb hby q17_6) hr) (fun _ => rfl) (by decide) (by decide) ⟨_, _, rfl, ge12, V12, C12, N12, B12⟩
theorem rmSC (l : Launch) (Z : State) (a0 : Array Value) (hw : own_T a0 Z) (wds : List Jvm.Cond) (a1 : Addr) (zS : Int32) (h0 : Heap) (n0 : Nat) (O0 : Old Z n0 h0)  (C1 : Fld Z h0 a1 "java/lang/String" "coder" "B" (.int 0)) (S0 : Sta Z Z.heap "java/lang/String" "COMPACT_STRINGS" "Z" (.int zS)) (P0 : ¬ zS = (0 : Int32)) :
    OwnN.Ct l Z Y12 jdk_42_method_152_code 1 (some .byte) wds (⟨0, 0, 0, 0⟩ : Room) #[(.ref a1)] n0 h0 [] (fun v h => v = some (.int 0) ∧ h = h0) := by
  refine OwnN.Ct.of (plainFor_of_name pn_java_lang_String) O0 all0 ?_
  intro p e s m below meth c hx hby hml hret hnm
  refine OwnN.Go.cast (ef_R_1 m a1) ?_
  refine OwnN.Go.old fun O11 => ?_
  have St12 := Sta.ext O11.2 S0
  refine OwnN.Go.v (g' := (mkF m 3 #[.val (.ref a1)] [(.int zS)])) (fun s' T L_ X eT hZ hown => getS2 X hx hZ hown (host := "") (Or.inl (own_w hw 4 rfl)) Via.refl eT St12 (g := (mkF m 0 #[.val (.ref a1)] [])) rfl (hb hby q18_0)) ?_
  refine OwnN.Go.sp (g' := (mkF m 7 #[.val (.ref a1)] [(.ref a1)])) (fun T A t r => XS.ifNo A hx rfl (hb hby q18_3) rfl ((if0 _ _).trans (feq P0).1) (XS.aloadN A hx rfl (hb hby q18_6) rfl rfl r)) ?_
  refine OwnN.Go.v (g' := (mkF m 10 #[.val (.ref a1)] [(.int 0)])) (fun s' T L_ X eT hZ hown => getF X hx hZ hown (host := "") (Or.inl (own_w hw 24 rfl)) Via.refl eT C1 (g := (mkF m 7 #[.val (.ref a1)] [(.ref a1)])) rfl rfl (hb hby q18_7)) ?_
  refine OwnN.Go.sp (g' := (mkF m 14 #[.val (.ref a1)] [(.int 0)])) (fun T A t r => XS.goto A hx rfl (pc0 := 10) (pc' := 14) rfl (hb hby q18_10) (by decide) (by decide) r) ?_
  exact OwnN.Go.ret (v := (some (.int (nar .byte (0 : Int32))))) (fun s' T L_ fs X hr => retN X hx (t := .byte) hret (by simp) (hb hby q18_14) hr) (fun h => by rw [hret] at h; cases h) (by decide) (by decide) ⟨rfl, rfl⟩
theorem rmSL (l : Launch) (Z : State) (a0 : Array Value) (hw : own_T a0 Z) (wds : List Jvm.Cond) (a1 : Addr) (t1 : Addr) (k1 : ClassId) (cs : List Int32) (zS : Int32) (h0 : Heap) (n0 : Nat) (O0 : Old Z n0 h0)  (E1 : Exa Z h0 a1 "java/lang/String") (C1 : Fld Z h0 a1 "java/lang/String" "coder" "B" (.int 0)) (V1 : Fld Z h0 a1 "java/lang/String" "value" "[B" (.ref t1)) (B1 : Arv Z h0 t1 k1 .byte (Int32.ofNat cs.length) (own_B cs) (.int 0)) (S0 : Sta Z Z.heap "java/lang/String" "COMPACT_STRINGS" "Z" (.int zS)) (P0 : ¬ zS = (0 : Int32)) :
    OwnN.Ct l Z Y20 jdk_42_method_54_code 1 (some .int) wds (⟨1, 0, 0, 13⟩ : Room) #[(.ref a1)] n0 h0 [] (fun v h => v = some (.int (Int32.ofNat cs.length)) ∧ h = h0) := by
  refine OwnN.Ct.of (plainFor_of_name pn_java_lang_String) O0 all0 ?_
  intro p e s m below meth c hx hby hml hret hnm
  refine OwnN.Go.cast (ef_R_1 m a1) ?_
  refine OwnN.Go.sp (g' := (mkF m 1 #[.val (.ref a1)] [(.ref a1)])) (fun T A t r => XS.aloadN A hx rfl (hb hby q19_0) rfl rfl r) ?_
  refine OwnN.Go.v (g' := (mkF m 4 #[.val (.ref a1)] [(.ref t1)])) (fun s' T L_ X eT hZ hown => getF X hx hZ hown (host := "") (Or.inl (own_w hw 22 rfl)) Via.refl eT V1 (g := (mkF m 1 #[.val (.ref a1)] [(.ref a1)])) rfl rfl (hb hby q19_1)) ?_
  refine OwnN.Go.r (g' := (mkF m 5 #[.val (.ref a1)] [(.int (Int32.ofNat cs.length))])) (fun s' T L_ X eT hZ t r => own_len X hx hZ eT B1 (g := (mkF m 4 #[.val (.ref a1)] [(.ref t1)])) rfl rfl (hb hby q19_4) t r) ?_
  refine OwnN.Go.sp (g' := (mkF m 6 #[.val (.ref a1)] [(.ref a1), (.int (Int32.ofNat cs.length))])) (fun T A t r => XS.aloadN A hx rfl (hb hby q19_5) rfl rfl r) ?_
  refine OwnN.Go.old fun O11 => ?_
  refine OwnN.Go.callVP (a := a1) (z := Y12) (W := 1) (y := Y12) (argsL := []) (rest := [(.int (Int32.ofNat cs.length))]) (pc' := 9) (hb hby q19_6) (own_w hw 160 rfl) (own_w hw 161 rfl) (fun s' hZ => notFace_of_selects (args := #[]) (mvT hZ (own_w hw 163 rfl))) (own_w hw 163 rfl) (own_w hw 162 rfl) (by decide) (fun s' hZ => OwnN.Ct.bk (rmSC l Z a0 hw [] a1 zS h0 n0 O11 C1 S0 P0) hZ (own_w hw 164 rfl) (own_w hw 2 rfl) (by decide) (by decide)) E1 hml.symm (lenOf pd_6 rfl) rfl (Nat.le_of_ble_eq_true rfl) rfl (by decide) (by decide) ?_
  rintro v12 rfl
  refine OwnN.Go.sp (g' := (mkF m 10 #[.val (.ref a1)] [(.int ((Int32.ofNat cs.length) >>> ((0 : Int32) &&& 31)))])) (fun T A t r => XS.ishr A hx rfl (hb hby q19_9) rfl r) ?_
  refine OwnN.Go.cast (g' := (mkF m 10 #[.val (.ref a1)] [(.int (Int32.ofNat cs.length))])) (by rw [show ((Int32.ofNat cs.length) >>> ((0 : Int32) &&& 31)) = (Int32.ofNat cs.length) from own_shr0 _] <;> rfl) ?_
  exact OwnN.Go.ret (v := (some (.int (Int32.ofNat cs.length)))) (fun s' T L_ fs X hr => retI X hx hret (hb hby q19_10) hr) (fun h => by rw [hret] at h; cases h) (by decide) (by decide) ⟨rfl, rfl⟩
theorem rmSE (l : Launch) (Z : State) (a0 : Array Value) (hw : own_T a0 Z) (wds : List Jvm.Cond) (a1 : Addr) (t1 : Addr) (k1 : ClassId) (p1 : Int32) (h0 : Heap) (n0 : Nat) (O0 : Old Z n0 h0)  (V1 : Fld Z h0 a1 "java/lang/String" "value" "[B" (.ref t1)) (B1 : Arv Z h0 t1 k1 .byte (1 : Int32) (own_B [p1]) (.int 0)) :
    OwnN.Ct l Z Y62 jdk_42_method_55_code 1 (some .boolean) wds (⟨0, 0, 0, 0⟩ : Room) #[(.ref a1)] n0 h0 [] (fun v h => v = some (.int 0) ∧ h = h0) := by
  refine OwnN.Ct.of (plainFor_of_name pn_java_lang_String) O0 all0 ?_
  intro p e s m below meth c hx hby hml hret hnm
  refine OwnN.Go.cast (ef_R_1 m a1) ?_
  refine OwnN.Go.sp (g' := (mkF m 1 #[.val (.ref a1)] [(.ref a1)])) (fun T A t r => XS.aloadN A hx rfl (hb hby q20_0) rfl rfl r) ?_
  refine OwnN.Go.v (g' := (mkF m 4 #[.val (.ref a1)] [(.ref t1)])) (fun s' T L_ X eT hZ hown => getF X hx hZ hown (host := "") (Or.inl (own_w hw 22 rfl)) Via.refl eT V1 (g := (mkF m 1 #[.val (.ref a1)] [(.ref a1)])) rfl rfl (hb hby q20_1)) ?_
  refine OwnN.Go.r (g' := (mkF m 5 #[.val (.ref a1)] [(.int 1)])) (fun s' T L_ X eT hZ t r => own_len X hx hZ eT B1 (g := (mkF m 4 #[.val (.ref a1)] [(.ref t1)])) rfl rfl (hb hby q20_4) t r) ?_
  refine OwnN.Go.sp (g' := (mkF m 13 #[.val (.ref a1)] [(.int 0)])) (fun T A t r => XS.ifYes A hx rfl (pc0 := 5) (pc' := 12) rfl (hb hby q20_5) rfl ((if0 _ _).trans (feq (by decide : ¬ ((1 : Int32) = (0 : Int32)))).2) (by decide) (by decide) (XS.iconst A hx rfl (hb hby q20_12) r)) ?_
  exact OwnN.Go.ret (v := (some (.int (nar .boolean (0 : Int32))))) (fun s' T L_ fs X hr => retN X hx (t := .boolean) hret (by simp) (hb hby q20_13) hr) (fun h => by rw [hret] at h; cases h) (by decide) (by decide) ⟨rfl, rfl⟩
theorem rmEC0 (l : Launch) (Z : State) (a0 : Array Value) (hw : own_T a0 Z) (wds : List Jvm.Cond) (a1 : Addr) (t1 : Addr) (k1 : ClassId) (cap : Nat) (cs : List Int32) (nn : Nat) (h0 : Heap) (n0 : Nat) (O0 : Old Z n0 h0)  (V1 : Fld Z h0 a1 "java/lang/AbstractStringBuilder" "value" "[B" (.ref t1)) (C1 : Fld Z h0 a1 "java/lang/AbstractStringBuilder" "coder" "B" (.int 0)) (B1 : Arv Z h0 t1 k1 .byte (Int32.ofNat cap) (own_B cs) (.int 0)) (hn : nn ≤ cap) (hcap : cap ≤ 158) :
    OwnN.Ct l Z Y21 jdk_68_method_9_code 3 none wds (⟨0, 0, 0, 0⟩ : Room) #[(.ref a1), (.int (Int32.ofNat nn))] n0 h0 [] (fun v h => v = none ∧ h = h0) := by
  refine OwnN.Ct.of (plainFor_of_name pn_java_lang_AbstractStringBuilder) O0 all0 ?_
  intro p e s m below meth c hx hby hml hret hnm
  refine OwnN.Go.cast (ef_RI_3 m a1 (Int32.ofNat nn)) ?_
  refine OwnN.Go.sp (g' := (mkF m 1 #[.val (.ref a1), .val (.int (Int32.ofNat nn)), .unset] [(.ref a1)])) (fun T A t r => XS.aloadN A hx rfl (hb hby q21_0) rfl rfl r) ?_
  refine OwnN.Go.v (g' := (mkF m 4 #[.val (.ref a1), .val (.int (Int32.ofNat nn)), .unset] [(.ref t1)])) (fun s' T L_ X eT hZ hown => getF X hx hZ hown (host := "") (Or.inl (own_w hw 132 rfl)) Via.refl eT V1 (g := (mkF m 1 #[.val (.ref a1), .val (.int (Int32.ofNat nn)), .unset] [(.ref a1)])) rfl rfl (hb hby q21_1)) ?_
  refine OwnN.Go.r (g' := (mkF m 5 #[.val (.ref a1), .val (.int (Int32.ofNat nn)), .unset] [(.int (Int32.ofNat cap))])) (fun s' T L_ X eT hZ t r => own_len X hx hZ eT B1 (g := (mkF m 4 #[.val (.ref a1), .val (.int (Int32.ofNat nn)), .unset] [(.ref t1)])) rfl rfl (hb hby q21_4) t r) ?_
  refine OwnN.Go.sp (g' := (mkF m 6 #[.val (.ref a1), .val (.int (Int32.ofNat nn)), .unset] [(.ref a1), (.int (Int32.ofNat cap))])) (fun T A t r => XS.aloadN A hx rfl (hb hby q21_5) rfl rfl r) ?_
  refine OwnN.Go.v (g' := (mkF m 9 #[.val (.ref a1), .val (.int (Int32.ofNat nn)), .unset] [(.int 0), (.int (Int32.ofNat cap))])) (fun s' T L_ X eT hZ hown => getF X hx hZ hown (host := "") (Or.inl (own_w hw 134 rfl)) Via.refl eT C1 (g := (mkF m 6 #[.val (.ref a1), .val (.int (Int32.ofNat nn)), .unset] [(.ref a1), (.int (Int32.ofNat cap))])) rfl rfl (hb hby q21_6)) ?_
  refine OwnN.Go.sp (g' := (mkF m 10 #[.val (.ref a1), .val (.int (Int32.ofNat nn)), .unset] [(.int ((Int32.ofNat cap) >>> ((0 : Int32) &&& 31)))])) (fun T A t r => XS.ishr A hx rfl (hb hby q21_9) rfl r) ?_
  refine OwnN.Go.cast (g' := (mkF m 10 #[.val (.ref a1), .val (.int (Int32.ofNat nn)), .unset] [(.int (Int32.ofNat cap))])) (by rw [show ((Int32.ofNat cap) >>> ((0 : Int32) &&& 31)) = (Int32.ofNat cap) from own_shr0 _] <;> rfl) ?_
  refine OwnN.Go.sp (g' := (mkF m 38 #[.val (.ref a1), .val (.int (Int32.ofNat nn)), .val (.int (Int32.ofNat cap))] [])) (fun T A t r => XS.istoreN A hx rfl (hb hby q21_10) rfl (l' := #[.val (.ref a1), .val (.int (Int32.ofNat nn)), .val (.int (Int32.ofNat cap))]) rfl (XS.iloadN A hx rfl (hb hby q21_11) rfl (XS.iloadN A hx rfl (hb hby q21_12) rfl (XS.isub A hx rfl (hb hby q21_13) rfl (XS.ifYes A hx rfl (pc0 := 14) (pc' := 38) rfl (hb hby q21_14) rfl ((if0 _ _).trans (flt (own_dle hn hcap)).2.2.2) (by decide) (by decide) r))))) ?_
  exact OwnN.Go.ret (v := none) (fun s' T L_ fs X hr => X.returnOut hx hret (hb hby q21_38) hr) (fun _ => rfl) (by decide) (by decide) ⟨rfl, rfl⟩
theorem rmCO0 (l : Launch) (Z : State) (a0 : Array Value) (hw : own_T a0 Z) (wds : List Jvm.Cond) (t1 : Addr) (k1 : ClassId) (cs : List Int32) (h0 : Heap) (n0 : Nat) (O0 : Old Z n0 h0)  (B1 : Arv Z h0 t1 k1 .byte (16 : Int32) (own_B cs) (.int 0)) (hl : cs.length ≤ 16) :
    OwnN.Ct l Z Y17 jdk_65_method_121_code 3 (some (.array .byte)) wds (⟨1, 1, 38, 40⟩ : Room) #[(.ref t1), (.int 38)] n0 h0 [] (fun v h => ∃ (t : Addr) (kb : ClassId), v = some (.ref t) ∧ h0.size ≤ t ∧ Arv Z h t kb .byte (38 : Int32) (own_B cs) (.int 0)) := by
  refine OwnN.Ct.of (plainFor_of_name pn_java_util_Arrays) O0 all0 ?_
  intro p e s m below meth c hx hby hml hret hnm
  refine OwnN.Go.cast (ef_RI_3 m t1 (38 : Int32)) ?_
  refine OwnN.Go.sp (g' := (mkF m 2 #[.val (.ref t1), .val (.int 38), .unset] [(.ref t1), (.int 38)])) (fun T A t r => XS.iloadN A hx rfl (hb hby q22_0) rfl (XS.aloadN A hx rfl (hb hby q22_1) rfl rfl r)) ?_
  refine OwnN.Go.r (g' := (mkF m 3 #[.val (.ref t1), .val (.int 38), .unset] [(.int 16), (.int 38)])) (fun s' T L_ X eT hZ t r => own_len X hx hZ eT B1 (g := (mkF m 2 #[.val (.ref t1), .val (.int 38), .unset] [(.ref t1), (.int 38)])) rfl rfl (hb hby q22_2) t r) ?_
  refine OwnN.Go.sp (g' := (mkF m 15 #[.val (.ref t1), .val (.int 38), .unset] [(.int 38)])) (fun T A t r => XS.icmpYes A hx rfl (pc0 := 3) (pc' := 14) rfl (hb hby q22_3) rfl (feq (by decide : ¬ ((38 : Int32) = (16 : Int32)))).2 (by decide) (by decide) (XS.iloadN A hx rfl (hb hby q22_14) rfl r)) ?_
  refine OwnN.Go.newP (ty := .byte) (dv := (.int 0)) (cap := 38) (k' := 1) (n' := 38) (pc' := 17) (hb hby q22_15) rfl rfl (own_w hw 14 rfl) (by decide) (by decide) (by decide) rfl rfl rfl (by decide) (by decide) ?_
  intro b11 h11 k11 g11 sz11 E11 A11
  refine OwnN.Go.sp (g' := (mkF m 23 #[.val (.ref t1), .val (.int 38), .val (.ref b11)] [(.ref t1), (.int 0), (.ref b11), (.int 0), (.ref t1)])) (fun T A t r => XS.astoreN A hx rfl (hb hby q22_17) rfl rfl (l' := #[.val (.ref t1), .val (.int 38), .val (.ref b11)]) rfl (XS.aloadN A hx rfl (hb hby q22_18) rfl rfl (XS.iconst A hx rfl (hb hby q22_19) (XS.aloadN A hx rfl (hb hby q22_20) rfl rfl (XS.iconst A hx rfl (hb hby q22_21) (XS.aloadN A hx rfl (hb hby q22_22) rfl rfl r)))))) ?_
  have f12 := (B1.ext E11)
  refine OwnN.Go.r (g' := (mkF m 24 #[.val (.ref t1), .val (.int 38), .val (.ref b11)] [(.int 16), (.int 0), (.ref b11), (.int 0), (.ref t1)])) (fun s' T L_ X eT hZ t r => own_len X hx hZ eT f12 (g := (mkF m 23 #[.val (.ref t1), .val (.int 38), .val (.ref b11)] [(.ref t1), (.int 0), (.ref b11), (.int 0), (.ref t1)])) rfl rfl (hb hby q22_23) t r) ?_
  refine OwnN.Go.sp (g' := (mkF m 25 #[.val (.ref t1), .val (.int 38), .val (.ref b11)] [(.int 38), (.int 16), (.int 0), (.ref b11), (.int 0), (.ref t1)])) (fun T A t r => XS.iloadN A hx rfl (hb hby q22_24) rfl r) ?_
  refine OwnN.Go.old fun O13 => ?_
  refine OwnN.Go.callSP (W := 4) (y := Y13) (argsL := [(.int 16), (.int 38)]) (rest := [(.int 0), (.ref b11), (.int 0), (.ref t1)]) (pc' := 28) (hb hby q22_25) (own_w hw 232 rfl) (own_w hw 233 rfl) (own_w hw 234 rfl) (own_w hw 235 rfl) (by decide) (fun s' hZ => OwnN.Ct.bk (rmMN l Z a0 hw [] (16 : Int32) (38 : Int32) h11 n0 O13 (by decide)) hZ (own_w hw 235 rfl) (own_w hw 234 rfl) (by decide) (by decide)) hml.symm (lenOf pd_7 rfl) rfl (Nat.le_of_ble_eq_true rfl) rfl (by decide) (by decide) ?_
  rintro v14 rfl
  refine OwnN.Go.kp (ws' := [b11]) (P := fun h' => Arv Z h' b11 k11 .byte (38 : Int32) (own_B cs) (.int 0)) (g' := (mkF m 31 #[.val (.ref t1), .val (.int 38), .val (.ref b11)] [])) (fun s' T L_ X eT N hZ hown => own_cpy (xs := []) (ys := (own_B cs)) 0 16 X hx hZ hown (own_w hw 236 rfl) (own_w hw 191 rfl) (own_w hw 189 rfl) (own_w hw 190 rfl) eT f12 A11 rfl (by rw [own_Bl]; exact hl) (fun _ _ => rfl) (by decide) (by decide) (by decide) (by decide) rfl rfl rfl rfl N (Nat.le_trans (Old.le O0) sz11) (g := (mkF m 28 #[.val (.ref t1), .val (.int 38), .val (.ref b11)] [(.int 16), (.int 0), (.ref b11), (.int 0), (.ref t1)])) rfl hml.symm rfl (hb hby q22_28) (by decide) (W := 0) (catOf (Nat.le_of_ble_eq_true rfl)) (by decide)) (allS (Or.inr sz11) all0) ?_
  intro h15 K15 V15
  refine OwnN.Go.sp (g' := (mkF m 32 #[.val (.ref t1), .val (.int 38), .val (.ref b11)] [(.ref b11)])) (fun T A t r => XS.aloadN A hx rfl (hb hby q22_31) rfl rfl r) ?_
  exact OwnN.Go.ret (v := (some (.ref b11))) (fun s' T L_ fs X hr => own_retR X hx hret rfl rfl (hb hby q22_32) hr) (fun h => by rw [hret] at h; cases h) (by decide) (by decide) ⟨_, _, rfl, sz11, V15⟩
theorem rmNL0 (l : Launch) (Z : State) (a0 : Array Value) (hw : own_T a0 Z) (wds : List Jvm.Cond)  (h0 : Heap) (n0 : Nat) (O0 : Old Z n0 h0)   :
    OwnN.Ct l Z Y15 jdk_48_method_27_code 4 (some .int) wds (⟨1, 0, 0, 14⟩ : Room) #[(.int 16), (.int 22), (.int 18)] n0 h0 [] (fun v h => v = some (.int 38) ∧ h = h0) := by
  refine OwnN.Ct.of (plainFor_of_name pn_jdk_internal_util_ArraysSupport) O0 all0 ?_
  intro p e s m below meth c hx hby hml hret hnm
  refine OwnN.Go.cast (ef_III_4 m (16 : Int32) (22 : Int32) (18 : Int32)) ?_
  refine OwnN.Go.sp (g' := (mkF m 3 #[.val (.int 16), .val (.int 22), .val (.int 18), .unset] [(.int 18), (.int 22), (.int 16)])) (fun T A t r => XS.iloadN A hx rfl (hb hby q23_0) rfl (XS.iloadN A hx rfl (hb hby q23_1) rfl (XS.iloadN A hx rfl (hb hby q23_2) rfl r))) ?_
  refine OwnN.Go.old fun O11 => ?_
  refine OwnN.Go.callSP (W := 1) (y := Y14) (argsL := [(.int 22), (.int 18)]) (rest := [(.int 16)]) (pc' := 6) (hb hby q23_3) (own_w hw 288 rfl) (own_w hw 266 rfl) (own_w hw 234 rfl) (own_w hw 267 rfl) (by decide) (fun s' hZ => OwnN.Ct.bk (rmMX l Z a0 hw [] (22 : Int32) (18 : Int32) h0 n0 O11 (by decide)) hZ (own_w hw 267 rfl) (own_w hw 234 rfl) (by decide) (by decide)) hml.symm (lenOf pd_7 rfl) rfl (Nat.le_of_ble_eq_true rfl) rfl (by decide) (by decide) ?_
  rintro v12 rfl
  refine OwnN.Go.sp (g' := (mkF m 14 #[.val (.int 16), .val (.int 22), .val (.int 18), .val (.int 38)] [(.int 38)])) (fun T A t r => XS.iadd A hx rfl (hb hby q23_6) rfl (XS.istoreN A hx rfl (hb hby q23_7) rfl (l' := #[.val (.int 16), .val (.int 22), .val (.int 18), .val (.int 38)]) rfl (XS.iconst A hx rfl (hb hby q23_8) (XS.iloadN A hx rfl (hb hby q23_9) rfl (XS.icmpNo A hx rfl (hb hby q23_10) rfl (tlt (by decide : ((0 : Int32) < (38 : Int32)))).2.1 (XS.iloadN A hx rfl (hb hby q23_13) rfl r)))))) ?_
  refine OwnN.Go.v (g' := (mkF m 16 #[.val (.int 16), .val (.int 22), .val (.int 18), .val (.int 38)] [(.int 2147483639), (.int 38)])) (fun s' T L_ X eT hZ hown => own_ldcI X hx hZ hown (own_w hw 289 rfl) eT (g := (mkF m 14 #[.val (.int 16), .val (.int 22), .val (.int 18), .val (.int 38)] [(.int 38)])) rfl (hb hby q23_14)) ?_
  refine OwnN.Go.sp (g' := (mkF m 20 #[.val (.int 16), .val (.int 22), .val (.int 18), .val (.int 38)] [(.int 38)])) (fun T A t r => XS.icmpNo A hx rfl (hb hby q23_16) rfl (flt (by decide : ¬ ((2147483639 : Int32) < (38 : Int32)))).2.2.1 (XS.iloadN A hx rfl (hb hby q23_19) rfl r)) ?_
  exact OwnN.Go.ret (v := (some (.int 38))) (fun s' T L_ fs X hr => retI X hx hret (hb hby q23_20) hr) (fun h => by rw [hret] at h; cases h) (by decide) (by decide) ⟨rfl, rfl⟩
theorem rmNC0 (l : Launch) (Z : State) (a0 : Array Value) (hw : own_T a0 Z) (wds : List Jvm.Cond) (a1 : Addr) (t1 : Addr) (k1 : ClassId) (cs : List Int32) (h0 : Heap) (n0 : Nat) (O0 : Old Z n0 h0)  (E1 : Exa Z h0 a1 "java/lang/StringBuilder") (V1 : Fld Z h0 a1 "java/lang/AbstractStringBuilder" "value" "[B" (.ref t1)) (C1 : Fld Z h0 a1 "java/lang/AbstractStringBuilder" "coder" "B" (.int 0)) (B1 : Arv Z h0 t1 k1 .byte (16 : Int32) (own_B cs) (.int 0)) :
    OwnN.Ct l Z Y16 jdk_68_method_10_code 6 (some .int) wds (⟨2, 0, 0, 29⟩ : Room) #[(.ref a1), (.int 38)] n0 h0 [] (fun v h => v = some (.int 38) ∧ h = h0) := by
  refine OwnN.Ct.of (plainFor_of_name pn_java_lang_AbstractStringBuilder) O0 all0 ?_
  intro p e s m below meth c hx hby hml hret hnm
  refine OwnN.Go.cast (ef_RI_6 m a1 (38 : Int32)) ?_
  refine OwnN.Go.sp (g' := (mkF m 1 #[.val (.ref a1), .val (.int 38), .unset, .unset, .unset, .unset] [(.ref a1)])) (fun T A t r => XS.aloadN A hx rfl (hb hby q24_0) rfl rfl r) ?_
  refine OwnN.Go.v (g' := (mkF m 4 #[.val (.ref a1), .val (.int 38), .unset, .unset, .unset, .unset] [(.ref t1)])) (fun s' T L_ X eT hZ hown => getF X hx hZ hown (host := "") (Or.inl (own_w hw 132 rfl)) Via.refl eT V1 (g := (mkF m 1 #[.val (.ref a1), .val (.int 38), .unset, .unset, .unset, .unset] [(.ref a1)])) rfl rfl (hb hby q24_1)) ?_
  refine OwnN.Go.r (g' := (mkF m 5 #[.val (.ref a1), .val (.int 38), .unset, .unset, .unset, .unset] [(.int 16)])) (fun s' T L_ X eT hZ t r => own_len X hx hZ eT B1 (g := (mkF m 4 #[.val (.ref a1), .val (.int 38), .unset, .unset, .unset, .unset] [(.ref t1)])) rfl rfl (hb hby q24_4) t r) ?_
  refine OwnN.Go.sp (g' := (mkF m 8 #[.val (.ref a1), .val (.int 38), .val (.int 16), .unset, .unset, .unset] [(.ref a1), (.int 38)])) (fun T A t r => XS.istoreN A hx rfl (hb hby q24_5) rfl (l' := #[.val (.ref a1), .val (.int 38), .val (.int 16), .unset, .unset, .unset]) rfl (XS.iloadN A hx rfl (hb hby q24_6) rfl (XS.aloadN A hx rfl (hb hby q24_7) rfl rfl r))) ?_
  refine OwnN.Go.v (g' := (mkF m 11 #[.val (.ref a1), .val (.int 38), .val (.int 16), .unset, .unset, .unset] [(.int 0), (.int 38)])) (fun s' T L_ X eT hZ hown => getF X hx hZ hown (host := "") (Or.inl (own_w hw 134 rfl)) Via.refl eT C1 (g := (mkF m 8 #[.val (.ref a1), .val (.int 38), .val (.int 16), .unset, .unset, .unset] [(.ref a1), (.int 38)])) rfl rfl (hb hby q24_8)) ?_
  refine OwnN.Go.sp (g' := (mkF m 12 #[.val (.ref a1), .val (.int 38), .val (.int 16), .unset, .unset, .unset] [(.int ((38 : Int32) <<< ((0 : Int32) &&& 31)))])) (fun T A t r => XS.ishl A hx rfl (hb hby q24_11) rfl r) ?_
  refine OwnN.Go.cast (g' := (mkF m 12 #[.val (.ref a1), .val (.int 38), .val (.int 16), .unset, .unset, .unset] [(.int 38)])) (by rw [show ((38 : Int32) <<< ((0 : Int32) &&& 31)) = (38 : Int32) from own_shl0 _] <;> rfl) ?_
  refine OwnN.Go.sp (g' := (mkF m 24 #[.val (.ref a1), .val (.int 38), .val (.int 16), .val (.int 38), .val (.int 22), .unset] [(.ref a1), (.int 2), (.int 16), (.int 22), (.int 16)])) (fun T A t r => XS.istoreN A hx rfl (hb hby q24_12) rfl (l' := #[.val (.ref a1), .val (.int 38), .val (.int 16), .val (.int 38), .unset, .unset]) rfl (XS.iloadN A hx rfl (hb hby q24_13) rfl (XS.iloadN A hx rfl (hb hby q24_14) rfl (XS.isub A hx rfl (hb hby q24_15) rfl (XS.istore A hx rfl (hb hby q24_16) rfl (l' := #[.val (.ref a1), .val (.int 38), .val (.int 16), .val (.int 38), .val (.int 22), .unset]) rfl (XS.iloadN A hx rfl (hb hby q24_18) rfl (XS.iload A hx rfl (hb hby q24_19) rfl (XS.iloadN A hx rfl (hb hby q24_21) rfl (XS.iconst A hx rfl (hb hby q24_22) (XS.aloadN A hx rfl (hb hby q24_23) rfl rfl r)))))))))) ?_
  refine OwnN.Go.v (g' := (mkF m 27 #[.val (.ref a1), .val (.int 38), .val (.int 16), .val (.int 38), .val (.int 22), .unset] [(.int 0), (.int 2), (.int 16), (.int 22), (.int 16)])) (fun s' T L_ X eT hZ hown => getF X hx hZ hown (host := "") (Or.inl (own_w hw 134 rfl)) Via.refl eT C1 (g := (mkF m 24 #[.val (.ref a1), .val (.int 38), .val (.int 16), .val (.int 38), .val (.int 22), .unset] [(.ref a1), (.int 2), (.int 16), (.int 22), (.int 16)])) rfl rfl (hb hby q24_24)) ?_
  refine OwnN.Go.sp (g' := (mkF m 28 #[.val (.ref a1), .val (.int 38), .val (.int 16), .val (.int 38), .val (.int 22), .unset] [(.int ((2 : Int32) <<< ((0 : Int32) &&& 31))), (.int 16), (.int 22), (.int 16)])) (fun T A t r => XS.ishl A hx rfl (hb hby q24_27) rfl r) ?_
  refine OwnN.Go.cast (g' := (mkF m 28 #[.val (.ref a1), .val (.int 38), .val (.int 16), .val (.int 38), .val (.int 22), .unset] [(.int 2), (.int 16), (.int 22), (.int 16)])) (by rw [show ((2 : Int32) <<< ((0 : Int32) &&& 31)) = (2 : Int32) from own_shl0 _] <;> rfl) ?_
  refine OwnN.Go.sp (g' := (mkF m 29 #[.val (.ref a1), .val (.int 38), .val (.int 16), .val (.int 38), .val (.int 22), .unset] [(.int 18), (.int 22), (.int 16)])) (fun T A t r => XS.iadd A hx rfl (hb hby q24_28) rfl r) ?_
  refine OwnN.Go.old fun O11 => ?_
  refine OwnN.Go.callSP (W := 0) (y := Y15) (argsL := [(.int 16), (.int 22), (.int 18)]) (rest := []) (pc' := 32) (hb hby q24_29) (own_w hw 284 rfl) (own_w hw 285 rfl) (own_w hw 286 rfl) (own_w hw 287 rfl) (by decide) (fun s' hZ => OwnN.Ct.bk (rmNL0 l Z a0 hw [] h0 n0 O11) hZ (own_w hw 287 rfl) (own_w hw 286 rfl) (by decide) (by decide)) hml.symm (lenOf pd_8 rfl) rfl (Nat.le_of_ble_eq_true rfl) rfl (by decide) (by decide) ?_
  rintro v12 rfl
  refine OwnN.Go.sp (g' := (mkF m 36 #[.val (.ref a1), .val (.int 38), .val (.int 16), .val (.int 38), .val (.int 22), .val (.int 38)] [(.int 38)])) (fun T A t r => XS.istore A hx rfl (hb hby q24_32) rfl (l' := #[.val (.ref a1), .val (.int 38), .val (.int 16), .val (.int 38), .val (.int 22), .val (.int 38)]) rfl (XS.iload A hx rfl (hb hby q24_34) rfl r)) ?_
  refine OwnN.Go.v (g' := (mkF m 38 #[.val (.ref a1), .val (.int 38), .val (.int 16), .val (.int 38), .val (.int 22), .val (.int 38)] [(.int 2147483647), (.int 38)])) (fun s' T L_ X eT hZ hown => own_ldcI X hx hZ hown (own_w hw 290 rfl) eT (g := (mkF m 36 #[.val (.ref a1), .val (.int 38), .val (.int 16), .val (.int 38), .val (.int 22), .val (.int 38)] [(.int 38)])) rfl (hb hby q24_36)) ?_
  refine OwnN.Go.sp (g' := (mkF m 54 #[.val (.ref a1), .val (.int 38), .val (.int 16), .val (.int 38), .val (.int 22), .val (.int 38)] [(.ref a1), (.int 38)])) (fun T A t r => XS.icmpYes A hx rfl (pc0 := 38) (pc' := 51) rfl (hb hby q24_38) rfl (feq (by decide : ¬ ((38 : Int32) = (2147483647 : Int32)))).2 (by decide) (by decide) (XS.iload A hx rfl (hb hby q24_51) rfl (XS.aloadN A hx rfl (hb hby q24_53) rfl rfl r))) ?_
  refine OwnN.Go.v (g' := (mkF m 57 #[.val (.ref a1), .val (.int 38), .val (.int 16), .val (.int 38), .val (.int 22), .val (.int 38)] [(.int 0), (.int 38)])) (fun s' T L_ X eT hZ hown => getF X hx hZ hown (host := "") (Or.inl (own_w hw 134 rfl)) Via.refl eT C1 (g := (mkF m 54 #[.val (.ref a1), .val (.int 38), .val (.int 16), .val (.int 38), .val (.int 22), .val (.int 38)] [(.ref a1), (.int 38)])) rfl rfl (hb hby q24_54)) ?_
  refine OwnN.Go.sp (g' := (mkF m 58 #[.val (.ref a1), .val (.int 38), .val (.int 16), .val (.int 38), .val (.int 22), .val (.int 38)] [(.int ((38 : Int32) >>> ((0 : Int32) &&& 31)))])) (fun T A t r => XS.ishr A hx rfl (hb hby q24_57) rfl r) ?_
  refine OwnN.Go.cast (g' := (mkF m 58 #[.val (.ref a1), .val (.int 38), .val (.int 16), .val (.int 38), .val (.int 22), .val (.int 38)] [(.int 38)])) (by rw [show ((38 : Int32) >>> ((0 : Int32) &&& 31)) = (38 : Int32) from own_shr0 _] <;> rfl) ?_
  exact OwnN.Go.ret (v := (some (.int 38))) (fun s' T L_ fs X hr => retI X hx hret (hb hby q24_58) hr) (fun h => by rw [hret] at h; cases h) (by decide) (by decide) ⟨rfl, rfl⟩
theorem rmEC10 (l : Launch) (Z : State) (a0 : Array Value) (hw : own_T a0 Z) (wds : List Jvm.Cond) (a1 : Addr) (t1 : Addr) (k1 : ClassId) (cs : List Int32) (h0 : Heap) (n0 : Nat) (O0 : Old Z n0 h0) (g_a1 : n0 ≤ a1) (E1 : Exa Z h0 a1 "java/lang/StringBuilder") (V1 : Fld Z h0 a1 "java/lang/AbstractStringBuilder" "value" "[B" (.ref t1)) (C1 : Fld Z h0 a1 "java/lang/AbstractStringBuilder" "coder" "B" (.int 0)) (N1 : Fld Z h0 a1 "java/lang/AbstractStringBuilder" "count" "I" (.int (Int32.ofNat cs.length))) (B1 : Arv Z h0 t1 k1 .byte (16 : Int32) (own_B cs) (.int 0)) (hl : cs.length ≤ 16) :
    OwnN.Ct l Z Y21 jdk_68_method_9_code 3 none wds (⟨3, 1, 38, 55⟩ : Room) #[(.ref a1), (.int 38)] n0 h0 [a1] (fun v h => ∃ (t : Addr) (kb : ClassId), v = none ∧ h0.size ≤ t ∧ Fld Z h a1 "java/lang/AbstractStringBuilder" "value" "[B" (.ref t) ∧ Fld Z h a1 "java/lang/AbstractStringBuilder" "coder" "B" (.int 0) ∧ Fld Z h a1 "java/lang/AbstractStringBuilder" "count" "I" (.int (Int32.ofNat cs.length)) ∧ Arv Z h t kb .byte (38 : Int32) (own_B cs) (.int 0)) := by
  refine OwnN.Ct.of (plainFor_of_name pn_java_lang_AbstractStringBuilder) O0 (allS g_a1 all0) ?_
  intro p e s m below meth c hx hby hml hret hnm
  refine OwnN.Go.cast (ef_RI_3 m a1 (38 : Int32)) ?_
  refine OwnN.Go.sp (g' := (mkF m 1 #[.val (.ref a1), .val (.int 38), .unset] [(.ref a1)])) (fun T A t r => XS.aloadN A hx rfl (hb hby q21_0) rfl rfl r) ?_
  refine OwnN.Go.v (g' := (mkF m 4 #[.val (.ref a1), .val (.int 38), .unset] [(.ref t1)])) (fun s' T L_ X eT hZ hown => getF X hx hZ hown (host := "") (Or.inl (own_w hw 132 rfl)) Via.refl eT V1 (g := (mkF m 1 #[.val (.ref a1), .val (.int 38), .unset] [(.ref a1)])) rfl rfl (hb hby q21_1)) ?_
  refine OwnN.Go.r (g' := (mkF m 5 #[.val (.ref a1), .val (.int 38), .unset] [(.int 16)])) (fun s' T L_ X eT hZ t r => own_len X hx hZ eT B1 (g := (mkF m 4 #[.val (.ref a1), .val (.int 38), .unset] [(.ref t1)])) rfl rfl (hb hby q21_4) t r) ?_
  refine OwnN.Go.sp (g' := (mkF m 6 #[.val (.ref a1), .val (.int 38), .unset] [(.ref a1), (.int 16)])) (fun T A t r => XS.aloadN A hx rfl (hb hby q21_5) rfl rfl r) ?_
  refine OwnN.Go.v (g' := (mkF m 9 #[.val (.ref a1), .val (.int 38), .unset] [(.int 0), (.int 16)])) (fun s' T L_ X eT hZ hown => getF X hx hZ hown (host := "") (Or.inl (own_w hw 134 rfl)) Via.refl eT C1 (g := (mkF m 6 #[.val (.ref a1), .val (.int 38), .unset] [(.ref a1), (.int 16)])) rfl rfl (hb hby q21_6)) ?_
  refine OwnN.Go.sp (g' := (mkF m 10 #[.val (.ref a1), .val (.int 38), .unset] [(.int ((16 : Int32) >>> ((0 : Int32) &&& 31)))])) (fun T A t r => XS.ishr A hx rfl (hb hby q21_9) rfl r) ?_
  refine OwnN.Go.cast (g' := (mkF m 10 #[.val (.ref a1), .val (.int 38), .unset] [(.int 16)])) (by rw [show ((16 : Int32) >>> ((0 : Int32) &&& 31)) = (16 : Int32) from own_shr0 _] <;> rfl) ?_
  refine OwnN.Go.sp (g' := (mkF m 19 #[.val (.ref a1), .val (.int 38), .val (.int 16)] [(.ref a1), (.ref a1)])) (fun T A t r => XS.istoreN A hx rfl (hb hby q21_10) rfl (l' := #[.val (.ref a1), .val (.int 38), .val (.int 16)]) rfl (XS.iloadN A hx rfl (hb hby q21_11) rfl (XS.iloadN A hx rfl (hb hby q21_12) rfl (XS.isub A hx rfl (hb hby q21_13) rfl (XS.ifNo A hx rfl (hb hby q21_14) rfl ((if0 _ _).trans (tlt (by decide : ((0 : Int32) < (22 : Int32)))).2.2.2) (XS.aloadN A hx rfl (hb hby q21_17) rfl rfl (XS.aloadN A hx rfl (hb hby q21_18) rfl rfl r))))))) ?_
  refine OwnN.Go.v (g' := (mkF m 22 #[.val (.ref a1), .val (.int 38), .val (.int 16)] [(.ref t1), (.ref a1)])) (fun s' T L_ X eT hZ hown => getF X hx hZ hown (host := "") (Or.inl (own_w hw 132 rfl)) Via.refl eT V1 (g := (mkF m 19 #[.val (.ref a1), .val (.int 38), .val (.int 16)] [(.ref a1), (.ref a1)])) rfl rfl (hb hby q21_19)) ?_
  refine OwnN.Go.sp (g' := (mkF m 24 #[.val (.ref a1), .val (.int 38), .val (.int 16)] [(.int 38), (.ref a1), (.ref t1), (.ref a1)])) (fun T A t r => XS.aloadN A hx rfl (hb hby q21_22) rfl rfl (XS.iloadN A hx rfl (hb hby q21_23) rfl r)) ?_
  refine OwnN.Go.old fun O11 => ?_
  refine OwnC.goNP (k' := 0) (n' := 0) (OwnC.callerP (y := Y16) (a := a1) (W := 2) (argsL := [(.int 38)]) (rest := [(.ref t1), (.ref a1)]) (pc' := 27) (rc := 0) (rs := 0) (ws' := []) hx (hb hby q21_24) (own_w hw 279 rfl) (own_w hw 281 rfl) (own_w hw 282 rfl) (own_w hw 280 rfl) (own_w hw 283 rfl) (by decide) (fun s' hZ => OwnN.Ct.bk (rmNC0 l Z a0 hw [] a1 t1 k1 cs h0 n0 O11 E1 V1 C1 B1) hZ (own_w hw 283 rfl) (own_w hw 128 rfl) (by decide) (by decide)) E1 hml.symm (lenOf pd_9 rfl) rfl (Nat.le_of_ble_eq_true rfl) rfl (by decide) (by decide)) rfl rfl ?_
  rintro v12 rfl
  refine OwnN.Go.sp (g' := (mkF m 28 #[.val (.ref a1), .val (.int 38), .val (.int 16)] [(.ref a1), (.int 38), (.ref t1), (.ref a1)])) (fun T A t r => XS.aloadN A hx rfl (hb hby q21_27) rfl rfl r) ?_
  refine OwnN.Go.v (g' := (mkF m 31 #[.val (.ref a1), .val (.int 38), .val (.int 16)] [(.int 0), (.int 38), (.ref t1), (.ref a1)])) (fun s' T L_ X eT hZ hown => getF X hx hZ hown (host := "") (Or.inl (own_w hw 134 rfl)) Via.refl eT C1 (g := (mkF m 28 #[.val (.ref a1), .val (.int 38), .val (.int 16)] [(.ref a1), (.int 38), (.ref t1), (.ref a1)])) rfl rfl (hb hby q21_28)) ?_
  refine OwnN.Go.sp (g' := (mkF m 32 #[.val (.ref a1), .val (.int 38), .val (.int 16)] [(.int ((38 : Int32) <<< ((0 : Int32) &&& 31))), (.ref t1), (.ref a1)])) (fun T A t r => XS.ishl A hx rfl (hb hby q21_31) rfl r) ?_
  refine OwnN.Go.cast (g' := (mkF m 32 #[.val (.ref a1), .val (.int 38), .val (.int 16)] [(.int 38), (.ref t1), (.ref a1)])) (by rw [show ((38 : Int32) <<< ((0 : Int32) &&& 31)) = (38 : Int32) from own_shl0 _] <;> rfl) ?_
  refine OwnN.Go.callS (ws' := []) (W := 1) (y := Y17) (argsL := [(.ref t1), (.int 38)]) (rest := [(.ref a1)]) (pc' := 35) (k' := 1) (n' := 38) (hb hby q21_32) (own_w hw 291 rfl) (own_w hw 292 rfl) (own_w hw 224 rfl) (own_w hw 293 rfl) (by decide) (fun s' hZ => OwnN.Ct.bk (rmCO0 l Z a0 hw [] t1 k1 cs h0 n0 O11 B1 hl) hZ (own_w hw 293 rfl) (own_w hw 224 rfl) (by decide) (by decide)) hml.symm (lenOf pd_10 rfl) rfl (Nat.le_of_ble_eq_true rfl) rfl rfl rfl (by decide) (by decide) all0 ?_
  rintro v13 h13 K13 ⟨t13, kb13, rfl, ge13, B13⟩
  have f14 := (E1.keep K13)
  have f15 := (V1.keep K13 nin0)
  refine OwnN.Go.w (g' := (mkF m 38 #[.val (.ref a1), .val (.int 38), .val (.int 16)] [])) (fun s' T L_ X eT hZ hown => putF X hx hZ hown (host := "") (Or.inl (own_w hw 132 rfl)) Via.refl eT f15 f14 (Or.inl (own_w hw 133 rfl)) (own_w hw 119 rfl) (ty := (.array .byte)) (by decide) rfl rfl (g := (mkF m 35 #[.val (.ref a1), .val (.int 38), .val (.int 16)] [(.ref t13), (.ref a1)])) rfl rfl (hb hby q21_35)) (Or.inl (List.mem_of_getElem? (i := 0) rfl)) ?_
  intro h17 W17
  have F17 := f15.same W17
  have f18 := ((C1.keep K13 nin0).other W17 (Or.inr (slot_ne (Or.inl (own_w hw 135 rfl)) (Or.inl (own_w hw 133 rfl)) (by decide) (t := .byte) (t' := (.array .byte)) (by decide) (by decide))))
  have f19 := ((N1.keep K13 nin0).other W17 (Or.inr (slot_ne (Or.inl (own_w hw 166 rfl)) (Or.inl (own_w hw 133 rfl)) (by decide) (t := .int) (t' := (.array .byte)) (by decide) (by decide))))
  have ne20 : a1 ≠ t13 := Nat.ne_of_lt (Nat.lt_of_lt_of_le E1.lt ge13)
  have f21 := (B13.other W17 (Ne.symm ne20))
  exact OwnN.Go.ret (v := none) (fun s' T L_ fs X hr => X.returnOut hx hret (hb hby q21_38) hr) (fun _ => rfl) (by decide) (by decide) ⟨_, _, rfl, ge13, F17, f18, f19, f21⟩
theorem rmCO1 (l : Launch) (Z : State) (a0 : Array Value) (hw : own_T a0 Z) (wds : List Jvm.Cond) (t1 : Addr) (k1 : ClassId) (cs : List Int32) (h0 : Heap) (n0 : Nat) (O0 : Old Z n0 h0)  (B1 : Arv Z h0 t1 k1 .byte (38 : Int32) (own_B cs) (.int 0)) (hl : cs.length ≤ 38) :
    OwnN.Ct l Z Y17 jdk_65_method_121_code 3 (some (.array .byte)) wds (⟨1, 1, 78, 40⟩ : Room) #[(.ref t1), (.int 78)] n0 h0 [] (fun v h => ∃ (t : Addr) (kb : ClassId), v = some (.ref t) ∧ h0.size ≤ t ∧ Arv Z h t kb .byte (78 : Int32) (own_B cs) (.int 0)) := by
  refine OwnN.Ct.of (plainFor_of_name pn_java_util_Arrays) O0 all0 ?_
  intro p e s m below meth c hx hby hml hret hnm
  refine OwnN.Go.cast (ef_RI_3 m t1 (78 : Int32)) ?_
  refine OwnN.Go.sp (g' := (mkF m 2 #[.val (.ref t1), .val (.int 78), .unset] [(.ref t1), (.int 78)])) (fun T A t r => XS.iloadN A hx rfl (hb hby q22_0) rfl (XS.aloadN A hx rfl (hb hby q22_1) rfl rfl r)) ?_
  refine OwnN.Go.r (g' := (mkF m 3 #[.val (.ref t1), .val (.int 78), .unset] [(.int 38), (.int 78)])) (fun s' T L_ X eT hZ t r => own_len X hx hZ eT B1 (g := (mkF m 2 #[.val (.ref t1), .val (.int 78), .unset] [(.ref t1), (.int 78)])) rfl rfl (hb hby q22_2) t r) ?_
  refine OwnN.Go.sp (g' := (mkF m 15 #[.val (.ref t1), .val (.int 78), .unset] [(.int 78)])) (fun T A t r => XS.icmpYes A hx rfl (pc0 := 3) (pc' := 14) rfl (hb hby q22_3) rfl (feq (by decide : ¬ ((78 : Int32) = (38 : Int32)))).2 (by decide) (by decide) (XS.iloadN A hx rfl (hb hby q22_14) rfl r)) ?_
  refine OwnN.Go.newP (ty := .byte) (dv := (.int 0)) (cap := 78) (k' := 1) (n' := 78) (pc' := 17) (hb hby q22_15) rfl rfl (own_w hw 14 rfl) (by decide) (by decide) (by decide) rfl rfl rfl (by decide) (by decide) ?_
  intro b11 h11 k11 g11 sz11 E11 A11
  refine OwnN.Go.sp (g' := (mkF m 23 #[.val (.ref t1), .val (.int 78), .val (.ref b11)] [(.ref t1), (.int 0), (.ref b11), (.int 0), (.ref t1)])) (fun T A t r => XS.astoreN A hx rfl (hb hby q22_17) rfl rfl (l' := #[.val (.ref t1), .val (.int 78), .val (.ref b11)]) rfl (XS.aloadN A hx rfl (hb hby q22_18) rfl rfl (XS.iconst A hx rfl (hb hby q22_19) (XS.aloadN A hx rfl (hb hby q22_20) rfl rfl (XS.iconst A hx rfl (hb hby q22_21) (XS.aloadN A hx rfl (hb hby q22_22) rfl rfl r)))))) ?_
  have f12 := (B1.ext E11)
  refine OwnN.Go.r (g' := (mkF m 24 #[.val (.ref t1), .val (.int 78), .val (.ref b11)] [(.int 38), (.int 0), (.ref b11), (.int 0), (.ref t1)])) (fun s' T L_ X eT hZ t r => own_len X hx hZ eT f12 (g := (mkF m 23 #[.val (.ref t1), .val (.int 78), .val (.ref b11)] [(.ref t1), (.int 0), (.ref b11), (.int 0), (.ref t1)])) rfl rfl (hb hby q22_23) t r) ?_
  refine OwnN.Go.sp (g' := (mkF m 25 #[.val (.ref t1), .val (.int 78), .val (.ref b11)] [(.int 78), (.int 38), (.int 0), (.ref b11), (.int 0), (.ref t1)])) (fun T A t r => XS.iloadN A hx rfl (hb hby q22_24) rfl r) ?_
  refine OwnN.Go.old fun O13 => ?_
  refine OwnN.Go.callSP (W := 4) (y := Y13) (argsL := [(.int 38), (.int 78)]) (rest := [(.int 0), (.ref b11), (.int 0), (.ref t1)]) (pc' := 28) (hb hby q22_25) (own_w hw 232 rfl) (own_w hw 233 rfl) (own_w hw 234 rfl) (own_w hw 235 rfl) (by decide) (fun s' hZ => OwnN.Ct.bk (rmMN l Z a0 hw [] (38 : Int32) (78 : Int32) h11 n0 O13 (by decide)) hZ (own_w hw 235 rfl) (own_w hw 234 rfl) (by decide) (by decide)) hml.symm (lenOf pd_7 rfl) rfl (Nat.le_of_ble_eq_true rfl) rfl (by decide) (by decide) ?_
  rintro v14 rfl
  refine OwnN.Go.kp (ws' := [b11]) (P := fun h' => Arv Z h' b11 k11 .byte (78 : Int32) (own_B cs) (.int 0)) (g' := (mkF m 31 #[.val (.ref t1), .val (.int 78), .val (.ref b11)] [])) (fun s' T L_ X eT N hZ hown => own_cpy (xs := []) (ys := (own_B cs)) 0 38 X hx hZ hown (own_w hw 236 rfl) (own_w hw 191 rfl) (own_w hw 189 rfl) (own_w hw 190 rfl) eT f12 A11 rfl (by rw [own_Bl]; exact hl) (fun _ _ => rfl) (by decide) (by decide) (by decide) (by decide) rfl rfl rfl rfl N (Nat.le_trans (Old.le O0) sz11) (g := (mkF m 28 #[.val (.ref t1), .val (.int 78), .val (.ref b11)] [(.int 38), (.int 0), (.ref b11), (.int 0), (.ref t1)])) rfl hml.symm rfl (hb hby q22_28) (by decide) (W := 0) (catOf (Nat.le_of_ble_eq_true rfl)) (by decide)) (allS (Or.inr sz11) all0) ?_
  intro h15 K15 V15
  refine OwnN.Go.sp (g' := (mkF m 32 #[.val (.ref t1), .val (.int 78), .val (.ref b11)] [(.ref b11)])) (fun T A t r => XS.aloadN A hx rfl (hb hby q22_31) rfl rfl r) ?_
  exact OwnN.Go.ret (v := (some (.ref b11))) (fun s' T L_ fs X hr => own_retR X hx hret rfl rfl (hb hby q22_32) hr) (fun h => by rw [hret] at h; cases h) (by decide) (by decide) ⟨_, _, rfl, sz11, V15⟩
theorem rmNL1 (l : Launch) (Z : State) (a0 : Array Value) (hw : own_T a0 Z) (wds : List Jvm.Cond)  (h0 : Heap) (n0 : Nat) (O0 : Old Z n0 h0)   :
    OwnN.Ct l Z Y15 jdk_48_method_27_code 4 (some .int) wds (⟨1, 0, 0, 14⟩ : Room) #[(.int 38), (.int 1), (.int 40)] n0 h0 [] (fun v h => v = some (.int 78) ∧ h = h0) := by
  refine OwnN.Ct.of (plainFor_of_name pn_jdk_internal_util_ArraysSupport) O0 all0 ?_
  intro p e s m below meth c hx hby hml hret hnm
  refine OwnN.Go.cast (ef_III_4 m (38 : Int32) (1 : Int32) (40 : Int32)) ?_
  refine OwnN.Go.sp (g' := (mkF m 3 #[.val (.int 38), .val (.int 1), .val (.int 40), .unset] [(.int 40), (.int 1), (.int 38)])) (fun T A t r => XS.iloadN A hx rfl (hb hby q23_0) rfl (XS.iloadN A hx rfl (hb hby q23_1) rfl (XS.iloadN A hx rfl (hb hby q23_2) rfl r))) ?_
  refine OwnN.Go.old fun O11 => ?_
  refine OwnN.Go.callSP (W := 1) (y := Y14) (argsL := [(.int 1), (.int 40)]) (rest := [(.int 38)]) (pc' := 6) (hb hby q23_3) (own_w hw 288 rfl) (own_w hw 266 rfl) (own_w hw 234 rfl) (own_w hw 267 rfl) (by decide) (fun s' hZ => OwnN.Ct.bk (rmMX2 l Z a0 hw [] (1 : Int32) (40 : Int32) h0 n0 O11 (by decide)) hZ (own_w hw 267 rfl) (own_w hw 234 rfl) (by decide) (by decide)) hml.symm (lenOf pd_7 rfl) rfl (Nat.le_of_ble_eq_true rfl) rfl (by decide) (by decide) ?_
  rintro v12 rfl
  refine OwnN.Go.sp (g' := (mkF m 14 #[.val (.int 38), .val (.int 1), .val (.int 40), .val (.int 78)] [(.int 78)])) (fun T A t r => XS.iadd A hx rfl (hb hby q23_6) rfl (XS.istoreN A hx rfl (hb hby q23_7) rfl (l' := #[.val (.int 38), .val (.int 1), .val (.int 40), .val (.int 78)]) rfl (XS.iconst A hx rfl (hb hby q23_8) (XS.iloadN A hx rfl (hb hby q23_9) rfl (XS.icmpNo A hx rfl (hb hby q23_10) rfl (tlt (by decide : ((0 : Int32) < (78 : Int32)))).2.1 (XS.iloadN A hx rfl (hb hby q23_13) rfl r)))))) ?_
  refine OwnN.Go.v (g' := (mkF m 16 #[.val (.int 38), .val (.int 1), .val (.int 40), .val (.int 78)] [(.int 2147483639), (.int 78)])) (fun s' T L_ X eT hZ hown => own_ldcI X hx hZ hown (own_w hw 289 rfl) eT (g := (mkF m 14 #[.val (.int 38), .val (.int 1), .val (.int 40), .val (.int 78)] [(.int 78)])) rfl (hb hby q23_14)) ?_
  refine OwnN.Go.sp (g' := (mkF m 20 #[.val (.int 38), .val (.int 1), .val (.int 40), .val (.int 78)] [(.int 78)])) (fun T A t r => XS.icmpNo A hx rfl (hb hby q23_16) rfl (flt (by decide : ¬ ((2147483639 : Int32) < (78 : Int32)))).2.2.1 (XS.iloadN A hx rfl (hb hby q23_19) rfl r)) ?_
  exact OwnN.Go.ret (v := (some (.int 78))) (fun s' T L_ fs X hr => retI X hx hret (hb hby q23_20) hr) (fun h => by rw [hret] at h; cases h) (by decide) (by decide) ⟨rfl, rfl⟩
theorem rmNC1 (l : Launch) (Z : State) (a0 : Array Value) (hw : own_T a0 Z) (wds : List Jvm.Cond) (a1 : Addr) (t1 : Addr) (k1 : ClassId) (cs : List Int32) (h0 : Heap) (n0 : Nat) (O0 : Old Z n0 h0)  (E1 : Exa Z h0 a1 "java/lang/StringBuilder") (V1 : Fld Z h0 a1 "java/lang/AbstractStringBuilder" "value" "[B" (.ref t1)) (C1 : Fld Z h0 a1 "java/lang/AbstractStringBuilder" "coder" "B" (.int 0)) (B1 : Arv Z h0 t1 k1 .byte (38 : Int32) (own_B cs) (.int 0)) :
    OwnN.Ct l Z Y16 jdk_68_method_10_code 6 (some .int) wds (⟨2, 0, 0, 29⟩ : Room) #[(.ref a1), (.int 39)] n0 h0 [] (fun v h => v = some (.int 78) ∧ h = h0) := by
  refine OwnN.Ct.of (plainFor_of_name pn_java_lang_AbstractStringBuilder) O0 all0 ?_
  intro p e s m below meth c hx hby hml hret hnm
  refine OwnN.Go.cast (ef_RI_6 m a1 (39 : Int32)) ?_
  refine OwnN.Go.sp (g' := (mkF m 1 #[.val (.ref a1), .val (.int 39), .unset, .unset, .unset, .unset] [(.ref a1)])) (fun T A t r => XS.aloadN A hx rfl (hb hby q24_0) rfl rfl r) ?_
  refine OwnN.Go.v (g' := (mkF m 4 #[.val (.ref a1), .val (.int 39), .unset, .unset, .unset, .unset] [(.ref t1)])) (fun s' T L_ X eT hZ hown => getF X hx hZ hown (host := "") (Or.inl (own_w hw 132 rfl)) Via.refl eT V1 (g := (mkF m 1 #[.val (.ref a1), .val (.int 39), .unset, .unset, .unset, .unset] [(.ref a1)])) rfl rfl (hb hby q24_1)) ?_
  refine OwnN.Go.r (g' := (mkF m 5 #[.val (.ref a1), .val (.int 39), .unset, .unset, .unset, .unset] [(.int 38)])) (fun s' T L_ X eT hZ t r => own_len X hx hZ eT B1 (g := (mkF m 4 #[.val (.ref a1), .val (.int 39), .unset, .unset, .unset, .unset] [(.ref t1)])) rfl rfl (hb hby q24_4) t r) ?_
  refine OwnN.Go.sp (g' := (mkF m 8 #[.val (.ref a1), .val (.int 39), .val (.int 38), .unset, .unset, .unset] [(.ref a1), (.int 39)])) (fun T A t r => XS.istoreN A hx rfl (hb hby q24_5) rfl (l' := #[.val (.ref a1), .val (.int 39), .val (.int 38), .unset, .unset, .unset]) rfl (XS.iloadN A hx rfl (hb hby q24_6) rfl (XS.aloadN A hx rfl (hb hby q24_7) rfl rfl r))) ?_
  refine OwnN.Go.v (g' := (mkF m 11 #[.val (.ref a1), .val (.int 39), .val (.int 38), .unset, .unset, .unset] [(.int 0), (.int 39)])) (fun s' T L_ X eT hZ hown => getF X hx hZ hown (host := "") (Or.inl (own_w hw 134 rfl)) Via.refl eT C1 (g := (mkF m 8 #[.val (.ref a1), .val (.int 39), .val (.int 38), .unset, .unset, .unset] [(.ref a1), (.int 39)])) rfl rfl (hb hby q24_8)) ?_
  refine OwnN.Go.sp (g' := (mkF m 12 #[.val (.ref a1), .val (.int 39), .val (.int 38), .unset, .unset, .unset] [(.int ((39 : Int32) <<< ((0 : Int32) &&& 31)))])) (fun T A t r => XS.ishl A hx rfl (hb hby q24_11) rfl r) ?_
  refine OwnN.Go.cast (g' := (mkF m 12 #[.val (.ref a1), .val (.int 39), .val (.int 38), .unset, .unset, .unset] [(.int 39)])) (by rw [show ((39 : Int32) <<< ((0 : Int32) &&& 31)) = (39 : Int32) from own_shl0 _] <;> rfl) ?_
  refine OwnN.Go.sp (g' := (mkF m 24 #[.val (.ref a1), .val (.int 39), .val (.int 38), .val (.int 39), .val (.int 1), .unset] [(.ref a1), (.int 2), (.int 38), (.int 1), (.int 38)])) (fun T A t r => XS.istoreN A hx rfl (hb hby q24_12) rfl (l' := #[.val (.ref a1), .val (.int 39), .val (.int 38), .val (.int 39), .unset, .unset]) rfl (XS.iloadN A hx rfl (hb hby q24_13) rfl (XS.iloadN A hx rfl (hb hby q24_14) rfl (XS.isub A hx rfl (hb hby q24_15) rfl (XS.istore A hx rfl (hb hby q24_16) rfl (l' := #[.val (.ref a1), .val (.int 39), .val (.int 38), .val (.int 39), .val (.int 1), .unset]) rfl (XS.iloadN A hx rfl (hb hby q24_18) rfl (XS.iload A hx rfl (hb hby q24_19) rfl (XS.iloadN A hx rfl (hb hby q24_21) rfl (XS.iconst A hx rfl (hb hby q24_22) (XS.aloadN A hx rfl (hb hby q24_23) rfl rfl r)))))))))) ?_
  refine OwnN.Go.v (g' := (mkF m 27 #[.val (.ref a1), .val (.int 39), .val (.int 38), .val (.int 39), .val (.int 1), .unset] [(.int 0), (.int 2), (.int 38), (.int 1), (.int 38)])) (fun s' T L_ X eT hZ hown => getF X hx hZ hown (host := "") (Or.inl (own_w hw 134 rfl)) Via.refl eT C1 (g := (mkF m 24 #[.val (.ref a1), .val (.int 39), .val (.int 38), .val (.int 39), .val (.int 1), .unset] [(.ref a1), (.int 2), (.int 38), (.int 1), (.int 38)])) rfl rfl (hb hby q24_24)) ?_
  refine OwnN.Go.sp (g' := (mkF m 28 #[.val (.ref a1), .val (.int 39), .val (.int 38), .val (.int 39), .val (.int 1), .unset] [(.int ((2 : Int32) <<< ((0 : Int32) &&& 31))), (.int 38), (.int 1), (.int 38)])) (fun T A t r => XS.ishl A hx rfl (hb hby q24_27) rfl r) ?_
  refine OwnN.Go.cast (g' := (mkF m 28 #[.val (.ref a1), .val (.int 39), .val (.int 38), .val (.int 39), .val (.int 1), .unset] [(.int 2), (.int 38), (.int 1), (.int 38)])) (by rw [show ((2 : Int32) <<< ((0 : Int32) &&& 31)) = (2 : Int32) from own_shl0 _] <;> rfl) ?_
  refine OwnN.Go.sp (g' := (mkF m 29 #[.val (.ref a1), .val (.int 39), .val (.int 38), .val (.int 39), .val (.int 1), .unset] [(.int 40), (.int 1), (.int 38)])) (fun T A t r => XS.iadd A hx rfl (hb hby q24_28) rfl r) ?_
  refine OwnN.Go.old fun O11 => ?_
  refine OwnN.Go.callSP (W := 0) (y := Y15) (argsL := [(.int 38), (.int 1), (.int 40)]) (rest := []) (pc' := 32) (hb hby q24_29) (own_w hw 284 rfl) (own_w hw 285 rfl) (own_w hw 286 rfl) (own_w hw 287 rfl) (by decide) (fun s' hZ => OwnN.Ct.bk (rmNL1 l Z a0 hw [] h0 n0 O11) hZ (own_w hw 287 rfl) (own_w hw 286 rfl) (by decide) (by decide)) hml.symm (lenOf pd_8 rfl) rfl (Nat.le_of_ble_eq_true rfl) rfl (by decide) (by decide) ?_
  rintro v12 rfl
  refine OwnN.Go.sp (g' := (mkF m 36 #[.val (.ref a1), .val (.int 39), .val (.int 38), .val (.int 39), .val (.int 1), .val (.int 78)] [(.int 78)])) (fun T A t r => XS.istore A hx rfl (hb hby q24_32) rfl (l' := #[.val (.ref a1), .val (.int 39), .val (.int 38), .val (.int 39), .val (.int 1), .val (.int 78)]) rfl (XS.iload A hx rfl (hb hby q24_34) rfl r)) ?_
  refine OwnN.Go.v (g' := (mkF m 38 #[.val (.ref a1), .val (.int 39), .val (.int 38), .val (.int 39), .val (.int 1), .val (.int 78)] [(.int 2147483647), (.int 78)])) (fun s' T L_ X eT hZ hown => own_ldcI X hx hZ hown (own_w hw 290 rfl) eT (g := (mkF m 36 #[.val (.ref a1), .val (.int 39), .val (.int 38), .val (.int 39), .val (.int 1), .val (.int 78)] [(.int 78)])) rfl (hb hby q24_36)) ?_
  refine OwnN.Go.sp (g' := (mkF m 54 #[.val (.ref a1), .val (.int 39), .val (.int 38), .val (.int 39), .val (.int 1), .val (.int 78)] [(.ref a1), (.int 78)])) (fun T A t r => XS.icmpYes A hx rfl (pc0 := 38) (pc' := 51) rfl (hb hby q24_38) rfl (feq (by decide : ¬ ((78 : Int32) = (2147483647 : Int32)))).2 (by decide) (by decide) (XS.iload A hx rfl (hb hby q24_51) rfl (XS.aloadN A hx rfl (hb hby q24_53) rfl rfl r))) ?_
  refine OwnN.Go.v (g' := (mkF m 57 #[.val (.ref a1), .val (.int 39), .val (.int 38), .val (.int 39), .val (.int 1), .val (.int 78)] [(.int 0), (.int 78)])) (fun s' T L_ X eT hZ hown => getF X hx hZ hown (host := "") (Or.inl (own_w hw 134 rfl)) Via.refl eT C1 (g := (mkF m 54 #[.val (.ref a1), .val (.int 39), .val (.int 38), .val (.int 39), .val (.int 1), .val (.int 78)] [(.ref a1), (.int 78)])) rfl rfl (hb hby q24_54)) ?_
  refine OwnN.Go.sp (g' := (mkF m 58 #[.val (.ref a1), .val (.int 39), .val (.int 38), .val (.int 39), .val (.int 1), .val (.int 78)] [(.int ((78 : Int32) >>> ((0 : Int32) &&& 31)))])) (fun T A t r => XS.ishr A hx rfl (hb hby q24_57) rfl r) ?_
  refine OwnN.Go.cast (g' := (mkF m 58 #[.val (.ref a1), .val (.int 39), .val (.int 38), .val (.int 39), .val (.int 1), .val (.int 78)] [(.int 78)])) (by rw [show ((78 : Int32) >>> ((0 : Int32) &&& 31)) = (78 : Int32) from own_shr0 _] <;> rfl) ?_
  exact OwnN.Go.ret (v := (some (.int 78))) (fun s' T L_ fs X hr => retI X hx hret (hb hby q24_58) hr) (fun h => by rw [hret] at h; cases h) (by decide) (by decide) ⟨rfl, rfl⟩
theorem rmEC11 (l : Launch) (Z : State) (a0 : Array Value) (hw : own_T a0 Z) (wds : List Jvm.Cond) (a1 : Addr) (t1 : Addr) (k1 : ClassId) (cs : List Int32) (h0 : Heap) (n0 : Nat) (O0 : Old Z n0 h0) (g_a1 : n0 ≤ a1) (E1 : Exa Z h0 a1 "java/lang/StringBuilder") (V1 : Fld Z h0 a1 "java/lang/AbstractStringBuilder" "value" "[B" (.ref t1)) (C1 : Fld Z h0 a1 "java/lang/AbstractStringBuilder" "coder" "B" (.int 0)) (N1 : Fld Z h0 a1 "java/lang/AbstractStringBuilder" "count" "I" (.int (Int32.ofNat cs.length))) (B1 : Arv Z h0 t1 k1 .byte (38 : Int32) (own_B cs) (.int 0)) (hl : cs.length ≤ 38) :
    OwnN.Ct l Z Y21 jdk_68_method_9_code 3 none wds (⟨3, 1, 78, 55⟩ : Room) #[(.ref a1), (.int 39)] n0 h0 [a1] (fun v h => ∃ (t : Addr) (kb : ClassId), v = none ∧ h0.size ≤ t ∧ Fld Z h a1 "java/lang/AbstractStringBuilder" "value" "[B" (.ref t) ∧ Fld Z h a1 "java/lang/AbstractStringBuilder" "coder" "B" (.int 0) ∧ Fld Z h a1 "java/lang/AbstractStringBuilder" "count" "I" (.int (Int32.ofNat cs.length)) ∧ Arv Z h t kb .byte (78 : Int32) (own_B cs) (.int 0)) := by
  refine OwnN.Ct.of (plainFor_of_name pn_java_lang_AbstractStringBuilder) O0 (allS g_a1 all0) ?_
  intro p e s m below meth c hx hby hml hret hnm
  refine OwnN.Go.cast (ef_RI_3 m a1 (39 : Int32)) ?_
  refine OwnN.Go.sp (g' := (mkF m 1 #[.val (.ref a1), .val (.int 39), .unset] [(.ref a1)])) (fun T A t r => XS.aloadN A hx rfl (hb hby q21_0) rfl rfl r) ?_
  refine OwnN.Go.v (g' := (mkF m 4 #[.val (.ref a1), .val (.int 39), .unset] [(.ref t1)])) (fun s' T L_ X eT hZ hown => getF X hx hZ hown (host := "") (Or.inl (own_w hw 132 rfl)) Via.refl eT V1 (g := (mkF m 1 #[.val (.ref a1), .val (.int 39), .unset] [(.ref a1)])) rfl rfl (hb hby q21_1)) ?_
  refine OwnN.Go.r (g' := (mkF m 5 #[.val (.ref a1), .val (.int 39), .unset] [(.int 38)])) (fun s' T L_ X eT hZ t r => own_len X hx hZ eT B1 (g := (mkF m 4 #[.val (.ref a1), .val (.int 39), .unset] [(.ref t1)])) rfl rfl (hb hby q21_4) t r) ?_
  refine OwnN.Go.sp (g' := (mkF m 6 #[.val (.ref a1), .val (.int 39), .unset] [(.ref a1), (.int 38)])) (fun T A t r => XS.aloadN A hx rfl (hb hby q21_5) rfl rfl r) ?_
  refine OwnN.Go.v (g' := (mkF m 9 #[.val (.ref a1), .val (.int 39), .unset] [(.int 0), (.int 38)])) (fun s' T L_ X eT hZ hown => getF X hx hZ hown (host := "") (Or.inl (own_w hw 134 rfl)) Via.refl eT C1 (g := (mkF m 6 #[.val (.ref a1), .val (.int 39), .unset] [(.ref a1), (.int 38)])) rfl rfl (hb hby q21_6)) ?_
  refine OwnN.Go.sp (g' := (mkF m 10 #[.val (.ref a1), .val (.int 39), .unset] [(.int ((38 : Int32) >>> ((0 : Int32) &&& 31)))])) (fun T A t r => XS.ishr A hx rfl (hb hby q21_9) rfl r) ?_
  refine OwnN.Go.cast (g' := (mkF m 10 #[.val (.ref a1), .val (.int 39), .unset] [(.int 38)])) (by rw [show ((38 : Int32) >>> ((0 : Int32) &&& 31)) = (38 : Int32) from own_shr0 _] <;> rfl) ?_
  refine OwnN.Go.sp (g' := (mkF m 19 #[.val (.ref a1), .val (.int 39), .val (.int 38)] [(.ref a1), (.ref a1)])) (fun T A t r => XS.istoreN A hx rfl (hb hby q21_10) rfl (l' := #[.val (.ref a1), .val (.int 39), .val (.int 38)]) rfl (XS.iloadN A hx rfl (hb hby q21_11) rfl (XS.iloadN A hx rfl (hb hby q21_12) rfl (XS.isub A hx rfl (hb hby q21_13) rfl (XS.ifNo A hx rfl (hb hby q21_14) rfl ((if0 _ _).trans (tlt (by decide : ((0 : Int32) < (1 : Int32)))).2.2.2) (XS.aloadN A hx rfl (hb hby q21_17) rfl rfl (XS.aloadN A hx rfl (hb hby q21_18) rfl rfl r))))))) ?_
  refine OwnN.Go.v (g' := (mkF m 22 #[.val (.ref a1), .val (.int 39), .val (.int 38)] [(.ref t1), (.ref a1)])) (fun s' T L_ X eT hZ hown => getF X hx hZ hown (host := "") (Or.inl (own_w hw 132 rfl)) Via.refl eT V1 (g := (mkF m 19 #[.val (.ref a1), .val (.int 39), .val (.int 38)] [(.ref a1), (.ref a1)])) rfl rfl (hb hby q21_19)) ?_
  refine OwnN.Go.sp (g' := (mkF m 24 #[.val (.ref a1), .val (.int 39), .val (.int 38)] [(.int 39), (.ref a1), (.ref t1), (.ref a1)])) (fun T A t r => XS.aloadN A hx rfl (hb hby q21_22) rfl rfl (XS.iloadN A hx rfl (hb hby q21_23) rfl r)) ?_
  refine OwnN.Go.old fun O11 => ?_
  refine OwnC.goNP (k' := 0) (n' := 0) (OwnC.callerP (y := Y16) (a := a1) (W := 2) (argsL := [(.int 39)]) (rest := [(.ref t1), (.ref a1)]) (pc' := 27) (rc := 0) (rs := 0) (ws' := []) hx (hb hby q21_24) (own_w hw 279 rfl) (own_w hw 281 rfl) (own_w hw 282 rfl) (own_w hw 280 rfl) (own_w hw 283 rfl) (by decide) (fun s' hZ => OwnN.Ct.bk (rmNC1 l Z a0 hw [] a1 t1 k1 cs h0 n0 O11 E1 V1 C1 B1) hZ (own_w hw 283 rfl) (own_w hw 128 rfl) (by decide) (by decide)) E1 hml.symm (lenOf pd_9 rfl) rfl (Nat.le_of_ble_eq_true rfl) rfl (by decide) (by decide)) rfl rfl ?_
  rintro v12 rfl
  refine OwnN.Go.sp (g' := (mkF m 28 #[.val (.ref a1), .val (.int 39), .val (.int 38)] [(.ref a1), (.int 78), (.ref t1), (.ref a1)])) (fun T A t r => XS.aloadN A hx rfl (hb hby q21_27) rfl rfl r) ?_
  refine OwnN.Go.v (g' := (mkF m 31 #[.val (.ref a1), .val (.int 39), .val (.int 38)] [(.int 0), (.int 78), (.ref t1), (.ref a1)])) (fun s' T L_ X eT hZ hown => getF X hx hZ hown (host := "") (Or.inl (own_w hw 134 rfl)) Via.refl eT C1 (g := (mkF m 28 #[.val (.ref a1), .val (.int 39), .val (.int 38)] [(.ref a1), (.int 78), (.ref t1), (.ref a1)])) rfl rfl (hb hby q21_28)) ?_
  refine OwnN.Go.sp (g' := (mkF m 32 #[.val (.ref a1), .val (.int 39), .val (.int 38)] [(.int ((78 : Int32) <<< ((0 : Int32) &&& 31))), (.ref t1), (.ref a1)])) (fun T A t r => XS.ishl A hx rfl (hb hby q21_31) rfl r) ?_
  refine OwnN.Go.cast (g' := (mkF m 32 #[.val (.ref a1), .val (.int 39), .val (.int 38)] [(.int 78), (.ref t1), (.ref a1)])) (by rw [show ((78 : Int32) <<< ((0 : Int32) &&& 31)) = (78 : Int32) from own_shl0 _] <;> rfl) ?_
  refine OwnN.Go.callS (ws' := []) (W := 1) (y := Y17) (argsL := [(.ref t1), (.int 78)]) (rest := [(.ref a1)]) (pc' := 35) (k' := 1) (n' := 78) (hb hby q21_32) (own_w hw 291 rfl) (own_w hw 292 rfl) (own_w hw 224 rfl) (own_w hw 293 rfl) (by decide) (fun s' hZ => OwnN.Ct.bk (rmCO1 l Z a0 hw [] t1 k1 cs h0 n0 O11 B1 hl) hZ (own_w hw 293 rfl) (own_w hw 224 rfl) (by decide) (by decide)) hml.symm (lenOf pd_10 rfl) rfl (Nat.le_of_ble_eq_true rfl) rfl rfl rfl (by decide) (by decide) all0 ?_
  rintro v13 h13 K13 ⟨t13, kb13, rfl, ge13, B13⟩
  have f14 := (E1.keep K13)
  have f15 := (V1.keep K13 nin0)
  refine OwnN.Go.w (g' := (mkF m 38 #[.val (.ref a1), .val (.int 39), .val (.int 38)] [])) (fun s' T L_ X eT hZ hown => putF X hx hZ hown (host := "") (Or.inl (own_w hw 132 rfl)) Via.refl eT f15 f14 (Or.inl (own_w hw 133 rfl)) (own_w hw 119 rfl) (ty := (.array .byte)) (by decide) rfl rfl (g := (mkF m 35 #[.val (.ref a1), .val (.int 39), .val (.int 38)] [(.ref t13), (.ref a1)])) rfl rfl (hb hby q21_35)) (Or.inl (List.mem_of_getElem? (i := 0) rfl)) ?_
  intro h17 W17
  have F17 := f15.same W17
  have f18 := ((C1.keep K13 nin0).other W17 (Or.inr (slot_ne (Or.inl (own_w hw 135 rfl)) (Or.inl (own_w hw 133 rfl)) (by decide) (t := .byte) (t' := (.array .byte)) (by decide) (by decide))))
  have f19 := ((N1.keep K13 nin0).other W17 (Or.inr (slot_ne (Or.inl (own_w hw 166 rfl)) (Or.inl (own_w hw 133 rfl)) (by decide) (t := .int) (t' := (.array .byte)) (by decide) (by decide))))
  have ne20 : a1 ≠ t13 := Nat.ne_of_lt (Nat.lt_of_lt_of_le E1.lt ge13)
  have f21 := (B13.other W17 (Ne.symm ne20))
  exact OwnN.Go.ret (v := none) (fun s' T L_ fs X hr => X.returnOut hx hret (hb hby q21_38) hr) (fun _ => rfl) (by decide) (by decide) ⟨_, _, rfl, ge13, F17, f18, f19, f21⟩
theorem rmCO2 (l : Launch) (Z : State) (a0 : Array Value) (hw : own_T a0 Z) (wds : List Jvm.Cond) (t1 : Addr) (k1 : ClassId) (cs : List Int32) (h0 : Heap) (n0 : Nat) (O0 : Old Z n0 h0)  (B1 : Arv Z h0 t1 k1 .byte (78 : Int32) (own_B cs) (.int 0)) (hl : cs.length ≤ 78) :
    OwnN.Ct l Z Y17 jdk_65_method_121_code 3 (some (.array .byte)) wds (⟨1, 1, 158, 40⟩ : Room) #[(.ref t1), (.int 158)] n0 h0 [] (fun v h => ∃ (t : Addr) (kb : ClassId), v = some (.ref t) ∧ h0.size ≤ t ∧ Arv Z h t kb .byte (158 : Int32) (own_B cs) (.int 0)) := by
  refine OwnN.Ct.of (plainFor_of_name pn_java_util_Arrays) O0 all0 ?_
  intro p e s m below meth c hx hby hml hret hnm
  refine OwnN.Go.cast (ef_RI_3 m t1 (158 : Int32)) ?_
  refine OwnN.Go.sp (g' := (mkF m 2 #[.val (.ref t1), .val (.int 158), .unset] [(.ref t1), (.int 158)])) (fun T A t r => XS.iloadN A hx rfl (hb hby q22_0) rfl (XS.aloadN A hx rfl (hb hby q22_1) rfl rfl r)) ?_
  refine OwnN.Go.r (g' := (mkF m 3 #[.val (.ref t1), .val (.int 158), .unset] [(.int 78), (.int 158)])) (fun s' T L_ X eT hZ t r => own_len X hx hZ eT B1 (g := (mkF m 2 #[.val (.ref t1), .val (.int 158), .unset] [(.ref t1), (.int 158)])) rfl rfl (hb hby q22_2) t r) ?_
  refine OwnN.Go.sp (g' := (mkF m 15 #[.val (.ref t1), .val (.int 158), .unset] [(.int 158)])) (fun T A t r => XS.icmpYes A hx rfl (pc0 := 3) (pc' := 14) rfl (hb hby q22_3) rfl (feq (by decide : ¬ ((158 : Int32) = (78 : Int32)))).2 (by decide) (by decide) (XS.iloadN A hx rfl (hb hby q22_14) rfl r)) ?_
  refine OwnN.Go.newP (ty := .byte) (dv := (.int 0)) (cap := 158) (k' := 1) (n' := 158) (pc' := 17) (hb hby q22_15) rfl rfl (own_w hw 14 rfl) (by decide) (by decide) (by decide) rfl rfl rfl (by decide) (by decide) ?_
  intro b11 h11 k11 g11 sz11 E11 A11
  refine OwnN.Go.sp (g' := (mkF m 23 #[.val (.ref t1), .val (.int 158), .val (.ref b11)] [(.ref t1), (.int 0), (.ref b11), (.int 0), (.ref t1)])) (fun T A t r => XS.astoreN A hx rfl (hb hby q22_17) rfl rfl (l' := #[.val (.ref t1), .val (.int 158), .val (.ref b11)]) rfl (XS.aloadN A hx rfl (hb hby q22_18) rfl rfl (XS.iconst A hx rfl (hb hby q22_19) (XS.aloadN A hx rfl (hb hby q22_20) rfl rfl (XS.iconst A hx rfl (hb hby q22_21) (XS.aloadN A hx rfl (hb hby q22_22) rfl rfl r)))))) ?_
  have f12 := (B1.ext E11)
  refine OwnN.Go.r (g' := (mkF m 24 #[.val (.ref t1), .val (.int 158), .val (.ref b11)] [(.int 78), (.int 0), (.ref b11), (.int 0), (.ref t1)])) (fun s' T L_ X eT hZ t r => own_len X hx hZ eT f12 (g := (mkF m 23 #[.val (.ref t1), .val (.int 158), .val (.ref b11)] [(.ref t1), (.int 0), (.ref b11), (.int 0), (.ref t1)])) rfl rfl (hb hby q22_23) t r) ?_
  refine OwnN.Go.sp (g' := (mkF m 25 #[.val (.ref t1), .val (.int 158), .val (.ref b11)] [(.int 158), (.int 78), (.int 0), (.ref b11), (.int 0), (.ref t1)])) (fun T A t r => XS.iloadN A hx rfl (hb hby q22_24) rfl r) ?_
  refine OwnN.Go.old fun O13 => ?_
  refine OwnN.Go.callSP (W := 4) (y := Y13) (argsL := [(.int 78), (.int 158)]) (rest := [(.int 0), (.ref b11), (.int 0), (.ref t1)]) (pc' := 28) (hb hby q22_25) (own_w hw 232 rfl) (own_w hw 233 rfl) (own_w hw 234 rfl) (own_w hw 235 rfl) (by decide) (fun s' hZ => OwnN.Ct.bk (rmMN l Z a0 hw [] (78 : Int32) (158 : Int32) h11 n0 O13 (by decide)) hZ (own_w hw 235 rfl) (own_w hw 234 rfl) (by decide) (by decide)) hml.symm (lenOf pd_7 rfl) rfl (Nat.le_of_ble_eq_true rfl) rfl (by decide) (by decide) ?_
  rintro v14 rfl
  refine OwnN.Go.kp (ws' := [b11]) (P := fun h' => Arv Z h' b11 k11 .byte (158 : Int32) (own_B cs) (.int 0)) (g' := (mkF m 31 #[.val (.ref t1), .val (.int 158), .val (.ref b11)] [])) (fun s' T L_ X eT N hZ hown => own_cpy (xs := []) (ys := (own_B cs)) 0 78 X hx hZ hown (own_w hw 236 rfl) (own_w hw 191 rfl) (own_w hw 189 rfl) (own_w hw 190 rfl) eT f12 A11 rfl (by rw [own_Bl]; exact hl) (fun _ _ => rfl) (by decide) (by decide) (by decide) (by decide) rfl rfl rfl rfl N (Nat.le_trans (Old.le O0) sz11) (g := (mkF m 28 #[.val (.ref t1), .val (.int 158), .val (.ref b11)] [(.int 78), (.int 0), (.ref b11), (.int 0), (.ref t1)])) rfl hml.symm rfl (hb hby q22_28) (by decide) (W := 0) (catOf (Nat.le_of_ble_eq_true rfl)) (by decide)) (allS (Or.inr sz11) all0) ?_
  intro h15 K15 V15
  refine OwnN.Go.sp (g' := (mkF m 32 #[.val (.ref t1), .val (.int 158), .val (.ref b11)] [(.ref b11)])) (fun T A t r => XS.aloadN A hx rfl (hb hby q22_31) rfl rfl r) ?_
  exact OwnN.Go.ret (v := (some (.ref b11))) (fun s' T L_ fs X hr => own_retR X hx hret rfl rfl (hb hby q22_32) hr) (fun h => by rw [hret] at h; cases h) (by decide) (by decide) ⟨_, _, rfl, sz11, V15⟩
theorem rmNL2 (l : Launch) (Z : State) (a0 : Array Value) (hw : own_T a0 Z) (wds : List Jvm.Cond)  (h0 : Heap) (n0 : Nat) (O0 : Old Z n0 h0)   :
    OwnN.Ct l Z Y15 jdk_48_method_27_code 4 (some .int) wds (⟨1, 0, 0, 14⟩ : Room) #[(.int 78), (.int 19), (.int 80)] n0 h0 [] (fun v h => v = some (.int 158) ∧ h = h0) := by
  refine OwnN.Ct.of (plainFor_of_name pn_jdk_internal_util_ArraysSupport) O0 all0 ?_
  intro p e s m below meth c hx hby hml hret hnm
  refine OwnN.Go.cast (ef_III_4 m (78 : Int32) (19 : Int32) (80 : Int32)) ?_
  refine OwnN.Go.sp (g' := (mkF m 3 #[.val (.int 78), .val (.int 19), .val (.int 80), .unset] [(.int 80), (.int 19), (.int 78)])) (fun T A t r => XS.iloadN A hx rfl (hb hby q23_0) rfl (XS.iloadN A hx rfl (hb hby q23_1) rfl (XS.iloadN A hx rfl (hb hby q23_2) rfl r))) ?_
  refine OwnN.Go.old fun O11 => ?_
  refine OwnN.Go.callSP (W := 1) (y := Y14) (argsL := [(.int 19), (.int 80)]) (rest := [(.int 78)]) (pc' := 6) (hb hby q23_3) (own_w hw 288 rfl) (own_w hw 266 rfl) (own_w hw 234 rfl) (own_w hw 267 rfl) (by decide) (fun s' hZ => OwnN.Ct.bk (rmMX2 l Z a0 hw [] (19 : Int32) (80 : Int32) h0 n0 O11 (by decide)) hZ (own_w hw 267 rfl) (own_w hw 234 rfl) (by decide) (by decide)) hml.symm (lenOf pd_7 rfl) rfl (Nat.le_of_ble_eq_true rfl) rfl (by decide) (by decide) ?_
  rintro v12 rfl
  refine OwnN.Go.sp (g' := (mkF m 14 #[.val (.int 78), .val (.int 19), .val (.int 80), .val (.int 158)] [(.int 158)])) (fun T A t r => XS.iadd A hx rfl (hb hby q23_6) rfl (XS.istoreN A hx rfl (hb hby q23_7) rfl (l' := #[.val (.int 78), .val (.int 19), .val (.int 80), .val (.int 158)]) rfl (XS.iconst A hx rfl (hb hby q23_8) (XS.iloadN A hx rfl (hb hby q23_9) rfl (XS.icmpNo A hx rfl (hb hby q23_10) rfl (tlt (by decide : ((0 : Int32) < (158 : Int32)))).2.1 (XS.iloadN A hx rfl (hb hby q23_13) rfl r)))))) ?_
  refine OwnN.Go.v (g' := (mkF m 16 #[.val (.int 78), .val (.int 19), .val (.int 80), .val (.int 158)] [(.int 2147483639), (.int 158)])) (fun s' T L_ X eT hZ hown => own_ldcI X hx hZ hown (own_w hw 289 rfl) eT (g := (mkF m 14 #[.val (.int 78), .val (.int 19), .val (.int 80), .val (.int 158)] [(.int 158)])) rfl (hb hby q23_14)) ?_
  refine OwnN.Go.sp (g' := (mkF m 20 #[.val (.int 78), .val (.int 19), .val (.int 80), .val (.int 158)] [(.int 158)])) (fun T A t r => XS.icmpNo A hx rfl (hb hby q23_16) rfl (flt (by decide : ¬ ((2147483639 : Int32) < (158 : Int32)))).2.2.1 (XS.iloadN A hx rfl (hb hby q23_19) rfl r)) ?_
  exact OwnN.Go.ret (v := (some (.int 158))) (fun s' T L_ fs X hr => retI X hx hret (hb hby q23_20) hr) (fun h => by rw [hret] at h; cases h) (by decide) (by decide) ⟨rfl, rfl⟩
theorem rmNC2 (l : Launch) (Z : State) (a0 : Array Value) (hw : own_T a0 Z) (wds : List Jvm.Cond) (a1 : Addr) (t1 : Addr) (k1 : ClassId) (cs : List Int32) (h0 : Heap) (n0 : Nat) (O0 : Old Z n0 h0)  (E1 : Exa Z h0 a1 "java/lang/StringBuilder") (V1 : Fld Z h0 a1 "java/lang/AbstractStringBuilder" "value" "[B" (.ref t1)) (C1 : Fld Z h0 a1 "java/lang/AbstractStringBuilder" "coder" "B" (.int 0)) (B1 : Arv Z h0 t1 k1 .byte (78 : Int32) (own_B cs) (.int 0)) :
    OwnN.Ct l Z Y16 jdk_68_method_10_code 6 (some .int) wds (⟨2, 0, 0, 29⟩ : Room) #[(.ref a1), (.int 97)] n0 h0 [] (fun v h => v = some (.int 158) ∧ h = h0) := by
  refine OwnN.Ct.of (plainFor_of_name pn_java_lang_AbstractStringBuilder) O0 all0 ?_
  intro p e s m below meth c hx hby hml hret hnm
  refine OwnN.Go.cast (ef_RI_6 m a1 (97 : Int32)) ?_
  refine OwnN.Go.sp (g' := (mkF m 1 #[.val (.ref a1), .val (.int 97), .unset, .unset, .unset, .unset] [(.ref a1)])) (fun T A t r => XS.aloadN A hx rfl (hb hby q24_0) rfl rfl r) ?_
  refine OwnN.Go.v (g' := (mkF m 4 #[.val (.ref a1), .val (.int 97), .unset, .unset, .unset, .unset] [(.ref t1)])) (fun s' T L_ X eT hZ hown => getF X hx hZ hown (host := "") (Or.inl (own_w hw 132 rfl)) Via.refl eT V1 (g := (mkF m 1 #[.val (.ref a1), .val (.int 97), .unset, .unset, .unset, .unset] [(.ref a1)])) rfl rfl (hb hby q24_1)) ?_
  refine OwnN.Go.r (g' := (mkF m 5 #[.val (.ref a1), .val (.int 97), .unset, .unset, .unset, .unset] [(.int 78)])) (fun s' T L_ X eT hZ t r => own_len X hx hZ eT B1 (g := (mkF m 4 #[.val (.ref a1), .val (.int 97), .unset, .unset, .unset, .unset] [(.ref t1)])) rfl rfl (hb hby q24_4) t r) ?_
  refine OwnN.Go.sp (g' := (mkF m 8 #[.val (.ref a1), .val (.int 97), .val (.int 78), .unset, .unset, .unset] [(.ref a1), (.int 97)])) (fun T A t r => XS.istoreN A hx rfl (hb hby q24_5) rfl (l' := #[.val (.ref a1), .val (.int 97), .val (.int 78), .unset, .unset, .unset]) rfl (XS.iloadN A hx rfl (hb hby q24_6) rfl (XS.aloadN A hx rfl (hb hby q24_7) rfl rfl r))) ?_
  refine OwnN.Go.v (g' := (mkF m 11 #[.val (.ref a1), .val (.int 97), .val (.int 78), .unset, .unset, .unset] [(.int 0), (.int 97)])) (fun s' T L_ X eT hZ hown => getF X hx hZ hown (host := "") (Or.inl (own_w hw 134 rfl)) Via.refl eT C1 (g := (mkF m 8 #[.val (.ref a1), .val (.int 97), .val (.int 78), .unset, .unset, .unset] [(.ref a1), (.int 97)])) rfl rfl (hb hby q24_8)) ?_
  refine OwnN.Go.sp (g' := (mkF m 12 #[.val (.ref a1), .val (.int 97), .val (.int 78), .unset, .unset, .unset] [(.int ((97 : Int32) <<< ((0 : Int32) &&& 31)))])) (fun T A t r => XS.ishl A hx rfl (hb hby q24_11) rfl r) ?_
  refine OwnN.Go.cast (g' := (mkF m 12 #[.val (.ref a1), .val (.int 97), .val (.int 78), .unset, .unset, .unset] [(.int 97)])) (by rw [show ((97 : Int32) <<< ((0 : Int32) &&& 31)) = (97 : Int32) from own_shl0 _] <;> rfl) ?_
  refine OwnN.Go.sp (g' := (mkF m 24 #[.val (.ref a1), .val (.int 97), .val (.int 78), .val (.int 97), .val (.int 19), .unset] [(.ref a1), (.int 2), (.int 78), (.int 19), (.int 78)])) (fun T A t r => XS.istoreN A hx rfl (hb hby q24_12) rfl (l' := #[.val (.ref a1), .val (.int 97), .val (.int 78), .val (.int 97), .unset, .unset]) rfl (XS.iloadN A hx rfl (hb hby q24_13) rfl (XS.iloadN A hx rfl (hb hby q24_14) rfl (XS.isub A hx rfl (hb hby q24_15) rfl (XS.istore A hx rfl (hb hby q24_16) rfl (l' := #[.val (.ref a1), .val (.int 97), .val (.int 78), .val (.int 97), .val (.int 19), .unset]) rfl (XS.iloadN A hx rfl (hb hby q24_18) rfl (XS.iload A hx rfl (hb hby q24_19) rfl (XS.iloadN A hx rfl (hb hby q24_21) rfl (XS.iconst A hx rfl (hb hby q24_22) (XS.aloadN A hx rfl (hb hby q24_23) rfl rfl r)))))))))) ?_
  refine OwnN.Go.v (g' := (mkF m 27 #[.val (.ref a1), .val (.int 97), .val (.int 78), .val (.int 97), .val (.int 19), .unset] [(.int 0), (.int 2), (.int 78), (.int 19), (.int 78)])) (fun s' T L_ X eT hZ hown => getF X hx hZ hown (host := "") (Or.inl (own_w hw 134 rfl)) Via.refl eT C1 (g := (mkF m 24 #[.val (.ref a1), .val (.int 97), .val (.int 78), .val (.int 97), .val (.int 19), .unset] [(.ref a1), (.int 2), (.int 78), (.int 19), (.int 78)])) rfl rfl (hb hby q24_24)) ?_
  refine OwnN.Go.sp (g' := (mkF m 28 #[.val (.ref a1), .val (.int 97), .val (.int 78), .val (.int 97), .val (.int 19), .unset] [(.int ((2 : Int32) <<< ((0 : Int32) &&& 31))), (.int 78), (.int 19), (.int 78)])) (fun T A t r => XS.ishl A hx rfl (hb hby q24_27) rfl r) ?_
  refine OwnN.Go.cast (g' := (mkF m 28 #[.val (.ref a1), .val (.int 97), .val (.int 78), .val (.int 97), .val (.int 19), .unset] [(.int 2), (.int 78), (.int 19), (.int 78)])) (by rw [show ((2 : Int32) <<< ((0 : Int32) &&& 31)) = (2 : Int32) from own_shl0 _] <;> rfl) ?_
  refine OwnN.Go.sp (g' := (mkF m 29 #[.val (.ref a1), .val (.int 97), .val (.int 78), .val (.int 97), .val (.int 19), .unset] [(.int 80), (.int 19), (.int 78)])) (fun T A t r => XS.iadd A hx rfl (hb hby q24_28) rfl r) ?_
  refine OwnN.Go.old fun O11 => ?_
  refine OwnN.Go.callSP (W := 0) (y := Y15) (argsL := [(.int 78), (.int 19), (.int 80)]) (rest := []) (pc' := 32) (hb hby q24_29) (own_w hw 284 rfl) (own_w hw 285 rfl) (own_w hw 286 rfl) (own_w hw 287 rfl) (by decide) (fun s' hZ => OwnN.Ct.bk (rmNL2 l Z a0 hw [] h0 n0 O11) hZ (own_w hw 287 rfl) (own_w hw 286 rfl) (by decide) (by decide)) hml.symm (lenOf pd_8 rfl) rfl (Nat.le_of_ble_eq_true rfl) rfl (by decide) (by decide) ?_
  rintro v12 rfl
  refine OwnN.Go.sp (g' := (mkF m 36 #[.val (.ref a1), .val (.int 97), .val (.int 78), .val (.int 97), .val (.int 19), .val (.int 158)] [(.int 158)])) (fun T A t r => XS.istore A hx rfl (hb hby q24_32) rfl (l' := #[.val (.ref a1), .val (.int 97), .val (.int 78), .val (.int 97), .val (.int 19), .val (.int 158)]) rfl (XS.iload A hx rfl (hb hby q24_34) rfl r)) ?_
  refine OwnN.Go.v (g' := (mkF m 38 #[.val (.ref a1), .val (.int 97), .val (.int 78), .val (.int 97), .val (.int 19), .val (.int 158)] [(.int 2147483647), (.int 158)])) (fun s' T L_ X eT hZ hown => own_ldcI X hx hZ hown (own_w hw 290 rfl) eT (g := (mkF m 36 #[.val (.ref a1), .val (.int 97), .val (.int 78), .val (.int 97), .val (.int 19), .val (.int 158)] [(.int 158)])) rfl (hb hby q24_36)) ?_
  refine OwnN.Go.sp (g' := (mkF m 54 #[.val (.ref a1), .val (.int 97), .val (.int 78), .val (.int 97), .val (.int 19), .val (.int 158)] [(.ref a1), (.int 158)])) (fun T A t r => XS.icmpYes A hx rfl (pc0 := 38) (pc' := 51) rfl (hb hby q24_38) rfl (feq (by decide : ¬ ((158 : Int32) = (2147483647 : Int32)))).2 (by decide) (by decide) (XS.iload A hx rfl (hb hby q24_51) rfl (XS.aloadN A hx rfl (hb hby q24_53) rfl rfl r))) ?_
  refine OwnN.Go.v (g' := (mkF m 57 #[.val (.ref a1), .val (.int 97), .val (.int 78), .val (.int 97), .val (.int 19), .val (.int 158)] [(.int 0), (.int 158)])) (fun s' T L_ X eT hZ hown => getF X hx hZ hown (host := "") (Or.inl (own_w hw 134 rfl)) Via.refl eT C1 (g := (mkF m 54 #[.val (.ref a1), .val (.int 97), .val (.int 78), .val (.int 97), .val (.int 19), .val (.int 158)] [(.ref a1), (.int 158)])) rfl rfl (hb hby q24_54)) ?_
  refine OwnN.Go.sp (g' := (mkF m 58 #[.val (.ref a1), .val (.int 97), .val (.int 78), .val (.int 97), .val (.int 19), .val (.int 158)] [(.int ((158 : Int32) >>> ((0 : Int32) &&& 31)))])) (fun T A t r => XS.ishr A hx rfl (hb hby q24_57) rfl r) ?_
  refine OwnN.Go.cast (g' := (mkF m 58 #[.val (.ref a1), .val (.int 97), .val (.int 78), .val (.int 97), .val (.int 19), .val (.int 158)] [(.int 158)])) (by rw [show ((158 : Int32) >>> ((0 : Int32) &&& 31)) = (158 : Int32) from own_shr0 _] <;> rfl) ?_
  exact OwnN.Go.ret (v := (some (.int 158))) (fun s' T L_ fs X hr => retI X hx hret (hb hby q24_58) hr) (fun h => by rw [hret] at h; cases h) (by decide) (by decide) ⟨rfl, rfl⟩
theorem rmEC12 (l : Launch) (Z : State) (a0 : Array Value) (hw : own_T a0 Z) (wds : List Jvm.Cond) (a1 : Addr) (t1 : Addr) (k1 : ClassId) (cs : List Int32) (h0 : Heap) (n0 : Nat) (O0 : Old Z n0 h0) (g_a1 : n0 ≤ a1) (E1 : Exa Z h0 a1 "java/lang/StringBuilder") (V1 : Fld Z h0 a1 "java/lang/AbstractStringBuilder" "value" "[B" (.ref t1)) (C1 : Fld Z h0 a1 "java/lang/AbstractStringBuilder" "coder" "B" (.int 0)) (N1 : Fld Z h0 a1 "java/lang/AbstractStringBuilder" "count" "I" (.int (Int32.ofNat cs.length))) (B1 : Arv Z h0 t1 k1 .byte (78 : Int32) (own_B cs) (.int 0)) (hl : cs.length ≤ 78) :
    OwnN.Ct l Z Y21 jdk_68_method_9_code 3 none wds (⟨3, 1, 158, 55⟩ : Room) #[(.ref a1), (.int 97)] n0 h0 [a1] (fun v h => ∃ (t : Addr) (kb : ClassId), v = none ∧ h0.size ≤ t ∧ Fld Z h a1 "java/lang/AbstractStringBuilder" "value" "[B" (.ref t) ∧ Fld Z h a1 "java/lang/AbstractStringBuilder" "coder" "B" (.int 0) ∧ Fld Z h a1 "java/lang/AbstractStringBuilder" "count" "I" (.int (Int32.ofNat cs.length)) ∧ Arv Z h t kb .byte (158 : Int32) (own_B cs) (.int 0)) := by
  refine OwnN.Ct.of (plainFor_of_name pn_java_lang_AbstractStringBuilder) O0 (allS g_a1 all0) ?_
  intro p e s m below meth c hx hby hml hret hnm
  refine OwnN.Go.cast (ef_RI_3 m a1 (97 : Int32)) ?_
  refine OwnN.Go.sp (g' := (mkF m 1 #[.val (.ref a1), .val (.int 97), .unset] [(.ref a1)])) (fun T A t r => XS.aloadN A hx rfl (hb hby q21_0) rfl rfl r) ?_
  refine OwnN.Go.v (g' := (mkF m 4 #[.val (.ref a1), .val (.int 97), .unset] [(.ref t1)])) (fun s' T L_ X eT hZ hown => getF X hx hZ hown (host := "") (Or.inl (own_w hw 132 rfl)) Via.refl eT V1 (g := (mkF m 1 #[.val (.ref a1), .val (.int 97), .unset] [(.ref a1)])) rfl rfl (hb hby q21_1)) ?_
  refine OwnN.Go.r (g' := (mkF m 5 #[.val (.ref a1), .val (.int 97), .unset] [(.int 78)])) (fun s' T L_ X eT hZ t r => own_len X hx hZ eT B1 (g := (mkF m 4 #[.val (.ref a1), .val (.int 97), .unset] [(.ref t1)])) rfl rfl (hb hby q21_4) t r) ?_
  refine OwnN.Go.sp (g' := (mkF m 6 #[.val (.ref a1), .val (.int 97), .unset] [(.ref a1), (.int 78)])) (fun T A t r => XS.aloadN A hx rfl (hb hby q21_5) rfl rfl r) ?_
  refine OwnN.Go.v (g' := (mkF m 9 #[.val (.ref a1), .val (.int 97), .unset] [(.int 0), (.int 78)])) (fun s' T L_ X eT hZ hown => getF X hx hZ hown (host := "") (Or.inl (own_w hw 134 rfl)) Via.refl eT C1 (g := (mkF m 6 #[.val (.ref a1), .val (.int 97), .unset] [(.ref a1), (.int 78)])) rfl rfl (hb hby q21_6)) ?_
  refine OwnN.Go.sp (g' := (mkF m 10 #[.val (.ref a1), .val (.int 97), .unset] [(.int ((78 : Int32) >>> ((0 : Int32) &&& 31)))])) (fun T A t r => XS.ishr A hx rfl (hb hby q21_9) rfl r) ?_
  refine OwnN.Go.cast (g' := (mkF m 10 #[.val (.ref a1), .val (.int 97), .unset] [(.int 78)])) (by rw [show ((78 : Int32) >>> ((0 : Int32) &&& 31)) = (78 : Int32) from own_shr0 _] <;> rfl) ?_
  refine OwnN.Go.sp (g' := (mkF m 19 #[.val (.ref a1), .val (.int 97), .val (.int 78)] [(.ref a1), (.ref a1)])) (fun T A t r => XS.istoreN A hx rfl (hb hby q21_10) rfl (l' := #[.val (.ref a1), .val (.int 97), .val (.int 78)]) rfl (XS.iloadN A hx rfl (hb hby q21_11) rfl (XS.iloadN A hx rfl (hb hby q21_12) rfl (XS.isub A hx rfl (hb hby q21_13) rfl (XS.ifNo A hx rfl (hb hby q21_14) rfl ((if0 _ _).trans (tlt (by decide : ((0 : Int32) < (19 : Int32)))).2.2.2) (XS.aloadN A hx rfl (hb hby q21_17) rfl rfl (XS.aloadN A hx rfl (hb hby q21_18) rfl rfl r))))))) ?_
  refine OwnN.Go.v (g' := (mkF m 22 #[.val (.ref a1), .val (.int 97), .val (.int 78)] [(.ref t1), (.ref a1)])) (fun s' T L_ X eT hZ hown => getF X hx hZ hown (host := "") (Or.inl (own_w hw 132 rfl)) Via.refl eT V1 (g := (mkF m 19 #[.val (.ref a1), .val (.int 97), .val (.int 78)] [(.ref a1), (.ref a1)])) rfl rfl (hb hby q21_19)) ?_
  refine OwnN.Go.sp (g' := (mkF m 24 #[.val (.ref a1), .val (.int 97), .val (.int 78)] [(.int 97), (.ref a1), (.ref t1), (.ref a1)])) (fun T A t r => XS.aloadN A hx rfl (hb hby q21_22) rfl rfl (XS.iloadN A hx rfl (hb hby q21_23) rfl r)) ?_
  refine OwnN.Go.old fun O11 => ?_
  refine OwnC.goNP (k' := 0) (n' := 0) (OwnC.callerP (y := Y16) (a := a1) (W := 2) (argsL := [(.int 97)]) (rest := [(.ref t1), (.ref a1)]) (pc' := 27) (rc := 0) (rs := 0) (ws' := []) hx (hb hby q21_24) (own_w hw 279 rfl) (own_w hw 281 rfl) (own_w hw 282 rfl) (own_w hw 280 rfl) (own_w hw 283 rfl) (by decide) (fun s' hZ => OwnN.Ct.bk (rmNC2 l Z a0 hw [] a1 t1 k1 cs h0 n0 O11 E1 V1 C1 B1) hZ (own_w hw 283 rfl) (own_w hw 128 rfl) (by decide) (by decide)) E1 hml.symm (lenOf pd_9 rfl) rfl (Nat.le_of_ble_eq_true rfl) rfl (by decide) (by decide)) rfl rfl ?_
  rintro v12 rfl
  refine OwnN.Go.sp (g' := (mkF m 28 #[.val (.ref a1), .val (.int 97), .val (.int 78)] [(.ref a1), (.int 158), (.ref t1), (.ref a1)])) (fun T A t r => XS.aloadN A hx rfl (hb hby q21_27) rfl rfl r) ?_
  refine OwnN.Go.v (g' := (mkF m 31 #[.val (.ref a1), .val (.int 97), .val (.int 78)] [(.int 0), (.int 158), (.ref t1), (.ref a1)])) (fun s' T L_ X eT hZ hown => getF X hx hZ hown (host := "") (Or.inl (own_w hw 134 rfl)) Via.refl eT C1 (g := (mkF m 28 #[.val (.ref a1), .val (.int 97), .val (.int 78)] [(.ref a1), (.int 158), (.ref t1), (.ref a1)])) rfl rfl (hb hby q21_28)) ?_
  refine OwnN.Go.sp (g' := (mkF m 32 #[.val (.ref a1), .val (.int 97), .val (.int 78)] [(.int ((158 : Int32) <<< ((0 : Int32) &&& 31))), (.ref t1), (.ref a1)])) (fun T A t r => XS.ishl A hx rfl (hb hby q21_31) rfl r) ?_
  refine OwnN.Go.cast (g' := (mkF m 32 #[.val (.ref a1), .val (.int 97), .val (.int 78)] [(.int 158), (.ref t1), (.ref a1)])) (by rw [show ((158 : Int32) <<< ((0 : Int32) &&& 31)) = (158 : Int32) from own_shl0 _] <;> rfl) ?_
  refine OwnN.Go.callS (ws' := []) (W := 1) (y := Y17) (argsL := [(.ref t1), (.int 158)]) (rest := [(.ref a1)]) (pc' := 35) (k' := 1) (n' := 158) (hb hby q21_32) (own_w hw 291 rfl) (own_w hw 292 rfl) (own_w hw 224 rfl) (own_w hw 293 rfl) (by decide) (fun s' hZ => OwnN.Ct.bk (rmCO2 l Z a0 hw [] t1 k1 cs h0 n0 O11 B1 hl) hZ (own_w hw 293 rfl) (own_w hw 224 rfl) (by decide) (by decide)) hml.symm (lenOf pd_10 rfl) rfl (Nat.le_of_ble_eq_true rfl) rfl rfl rfl (by decide) (by decide) all0 ?_
  rintro v13 h13 K13 ⟨t13, kb13, rfl, ge13, B13⟩
  have f14 := (E1.keep K13)
  have f15 := (V1.keep K13 nin0)
  refine OwnN.Go.w (g' := (mkF m 38 #[.val (.ref a1), .val (.int 97), .val (.int 78)] [])) (fun s' T L_ X eT hZ hown => putF X hx hZ hown (host := "") (Or.inl (own_w hw 132 rfl)) Via.refl eT f15 f14 (Or.inl (own_w hw 133 rfl)) (own_w hw 119 rfl) (ty := (.array .byte)) (by decide) rfl rfl (g := (mkF m 35 #[.val (.ref a1), .val (.int 97), .val (.int 78)] [(.ref t13), (.ref a1)])) rfl rfl (hb hby q21_35)) (Or.inl (List.mem_of_getElem? (i := 0) rfl)) ?_
  intro h17 W17
  have F17 := f15.same W17
  have f18 := ((C1.keep K13 nin0).other W17 (Or.inr (slot_ne (Or.inl (own_w hw 135 rfl)) (Or.inl (own_w hw 133 rfl)) (by decide) (t := .byte) (t' := (.array .byte)) (by decide) (by decide))))
  have f19 := ((N1.keep K13 nin0).other W17 (Or.inr (slot_ne (Or.inl (own_w hw 166 rfl)) (Or.inl (own_w hw 133 rfl)) (by decide) (t := .int) (t' := (.array .byte)) (by decide) (by decide))))
  have ne20 : a1 ≠ t13 := Nat.ne_of_lt (Nat.lt_of_lt_of_le E1.lt ge13)
  have f21 := (B13.other W17 (Ne.symm ne20))
  exact OwnN.Go.ret (v := none) (fun s' T L_ fs X hr => X.returnOut hx hret (hb hby q21_38) hr) (fun _ => rfl) (by decide) (by decide) ⟨_, _, rfl, ge13, F17, f18, f19, f21⟩
theorem rmIF (l : Launch) (Z : State) (a0 : Array Value) (hw : own_T a0 Z) (wds : List Jvm.Cond) (a1 : Addr) (a2 : Addr) (zS : Int32) (h0 : Heap) (n0 : Nat) (O0 : Old Z n0 h0)  (C1 : Fld Z h0 a1 "java/lang/AbstractStringBuilder" "coder" "B" (.int 0)) (E2 : Exa Z h0 a2 "java/lang/String") (C2 : Fld Z h0 a2 "java/lang/String" "coder" "B" (.int 0)) (S0 : Sta Z Z.heap "java/lang/String" "COMPACT_STRINGS" "Z" (.int zS)) (P0 : ¬ zS = (0 : Int32)) :
    OwnN.Ct l Z Y18 jdk_68_method_71_code 2 none wds (⟨1, 0, 0, 13⟩ : Room) #[(.ref a1), (.ref a2)] n0 h0 [] (fun v h => v = none ∧ h = h0) := by
  refine OwnN.Ct.of (plainFor_of_name pn_java_lang_AbstractStringBuilder) O0 all0 ?_
  intro p e s m below meth c hx hby hml hret hnm
  refine OwnN.Go.cast (ef_RR_2 m a1 a2) ?_
  refine OwnN.Go.old fun O11 => ?_
  have St12 := Sta.ext O11.2 S0
  refine OwnN.Go.v (g' := (mkF m 3 #[.val (.ref a1), .val (.ref a2)] [(.int zS)])) (fun s' T L_ X eT hZ hown => getS2 X hx hZ hown (host := "") (Or.inl (own_w hw 131 rfl)) Via.refl eT St12 (g := (mkF m 0 #[.val (.ref a1), .val (.ref a2)] [])) rfl (hb hby q25_0)) ?_
  refine OwnN.Go.sp (g' := (mkF m 7 #[.val (.ref a1), .val (.ref a2)] [(.ref a1)])) (fun T A t r => XS.ifNo A hx rfl (hb hby q25_3) rfl ((if0 _ _).trans (feq P0).1) (XS.aloadN A hx rfl (hb hby q25_6) rfl rfl r)) ?_
  refine OwnN.Go.v (g' := (mkF m 10 #[.val (.ref a1), .val (.ref a2)] [(.int 0)])) (fun s' T L_ X eT hZ hown => getF X hx hZ hown (host := "") (Or.inl (own_w hw 134 rfl)) Via.refl eT C1 (g := (mkF m 7 #[.val (.ref a1), .val (.ref a2)] [(.ref a1)])) rfl rfl (hb hby q25_7)) ?_
  refine OwnN.Go.sp (g' := (mkF m 11 #[.val (.ref a1), .val (.ref a2)] [(.ref a2), (.int 0)])) (fun T A t r => XS.aloadN A hx rfl (hb hby q25_10) rfl rfl r) ?_
  refine OwnN.Go.callVP (a := a2) (z := Y12) (W := 1) (y := Y12) (argsL := []) (rest := [(.int 0)]) (pc' := 14) (hb hby q25_11) (own_w hw 182 rfl) (own_w hw 161 rfl) (fun s' hZ => notFace_of_selects (args := #[]) (mvT hZ (own_w hw 163 rfl))) (own_w hw 163 rfl) (own_w hw 162 rfl) (by decide) (fun s' hZ => OwnN.Ct.bk (rmSC l Z a0 hw [] a2 zS h0 n0 O11 C2 S0 P0) hZ (own_w hw 164 rfl) (own_w hw 2 rfl) (by decide) (by decide)) E2 hml.symm (lenOf pd_6 rfl) rfl (Nat.le_of_ble_eq_true rfl) rfl (by decide) (by decide) ?_
  rintro v13 rfl
  refine OwnN.Go.sp (g' := (mkF m 21 #[.val (.ref a1), .val (.ref a2)] [])) (fun T A t r => XS.icmpYes A hx rfl (pc0 := 14) (pc' := 21) rfl (hb hby q25_14) rfl (teq (by decide : ((0 : Int32) = (0 : Int32)))).1 (by decide) (by decide) r) ?_
  exact OwnN.Go.ret (v := none) (fun s' T L_ fs X hr => X.returnOut hx hret (hb hby q25_21) hr) (fun _ => rfl) (by decide) (by decide) ⟨rfl, rfl⟩
theorem rmGB (l : Launch) (Z : State) (a0 : Array Value) (hw : own_T a0 Z) (wds : List Jvm.Cond) (a1 : Addr) (t1 : Addr) (k1 : ClassId) (ds : List Int32) (t2 : Addr) (k2 : ClassId) (cap : Nat) (cs : List Int32) (zS : Int32) (h0 : Heap) (n0 : Nat) (O0 : Old Z n0 h0) (g_t2 : n0 ≤ t2) (E1 : Exa Z h0 a1 "java/lang/String") (C1 : Fld Z h0 a1 "java/lang/String" "coder" "B" (.int 0)) (V1 : Fld Z h0 a1 "java/lang/String" "value" "[B" (.ref t1)) (B1 : Arv Z h0 t1 k1 .byte (Int32.ofNat ds.length) (own_B ds) (.int 0)) (B2 : Arv Z h0 t2 k2 .byte (Int32.ofNat cap) (own_B cs) (.int 0)) (hl : cs.length + ds.length ≤ cap) (hcap : cap ≤ 158) (S0 : Sta Z Z.heap "java/lang/String" "COMPACT_STRINGS" "Z" (.int zS)) (P0 : ¬ zS = (0 : Int32)) :
    OwnN.Ct l Z Y19 jdk_42_method_147_code 4 none wds (⟨1, 0, 0, 40⟩ : Room) #[(.ref a1), (.ref t2), (.int (Int32.ofNat cs.length)), (.int 0)] n0 h0 [t2] (fun v h => v = none ∧ Arv Z h t2 k2 .byte (Int32.ofNat cap) (own_B (cs ++ ds)) (.int 0)) := by
  refine OwnN.Ct.of (plainFor_of_name pn_java_lang_String) O0 (allS g_t2 all0) ?_
  intro p e s m below meth c hx hby hml hret hnm
  refine OwnN.Go.cast (ef_RRII_4 m a1 t2 (Int32.ofNat cs.length) (0 : Int32)) ?_
  refine OwnN.Go.sp (g' := (mkF m 1 #[.val (.ref a1), .val (.ref t2), .val (.int (Int32.ofNat cs.length)), .val (.int 0)] [(.ref a1)])) (fun T A t r => XS.aloadN A hx rfl (hb hby q26_0) rfl rfl r) ?_
  refine OwnN.Go.old fun O11 => ?_
  refine OwnN.Go.callVP (a := a1) (z := Y12) (W := 0) (y := Y12) (argsL := []) (rest := []) (pc' := 4) (hb hby q26_1) (own_w hw 160 rfl) (own_w hw 161 rfl) (fun s' hZ => notFace_of_selects (args := #[]) (mvT hZ (own_w hw 163 rfl))) (own_w hw 163 rfl) (own_w hw 162 rfl) (by decide) (fun s' hZ => OwnN.Ct.bk (rmSC l Z a0 hw [] a1 zS h0 n0 O11 C1 S0 P0) hZ (own_w hw 164 rfl) (own_w hw 2 rfl) (by decide) (by decide)) E1 hml.symm (lenOf pd_6 rfl) rfl (Nat.le_of_ble_eq_true rfl) rfl (by decide) (by decide) ?_
  rintro v12 rfl
  refine OwnN.Go.sp (g' := (mkF m 9 #[.val (.ref a1), .val (.ref t2), .val (.int (Int32.ofNat cs.length)), .val (.int 0)] [(.ref a1)])) (fun T A t r => XS.iloadN A hx rfl (hb hby q26_4) rfl (XS.icmpNo A hx rfl (hb hby q26_5) rfl (teq (by decide : ((0 : Int32) = (0 : Int32)))).2 (XS.aloadN A hx rfl (hb hby q26_8) rfl rfl r))) ?_
  refine OwnN.Go.v (g' := (mkF m 12 #[.val (.ref a1), .val (.ref t2), .val (.int (Int32.ofNat cs.length)), .val (.int 0)] [(.ref t1)])) (fun s' T L_ X eT hZ hown => getF X hx hZ hown (host := "") (Or.inl (own_w hw 22 rfl)) Via.refl eT V1 (g := (mkF m 9 #[.val (.ref a1), .val (.ref t2), .val (.int (Int32.ofNat cs.length)), .val (.int 0)] [(.ref a1)])) rfl rfl (hb hby q26_9)) ?_
  refine OwnN.Go.sp (g' := (mkF m 17 #[.val (.ref a1), .val (.ref t2), .val (.int (Int32.ofNat cs.length)), .val (.int 0)] [(.int ((Int32.ofNat cs.length) <<< ((0 : Int32) &&& 31))), (.ref t2), (.int 0), (.ref t1)])) (fun T A t r => XS.iconst A hx rfl (hb hby q26_12) (XS.aloadN A hx rfl (hb hby q26_13) rfl rfl (XS.iloadN A hx rfl (hb hby q26_14) rfl (XS.iloadN A hx rfl (hb hby q26_15) rfl (XS.ishl A hx rfl (hb hby q26_16) rfl r))))) ?_
  refine OwnN.Go.cast (g' := (mkF m 17 #[.val (.ref a1), .val (.ref t2), .val (.int (Int32.ofNat cs.length)), .val (.int 0)] [(.int (Int32.ofNat cs.length)), (.ref t2), (.int 0), (.ref t1)])) (by rw [show ((Int32.ofNat cs.length) <<< ((0 : Int32) &&& 31)) = (Int32.ofNat cs.length) from own_shl0 _] <;> rfl) ?_
  refine OwnN.Go.sp (g' := (mkF m 18 #[.val (.ref a1), .val (.ref t2), .val (.int (Int32.ofNat cs.length)), .val (.int 0)] [(.ref a1), (.int (Int32.ofNat cs.length)), (.ref t2), (.int 0), (.ref t1)])) (fun T A t r => XS.aloadN A hx rfl (hb hby q26_17) rfl rfl r) ?_
  refine OwnN.Go.v (g' := (mkF m 21 #[.val (.ref a1), .val (.ref t2), .val (.int (Int32.ofNat cs.length)), .val (.int 0)] [(.ref t1), (.int (Int32.ofNat cs.length)), (.ref t2), (.int 0), (.ref t1)])) (fun s' T L_ X eT hZ hown => getF X hx hZ hown (host := "") (Or.inl (own_w hw 22 rfl)) Via.refl eT V1 (g := (mkF m 18 #[.val (.ref a1), .val (.ref t2), .val (.int (Int32.ofNat cs.length)), .val (.int 0)] [(.ref a1), (.int (Int32.ofNat cs.length)), (.ref t2), (.int 0), (.ref t1)])) rfl rfl (hb hby q26_18)) ?_
  refine OwnN.Go.r (g' := (mkF m 22 #[.val (.ref a1), .val (.ref t2), .val (.int (Int32.ofNat cs.length)), .val (.int 0)] [(.int (Int32.ofNat ds.length)), (.int (Int32.ofNat cs.length)), (.ref t2), (.int 0), (.ref t1)])) (fun s' T L_ X eT hZ t r => own_len X hx hZ eT B1 (g := (mkF m 21 #[.val (.ref a1), .val (.ref t2), .val (.int (Int32.ofNat cs.length)), .val (.int 0)] [(.ref t1), (.int (Int32.ofNat cs.length)), (.ref t2), (.int 0), (.ref t1)])) rfl rfl (hb hby q26_21) t r) ?_
  refine OwnN.Go.kp (ws' := [t2]) (P := fun h' => Arv Z h' t2 k2 .byte (Int32.ofNat cap) (own_B (cs ++ ds)) (.int 0)) (g' := (mkF m 25 #[.val (.ref a1), .val (.ref t2), .val (.int (Int32.ofNat cs.length)), .val (.int 0)] [])) (fun s' T L_ X eT N hZ hown => own_cpy (xs := (own_B cs)) (ys := (own_B ds)) cs.length ds.length X hx hZ hown (own_w hw 188 rfl) (own_w hw 191 rfl) (own_w hw 189 rfl) (own_w hw 190 rfl) eT B1 B2 (own_Bl cs) (Nat.le_of_eq (own_Bl ds)) (fun _ _ => rfl) (by rw [own_clamp (by omega)]; exact Nat.le_refl _) (by rw [own_clamp (by omega)]; exact hl) (by omega) (by omega) (own_Ba cs ds) rfl rfl rfl N g_t2 (g := (mkF m 22 #[.val (.ref a1), .val (.ref t2), .val (.int (Int32.ofNat cs.length)), .val (.int 0)] [(.int (Int32.ofNat ds.length)), (.int (Int32.ofNat cs.length)), (.ref t2), (.int 0), (.ref t1)])) rfl hml.symm rfl (hb hby q26_22) (by decide) (W := 0) (catOf (Nat.le_of_ble_eq_true rfl)) (by decide)) (allS (Or.inl (List.mem_of_getElem? (i := 0) rfl)) all0) ?_
  intro h13 K13 V13
  refine OwnN.Go.sp (g' := (mkF m 43 #[.val (.ref a1), .val (.ref t2), .val (.int (Int32.ofNat cs.length)), .val (.int 0)] [])) (fun T A t r => XS.goto A hx rfl (pc0 := 25) (pc' := 43) rfl (hb hby q26_25) (by decide) (by decide) r) ?_
  exact OwnN.Go.ret (v := none) (fun s' T L_ fs X hr => X.returnOut hx hret (hb hby q26_43) hr) (fun _ => rfl) (by decide) (by decide) ⟨rfl, V13⟩
theorem rmPS (l : Launch) (Z : State) (a0 : Array Value) (hw : own_T a0 Z) (wds : List Jvm.Cond) (a1 : Addr) (t1 : Addr) (k1 : ClassId) (cap : Nat) (cs : List Int32) (a2 : Addr) (t2 : Addr) (k2 : ClassId) (ds : List Int32) (zS : Int32) (h0 : Heap) (n0 : Nat) (O0 : Old Z n0 h0) (g_t1 : n0 ≤ t1) (E1 : Exa Z h0 a1 "java/lang/StringBuilder") (V1 : Fld Z h0 a1 "java/lang/AbstractStringBuilder" "value" "[B" (.ref t1)) (C1 : Fld Z h0 a1 "java/lang/AbstractStringBuilder" "coder" "B" (.int 0)) (N1 : Fld Z h0 a1 "java/lang/AbstractStringBuilder" "count" "I" (.int (Int32.ofNat cs.length))) (B1 : Arv Z h0 t1 k1 .byte (Int32.ofNat cap) (own_B cs) (.int 0)) (E2 : Exa Z h0 a2 "java/lang/String") (C2 : Fld Z h0 a2 "java/lang/String" "coder" "B" (.int 0)) (V2 : Fld Z h0 a2 "java/lang/String" "value" "[B" (.ref t2)) (B2 : Arv Z h0 t2 k2 .byte (Int32.ofNat ds.length) (own_B ds) (.int 0)) (hl : cs.length + ds.length ≤ cap) (hcap : cap ≤ 158) (S0 : Sta Z Z.heap "java/lang/String" "COMPACT_STRINGS" "Z" (.int zS)) (P0 : ¬ zS = (0 : Int32)) :
    OwnN.Ct l Z Y22 jdk_68_method_73_code 3 none wds (⟨2, 0, 0, 55⟩ : Room) #[(.ref a1), (.int (Int32.ofNat cs.length)), (.ref a2)] n0 h0 [t1] (fun v h => v = none ∧ Arv Z h t1 k1 .byte (Int32.ofNat cap) (own_B (cs ++ ds)) (.int 0)) := by
  refine OwnN.Ct.of (plainFor_of_name pn_java_lang_AbstractStringBuilder) O0 (allS g_t1 all0) ?_
  intro p e s m below meth c hx hby hml hret hnm
  refine OwnN.Go.cast (ef_RIR_3 m a1 (Int32.ofNat cs.length) a2) ?_
  refine OwnN.Go.sp (g' := (mkF m 2 #[.val (.ref a1), .val (.int (Int32.ofNat cs.length)), .val (.ref a2)] [(.ref a2), (.ref a1)])) (fun T A t r => XS.aloadN A hx rfl (hb hby q27_0) rfl rfl (XS.aloadN A hx rfl (hb hby q27_1) rfl rfl r)) ?_
  refine OwnN.Go.old fun O11 => ?_
  refine OwnC.goNP (k' := 0) (n' := 0) (OwnC.callerP (y := Y18) (a := a1) (W := 0) (argsL := [(.ref a2)]) (rest := []) (pc' := 5) (rc := 0) (rs := 0) (ws' := []) hx (hb hby q27_2) (own_w hw 177 rfl) (own_w hw 179 rfl) (own_w hw 180 rfl) (own_w hw 178 rfl) (own_w hw 181 rfl) (by decide) (fun s' hZ => OwnN.Ct.bk (rmIF l Z a0 hw [] a1 a2 zS h0 n0 O11 C1 E2 C2 S0 P0) hZ (own_w hw 181 rfl) (own_w hw 128 rfl) (by decide) (by decide)) E1 hml.symm (lenOf pd_11 rfl) rfl (Nat.le_of_ble_eq_true rfl) rfl (by decide) (by decide)) rfl rfl ?_
  rintro v12 rfl
  refine OwnN.Go.sp (g' := (mkF m 7 #[.val (.ref a1), .val (.int (Int32.ofNat cs.length)), .val (.ref a2)] [(.ref a1), (.ref a2)])) (fun T A t r => XS.aloadN A hx rfl (hb hby q27_5) rfl rfl (XS.aloadN A hx rfl (hb hby q27_6) rfl rfl r)) ?_
  refine OwnN.Go.v (g' := (mkF m 10 #[.val (.ref a1), .val (.int (Int32.ofNat cs.length)), .val (.ref a2)] [(.ref t1), (.ref a2)])) (fun s' T L_ X eT hZ hown => getF X hx hZ hown (host := "") (Or.inl (own_w hw 132 rfl)) Via.refl eT V1 (g := (mkF m 7 #[.val (.ref a1), .val (.int (Int32.ofNat cs.length)), .val (.ref a2)] [(.ref a1), (.ref a2)])) rfl rfl (hb hby q27_7)) ?_
  refine OwnN.Go.sp (g' := (mkF m 12 #[.val (.ref a1), .val (.int (Int32.ofNat cs.length)), .val (.ref a2)] [(.ref a1), (.int (Int32.ofNat cs.length)), (.ref t1), (.ref a2)])) (fun T A t r => XS.iloadN A hx rfl (hb hby q27_10) rfl (XS.aloadN A hx rfl (hb hby q27_11) rfl rfl r)) ?_
  refine OwnN.Go.v (g' := (mkF m 15 #[.val (.ref a1), .val (.int (Int32.ofNat cs.length)), .val (.ref a2)] [(.int 0), (.int (Int32.ofNat cs.length)), (.ref t1), (.ref a2)])) (fun s' T L_ X eT hZ hown => getF X hx hZ hown (host := "") (Or.inl (own_w hw 134 rfl)) Via.refl eT C1 (g := (mkF m 12 #[.val (.ref a1), .val (.int (Int32.ofNat cs.length)), .val (.ref a2)] [(.ref a1), (.int (Int32.ofNat cs.length)), (.ref t1), (.ref a2)])) rfl rfl (hb hby q27_12)) ?_
  refine OwnN.Go.callV (a := a2) (z := Y19) (ws' := [t1]) (W := 0) (y := Y19) (argsL := [(.ref t1), (.int (Int32.ofNat cs.length)), (.int 0)]) (rest := []) (pc' := 18) (k' := 0) (n' := 0) (hb hby q27_15) (own_w hw 183 rfl) (own_w hw 184 rfl) (fun s' hZ => notFace_of_selects (args := #[]) (mvT hZ (own_w hw 186 rfl))) (own_w hw 186 rfl) (own_w hw 185 rfl) (by decide) (fun s' hZ => OwnN.Ct.bk (rmGB l Z a0 hw [] a2 t2 k2 ds t1 k1 cap cs zS h0 n0 O11 g_t1 E2 C2 V2 B2 B1 hl hcap S0 P0) hZ (own_w hw 187 rfl) (own_w hw 2 rfl) (by decide) (by decide)) E2 hml.symm (lenOf pd_12 rfl) rfl (Nat.le_of_ble_eq_true rfl) rfl rfl rfl (by decide) (by decide) (allS (Or.inl (List.mem_of_getElem? (i := 0) rfl)) all0) ?_
  rintro v13 h13 K13 ⟨rfl, B13⟩
  exact OwnN.Go.ret (v := none) (fun s' T L_ fs X hr => X.returnOut hx hret (hb hby q27_18) hr) (fun _ => rfl) (by decide) (by decide) ⟨rfl, B13⟩
theorem rmA0 (l : Launch) (Z : State) (a0 : Array Value) (hw : own_T a0 Z) (wds : List Jvm.Cond) (a1 : Addr) (t1 : Addr) (k1 : ClassId) (cap : Nat) (cs : List Int32) (a2 : Addr) (t2 : Addr) (k2 : ClassId) (ds : List Int32) (zS : Int32) (h0 : Heap) (n0 : Nat) (O0 : Old Z n0 h0) (g_a1 : n0 ≤ a1) (g_t1 : n0 ≤ t1) (E1 : Exa Z h0 a1 "java/lang/StringBuilder") (V1 : Fld Z h0 a1 "java/lang/AbstractStringBuilder" "value" "[B" (.ref t1)) (C1 : Fld Z h0 a1 "java/lang/AbstractStringBuilder" "coder" "B" (.int 0)) (N1 : Fld Z h0 a1 "java/lang/AbstractStringBuilder" "count" "I" (.int (Int32.ofNat cs.length))) (B1 : Arv Z h0 t1 k1 .byte (Int32.ofNat cap) (own_B cs) (.int 0)) (E2 : Exa Z h0 a2 "java/lang/String") (C2 : Fld Z h0 a2 "java/lang/String" "coder" "B" (.int 0)) (V2 : Fld Z h0 a2 "java/lang/String" "value" "[B" (.ref t2)) (B2 : Arv Z h0 t2 k2 .byte (Int32.ofNat ds.length) (own_B ds) (.int 0)) (hl : cs.length + ds.length ≤ cap) (hcap : cap ≤ 158) (S0 : Sta Z Z.heap "java/lang/String" "COMPACT_STRINGS" "Z" (.int zS)) (P0 : ¬ zS = (0 : Int32)) :
    OwnN.Ct l Z Y23 jdk_68_method_22_code 3 (some (.object "java/lang/AbstractStringBuilder")) wds (⟨3, 0, 0, 69⟩ : Room) #[(.ref a1), (.ref a2)] n0 h0 [a1, t1] (fun v h => v = some (.ref a1) ∧ Fld Z h a1 "java/lang/AbstractStringBuilder" "value" "[B" (.ref t1) ∧ Fld Z h a1 "java/lang/AbstractStringBuilder" "coder" "B" (.int 0) ∧ Fld Z h a1 "java/lang/AbstractStringBuilder" "count" "I" (.int (Int32.ofNat (cs ++ ds).length)) ∧ Arv Z h t1 k1 .byte (Int32.ofNat cap) (own_B (cs ++ ds)) (.int 0)) := by
  refine OwnN.Ct.of (plainFor_of_name pn_java_lang_AbstractStringBuilder) O0 (allS g_a1 (allS g_t1 all0)) ?_
  intro p e s m below meth c hx hby hml hret hnm
  refine OwnN.Go.cast (ef_RR_3 m a1 a2) ?_
  refine OwnN.Go.sp (g' := (mkF m 10 #[.val (.ref a1), .val (.ref a2), .unset] [(.ref a2)])) (fun T A t r => XS.aloadN A hx rfl (hb hby q28_0) rfl rfl (XS.ifnonnullYes A hx rfl (pc0 := 1) (pc' := 9) rfl (hb hby q28_1) rfl (by decide) (by decide) (XS.aloadN A hx rfl (hb hby q28_9) rfl rfl r))) ?_
  refine OwnN.Go.old fun O11 => ?_
  refine OwnN.Go.callVP (a := a2) (z := Y20) (W := 0) (y := Y20) (argsL := []) (rest := []) (pc' := 13) (hb hby q28_10) (own_w hw 155 rfl) (own_w hw 156 rfl) (fun s' hZ => notFace_of_selects (args := #[]) (mvT hZ (own_w hw 158 rfl))) (own_w hw 158 rfl) (own_w hw 157 rfl) (by decide) (fun s' hZ => OwnN.Ct.bk (rmSL l Z a0 hw [] a2 t2 k2 ds zS h0 n0 O11 E2 C2 V2 B2 S0 P0) hZ (own_w hw 159 rfl) (own_w hw 2 rfl) (by decide) (by decide)) E2 hml.symm (lenOf pd_13 rfl) rfl (Nat.le_of_ble_eq_true rfl) rfl (by decide) (by decide) ?_
  rintro v12 rfl
  refine OwnN.Go.sp (g' := (mkF m 16 #[.val (.ref a1), .val (.ref a2), .val (.int (Int32.ofNat ds.length))] [(.ref a1), (.ref a1)])) (fun T A t r => XS.istoreN A hx rfl (hb hby q28_13) rfl (l' := #[.val (.ref a1), .val (.ref a2), .val (.int (Int32.ofNat ds.length))]) rfl (XS.aloadN A hx rfl (hb hby q28_14) rfl rfl (XS.aloadN A hx rfl (hb hby q28_15) rfl rfl r))) ?_
  refine OwnN.Go.v (g' := (mkF m 19 #[.val (.ref a1), .val (.ref a2), .val (.int (Int32.ofNat ds.length))] [(.int (Int32.ofNat cs.length)), (.ref a1)])) (fun s' T L_ X eT hZ hown => getF X hx hZ hown (host := "") (Or.inl (own_w hw 165 rfl)) Via.refl eT N1 (g := (mkF m 16 #[.val (.ref a1), .val (.ref a2), .val (.int (Int32.ofNat ds.length))] [(.ref a1), (.ref a1)])) rfl rfl (hb hby q28_16)) ?_
  refine OwnN.Go.sp (g' := (mkF m 21 #[.val (.ref a1), .val (.ref a2), .val (.int (Int32.ofNat ds.length))] [(.int ((Int32.ofNat cs.length) + (Int32.ofNat ds.length))), (.ref a1)])) (fun T A t r => XS.iloadN A hx rfl (hb hby q28_19) rfl (XS.iadd A hx rfl (hb hby q28_20) rfl r)) ?_
  refine OwnN.Go.cast (g' := (mkF m 21 #[.val (.ref a1), .val (.ref a2), .val (.int (Int32.ofNat ds.length))] [(.int (Int32.ofNat (cs ++ ds).length)), (.ref a1)])) (by rw [show ((Int32.ofNat cs.length) + (Int32.ofNat ds.length)) = (Int32.ofNat (cs ++ ds).length) from own_addL cs ds] <;> rfl) ?_
  refine OwnC.goNP (k' := 0) (n' := 0) (OwnC.callerP (y := Y21) (a := a1) (W := 0) (argsL := [(.int (Int32.ofNat (cs ++ ds).length))]) (rest := []) (pc' := 24) (rc := 0) (rs := 0) (ws' := []) hx (hb hby q28_21) (own_w hw 167 rfl) (own_w hw 169 rfl) (own_w hw 170 rfl) (own_w hw 168 rfl) (own_w hw 171 rfl) (by decide) (fun s' hZ => OwnN.Ct.bk (rmEC0 l Z a0 hw [] a1 t1 k1 cap cs (cs ++ ds).length h0 n0 O11 V1 C1 B1 (by rw [List.length_append]; exact hl) hcap) hZ (own_w hw 171 rfl) (own_w hw 128 rfl) (by decide) (by decide)) E1 hml.symm (lenOf pd_5 rfl) rfl (Nat.le_of_ble_eq_true rfl) rfl (by decide) (by decide)) rfl rfl ?_
  rintro v13 rfl
  refine OwnN.Go.sp (g' := (mkF m 26 #[.val (.ref a1), .val (.ref a2), .val (.int (Int32.ofNat ds.length))] [(.ref a1), (.ref a1)])) (fun T A t r => XS.aloadN A hx rfl (hb hby q28_24) rfl rfl (XS.aloadN A hx rfl (hb hby q28_25) rfl rfl r)) ?_
  refine OwnN.Go.v (g' := (mkF m 29 #[.val (.ref a1), .val (.ref a2), .val (.int (Int32.ofNat ds.length))] [(.int (Int32.ofNat cs.length)), (.ref a1)])) (fun s' T L_ X eT hZ hown => getF X hx hZ hown (host := "") (Or.inl (own_w hw 165 rfl)) Via.refl eT N1 (g := (mkF m 26 #[.val (.ref a1), .val (.ref a2), .val (.int (Int32.ofNat ds.length))] [(.ref a1), (.ref a1)])) rfl rfl (hb hby q28_26)) ?_
  refine OwnN.Go.sp (g' := (mkF m 30 #[.val (.ref a1), .val (.ref a2), .val (.int (Int32.ofNat ds.length))] [(.ref a2), (.int (Int32.ofNat cs.length)), (.ref a1)])) (fun T A t r => XS.aloadN A hx rfl (hb hby q28_29) rfl rfl r) ?_
  refine OwnC.goN (k' := 0) (n' := 0) (OwnC.callerP (y := Y22) (a := a1) (W := 0) (argsL := [(.int (Int32.ofNat cs.length)), (.ref a2)]) (rest := []) (pc' := 33) (rc := 0) (rs := 0) (ws' := [t1]) hx (hb hby q28_30) (own_w hw 172 rfl) (own_w hw 174 rfl) (own_w hw 175 rfl) (own_w hw 173 rfl) (own_w hw 176 rfl) (by decide) (fun s' hZ => OwnN.Ct.bk (rmPS l Z a0 hw [] a1 t1 k1 cap cs a2 t2 k2 ds zS h0 n0 O11 g_t1 E1 V1 C1 N1 B1 E2 C2 V2 B2 hl hcap S0 P0) hZ (own_w hw 176 rfl) (own_w hw 128 rfl) (by decide) (by decide)) E1 hml.symm (lenOf pd_14 rfl) rfl (Nat.le_of_ble_eq_true rfl) rfl (by decide) (by decide)) rfl rfl (allS (Or.inl (List.mem_of_getElem? (i := 1) rfl)) all0) ?_
  rintro v14 h14 K14 ⟨rfl, B14⟩
  refine OwnN.Go.sp (g' := (mkF m 35 #[.val (.ref a1), .val (.ref a2), .val (.int (Int32.ofNat ds.length))] [(.ref a1), (.ref a1)])) (fun T A t r => XS.aloadN A hx rfl (hb hby q28_33) rfl rfl (XS.dup A hx rfl (hb hby q28_34) rfl rfl r)) ?_
  have ne15 : a1 ≠ t1 := Exa.neArv E1 B1 (own_w hw 119 rfl)
  have f16 := (N1.keep K14 (ninS ne15 nin0))
  refine OwnN.Go.v (g' := (mkF m 38 #[.val (.ref a1), .val (.ref a2), .val (.int (Int32.ofNat ds.length))] [(.int (Int32.ofNat cs.length)), (.ref a1)])) (fun s' T L_ X eT hZ hown => getF X hx hZ hown (host := "") (Or.inl (own_w hw 165 rfl)) Via.refl eT f16 (g := (mkF m 35 #[.val (.ref a1), .val (.ref a2), .val (.int (Int32.ofNat ds.length))] [(.ref a1), (.ref a1)])) rfl rfl (hb hby q28_35)) ?_
  refine OwnN.Go.sp (g' := (mkF m 40 #[.val (.ref a1), .val (.ref a2), .val (.int (Int32.ofNat ds.length))] [(.int ((Int32.ofNat cs.length) + (Int32.ofNat ds.length))), (.ref a1)])) (fun T A t r => XS.iloadN A hx rfl (hb hby q28_38) rfl (XS.iadd A hx rfl (hb hby q28_39) rfl r)) ?_
  refine OwnN.Go.cast (g' := (mkF m 40 #[.val (.ref a1), .val (.ref a2), .val (.int (Int32.ofNat ds.length))] [(.int (Int32.ofNat (cs ++ ds).length)), (.ref a1)])) (by rw [show ((Int32.ofNat cs.length) + (Int32.ofNat ds.length)) = (Int32.ofNat (cs ++ ds).length) from own_addL cs ds] <;> rfl) ?_
  have f17 := (E1.keep K14)
  refine OwnN.Go.w (g' := (mkF m 43 #[.val (.ref a1), .val (.ref a2), .val (.int (Int32.ofNat ds.length))] [])) (fun s' T L_ X eT hZ hown => putF X hx hZ hown (host := "") (Or.inl (own_w hw 165 rfl)) Via.refl eT f16 f17 (Or.inl (own_w hw 166 rfl)) (own_w hw 119 rfl) (ty := .int) (by decide) rfl rfl (g := (mkF m 40 #[.val (.ref a1), .val (.ref a2), .val (.int (Int32.ofNat ds.length))] [(.int (Int32.ofNat (cs ++ ds).length)), (.ref a1)])) rfl rfl (hb hby q28_40)) (Or.inl (List.mem_of_getElem? (i := 0) rfl)) ?_
  intro h19 W19
  have F19 := f16.same W19
  refine OwnN.Go.sp (g' := (mkF m 44 #[.val (.ref a1), .val (.ref a2), .val (.int (Int32.ofNat ds.length))] [(.ref a1)])) (fun T A t r => XS.aloadN A hx rfl (hb hby q28_43) rfl rfl r) ?_
  have f20 := ((V1.keep K14 (ninS ne15 nin0)).other W19 (Or.inr (slot_ne (Or.inl (own_w hw 133 rfl)) (Or.inl (own_w hw 166 rfl)) (by decide) (t := (.array .byte)) (t' := .int) (by decide) (by decide))))
  have f21 := ((C1.keep K14 (ninS ne15 nin0)).other W19 (Or.inr (slot_ne (Or.inl (own_w hw 135 rfl)) (Or.inl (own_w hw 166 rfl)) (by decide) (t := .byte) (t' := .int) (by decide) (by decide))))
  have f22 := (B14.other W19 (Ne.symm ne15))
  exact OwnN.Go.ret (v := (some (.ref a1))) (fun s' T L_ fs X hr => own_retR X hx hret rfl rfl (hb hby q28_44) hr) (fun h => by rw [hret] at h; cases h) (by decide) (by decide) ⟨rfl, f20, f21, F19, f22⟩
theorem rmB0 (l : Launch) (Z : State) (a0 : Array Value) (hw : own_T a0 Z) (wds : List Jvm.Cond) (a1 : Addr) (t1 : Addr) (k1 : ClassId) (cap : Nat) (cs : List Int32) (a2 : Addr) (t2 : Addr) (k2 : ClassId) (ds : List Int32) (zS : Int32) (h0 : Heap) (n0 : Nat) (O0 : Old Z n0 h0) (g_a1 : n0 ≤ a1) (g_t1 : n0 ≤ t1) (E1 : Exa Z h0 a1 "java/lang/StringBuilder") (V1 : Fld Z h0 a1 "java/lang/AbstractStringBuilder" "value" "[B" (.ref t1)) (C1 : Fld Z h0 a1 "java/lang/AbstractStringBuilder" "coder" "B" (.int 0)) (N1 : Fld Z h0 a1 "java/lang/AbstractStringBuilder" "count" "I" (.int (Int32.ofNat cs.length))) (B1 : Arv Z h0 t1 k1 .byte (Int32.ofNat cap) (own_B cs) (.int 0)) (E2 : Exa Z h0 a2 "java/lang/String") (C2 : Fld Z h0 a2 "java/lang/String" "coder" "B" (.int 0)) (V2 : Fld Z h0 a2 "java/lang/String" "value" "[B" (.ref t2)) (B2 : Arv Z h0 t2 k2 .byte (Int32.ofNat ds.length) (own_B ds) (.int 0)) (hl : cs.length + ds.length ≤ cap) (hcap : cap ≤ 158) (S0 : Sta Z Z.heap "java/lang/String" "COMPACT_STRINGS" "Z" (.int zS)) (P0 : ¬ zS = (0 : Int32)) :
    OwnN.Ct l Z Y65 jdk_67_method_7_code 2 (some (.object "java/lang/StringBuilder")) wds (⟨4, 0, 0, 83⟩ : Room) #[(.ref a1), (.ref a2)] n0 h0 [a1, t1] (fun v h => v = some (.ref a1) ∧ Fld Z h a1 "java/lang/AbstractStringBuilder" "value" "[B" (.ref t1) ∧ Fld Z h a1 "java/lang/AbstractStringBuilder" "coder" "B" (.int 0) ∧ Fld Z h a1 "java/lang/AbstractStringBuilder" "count" "I" (.int (Int32.ofNat (cs ++ ds).length)) ∧ Arv Z h t1 k1 .byte (Int32.ofNat cap) (own_B (cs ++ ds)) (.int 0)) := by
  refine OwnN.Ct.of (plainFor_of_name pn_java_lang_StringBuilder) O0 (allS g_a1 (allS g_t1 all0)) ?_
  intro p e s m below meth c hx hby hml hret hnm
  refine OwnN.Go.cast (ef_RR_2 m a1 a2) ?_
  refine OwnN.Go.sp (g' := (mkF m 2 #[.val (.ref a1), .val (.ref a2)] [(.ref a2), (.ref a1)])) (fun T A t r => XS.aloadN A hx rfl (hb hby q29_0) rfl rfl (XS.aloadN A hx rfl (hb hby q29_1) rfl rfl r)) ?_
  refine OwnN.Go.old fun O11 => ?_
  refine OwnC.goN (k' := 0) (n' := 0) (OwnC.callerU (y := Y23) (a := a1) (W := 0) (argsL := [(.ref a2)]) (rest := []) (pc' := 5) (rc := 0) (rs := 0) (ws' := [a1, t1]) hx (hb hby q29_2) (own_w hw 150 rfl) (own_w hw 170 rfl) rfl (own_w hw 151 rfl) (own_w hw 152 rfl) (own_w hw 154 rfl) (by decide) (by decide) (fun s' hZ => OwnN.Ct.bk (rmA0 l Z a0 hw [] a1 t1 k1 cap cs a2 t2 k2 ds zS h0 n0 O11 g_a1 g_t1 E1 V1 C1 N1 B1 E2 C2 V2 B2 hl hcap S0 P0) hZ (own_w hw 154 rfl) (own_w hw 128 rfl) (by decide) (by decide)) E1 hml.symm (lenOf pd_15 rfl) rfl (Nat.le_of_ble_eq_true rfl) rfl (by decide) (by decide)) rfl rfl (allS (Or.inl (List.mem_of_getElem? (i := 0) rfl)) (allS (Or.inl (List.mem_of_getElem? (i := 1) rfl)) all0)) ?_
  rintro v12 h12 K12 ⟨rfl, V12, C12, N12, B12⟩
  refine OwnN.Go.sp (g' := (mkF m 7 #[.val (.ref a1), .val (.ref a2)] [(.ref a1)])) (fun T A t r => XS.pop A hx rfl (hb hby q29_5) rfl rfl (XS.aloadN A hx rfl (hb hby q29_6) rfl rfl r)) ?_
  exact OwnN.Go.ret (v := (some (.ref a1))) (fun s' T L_ fs X hr => own_retR X hx hret rfl rfl (hb hby q29_7) hr) (fun h => by rw [hret] at h; cases h) (by decide) (by decide) ⟨rfl, V12, C12, N12, B12⟩
theorem rmAg0 (l : Launch) (Z : State) (a0 : Array Value) (hw : own_T a0 Z) (wds : List Jvm.Cond) (a1 : Addr) (t1 : Addr) (k1 : ClassId) (cs : List Int32) (a2 : Addr) (t2 : Addr) (k2 : ClassId) (ds : List Int32) (zS : Int32) (h0 : Heap) (n0 : Nat) (O0 : Old Z n0 h0) (g_a1 : n0 ≤ a1) (E1 : Exa Z h0 a1 "java/lang/StringBuilder") (V1 : Fld Z h0 a1 "java/lang/AbstractStringBuilder" "value" "[B" (.ref t1)) (C1 : Fld Z h0 a1 "java/lang/AbstractStringBuilder" "coder" "B" (.int 0)) (N1 : Fld Z h0 a1 "java/lang/AbstractStringBuilder" "count" "I" (.int (Int32.ofNat cs.length))) (B1 : Arv Z h0 t1 k1 .byte (16 : Int32) (own_B cs) (.int 0)) (E2 : Exa Z h0 a2 "java/lang/String") (C2 : Fld Z h0 a2 "java/lang/String" "coder" "B" (.int 0)) (V2 : Fld Z h0 a2 "java/lang/String" "value" "[B" (.ref t2)) (B2 : Arv Z h0 t2 k2 .byte (Int32.ofNat ds.length) (own_B ds) (.int 0)) (hc : cs.length = 0) (hd : ds.length = 38) (S0 : Sta Z Z.heap "java/lang/String" "COMPACT_STRINGS" "Z" (.int zS)) (P0 : ¬ zS = (0 : Int32)) :
    OwnN.Ct l Z Y23 jdk_68_method_22_code 3 (some (.object "java/lang/AbstractStringBuilder")) wds (⟨4, 1, 38, 69⟩ : Room) #[(.ref a1), (.ref a2)] n0 h0 [a1] (fun v h => ∃ (t : Addr) (kb : ClassId), v = some (.ref a1) ∧ h0.size ≤ t ∧ Fld Z h a1 "java/lang/AbstractStringBuilder" "value" "[B" (.ref t) ∧ Fld Z h a1 "java/lang/AbstractStringBuilder" "coder" "B" (.int 0) ∧ Fld Z h a1 "java/lang/AbstractStringBuilder" "count" "I" (.int (Int32.ofNat (cs ++ ds).length)) ∧ Arv Z h t kb .byte (38 : Int32) (own_B (cs ++ ds)) (.int 0)) := by
  refine OwnN.Ct.of (plainFor_of_name pn_java_lang_AbstractStringBuilder) O0 (allS g_a1 all0) ?_
  intro p e s m below meth c hx hby hml hret hnm
  refine OwnN.Go.cast (ef_RR_3 m a1 a2) ?_
  refine OwnN.Go.sp (g' := (mkF m 10 #[.val (.ref a1), .val (.ref a2), .unset] [(.ref a2)])) (fun T A t r => XS.aloadN A hx rfl (hb hby q28_0) rfl rfl (XS.ifnonnullYes A hx rfl (pc0 := 1) (pc' := 9) rfl (hb hby q28_1) rfl (by decide) (by decide) (XS.aloadN A hx rfl (hb hby q28_9) rfl rfl r))) ?_
  refine OwnN.Go.old fun O11 => ?_
  refine OwnN.Go.callVP (a := a2) (z := Y20) (W := 0) (y := Y20) (argsL := []) (rest := []) (pc' := 13) (hb hby q28_10) (own_w hw 155 rfl) (own_w hw 156 rfl) (fun s' hZ => notFace_of_selects (args := #[]) (mvT hZ (own_w hw 158 rfl))) (own_w hw 158 rfl) (own_w hw 157 rfl) (by decide) (fun s' hZ => OwnN.Ct.bk (rmSL l Z a0 hw [] a2 t2 k2 ds zS h0 n0 O11 E2 C2 V2 B2 S0 P0) hZ (own_w hw 159 rfl) (own_w hw 2 rfl) (by decide) (by decide)) E2 hml.symm (lenOf pd_13 rfl) rfl (Nat.le_of_ble_eq_true rfl) rfl (by decide) (by decide) ?_
  rintro v12 rfl
  refine OwnN.Go.sp (g' := (mkF m 16 #[.val (.ref a1), .val (.ref a2), .val (.int (Int32.ofNat ds.length))] [(.ref a1), (.ref a1)])) (fun T A t r => XS.istoreN A hx rfl (hb hby q28_13) rfl (l' := #[.val (.ref a1), .val (.ref a2), .val (.int (Int32.ofNat ds.length))]) rfl (XS.aloadN A hx rfl (hb hby q28_14) rfl rfl (XS.aloadN A hx rfl (hb hby q28_15) rfl rfl r))) ?_
  refine OwnN.Go.v (g' := (mkF m 19 #[.val (.ref a1), .val (.ref a2), .val (.int (Int32.ofNat ds.length))] [(.int (Int32.ofNat cs.length)), (.ref a1)])) (fun s' T L_ X eT hZ hown => getF X hx hZ hown (host := "") (Or.inl (own_w hw 165 rfl)) Via.refl eT N1 (g := (mkF m 16 #[.val (.ref a1), .val (.ref a2), .val (.int (Int32.ofNat ds.length))] [(.ref a1), (.ref a1)])) rfl rfl (hb hby q28_16)) ?_
  refine OwnN.Go.sp (g' := (mkF m 21 #[.val (.ref a1), .val (.ref a2), .val (.int (Int32.ofNat ds.length))] [(.int ((Int32.ofNat cs.length) + (Int32.ofNat ds.length))), (.ref a1)])) (fun T A t r => XS.iloadN A hx rfl (hb hby q28_19) rfl (XS.iadd A hx rfl (hb hby q28_20) rfl r)) ?_
  refine OwnN.Go.cast (g' := (mkF m 21 #[.val (.ref a1), .val (.ref a2), .val (.int (Int32.ofNat ds.length))] [(.int 38), (.ref a1)])) (by rw [show ((Int32.ofNat cs.length) + (Int32.ofNat ds.length)) = (38 : Int32) from (by rw [hc, hd] <;> rfl)] <;> rfl) ?_
  refine OwnN.Go.keep fun KK13 => ?_
  refine OwnC.goN (k' := 1) (n' := 38) (OwnC.callerP (y := Y21) (a := a1) (W := 0) (argsL := [(.int 38)]) (rest := []) (pc' := 24) (rc := 1) (rs := 38) (ws' := [a1]) hx (hb hby q28_21) (own_w hw 167 rfl) (own_w hw 169 rfl) (own_w hw 170 rfl) (own_w hw 168 rfl) (own_w hw 171 rfl) (by decide) (fun s' hZ => OwnN.Ct.bk (rmEC10 l Z a0 hw [] a1 t1 k1 cs h0 n0 O11 g_a1 E1 V1 C1 N1 B1 (by omega)) hZ (own_w hw 171 rfl) (own_w hw 128 rfl) (by decide) (by decide)) E1 hml.symm (lenOf pd_5 rfl) rfl (Nat.le_of_ble_eq_true rfl) rfl (by decide) (by decide)) rfl rfl (allS (Or.inl (List.mem_of_getElem? (i := 0) rfl)) all0) ?_
  rintro v14 h14 K14 ⟨t14, kb14, rfl, ge14, V14, C14, N14, B14⟩
  refine OwnN.Go.sp (g' := (mkF m 26 #[.val (.ref a1), .val (.ref a2), .val (.int (Int32.ofNat ds.length))] [(.ref a1), (.ref a1)])) (fun T A t r => XS.aloadN A hx rfl (hb hby q28_24) rfl rfl (XS.aloadN A hx rfl (hb hby q28_25) rfl rfl r)) ?_
  refine OwnN.Go.v (g' := (mkF m 29 #[.val (.ref a1), .val (.ref a2), .val (.int (Int32.ofNat ds.length))] [(.int (Int32.ofNat cs.length)), (.ref a1)])) (fun s' T L_ X eT hZ hown => getF X hx hZ hown (host := "") (Or.inl (own_w hw 165 rfl)) Via.refl eT N14 (g := (mkF m 26 #[.val (.ref a1), .val (.ref a2), .val (.int (Int32.ofNat ds.length))] [(.ref a1), (.ref a1)])) rfl rfl (hb hby q28_26)) ?_
  refine OwnN.Go.sp (g' := (mkF m 30 #[.val (.ref a1), .val (.ref a2), .val (.int (Int32.ofNat ds.length))] [(.ref a2), (.int (Int32.ofNat cs.length)), (.ref a1)])) (fun T A t r => XS.aloadN A hx rfl (hb hby q28_29) rfl rfl r) ?_
  refine OwnN.Go.old fun O15 => ?_
  have f16 := (E1.keep K14)
  have f17 := (E2.keep K14)
  have ne18 : a2 ≠ a1 := ne_exa E2 E1 (by decide)
  have f19 := (C2.keep K14 (ninS ne18 nin0))
  have f20 := (V2.keep K14 (ninS ne18 nin0))
  have ne21 : a1 ≠ t2 := Exa.neArv E1 B2 (own_w hw 119 rfl)
  have f22 := (B2.keep K14 (ninS (Ne.symm ne21) nin0))
  refine OwnC.goN (k' := 1) (n' := 38) (OwnC.callerP (y := Y22) (a := a1) (W := 0) (argsL := [(.int (Int32.ofNat cs.length)), (.ref a2)]) (rest := []) (pc' := 33) (rc := 0) (rs := 0) (ws' := [t14]) hx (hb hby q28_30) (own_w hw 172 rfl) (own_w hw 174 rfl) (own_w hw 175 rfl) (own_w hw 173 rfl) (own_w hw 176 rfl) (by decide) (fun s' hZ => OwnN.Ct.bk (rmPS l Z a0 hw [] a1 t14 kb14 38 cs a2 t2 k2 ds zS h14 n0 O15 (Nat.le_trans (Old.le O0) (Nat.le_trans KK13.1 ge14)) f16 V14 C14 N14 B14 f17 f19 f20 f22 (by omega) (by decide) S0 P0) hZ (own_w hw 176 rfl) (own_w hw 128 rfl) (by decide) (by decide)) f16 hml.symm (lenOf pd_14 rfl) rfl (Nat.le_of_ble_eq_true rfl) rfl (by decide) (by decide)) rfl rfl (allS (Or.inr (Nat.le_trans KK13.1 ge14)) all0) ?_
  rintro v23 h23 K23 ⟨rfl, B23⟩
  refine OwnN.Go.sp (g' := (mkF m 35 #[.val (.ref a1), .val (.ref a2), .val (.int (Int32.ofNat ds.length))] [(.ref a1), (.ref a1)])) (fun T A t r => XS.aloadN A hx rfl (hb hby q28_33) rfl rfl (XS.dup A hx rfl (hb hby q28_34) rfl rfl r)) ?_
  have ne24 : a1 ≠ t14 := Nat.ne_of_lt (Nat.lt_of_lt_of_le E1.lt ge14)
  have f25 := (N14.keep K23 (ninS ne24 nin0))
  refine OwnN.Go.v (g' := (mkF m 38 #[.val (.ref a1), .val (.ref a2), .val (.int (Int32.ofNat ds.length))] [(.int (Int32.ofNat cs.length)), (.ref a1)])) (fun s' T L_ X eT hZ hown => getF X hx hZ hown (host := "") (Or.inl (own_w hw 165 rfl)) Via.refl eT f25 (g := (mkF m 35 #[.val (.ref a1), .val (.ref a2), .val (.int (Int32.ofNat ds.length))] [(.ref a1), (.ref a1)])) rfl rfl (hb hby q28_35)) ?_
  refine OwnN.Go.sp (g' := (mkF m 40 #[.val (.ref a1), .val (.ref a2), .val (.int (Int32.ofNat ds.length))] [(.int ((Int32.ofNat cs.length) + (Int32.ofNat ds.length))), (.ref a1)])) (fun T A t r => XS.iloadN A hx rfl (hb hby q28_38) rfl (XS.iadd A hx rfl (hb hby q28_39) rfl r)) ?_
  refine OwnN.Go.cast (g' := (mkF m 40 #[.val (.ref a1), .val (.ref a2), .val (.int (Int32.ofNat ds.length))] [(.int (Int32.ofNat (cs ++ ds).length)), (.ref a1)])) (by rw [show ((Int32.ofNat cs.length) + (Int32.ofNat ds.length)) = (Int32.ofNat (cs ++ ds).length) from own_addL cs ds] <;> rfl) ?_
  have f26 := (f16.keep K23)
  refine OwnN.Go.w (g' := (mkF m 43 #[.val (.ref a1), .val (.ref a2), .val (.int (Int32.ofNat ds.length))] [])) (fun s' T L_ X eT hZ hown => putF X hx hZ hown (host := "") (Or.inl (own_w hw 165 rfl)) Via.refl eT f25 f26 (Or.inl (own_w hw 166 rfl)) (own_w hw 119 rfl) (ty := .int) (by decide) rfl rfl (g := (mkF m 40 #[.val (.ref a1), .val (.ref a2), .val (.int (Int32.ofNat ds.length))] [(.int (Int32.ofNat (cs ++ ds).length)), (.ref a1)])) rfl rfl (hb hby q28_40)) (Or.inl (List.mem_of_getElem? (i := 0) rfl)) ?_
  intro h28 W28
  have F28 := f25.same W28
  refine OwnN.Go.sp (g' := (mkF m 44 #[.val (.ref a1), .val (.ref a2), .val (.int (Int32.ofNat ds.length))] [(.ref a1)])) (fun T A t r => XS.aloadN A hx rfl (hb hby q28_43) rfl rfl r) ?_
  have f29 := ((V14.keep K23 (ninS ne24 nin0)).other W28 (Or.inr (slot_ne (Or.inl (own_w hw 133 rfl)) (Or.inl (own_w hw 166 rfl)) (by decide) (t := (.array .byte)) (t' := .int) (by decide) (by decide))))
  have f30 := ((C14.keep K23 (ninS ne24 nin0)).other W28 (Or.inr (slot_ne (Or.inl (own_w hw 135 rfl)) (Or.inl (own_w hw 166 rfl)) (by decide) (t := .byte) (t' := .int) (by decide) (by decide))))
  have f31 := (B23.other W28 (Ne.symm ne24))
  exact OwnN.Go.ret (v := (some (.ref a1))) (fun s' T L_ fs X hr => own_retR X hx hret rfl rfl (hb hby q28_44) hr) (fun h => by rw [hret] at h; cases h) (by decide) (by decide) ⟨_, _, rfl, (Nat.le_trans KK13.1 ge14), f29, f30, F28, f31⟩
theorem rmBg0 (l : Launch) (Z : State) (a0 : Array Value) (hw : own_T a0 Z) (wds : List Jvm.Cond) (a1 : Addr) (t1 : Addr) (k1 : ClassId) (cs : List Int32) (a2 : Addr) (t2 : Addr) (k2 : ClassId) (ds : List Int32) (zS : Int32) (h0 : Heap) (n0 : Nat) (O0 : Old Z n0 h0) (g_a1 : n0 ≤ a1) (E1 : Exa Z h0 a1 "java/lang/StringBuilder") (V1 : Fld Z h0 a1 "java/lang/AbstractStringBuilder" "value" "[B" (.ref t1)) (C1 : Fld Z h0 a1 "java/lang/AbstractStringBuilder" "coder" "B" (.int 0)) (N1 : Fld Z h0 a1 "java/lang/AbstractStringBuilder" "count" "I" (.int (Int32.ofNat cs.length))) (B1 : Arv Z h0 t1 k1 .byte (16 : Int32) (own_B cs) (.int 0)) (E2 : Exa Z h0 a2 "java/lang/String") (C2 : Fld Z h0 a2 "java/lang/String" "coder" "B" (.int 0)) (V2 : Fld Z h0 a2 "java/lang/String" "value" "[B" (.ref t2)) (B2 : Arv Z h0 t2 k2 .byte (Int32.ofNat ds.length) (own_B ds) (.int 0)) (hc : cs.length = 0) (hd : ds.length = 38) (S0 : Sta Z Z.heap "java/lang/String" "COMPACT_STRINGS" "Z" (.int zS)) (P0 : ¬ zS = (0 : Int32)) :
    OwnN.Ct l Z Y65 jdk_67_method_7_code 2 (some (.object "java/lang/StringBuilder")) wds (⟨5, 1, 38, 83⟩ : Room) #[(.ref a1), (.ref a2)] n0 h0 [a1] (fun v h => ∃ (t : Addr) (kb : ClassId), v = some (.ref a1) ∧ h0.size ≤ t ∧ Fld Z h a1 "java/lang/AbstractStringBuilder" "value" "[B" (.ref t) ∧ Fld Z h a1 "java/lang/AbstractStringBuilder" "coder" "B" (.int 0) ∧ Fld Z h a1 "java/lang/AbstractStringBuilder" "count" "I" (.int (Int32.ofNat (cs ++ ds).length)) ∧ Arv Z h t kb .byte (38 : Int32) (own_B (cs ++ ds)) (.int 0)) := by
  refine OwnN.Ct.of (plainFor_of_name pn_java_lang_StringBuilder) O0 (allS g_a1 all0) ?_
  intro p e s m below meth c hx hby hml hret hnm
  refine OwnN.Go.cast (ef_RR_2 m a1 a2) ?_
  refine OwnN.Go.sp (g' := (mkF m 2 #[.val (.ref a1), .val (.ref a2)] [(.ref a2), (.ref a1)])) (fun T A t r => XS.aloadN A hx rfl (hb hby q29_0) rfl rfl (XS.aloadN A hx rfl (hb hby q29_1) rfl rfl r)) ?_
  refine OwnN.Go.old fun O11 => ?_
  refine OwnC.goN (k' := 1) (n' := 38) (OwnC.callerU (y := Y23) (a := a1) (W := 0) (argsL := [(.ref a2)]) (rest := []) (pc' := 5) (rc := 1) (rs := 38) (ws' := [a1]) hx (hb hby q29_2) (own_w hw 150 rfl) (own_w hw 170 rfl) rfl (own_w hw 151 rfl) (own_w hw 152 rfl) (own_w hw 154 rfl) (by decide) (by decide) (fun s' hZ => OwnN.Ct.bk (rmAg0 l Z a0 hw [] a1 t1 k1 cs a2 t2 k2 ds zS h0 n0 O11 g_a1 E1 V1 C1 N1 B1 E2 C2 V2 B2 hc hd S0 P0) hZ (own_w hw 154 rfl) (own_w hw 128 rfl) (by decide) (by decide)) E1 hml.symm (lenOf pd_15 rfl) rfl (Nat.le_of_ble_eq_true rfl) rfl (by decide) (by decide)) rfl rfl (allS (Or.inl (List.mem_of_getElem? (i := 0) rfl)) all0) ?_
  rintro v12 h12 K12 ⟨t12, kb12, rfl, ge12, V12, C12, N12, B12⟩
  refine OwnN.Go.sp (g' := (mkF m 7 #[.val (.ref a1), .val (.ref a2)] [(.ref a1)])) (fun T A t r => XS.pop A hx rfl (hb hby q29_5) rfl rfl (XS.aloadN A hx rfl (hb hby q29_6) rfl rfl r)) ?_
  exact OwnN.Go.ret (v := (some (.ref a1))) (fun s' T L_ fs X hr => own_retR X hx hret rfl rfl (hb hby q29_7) hr) (fun h => by rw [hret] at h; cases h) (by decide) (by decide) ⟨_, _, rfl, ge12, V12, C12, N12, B12⟩
theorem rmAg1 (l : Launch) (Z : State) (a0 : Array Value) (hw : own_T a0 Z) (wds : List Jvm.Cond) (a1 : Addr) (t1 : Addr) (k1 : ClassId) (cs : List Int32) (a2 : Addr) (t2 : Addr) (k2 : ClassId) (ds : List Int32) (zS : Int32) (h0 : Heap) (n0 : Nat) (O0 : Old Z n0 h0) (g_a1 : n0 ≤ a1) (E1 : Exa Z h0 a1 "java/lang/StringBuilder") (V1 : Fld Z h0 a1 "java/lang/AbstractStringBuilder" "value" "[B" (.ref t1)) (C1 : Fld Z h0 a1 "java/lang/AbstractStringBuilder" "coder" "B" (.int 0)) (N1 : Fld Z h0 a1 "java/lang/AbstractStringBuilder" "count" "I" (.int (Int32.ofNat cs.length))) (B1 : Arv Z h0 t1 k1 .byte (38 : Int32) (own_B cs) (.int 0)) (E2 : Exa Z h0 a2 "java/lang/String") (C2 : Fld Z h0 a2 "java/lang/String" "coder" "B" (.int 0)) (V2 : Fld Z h0 a2 "java/lang/String" "value" "[B" (.ref t2)) (B2 : Arv Z h0 t2 k2 .byte (Int32.ofNat ds.length) (own_B ds) (.int 0)) (hc : cs.length = 38) (hd : ds.length = 1) (S0 : Sta Z Z.heap "java/lang/String" "COMPACT_STRINGS" "Z" (.int zS)) (P0 : ¬ zS = (0 : Int32)) :
    OwnN.Ct l Z Y23 jdk_68_method_22_code 3 (some (.object "java/lang/AbstractStringBuilder")) wds (⟨4, 1, 78, 69⟩ : Room) #[(.ref a1), (.ref a2)] n0 h0 [a1] (fun v h => ∃ (t : Addr) (kb : ClassId), v = some (.ref a1) ∧ h0.size ≤ t ∧ Fld Z h a1 "java/lang/AbstractStringBuilder" "value" "[B" (.ref t) ∧ Fld Z h a1 "java/lang/AbstractStringBuilder" "coder" "B" (.int 0) ∧ Fld Z h a1 "java/lang/AbstractStringBuilder" "count" "I" (.int (Int32.ofNat (cs ++ ds).length)) ∧ Arv Z h t kb .byte (78 : Int32) (own_B (cs ++ ds)) (.int 0)) := by
  refine OwnN.Ct.of (plainFor_of_name pn_java_lang_AbstractStringBuilder) O0 (allS g_a1 all0) ?_
  intro p e s m below meth c hx hby hml hret hnm
  refine OwnN.Go.cast (ef_RR_3 m a1 a2) ?_
  refine OwnN.Go.sp (g' := (mkF m 10 #[.val (.ref a1), .val (.ref a2), .unset] [(.ref a2)])) (fun T A t r => XS.aloadN A hx rfl (hb hby q28_0) rfl rfl (XS.ifnonnullYes A hx rfl (pc0 := 1) (pc' := 9) rfl (hb hby q28_1) rfl (by decide) (by decide) (XS.aloadN A hx rfl (hb hby q28_9) rfl rfl r))) ?_
  refine OwnN.Go.old fun O11 => ?_
  refine OwnN.Go.callVP (a := a2) (z := Y20) (W := 0) (y := Y20) (argsL := []) (rest := []) (pc' := 13) (hb hby q28_10) (own_w hw 155 rfl) (own_w hw 156 rfl) (fun s' hZ => notFace_of_selects (args := #[]) (mvT hZ (own_w hw 158 rfl))) (own_w hw 158 rfl) (own_w hw 157 rfl) (by decide) (fun s' hZ => OwnN.Ct.bk (rmSL l Z a0 hw [] a2 t2 k2 ds zS h0 n0 O11 E2 C2 V2 B2 S0 P0) hZ (own_w hw 159 rfl) (own_w hw 2 rfl) (by decide) (by decide)) E2 hml.symm (lenOf pd_13 rfl) rfl (Nat.le_of_ble_eq_true rfl) rfl (by decide) (by decide) ?_
  rintro v12 rfl
  refine OwnN.Go.sp (g' := (mkF m 16 #[.val (.ref a1), .val (.ref a2), .val (.int (Int32.ofNat ds.length))] [(.ref a1), (.ref a1)])) (fun T A t r => XS.istoreN A hx rfl (hb hby q28_13) rfl (l' := #[.val (.ref a1), .val (.ref a2), .val (.int (Int32.ofNat ds.length))]) rfl (XS.aloadN A hx rfl (hb hby q28_14) rfl rfl (XS.aloadN A hx rfl (hb hby q28_15) rfl rfl r))) ?_
  refine OwnN.Go.v (g' := (mkF m 19 #[.val (.ref a1), .val (.ref a2), .val (.int (Int32.ofNat ds.length))] [(.int (Int32.ofNat cs.length)), (.ref a1)])) (fun s' T L_ X eT hZ hown => getF X hx hZ hown (host := "") (Or.inl (own_w hw 165 rfl)) Via.refl eT N1 (g := (mkF m 16 #[.val (.ref a1), .val (.ref a2), .val (.int (Int32.ofNat ds.length))] [(.ref a1), (.ref a1)])) rfl rfl (hb hby q28_16)) ?_
  refine OwnN.Go.sp (g' := (mkF m 21 #[.val (.ref a1), .val (.ref a2), .val (.int (Int32.ofNat ds.length))] [(.int ((Int32.ofNat cs.length) + (Int32.ofNat ds.length))), (.ref a1)])) (fun T A t r => XS.iloadN A hx rfl (hb hby q28_19) rfl (XS.iadd A hx rfl (hb hby q28_20) rfl r)) ?_
  refine OwnN.Go.cast (g' := (mkF m 21 #[.val (.ref a1), .val (.ref a2), .val (.int (Int32.ofNat ds.length))] [(.int 39), (.ref a1)])) (by rw [show ((Int32.ofNat cs.length) + (Int32.ofNat ds.length)) = (39 : Int32) from (by rw [hc, hd] <;> rfl)] <;> rfl) ?_
  refine OwnN.Go.keep fun KK13 => ?_
  refine OwnC.goN (k' := 1) (n' := 78) (OwnC.callerP (y := Y21) (a := a1) (W := 0) (argsL := [(.int 39)]) (rest := []) (pc' := 24) (rc := 1) (rs := 78) (ws' := [a1]) hx (hb hby q28_21) (own_w hw 167 rfl) (own_w hw 169 rfl) (own_w hw 170 rfl) (own_w hw 168 rfl) (own_w hw 171 rfl) (by decide) (fun s' hZ => OwnN.Ct.bk (rmEC11 l Z a0 hw [] a1 t1 k1 cs h0 n0 O11 g_a1 E1 V1 C1 N1 B1 (by omega)) hZ (own_w hw 171 rfl) (own_w hw 128 rfl) (by decide) (by decide)) E1 hml.symm (lenOf pd_5 rfl) rfl (Nat.le_of_ble_eq_true rfl) rfl (by decide) (by decide)) rfl rfl (allS (Or.inl (List.mem_of_getElem? (i := 0) rfl)) all0) ?_
  rintro v14 h14 K14 ⟨t14, kb14, rfl, ge14, V14, C14, N14, B14⟩
  refine OwnN.Go.sp (g' := (mkF m 26 #[.val (.ref a1), .val (.ref a2), .val (.int (Int32.ofNat ds.length))] [(.ref a1), (.ref a1)])) (fun T A t r => XS.aloadN A hx rfl (hb hby q28_24) rfl rfl (XS.aloadN A hx rfl (hb hby q28_25) rfl rfl r)) ?_
  refine OwnN.Go.v (g' := (mkF m 29 #[.val (.ref a1), .val (.ref a2), .val (.int (Int32.ofNat ds.length))] [(.int (Int32.ofNat cs.length)), (.ref a1)])) (fun s' T L_ X eT hZ hown => getF X hx hZ hown (host := "") (Or.inl (own_w hw 165 rfl)) Via.refl eT N14 (g := (mkF m 26 #[.val (.ref a1), .val (.ref a2), .val (.int (Int32.ofNat ds.length))] [(.ref a1), (.ref a1)])) rfl rfl (hb hby q28_26)) ?_
  refine OwnN.Go.sp (g' := (mkF m 30 #[.val (.ref a1), .val (.ref a2), .val (.int (Int32.ofNat ds.length))] [(.ref a2), (.int (Int32.ofNat cs.length)), (.ref a1)])) (fun T A t r => XS.aloadN A hx rfl (hb hby q28_29) rfl rfl r) ?_
  refine OwnN.Go.old fun O15 => ?_
  have f16 := (E1.keep K14)
  have f17 := (E2.keep K14)
  have ne18 : a2 ≠ a1 := ne_exa E2 E1 (by decide)
  have f19 := (C2.keep K14 (ninS ne18 nin0))
  have f20 := (V2.keep K14 (ninS ne18 nin0))
  have ne21 : a1 ≠ t2 := Exa.neArv E1 B2 (own_w hw 119 rfl)
  have f22 := (B2.keep K14 (ninS (Ne.symm ne21) nin0))
  refine OwnC.goN (k' := 1) (n' := 78) (OwnC.callerP (y := Y22) (a := a1) (W := 0) (argsL := [(.int (Int32.ofNat cs.length)), (.ref a2)]) (rest := []) (pc' := 33) (rc := 0) (rs := 0) (ws' := [t14]) hx (hb hby q28_30) (own_w hw 172 rfl) (own_w hw 174 rfl) (own_w hw 175 rfl) (own_w hw 173 rfl) (own_w hw 176 rfl) (by decide) (fun s' hZ => OwnN.Ct.bk (rmPS l Z a0 hw [] a1 t14 kb14 78 cs a2 t2 k2 ds zS h14 n0 O15 (Nat.le_trans (Old.le O0) (Nat.le_trans KK13.1 ge14)) f16 V14 C14 N14 B14 f17 f19 f20 f22 (by omega) (by decide) S0 P0) hZ (own_w hw 176 rfl) (own_w hw 128 rfl) (by decide) (by decide)) f16 hml.symm (lenOf pd_14 rfl) rfl (Nat.le_of_ble_eq_true rfl) rfl (by decide) (by decide)) rfl rfl (allS (Or.inr (Nat.le_trans KK13.1 ge14)) all0) ?_
  rintro v23 h23 K23 ⟨rfl, B23⟩
  refine OwnN.Go.sp (g' := (mkF m 35 #[.val (.ref a1), .val (.ref a2), .val (.int (Int32.ofNat ds.length))] [(.ref a1), (.ref a1)])) (fun T A t r => XS.aloadN A hx rfl (hb hby q28_33) rfl rfl (XS.dup A hx rfl (hb hby q28_34) rfl rfl r)) ?_
  have ne24 : a1 ≠ t14 := Nat.ne_of_lt (Nat.lt_of_lt_of_le E1.lt ge14)
  have f25 := (N14.keep K23 (ninS ne24 nin0))
  refine OwnN.Go.v (g' := (mkF m 38 #[.val (.ref a1), .val (.ref a2), .val (.int (Int32.ofNat ds.length))] [(.int (Int32.ofNat cs.length)), (.ref a1)])) (fun s' T L_ X eT hZ hown => getF X hx hZ hown (host := "") (Or.inl (own_w hw 165 rfl)) Via.refl eT f25 (g := (mkF m 35 #[.val (.ref a1), .val (.ref a2), .val (.int (Int32.ofNat ds.length))] [(.ref a1), (.ref a1)])) rfl rfl (hb hby q28_35)) ?_
  refine OwnN.Go.sp (g' := (mkF m 40 #[.val (.ref a1), .val (.ref a2), .val (.int (Int32.ofNat ds.length))] [(.int ((Int32.ofNat cs.length) + (Int32.ofNat ds.length))), (.ref a1)])) (fun T A t r => XS.iloadN A hx rfl (hb hby q28_38) rfl (XS.iadd A hx rfl (hb hby q28_39) rfl r)) ?_
  refine OwnN.Go.cast (g' := (mkF m 40 #[.val (.ref a1), .val (.ref a2), .val (.int (Int32.ofNat ds.length))] [(.int (Int32.ofNat (cs ++ ds).length)), (.ref a1)])) (by rw [show ((Int32.ofNat cs.length) + (Int32.ofNat ds.length)) = (Int32.ofNat (cs ++ ds).length) from own_addL cs ds] <;> rfl) ?_
  have f26 := (f16.keep K23)
  refine OwnN.Go.w (g' := (mkF m 43 #[.val (.ref a1), .val (.ref a2), .val (.int (Int32.ofNat ds.length))] [])) (fun s' T L_ X eT hZ hown => putF X hx hZ hown (host := "") (Or.inl (own_w hw 165 rfl)) Via.refl eT f25 f26 (Or.inl (own_w hw 166 rfl)) (own_w hw 119 rfl) (ty := .int) (by decide) rfl rfl (g := (mkF m 40 #[.val (.ref a1), .val (.ref a2), .val (.int (Int32.ofNat ds.length))] [(.int (Int32.ofNat (cs ++ ds).length)), (.ref a1)])) rfl rfl (hb hby q28_40)) (Or.inl (List.mem_of_getElem? (i := 0) rfl)) ?_
  intro h28 W28
  have F28 := f25.same W28
  refine OwnN.Go.sp (g' := (mkF m 44 #[.val (.ref a1), .val (.ref a2), .val (.int (Int32.ofNat ds.length))] [(.ref a1)])) (fun T A t r => XS.aloadN A hx rfl (hb hby q28_43) rfl rfl r) ?_
  have f29 := ((V14.keep K23 (ninS ne24 nin0)).other W28 (Or.inr (slot_ne (Or.inl (own_w hw 133 rfl)) (Or.inl (own_w hw 166 rfl)) (by decide) (t := (.array .byte)) (t' := .int) (by decide) (by decide))))
  have f30 := ((C14.keep K23 (ninS ne24 nin0)).other W28 (Or.inr (slot_ne (Or.inl (own_w hw 135 rfl)) (Or.inl (own_w hw 166 rfl)) (by decide) (t := .byte) (t' := .int) (by decide) (by decide))))
  have f31 := (B23.other W28 (Ne.symm ne24))
  exact OwnN.Go.ret (v := (some (.ref a1))) (fun s' T L_ fs X hr => own_retR X hx hret rfl rfl (hb hby q28_44) hr) (fun h => by rw [hret] at h; cases h) (by decide) (by decide) ⟨_, _, rfl, (Nat.le_trans KK13.1 ge14), f29, f30, F28, f31⟩
theorem rmBg1 (l : Launch) (Z : State) (a0 : Array Value) (hw : own_T a0 Z) (wds : List Jvm.Cond) (a1 : Addr) (t1 : Addr) (k1 : ClassId) (cs : List Int32) (a2 : Addr) (t2 : Addr) (k2 : ClassId) (ds : List Int32) (zS : Int32) (h0 : Heap) (n0 : Nat) (O0 : Old Z n0 h0) (g_a1 : n0 ≤ a1) (E1 : Exa Z h0 a1 "java/lang/StringBuilder") (V1 : Fld Z h0 a1 "java/lang/AbstractStringBuilder" "value" "[B" (.ref t1)) (C1 : Fld Z h0 a1 "java/lang/AbstractStringBuilder" "coder" "B" (.int 0)) (N1 : Fld Z h0 a1 "java/lang/AbstractStringBuilder" "count" "I" (.int (Int32.ofNat cs.length))) (B1 : Arv Z h0 t1 k1 .byte (38 : Int32) (own_B cs) (.int 0)) (E2 : Exa Z h0 a2 "java/lang/String") (C2 : Fld Z h0 a2 "java/lang/String" "coder" "B" (.int 0)) (V2 : Fld Z h0 a2 "java/lang/String" "value" "[B" (.ref t2)) (B2 : Arv Z h0 t2 k2 .byte (Int32.ofNat ds.length) (own_B ds) (.int 0)) (hc : cs.length = 38) (hd : ds.length = 1) (S0 : Sta Z Z.heap "java/lang/String" "COMPACT_STRINGS" "Z" (.int zS)) (P0 : ¬ zS = (0 : Int32)) :
    OwnN.Ct l Z Y65 jdk_67_method_7_code 2 (some (.object "java/lang/StringBuilder")) wds (⟨5, 1, 78, 83⟩ : Room) #[(.ref a1), (.ref a2)] n0 h0 [a1] (fun v h => ∃ (t : Addr) (kb : ClassId), v = some (.ref a1) ∧ h0.size ≤ t ∧ Fld Z h a1 "java/lang/AbstractStringBuilder" "value" "[B" (.ref t) ∧ Fld Z h a1 "java/lang/AbstractStringBuilder" "coder" "B" (.int 0) ∧ Fld Z h a1 "java/lang/AbstractStringBuilder" "count" "I" (.int (Int32.ofNat (cs ++ ds).length)) ∧ Arv Z h t kb .byte (78 : Int32) (own_B (cs ++ ds)) (.int 0)) := by
  refine OwnN.Ct.of (plainFor_of_name pn_java_lang_StringBuilder) O0 (allS g_a1 all0) ?_
  intro p e s m below meth c hx hby hml hret hnm
  refine OwnN.Go.cast (ef_RR_2 m a1 a2) ?_
  refine OwnN.Go.sp (g' := (mkF m 2 #[.val (.ref a1), .val (.ref a2)] [(.ref a2), (.ref a1)])) (fun T A t r => XS.aloadN A hx rfl (hb hby q29_0) rfl rfl (XS.aloadN A hx rfl (hb hby q29_1) rfl rfl r)) ?_
  refine OwnN.Go.old fun O11 => ?_
  refine OwnC.goN (k' := 1) (n' := 78) (OwnC.callerU (y := Y23) (a := a1) (W := 0) (argsL := [(.ref a2)]) (rest := []) (pc' := 5) (rc := 1) (rs := 78) (ws' := [a1]) hx (hb hby q29_2) (own_w hw 150 rfl) (own_w hw 170 rfl) rfl (own_w hw 151 rfl) (own_w hw 152 rfl) (own_w hw 154 rfl) (by decide) (by decide) (fun s' hZ => OwnN.Ct.bk (rmAg1 l Z a0 hw [] a1 t1 k1 cs a2 t2 k2 ds zS h0 n0 O11 g_a1 E1 V1 C1 N1 B1 E2 C2 V2 B2 hc hd S0 P0) hZ (own_w hw 154 rfl) (own_w hw 128 rfl) (by decide) (by decide)) E1 hml.symm (lenOf pd_15 rfl) rfl (Nat.le_of_ble_eq_true rfl) rfl (by decide) (by decide)) rfl rfl (allS (Or.inl (List.mem_of_getElem? (i := 0) rfl)) all0) ?_
  rintro v12 h12 K12 ⟨t12, kb12, rfl, ge12, V12, C12, N12, B12⟩
  refine OwnN.Go.sp (g' := (mkF m 7 #[.val (.ref a1), .val (.ref a2)] [(.ref a1)])) (fun T A t r => XS.pop A hx rfl (hb hby q29_5) rfl rfl (XS.aloadN A hx rfl (hb hby q29_6) rfl rfl r)) ?_
  exact OwnN.Go.ret (v := (some (.ref a1))) (fun s' T L_ fs X hr => own_retR X hx hret rfl rfl (hb hby q29_7) hr) (fun h => by rw [hret] at h; cases h) (by decide) (by decide) ⟨_, _, rfl, ge12, V12, C12, N12, B12⟩
theorem rmAg2 (l : Launch) (Z : State) (a0 : Array Value) (hw : own_T a0 Z) (wds : List Jvm.Cond) (a1 : Addr) (t1 : Addr) (k1 : ClassId) (cs : List Int32) (a2 : Addr) (t2 : Addr) (k2 : ClassId) (ds : List Int32) (zS : Int32) (h0 : Heap) (n0 : Nat) (O0 : Old Z n0 h0) (g_a1 : n0 ≤ a1) (E1 : Exa Z h0 a1 "java/lang/StringBuilder") (V1 : Fld Z h0 a1 "java/lang/AbstractStringBuilder" "value" "[B" (.ref t1)) (C1 : Fld Z h0 a1 "java/lang/AbstractStringBuilder" "coder" "B" (.int 0)) (N1 : Fld Z h0 a1 "java/lang/AbstractStringBuilder" "count" "I" (.int (Int32.ofNat cs.length))) (B1 : Arv Z h0 t1 k1 .byte (78 : Int32) (own_B cs) (.int 0)) (E2 : Exa Z h0 a2 "java/lang/String") (C2 : Fld Z h0 a2 "java/lang/String" "coder" "B" (.int 0)) (V2 : Fld Z h0 a2 "java/lang/String" "value" "[B" (.ref t2)) (B2 : Arv Z h0 t2 k2 .byte (Int32.ofNat ds.length) (own_B ds) (.int 0)) (hc : cs.length = 39) (hd : ds.length = 58) (S0 : Sta Z Z.heap "java/lang/String" "COMPACT_STRINGS" "Z" (.int zS)) (P0 : ¬ zS = (0 : Int32)) :
    OwnN.Ct l Z Y23 jdk_68_method_22_code 3 (some (.object "java/lang/AbstractStringBuilder")) wds (⟨4, 1, 158, 69⟩ : Room) #[(.ref a1), (.ref a2)] n0 h0 [a1] (fun v h => ∃ (t : Addr) (kb : ClassId), v = some (.ref a1) ∧ h0.size ≤ t ∧ Fld Z h a1 "java/lang/AbstractStringBuilder" "value" "[B" (.ref t) ∧ Fld Z h a1 "java/lang/AbstractStringBuilder" "coder" "B" (.int 0) ∧ Fld Z h a1 "java/lang/AbstractStringBuilder" "count" "I" (.int (Int32.ofNat (cs ++ ds).length)) ∧ Arv Z h t kb .byte (158 : Int32) (own_B (cs ++ ds)) (.int 0)) := by
  refine OwnN.Ct.of (plainFor_of_name pn_java_lang_AbstractStringBuilder) O0 (allS g_a1 all0) ?_
  intro p e s m below meth c hx hby hml hret hnm
  refine OwnN.Go.cast (ef_RR_3 m a1 a2) ?_
  refine OwnN.Go.sp (g' := (mkF m 10 #[.val (.ref a1), .val (.ref a2), .unset] [(.ref a2)])) (fun T A t r => XS.aloadN A hx rfl (hb hby q28_0) rfl rfl (XS.ifnonnullYes A hx rfl (pc0 := 1) (pc' := 9) rfl (hb hby q28_1) rfl (by decide) (by decide) (XS.aloadN A hx rfl (hb hby q28_9) rfl rfl r))) ?_
  refine OwnN.Go.old fun O11 => ?_
  refine OwnN.Go.callVP (a := a2) (z := Y20) (W := 0) (y := Y20) (argsL := []) (rest := []) (pc' := 13) (hb hby q28_10) (own_w hw 155 rfl) (own_w hw 156 rfl) (fun s' hZ => notFace_of_selects (args := #[]) (mvT hZ (own_w hw 158 rfl))) (own_w hw 158 rfl) (own_w hw 157 rfl) (by decide) (fun s' hZ => OwnN.Ct.bk (rmSL l Z a0 hw [] a2 t2 k2 ds zS h0 n0 O11 E2 C2 V2 B2 S0 P0) hZ (own_w hw 159 rfl) (own_w hw 2 rfl) (by decide) (by decide)) E2 hml.symm (lenOf pd_13 rfl) rfl (Nat.le_of_ble_eq_true rfl) rfl (by decide) (by decide) ?_
  rintro v12 rfl
  refine OwnN.Go.sp (g' := (mkF m 16 #[.val (.ref a1), .val (.ref a2), .val (.int (Int32.ofNat ds.length))] [(.ref a1), (.ref a1)])) (fun T A t r => XS.istoreN A hx rfl (hb hby q28_13) rfl (l' := #[.val (.ref a1), .val (.ref a2), .val (.int (Int32.ofNat ds.length))]) rfl (XS.aloadN A hx rfl (hb hby q28_14) rfl rfl (XS.aloadN A hx rfl (hb hby q28_15) rfl rfl r))) ?_
  refine OwnN.Go.v (g' := (mkF m 19 #[.val (.ref a1), .val (.ref a2), .val (.int (Int32.ofNat ds.length))] [(.int (Int32.ofNat cs.length)), (.ref a1)])) (fun s' T L_ X eT hZ hown => getF X hx hZ hown (host := "") (Or.inl (own_w hw 165 rfl)) Via.refl eT N1 (g := (mkF m 16 #[.val (.ref a1), .val (.ref a2), .val (.int (Int32.ofNat ds.length))] [(.ref a1), (.ref a1)])) rfl rfl (hb hby q28_16)) ?_
  refine OwnN.Go.sp (g' := (mkF m 21 #[.val (.ref a1), .val (.ref a2), .val (.int (Int32.ofNat ds.length))] [(.int ((Int32.ofNat cs.length) + (Int32.ofNat ds.length))), (.ref a1)])) (fun T A t r => XS.iloadN A hx rfl (hb hby q28_19) rfl (XS.iadd A hx rfl (hb hby q28_20) rfl r)) ?_
  refine OwnN.Go.cast (g' := (mkF m 21 #[.val (.ref a1), .val (.ref a2), .val (.int (Int32.ofNat ds.length))] [(.int 97), (.ref a1)])) (by rw [show ((Int32.ofNat cs.length) + (Int32.ofNat ds.length)) = (97 : Int32) from (by rw [hc, hd] <;> rfl)] <;> rfl) ?_
  refine OwnN.Go.keep fun KK13 => ?_
  refine OwnC.goN (k' := 1) (n' := 158) (OwnC.callerP (y := Y21) (a := a1) (W := 0) (argsL := [(.int 97)]) (rest := []) (pc' := 24) (rc := 1) (rs := 158) (ws' := [a1]) hx (hb hby q28_21) (own_w hw 167 rfl) (own_w hw 169 rfl) (own_w hw 170 rfl) (own_w hw 168 rfl) (own_w hw 171 rfl) (by decide) (fun s' hZ => OwnN.Ct.bk (rmEC12 l Z a0 hw [] a1 t1 k1 cs h0 n0 O11 g_a1 E1 V1 C1 N1 B1 (by omega)) hZ (own_w hw 171 rfl) (own_w hw 128 rfl) (by decide) (by decide)) E1 hml.symm (lenOf pd_5 rfl) rfl (Nat.le_of_ble_eq_true rfl) rfl (by decide) (by decide)) rfl rfl (allS (Or.inl (List.mem_of_getElem? (i := 0) rfl)) all0) ?_
  rintro v14 h14 K14 ⟨t14, kb14, rfl, ge14, V14, C14, N14, B14⟩
  refine OwnN.Go.sp (g' := (mkF m 26 #[.val (.ref a1), .val (.ref a2), .val (.int (Int32.ofNat ds.length))] [(.ref a1), (.ref a1)])) (fun T A t r => XS.aloadN A hx rfl (hb hby q28_24) rfl rfl (XS.aloadN A hx rfl (hb hby q28_25) rfl rfl r)) ?_
  refine OwnN.Go.v (g' := (mkF m 29 #[.val (.ref a1), .val (.ref a2), .val (.int (Int32.ofNat ds.length))] [(.int (Int32.ofNat cs.length)), (.ref a1)])) (fun s' T L_ X eT hZ hown => getF X hx hZ hown (host := "") (Or.inl (own_w hw 165 rfl)) Via.refl eT N14 (g := (mkF m 26 #[.val (.ref a1), .val (.ref a2), .val (.int (Int32.ofNat ds.length))] [(.ref a1), (.ref a1)])) rfl rfl (hb hby q28_26)) ?_
  refine OwnN.Go.sp (g' := (mkF m 30 #[.val (.ref a1), .val (.ref a2), .val (.int (Int32.ofNat ds.length))] [(.ref a2), (.int (Int32.ofNat cs.length)), (.ref a1)])) (fun T A t r => XS.aloadN A hx rfl (hb hby q28_29) rfl rfl r) ?_
  refine OwnN.Go.old fun O15 => ?_
  have f16 := (E1.keep K14)
  have f17 := (E2.keep K14)
  have ne18 : a2 ≠ a1 := ne_exa E2 E1 (by decide)
  have f19 := (C2.keep K14 (ninS ne18 nin0))
  have f20 := (V2.keep K14 (ninS ne18 nin0))
  have ne21 : a1 ≠ t2 := Exa.neArv E1 B2 (own_w hw 119 rfl)
  have f22 := (B2.keep K14 (ninS (Ne.symm ne21) nin0))
  refine OwnC.goN (k' := 1) (n' := 158) (OwnC.callerP (y := Y22) (a := a1) (W := 0) (argsL := [(.int (Int32.ofNat cs.length)), (.ref a2)]) (rest := []) (pc' := 33) (rc := 0) (rs := 0) (ws' := [t14]) hx (hb hby q28_30) (own_w hw 172 rfl) (own_w hw 174 rfl) (own_w hw 175 rfl) (own_w hw 173 rfl) (own_w hw 176 rfl) (by decide) (fun s' hZ => OwnN.Ct.bk (rmPS l Z a0 hw [] a1 t14 kb14 158 cs a2 t2 k2 ds zS h14 n0 O15 (Nat.le_trans (Old.le O0) (Nat.le_trans KK13.1 ge14)) f16 V14 C14 N14 B14 f17 f19 f20 f22 (by omega) (by decide) S0 P0) hZ (own_w hw 176 rfl) (own_w hw 128 rfl) (by decide) (by decide)) f16 hml.symm (lenOf pd_14 rfl) rfl (Nat.le_of_ble_eq_true rfl) rfl (by decide) (by decide)) rfl rfl (allS (Or.inr (Nat.le_trans KK13.1 ge14)) all0) ?_
  rintro v23 h23 K23 ⟨rfl, B23⟩
  refine OwnN.Go.sp (g' := (mkF m 35 #[.val (.ref a1), .val (.ref a2), .val (.int (Int32.ofNat ds.length))] [(.ref a1), (.ref a1)])) (fun T A t r => XS.aloadN A hx rfl (hb hby q28_33) rfl rfl (XS.dup A hx rfl (hb hby q28_34) rfl rfl r)) ?_
  have ne24 : a1 ≠ t14 := Nat.ne_of_lt (Nat.lt_of_lt_of_le E1.lt ge14)
  have f25 := (N14.keep K23 (ninS ne24 nin0))
  refine OwnN.Go.v (g' := (mkF m 38 #[.val (.ref a1), .val (.ref a2), .val (.int (Int32.ofNat ds.length))] [(.int (Int32.ofNat cs.length)), (.ref a1)])) (fun s' T L_ X eT hZ hown => getF X hx hZ hown (host := "") (Or.inl (own_w hw 165 rfl)) Via.refl eT f25 (g := (mkF m 35 #[.val (.ref a1), .val (.ref a2), .val (.int (Int32.ofNat ds.length))] [(.ref a1), (.ref a1)])) rfl rfl (hb hby q28_35)) ?_
  refine OwnN.Go.sp (g' := (mkF m 40 #[.val (.ref a1), .val (.ref a2), .val (.int (Int32.ofNat ds.length))] [(.int ((Int32.ofNat cs.length) + (Int32.ofNat ds.length))), (.ref a1)])) (fun T A t r => XS.iloadN A hx rfl (hb hby q28_38) rfl (XS.iadd A hx rfl (hb hby q28_39) rfl r)) ?_
  refine OwnN.Go.cast (g' := (mkF m 40 #[.val (.ref a1), .val (.ref a2), .val (.int (Int32.ofNat ds.length))] [(.int (Int32.ofNat (cs ++ ds).length)), (.ref a1)])) (by rw [show ((Int32.ofNat cs.length) + (Int32.ofNat ds.length)) = (Int32.ofNat (cs ++ ds).length) from own_addL cs ds] <;> rfl) ?_
  have f26 := (f16.keep K23)
  refine OwnN.Go.w (g' := (mkF m 43 #[.val (.ref a1), .val (.ref a2), .val (.int (Int32.ofNat ds.length))] [])) (fun s' T L_ X eT hZ hown => putF X hx hZ hown (host := "") (Or.inl (own_w hw 165 rfl)) Via.refl eT f25 f26 (Or.inl (own_w hw 166 rfl)) (own_w hw 119 rfl) (ty := .int) (by decide) rfl rfl (g := (mkF m 40 #[.val (.ref a1), .val (.ref a2), .val (.int (Int32.ofNat ds.length))] [(.int (Int32.ofNat (cs ++ ds).length)), (.ref a1)])) rfl rfl (hb hby q28_40)) (Or.inl (List.mem_of_getElem? (i := 0) rfl)) ?_
  intro h28 W28
  have F28 := f25.same W28
  refine OwnN.Go.sp (g' := (mkF m 44 #[.val (.ref a1), .val (.ref a2), .val (.int (Int32.ofNat ds.length))] [(.ref a1)])) (fun T A t r => XS.aloadN A hx rfl (hb hby q28_43) rfl rfl r) ?_
  have f29 := ((V14.keep K23 (ninS ne24 nin0)).other W28 (Or.inr (slot_ne (Or.inl (own_w hw 133 rfl)) (Or.inl (own_w hw 166 rfl)) (by decide) (t := (.array .byte)) (t' := .int) (by decide) (by decide))))
  have f30 := ((C14.keep K23 (ninS ne24 nin0)).other W28 (Or.inr (slot_ne (Or.inl (own_w hw 135 rfl)) (Or.inl (own_w hw 166 rfl)) (by decide) (t := .byte) (t' := .int) (by decide) (by decide))))
  have f31 := (B23.other W28 (Ne.symm ne24))
  exact OwnN.Go.ret (v := (some (.ref a1))) (fun s' T L_ fs X hr => own_retR X hx hret rfl rfl (hb hby q28_44) hr) (fun h => by rw [hret] at h; cases h) (by decide) (by decide) ⟨_, _, rfl, (Nat.le_trans KK13.1 ge14), f29, f30, F28, f31⟩
theorem rmBg2 (l : Launch) (Z : State) (a0 : Array Value) (hw : own_T a0 Z) (wds : List Jvm.Cond) (a1 : Addr) (t1 : Addr) (k1 : ClassId) (cs : List Int32) (a2 : Addr) (t2 : Addr) (k2 : ClassId) (ds : List Int32) (zS : Int32) (h0 : Heap) (n0 : Nat) (O0 : Old Z n0 h0) (g_a1 : n0 ≤ a1) (E1 : Exa Z h0 a1 "java/lang/StringBuilder") (V1 : Fld Z h0 a1 "java/lang/AbstractStringBuilder" "value" "[B" (.ref t1)) (C1 : Fld Z h0 a1 "java/lang/AbstractStringBuilder" "coder" "B" (.int 0)) (N1 : Fld Z h0 a1 "java/lang/AbstractStringBuilder" "count" "I" (.int (Int32.ofNat cs.length))) (B1 : Arv Z h0 t1 k1 .byte (78 : Int32) (own_B cs) (.int 0)) (E2 : Exa Z h0 a2 "java/lang/String") (C2 : Fld Z h0 a2 "java/lang/String" "coder" "B" (.int 0)) (V2 : Fld Z h0 a2 "java/lang/String" "value" "[B" (.ref t2)) (B2 : Arv Z h0 t2 k2 .byte (Int32.ofNat ds.length) (own_B ds) (.int 0)) (hc : cs.length = 39) (hd : ds.length = 58) (S0 : Sta Z Z.heap "java/lang/String" "COMPACT_STRINGS" "Z" (.int zS)) (P0 : ¬ zS = (0 : Int32)) :
    OwnN.Ct l Z Y65 jdk_67_method_7_code 2 (some (.object "java/lang/StringBuilder")) wds (⟨5, 1, 158, 83⟩ : Room) #[(.ref a1), (.ref a2)] n0 h0 [a1] (fun v h => ∃ (t : Addr) (kb : ClassId), v = some (.ref a1) ∧ h0.size ≤ t ∧ Fld Z h a1 "java/lang/AbstractStringBuilder" "value" "[B" (.ref t) ∧ Fld Z h a1 "java/lang/AbstractStringBuilder" "coder" "B" (.int 0) ∧ Fld Z h a1 "java/lang/AbstractStringBuilder" "count" "I" (.int (Int32.ofNat (cs ++ ds).length)) ∧ Arv Z h t kb .byte (158 : Int32) (own_B (cs ++ ds)) (.int 0)) := by
  refine OwnN.Ct.of (plainFor_of_name pn_java_lang_StringBuilder) O0 (allS g_a1 all0) ?_
  intro p e s m below meth c hx hby hml hret hnm
  refine OwnN.Go.cast (ef_RR_2 m a1 a2) ?_
  refine OwnN.Go.sp (g' := (mkF m 2 #[.val (.ref a1), .val (.ref a2)] [(.ref a2), (.ref a1)])) (fun T A t r => XS.aloadN A hx rfl (hb hby q29_0) rfl rfl (XS.aloadN A hx rfl (hb hby q29_1) rfl rfl r)) ?_
  refine OwnN.Go.old fun O11 => ?_
  refine OwnC.goN (k' := 1) (n' := 158) (OwnC.callerU (y := Y23) (a := a1) (W := 0) (argsL := [(.ref a2)]) (rest := []) (pc' := 5) (rc := 1) (rs := 158) (ws' := [a1]) hx (hb hby q29_2) (own_w hw 150 rfl) (own_w hw 170 rfl) rfl (own_w hw 151 rfl) (own_w hw 152 rfl) (own_w hw 154 rfl) (by decide) (by decide) (fun s' hZ => OwnN.Ct.bk (rmAg2 l Z a0 hw [] a1 t1 k1 cs a2 t2 k2 ds zS h0 n0 O11 g_a1 E1 V1 C1 N1 B1 E2 C2 V2 B2 hc hd S0 P0) hZ (own_w hw 154 rfl) (own_w hw 128 rfl) (by decide) (by decide)) E1 hml.symm (lenOf pd_15 rfl) rfl (Nat.le_of_ble_eq_true rfl) rfl (by decide) (by decide)) rfl rfl (allS (Or.inl (List.mem_of_getElem? (i := 0) rfl)) all0) ?_
  rintro v12 h12 K12 ⟨t12, kb12, rfl, ge12, V12, C12, N12, B12⟩
  refine OwnN.Go.sp (g' := (mkF m 7 #[.val (.ref a1), .val (.ref a2)] [(.ref a1)])) (fun T A t r => XS.pop A hx rfl (hb hby q29_5) rfl rfl (XS.aloadN A hx rfl (hb hby q29_6) rfl rfl r)) ?_
  exact OwnN.Go.ret (v := (some (.ref a1))) (fun s' T L_ fs X hr => own_retR X hx hret rfl rfl (hb hby q29_7) hr) (fun h => by rw [hret] at h; cases h) (by decide) (by decide) ⟨_, _, rfl, ge12, V12, C12, N12, B12⟩
theorem rmIL (l : Launch) (Z : State) (a0 : Array Value) (hw : own_T a0 Z) (wds : List Jvm.Cond) (a1 : Addr) (zS : Int32) (h0 : Heap) (n0 : Nat) (O0 : Old Z n0 h0)  (C1 : Fld Z h0 a1 "java/lang/AbstractStringBuilder" "coder" "B" (.int 0)) (S0 : Sta Z Z.heap "java/lang/String" "COMPACT_STRINGS" "Z" (.int zS)) (P0 : ¬ zS = (0 : Int32)) :
    OwnN.Ct l Z Y24 jdk_68_method_68_code 1 (some .boolean) wds (⟨0, 0, 0, 0⟩ : Room) #[(.ref a1)] n0 h0 [] (fun v h => v = some (.int 1) ∧ h = h0) := by
  refine OwnN.Ct.of (plainFor_of_name pn_java_lang_AbstractStringBuilder) O0 all0 ?_
  intro p e s m below meth c hx hby hml hret hnm
  refine OwnN.Go.cast (ef_R_1 m a1) ?_
  refine OwnN.Go.old fun O11 => ?_
  have St12 := Sta.ext O11.2 S0
  refine OwnN.Go.v (g' := (mkF m 3 #[.val (.ref a1)] [(.int zS)])) (fun s' T L_ X eT hZ hown => getS2 X hx hZ hown (host := "") (Or.inl (own_w hw 131 rfl)) Via.refl eT St12 (g := (mkF m 0 #[.val (.ref a1)] [])) rfl (hb hby q30_0)) ?_
  refine OwnN.Go.sp (g' := (mkF m 7 #[.val (.ref a1)] [(.ref a1)])) (fun T A t r => XS.ifNo A hx rfl (hb hby q30_3) rfl ((if0 _ _).trans (feq P0).1) (XS.aloadN A hx rfl (hb hby q30_6) rfl rfl r)) ?_
  refine OwnN.Go.v (g' := (mkF m 10 #[.val (.ref a1)] [(.int 0)])) (fun s' T L_ X eT hZ hown => getF X hx hZ hown (host := "") (Or.inl (own_w hw 134 rfl)) Via.refl eT C1 (g := (mkF m 7 #[.val (.ref a1)] [(.ref a1)])) rfl rfl (hb hby q30_7)) ?_
  refine OwnN.Go.sp (g' := (mkF m 18 #[.val (.ref a1)] [(.int 1)])) (fun T A t r => XS.ifNo A hx rfl (hb hby q30_10) rfl ((if0 _ _).trans (teq (by decide : ((0 : Int32) = (0 : Int32)))).2) (XS.iconst A hx rfl (hb hby q30_13) (XS.goto A hx rfl (pc0 := 14) (pc' := 18) rfl (hb hby q30_14) (by decide) (by decide) r))) ?_
  exact OwnN.Go.ret (v := (some (.int (nar .boolean (1 : Int32))))) (fun s' T L_ fs X hr => retN X hx (t := .boolean) hret (by simp) (hb hby q30_18) hr) (fun h => by rw [hret] at h; cases h) (by decide) (by decide) ⟨rfl, rfl⟩
theorem rmAC (l : Launch) (Z : State) (a0 : Array Value) (hw : own_T a0 Z) (wds : List Jvm.Cond) (a1 : Addr) (t1 : Addr) (k1 : ClassId) (cap : Nat) (cs : List Int32) (zS : Int32) (h0 : Heap) (n0 : Nat) (O0 : Old Z n0 h0) (g_a1 : n0 ≤ a1) (g_t1 : n0 ≤ t1) (E1 : Exa Z h0 a1 "java/lang/StringBuilder") (V1 : Fld Z h0 a1 "java/lang/AbstractStringBuilder" "value" "[B" (.ref t1)) (C1 : Fld Z h0 a1 "java/lang/AbstractStringBuilder" "coder" "B" (.int 0)) (N1 : Fld Z h0 a1 "java/lang/AbstractStringBuilder" "count" "I" (.int (Int32.ofNat cs.length))) (B1 : Arv Z h0 t1 k1 .byte (Int32.ofNat cap) (own_B cs) (.int 0)) (hl : cs.length + 1 ≤ cap) (hcap : cap ≤ 158) (S0 : Sta Z Z.heap "java/lang/String" "COMPACT_STRINGS" "Z" (.int zS)) (P0 : ¬ zS = (0 : Int32)) :
    OwnN.Ct l Z Y25 jdk_68_method_31_code 2 (some (.object "java/lang/AbstractStringBuilder")) wds (⟨1, 0, 0, 14⟩ : Room) #[(.ref a1), (.int 10)] n0 h0 [a1, t1] (fun v h => v = some (.ref a1) ∧ Fld Z h a1 "java/lang/AbstractStringBuilder" "value" "[B" (.ref t1) ∧ Fld Z h a1 "java/lang/AbstractStringBuilder" "coder" "B" (.int 0) ∧ Fld Z h a1 "java/lang/AbstractStringBuilder" "count" "I" (.int (Int32.ofNat (cs ++ [10]).length)) ∧ Arv Z h t1 k1 .byte (Int32.ofNat cap) (own_B (cs ++ [10])) (.int 0)) := by
  refine OwnN.Ct.of (plainFor_of_name pn_java_lang_AbstractStringBuilder) O0 (allS g_a1 (allS g_t1 all0)) ?_
  intro p e s m below meth c hx hby hml hret hnm
  refine OwnN.Go.cast (ef_RI_2 m a1 (10 : Int32)) ?_
  refine OwnN.Go.sp (g' := (mkF m 2 #[.val (.ref a1), .val (.int 10)] [(.ref a1), (.ref a1)])) (fun T A t r => XS.aloadN A hx rfl (hb hby q31_0) rfl rfl (XS.aloadN A hx rfl (hb hby q31_1) rfl rfl r)) ?_
  refine OwnN.Go.v (g' := (mkF m 5 #[.val (.ref a1), .val (.int 10)] [(.int (Int32.ofNat cs.length)), (.ref a1)])) (fun s' T L_ X eT hZ hown => getF X hx hZ hown (host := "") (Or.inl (own_w hw 165 rfl)) Via.refl eT N1 (g := (mkF m 2 #[.val (.ref a1), .val (.int 10)] [(.ref a1), (.ref a1)])) rfl rfl (hb hby q31_2)) ?_
  refine OwnN.Go.sp (g' := (mkF m 7 #[.val (.ref a1), .val (.int 10)] [(.int ((Int32.ofNat cs.length) + (1 : Int32))), (.ref a1)])) (fun T A t r => XS.iconst A hx rfl (hb hby q31_5) (XS.iadd A hx rfl (hb hby q31_6) rfl r)) ?_
  refine OwnN.Go.cast (g' := (mkF m 7 #[.val (.ref a1), .val (.int 10)] [(.int (Int32.ofNat (cs ++ [10]).length)), (.ref a1)])) (by rw [show ((Int32.ofNat cs.length) + (1 : Int32)) = (Int32.ofNat (cs ++ [10]).length) from own_add1 cs 10] <;> rfl) ?_
  refine OwnN.Go.old fun O11 => ?_
  refine OwnC.goNP (k' := 0) (n' := 0) (OwnC.callerP (y := Y21) (a := a1) (W := 0) (argsL := [(.int (Int32.ofNat (cs ++ [10]).length))]) (rest := []) (pc' := 10) (rc := 0) (rs := 0) (ws' := []) hx (hb hby q31_7) (own_w hw 167 rfl) (own_w hw 169 rfl) (own_w hw 170 rfl) (own_w hw 168 rfl) (own_w hw 171 rfl) (by decide) (fun s' hZ => OwnN.Ct.bk (rmEC0 l Z a0 hw [] a1 t1 k1 cap cs (cs ++ [10]).length h0 n0 O11 V1 C1 B1 (by rw [List.length_append]; exact hl) hcap) hZ (own_w hw 171 rfl) (own_w hw 128 rfl) (by decide) (by decide)) E1 hml.symm (lenOf pd_5 rfl) rfl (Nat.le_of_ble_eq_true rfl) rfl (by decide) (by decide)) rfl rfl ?_
  rintro v12 rfl
  refine OwnN.Go.sp (g' := (mkF m 11 #[.val (.ref a1), .val (.int 10)] [(.ref a1)])) (fun T A t r => XS.aloadN A hx rfl (hb hby q31_10) rfl rfl r) ?_
  refine OwnN.Go.callVP (a := a1) (z := Y24) (W := 0) (y := Y24) (argsL := []) (rest := []) (pc' := 14) (hb hby q31_11) (own_w hw 457 rfl) (own_w hw 218 rfl) (fun s' hZ => notFace_of_selects (args := #[]) (mvT hZ (own_w hw 220 rfl))) (own_w hw 220 rfl) (own_w hw 219 rfl) (by decide) (fun s' hZ => OwnN.Ct.bk (rmIL l Z a0 hw [] a1 zS h0 n0 O11 C1 S0 P0) hZ (own_w hw 221 rfl) (own_w hw 128 rfl) (by decide) (by decide)) E1 hml.symm (lenOf pd_16 rfl) rfl (Nat.le_of_ble_eq_true rfl) rfl (by decide) (by decide) ?_
  rintro v13 rfl
  refine OwnN.Go.sp (g' := (mkF m 18 #[.val (.ref a1), .val (.int 10)] [(.int 10)])) (fun T A t r => XS.ifNo A hx rfl (hb hby q31_14) rfl ((if0 _ _).trans (feq (by decide : ¬ ((1 : Int32) = (0 : Int32)))).1) (XS.iloadN A hx rfl (hb hby q31_17) rfl r)) ?_
  refine OwnN.Go.callSP (W := 0) (y := Y0) (argsL := [(.int 10)]) (rest := []) (pc' := 21) (hb hby q31_18) (own_w hw 458 rfl) (own_w hw 6 rfl) (own_w hw 7 rfl) (own_w hw 8 rfl) (by decide) (fun s' hZ => OwnN.Ct.bk (rmCE l Z a0 hw [] (10 : Int32) h0 n0 O11 (by decide)) hZ (own_w hw 8 rfl) (own_w hw 7 rfl) (by decide) (by decide)) hml.symm (lenOf pd_0 rfl) rfl (Nat.le_of_ble_eq_true rfl) rfl (by decide) (by decide) ?_
  rintro v14 rfl
  refine OwnN.Go.sp (g' := (mkF m 25 #[.val (.ref a1), .val (.int 10)] [(.ref a1)])) (fun T A t r => XS.ifNo A hx rfl (hb hby q31_21) rfl ((if0 _ _).trans (feq (by decide : ¬ ((1 : Int32) = (0 : Int32)))).1) (XS.aloadN A hx rfl (hb hby q31_24) rfl rfl r)) ?_
  refine OwnN.Go.v (g' := (mkF m 28 #[.val (.ref a1), .val (.int 10)] [(.ref t1)])) (fun s' T L_ X eT hZ hown => getF X hx hZ hown (host := "") (Or.inl (own_w hw 132 rfl)) Via.refl eT V1 (g := (mkF m 25 #[.val (.ref a1), .val (.int 10)] [(.ref a1)])) rfl rfl (hb hby q31_25)) ?_
  refine OwnN.Go.sp (g' := (mkF m 30 #[.val (.ref a1), .val (.int 10)] [(.ref a1), (.ref a1), (.ref t1)])) (fun T A t r => XS.aloadN A hx rfl (hb hby q31_28) rfl rfl (XS.dup A hx rfl (hb hby q31_29) rfl rfl r)) ?_
  refine OwnN.Go.v (g' := (mkF m 33 #[.val (.ref a1), .val (.int 10)] [(.int (Int32.ofNat cs.length)), (.ref a1), (.ref t1)])) (fun s' T L_ X eT hZ hown => getF X hx hZ hown (host := "") (Or.inl (own_w hw 165 rfl)) Via.refl eT N1 (g := (mkF m 30 #[.val (.ref a1), .val (.int 10)] [(.ref a1), (.ref a1), (.ref t1)])) rfl rfl (hb hby q31_30)) ?_
  refine OwnN.Go.sp (g' := (mkF m 36 #[.val (.ref a1), .val (.int 10)] [(.int ((Int32.ofNat cs.length) + (1 : Int32))), (.ref a1), (.int (Int32.ofNat cs.length)), (.ref t1)])) (fun T A t r => XS.dupX1 A hx rfl (hb hby q31_33) rfl rfl rfl (XS.iconst A hx rfl (hb hby q31_34) (XS.iadd A hx rfl (hb hby q31_35) rfl r))) ?_
  refine OwnN.Go.cast (g' := (mkF m 36 #[.val (.ref a1), .val (.int 10)] [(.int (Int32.ofNat (cs ++ [10]).length)), (.ref a1), (.int (Int32.ofNat cs.length)), (.ref t1)])) (by rw [show ((Int32.ofNat cs.length) + (1 : Int32)) = (Int32.ofNat (cs ++ [10]).length) from own_add1 cs 10] <;> rfl) ?_
  refine OwnN.Go.w (g' := (mkF m 39 #[.val (.ref a1), .val (.int 10)] [(.int (Int32.ofNat cs.length)), (.ref t1)])) (fun s' T L_ X eT hZ hown => putF X hx hZ hown (host := "") (Or.inl (own_w hw 165 rfl)) Via.refl eT N1 E1 (Or.inl (own_w hw 166 rfl)) (own_w hw 119 rfl) (ty := .int) (by decide) rfl rfl (g := (mkF m 36 #[.val (.ref a1), .val (.int 10)] [(.int (Int32.ofNat (cs ++ [10]).length)), (.ref a1), (.int (Int32.ofNat cs.length)), (.ref t1)])) rfl rfl (hb hby q31_36)) (Or.inl (List.mem_of_getElem? (i := 0) rfl)) ?_
  intro h16 W16
  have F16 := N1.same W16
  refine OwnN.Go.sp (g' := (mkF m 41 #[.val (.ref a1), .val (.int 10)] [(.int ((10 : Int32).toInt8.toInt32)), (.int (Int32.ofNat cs.length)), (.ref t1)])) (fun T A t r => XS.iloadN A hx rfl (hb hby q31_39) rfl (XS.i2b A hx rfl (hb hby q31_40) rfl r)) ?_
  have ne17 : a1 ≠ t1 := Exa.neArv E1 B1 (own_w hw 119 rfl)
  have f18 := (B1.other W16 (Ne.symm ne17))
  refine OwnN.Go.w (g' := (mkF m 42 #[.val (.ref a1), .val (.int 10)] [])) (fun s' T L_ X eT hZ hown => own_stB X hx hZ eT f18 (j := (Int32.ofNat cs.length)) ⟨own_nge _ (by omega), own_ltN (by omega) hcap⟩ (g := (mkF m 41 #[.val (.ref a1), .val (.int 10)] [(.int ((10 : Int32).toInt8.toInt32)), (.int (Int32.ofNat cs.length)), (.ref t1)])) rfl rfl (hb hby q31_41)) (Or.inl (List.mem_of_getElem? (i := 1) rfl)) ?_
  intro h19 W19
  have V19 : Arv Z h19 t1 k1 .byte (Int32.ofNat cap) (own_B (cs ++ [10])) (.int 0) := own_Ba cs [10] ▸ own_push f18 (fits_nar_byte _) W19 rfl rfl (own_Bl cs) (by omega)
  refine OwnN.Go.sp (g' := (mkF m 76 #[.val (.ref a1), .val (.int 10)] [(.ref a1)])) (fun T A t r => XS.goto A hx rfl (pc0 := 42) (pc' := 75) rfl (hb hby q31_42) (by decide) (by decide) (XS.aloadN A hx rfl (hb hby q31_75) rfl rfl r)) ?_
  have f20 := ((V1.other W16 (Or.inr (slot_ne (Or.inl (own_w hw 133 rfl)) (Or.inl (own_w hw 166 rfl)) (by decide) (t := (.array .byte)) (t' := .int) (by decide) (by decide)))).other W19 (Or.inl ne17))
  have f21 := ((C1.other W16 (Or.inr (slot_ne (Or.inl (own_w hw 135 rfl)) (Or.inl (own_w hw 166 rfl)) (by decide) (t := .byte) (t' := .int) (by decide) (by decide)))).other W19 (Or.inl ne17))
  have f22 := (F16.other W19 (Or.inl ne17))
  exact OwnN.Go.ret (v := (some (.ref a1))) (fun s' T L_ fs X hr => own_retR X hx hret rfl rfl (hb hby q31_76) hr) (fun h => by rw [hret] at h; cases h) (by decide) (by decide) ⟨rfl, f20, f21, f22, V19⟩
theorem rmBC (l : Launch) (Z : State) (a0 : Array Value) (hw : own_T a0 Z) (wds : List Jvm.Cond) (a1 : Addr) (t1 : Addr) (k1 : ClassId) (cap : Nat) (cs : List Int32) (zS : Int32) (h0 : Heap) (n0 : Nat) (O0 : Old Z n0 h0) (g_a1 : n0 ≤ a1) (g_t1 : n0 ≤ t1) (E1 : Exa Z h0 a1 "java/lang/StringBuilder") (V1 : Fld Z h0 a1 "java/lang/AbstractStringBuilder" "value" "[B" (.ref t1)) (C1 : Fld Z h0 a1 "java/lang/AbstractStringBuilder" "coder" "B" (.int 0)) (N1 : Fld Z h0 a1 "java/lang/AbstractStringBuilder" "count" "I" (.int (Int32.ofNat cs.length))) (B1 : Arv Z h0 t1 k1 .byte (Int32.ofNat cap) (own_B cs) (.int 0)) (hl : cs.length + 1 ≤ cap) (hcap : cap ≤ 158) (S0 : Sta Z Z.heap "java/lang/String" "COMPACT_STRINGS" "Z" (.int zS)) (P0 : ¬ zS = (0 : Int32)) :
    OwnN.Ct l Z Y75 jdk_67_method_14_code 2 (some (.object "java/lang/StringBuilder")) wds (⟨2, 0, 0, 27⟩ : Room) #[(.ref a1), (.int 10)] n0 h0 [a1, t1] (fun v h => v = some (.ref a1) ∧ Fld Z h a1 "java/lang/AbstractStringBuilder" "value" "[B" (.ref t1) ∧ Fld Z h a1 "java/lang/AbstractStringBuilder" "coder" "B" (.int 0) ∧ Fld Z h a1 "java/lang/AbstractStringBuilder" "count" "I" (.int (Int32.ofNat (cs ++ [10]).length)) ∧ Arv Z h t1 k1 .byte (Int32.ofNat cap) (own_B (cs ++ [10])) (.int 0)) := by
  refine OwnN.Ct.of (plainFor_of_name pn_java_lang_StringBuilder) O0 (allS g_a1 (allS g_t1 all0)) ?_
  intro p e s m below meth c hx hby hml hret hnm
  refine OwnN.Go.cast (ef_RI_2 m a1 (10 : Int32)) ?_
  refine OwnN.Go.sp (g' := (mkF m 2 #[.val (.ref a1), .val (.int 10)] [(.int 10), (.ref a1)])) (fun T A t r => XS.aloadN A hx rfl (hb hby q32_0) rfl rfl (XS.iloadN A hx rfl (hb hby q32_1) rfl r)) ?_
  refine OwnN.Go.old fun O11 => ?_
  refine OwnC.goN (k' := 0) (n' := 0) (OwnC.callerU (y := Y25) (a := a1) (W := 0) (argsL := [(.int 10)]) (rest := []) (pc' := 5) (rc := 0) (rs := 0) (ws' := [a1, t1]) hx (hb hby q32_2) (own_w hw 453 rfl) (own_w hw 170 rfl) rfl (own_w hw 454 rfl) (own_w hw 152 rfl) (own_w hw 456 rfl) (by decide) (by decide) (fun s' hZ => OwnN.Ct.bk (rmAC l Z a0 hw [] a1 t1 k1 cap cs zS h0 n0 O11 g_a1 g_t1 E1 V1 C1 N1 B1 hl hcap S0 P0) hZ (own_w hw 456 rfl) (own_w hw 128 rfl) (by decide) (by decide)) E1 hml.symm (lenOf pd_17 rfl) rfl (Nat.le_of_ble_eq_true rfl) rfl (by decide) (by decide)) rfl rfl (allS (Or.inl (List.mem_of_getElem? (i := 0) rfl)) (allS (Or.inl (List.mem_of_getElem? (i := 1) rfl)) all0)) ?_
  rintro v12 h12 K12 ⟨rfl, V12, C12, N12, B12⟩
  refine OwnN.Go.sp (g' := (mkF m 7 #[.val (.ref a1), .val (.int 10)] [(.ref a1)])) (fun T A t r => XS.pop A hx rfl (hb hby q32_5) rfl rfl (XS.aloadN A hx rfl (hb hby q32_6) rfl rfl r)) ?_
  exact OwnN.Go.ret (v := (some (.ref a1))) (fun s' T L_ fs X hr => own_retR X hx hret rfl rfl (hb hby q32_7) hr) (fun h => by rw [hret] at h; cases h) (by decide) (by decide) ⟨rfl, V12, C12, N12, B12⟩
theorem rmGV (l : Launch) (Z : State) (a0 : Array Value) (hw : own_T a0 Z) (wds : List Jvm.Cond) (a1 : Addr) (t1 : Addr) (h0 : Heap) (n0 : Nat) (O0 : Old Z n0 h0)  (V1 : Fld Z h0 a1 "java/lang/AbstractStringBuilder" "value" "[B" (.ref t1)) :
    OwnN.Ct l Z Y29 jdk_68_method_64_code 1 (some (.array .byte)) wds (⟨0, 0, 0, 0⟩ : Room) #[(.ref a1)] n0 h0 [] (fun v h => v = some (.ref t1) ∧ h = h0) := by
  refine OwnN.Ct.of (plainFor_of_name pn_java_lang_AbstractStringBuilder) O0 all0 ?_
  intro p e s m below meth c hx hby hml hret hnm
  refine OwnN.Go.cast (ef_R_1 m a1) ?_
  refine OwnN.Go.sp (g' := (mkF m 1 #[.val (.ref a1)] [(.ref a1)])) (fun T A t r => XS.aloadN A hx rfl (hb hby q33_0) rfl rfl r) ?_
  refine OwnN.Go.v (g' := (mkF m 4 #[.val (.ref a1)] [(.ref t1)])) (fun s' T L_ X eT hZ hown => getF X hx hZ hown (host := "") (Or.inl (own_w hw 132 rfl)) Via.refl eT V1 (g := (mkF m 1 #[.val (.ref a1)] [(.ref a1)])) rfl rfl (hb hby q33_1)) ?_
  exact OwnN.Go.ret (v := (some (.ref t1))) (fun s' T L_ fs X hr => own_retR X hx hret rfl rfl (hb hby q33_4) hr) (fun h => by rw [hret] at h; cases h) (by decide) (by decide) ⟨rfl, rfl⟩
theorem rmLA (l : Launch) (Z : State) (a0 : Array Value) (hw : own_T a0 Z) (wds : List Jvm.Cond) (a1 : Addr) (p1 : Int32) (h0 : Heap) (n0 : Nat) (O0 : Old Z n0 h0)  (N1 : Fld Z h0 a1 "java/lang/AbstractStringBuilder" "count" "I" (.int p1)) :
    OwnN.Ct l Z Y26 jdk_68_method_6_code 1 (some .int) wds (⟨0, 0, 0, 0⟩ : Room) #[(.ref a1)] n0 h0 [] (fun v h => v = some (.int p1) ∧ h = h0) := by
  refine OwnN.Ct.of (plainFor_of_name pn_java_lang_AbstractStringBuilder) O0 all0 ?_
  intro p e s m below meth c hx hby hml hret hnm
  refine OwnN.Go.cast (ef_R_1 m a1) ?_
  refine OwnN.Go.sp (g' := (mkF m 1 #[.val (.ref a1)] [(.ref a1)])) (fun T A t r => XS.aloadN A hx rfl (hb hby q34_0) rfl rfl r) ?_
  refine OwnN.Go.v (g' := (mkF m 4 #[.val (.ref a1)] [(.int p1)])) (fun s' T L_ X eT hZ hown => getF X hx hZ hown (host := "") (Or.inl (own_w hw 165 rfl)) Via.refl eT N1 (g := (mkF m 1 #[.val (.ref a1)] [(.ref a1)])) rfl rfl (hb hby q34_1)) ?_
  exact OwnN.Go.ret (v := (some (.int p1))) (fun s' T L_ fs X hr => retI X hx hret (hb hby q34_4) hr) (fun h => by rw [hret] at h; cases h) (by decide) (by decide) ⟨rfl, rfl⟩
theorem rmLB (l : Launch) (Z : State) (a0 : Array Value) (hw : own_T a0 Z) (wds : List Jvm.Cond) (a1 : Addr) (p1 : Int32) (h0 : Heap) (n0 : Nat) (O0 : Old Z n0 h0)  (E1 : Exa Z h0 a1 "java/lang/StringBuilder") (N1 : Fld Z h0 a1 "java/lang/AbstractStringBuilder" "count" "I" (.int p1)) :
    OwnN.Ct l Z Y30 jdk_67_method_93_code 1 (some .int) wds (⟨1, 0, 0, 12⟩ : Room) #[(.ref a1)] n0 h0 [] (fun v h => v = some (.int p1) ∧ h = h0) := by
  refine OwnN.Ct.of (plainFor_of_name pn_java_lang_StringBuilder) O0 all0 ?_
  intro p e s m below meth c hx hby hml hret hnm
  refine OwnN.Go.cast (ef_R_1 m a1) ?_
  refine OwnN.Go.sp (g' := (mkF m 1 #[.val (.ref a1)] [(.ref a1)])) (fun T A t r => XS.aloadN A hx rfl (hb hby q35_0) rfl rfl r) ?_
  refine OwnN.Go.old fun O11 => ?_
  refine OwnC.goNP (k' := 0) (n' := 0) (OwnC.callerU (y := Y26) (a := a1) (W := 0) (argsL := []) (rest := []) (pc' := 4) (rc := 0) (rs := 0) (ws' := []) hx (hb hby q35_1) (own_w hw 215 rfl) (own_w hw 170 rfl) rfl (own_w hw 211 rfl) (own_w hw 152 rfl) (own_w hw 216 rfl) (by decide) (by decide) (fun s' hZ => OwnN.Ct.bk (rmLA l Z a0 hw [] a1 p1 h0 n0 O11 N1) hZ (own_w hw 216 rfl) (own_w hw 128 rfl) (by decide) (by decide)) E1 hml.symm (lenOf pd_13 rfl) rfl (Nat.le_of_ble_eq_true rfl) rfl (by decide) (by decide)) rfl rfl ?_
  rintro v12 rfl
  exact OwnN.Go.ret (v := (some (.int p1))) (fun s' T L_ fs X hr => retI X hx hret (hb hby q35_4) hr) (fun h => by rw [hret] at h; cases h) (by decide) (by decide) ⟨rfl, rfl⟩
theorem rmCL (l : Launch) (Z : State) (a0 : Array Value) (hw : own_T a0 Z) (wds : List Jvm.Cond) (p1 : Int32) (p2 : Int32) (h0 : Heap) (n0 : Nat) (O0 : Old Z n0 h0)  (hq : ¬ p2 < p1) :
    OwnN.Ct l Z Y27 jdk_65_method_131_code 2 none wds (⟨0, 0, 0, 0⟩ : Room) #[(.int p1), (.int p2)] n0 h0 [] (fun v h => v = none ∧ h = h0) := by
  refine OwnN.Ct.of (plainFor_of_name pn_java_util_Arrays) O0 all0 ?_
  intro p e s m below meth c hx hby hml hret hnm
  refine OwnN.Go.cast (ef_II_2 m p1 p2) ?_
  refine OwnN.Go.sp (g' := (mkF m 37 #[.val (.int p1), .val (.int p2)] [])) (fun T A t r => XS.iloadN A hx rfl (hb hby q36_0) rfl (XS.iloadN A hx rfl (hb hby q36_1) rfl (XS.icmpYes A hx rfl (pc0 := 2) (pc' := 37) rfl (hb hby q36_2) rfl (flt hq).2.1 (by decide) (by decide) r))) ?_
  exact OwnN.Go.ret (v := none) (fun s' T L_ fs X hr => X.returnOut hx hret (hb hby q36_37) hr) (fun _ => rfl) (by decide) (by decide) ⟨rfl, rfl⟩
theorem rmRB (l : Launch) (Z : State) (a0 : Array Value) (hw : own_T a0 Z) (wds : List Jvm.Cond) (t1 : Addr) (k1 : ClassId) (cap : Nat) (cs : List Int32) (h0 : Heap) (n0 : Nat) (O0 : Old Z n0 h0)  (B1 : Arv Z h0 t1 k1 .byte (Int32.ofNat cap) (own_B cs) (.int 0)) (hl : cs.length < cap) (hcap : cap ≤ 158) :
    OwnN.Ct l Z Y28 jdk_65_method_133_code 5 (some (.array .byte)) wds (⟨1, 1, 158, 40⟩ : Room) #[(.ref t1), (.int 0), (.int (Int32.ofNat cs.length))] n0 h0 [] (fun v h => ∃ (t : Addr) (kb : ClassId), v = some (.ref t) ∧ h0.size ≤ t ∧ Arv Z h t kb .byte (Int32.ofNat cs.length) (own_B cs) (.int 0)) := by
  refine OwnN.Ct.of (plainFor_of_name pn_java_util_Arrays) O0 all0 ?_
  intro p e s m below meth c hx hby hml hret hnm
  refine OwnN.Go.cast (ef_RII_5 m t1 (0 : Int32) (Int32.ofNat cs.length)) ?_
  refine OwnN.Go.sp (g' := (mkF m 2 #[.val (.ref t1), .val (.int 0), .val (.int (Int32.ofNat cs.length)), .unset, .unset] [(.int (Int32.ofNat cs.length)), (.int 0)])) (fun T A t r => XS.iloadN A hx rfl (hb hby q37_0) rfl (XS.iloadN A hx rfl (hb hby q37_1) rfl r)) ?_
  refine OwnN.Go.old fun O11 => ?_
  refine OwnN.Go.callSP (W := 0) (y := Y27) (argsL := [(.int 0), (.int (Int32.ofNat cs.length))]) (rest := []) (pc' := 5) (hb hby q37_2) (own_w hw 229 rfl) (own_w hw 230 rfl) (own_w hw 224 rfl) (own_w hw 231 rfl) (by decide) (fun s' hZ => OwnN.Ct.bk (rmCL l Z a0 hw [] (0 : Int32) (Int32.ofNat cs.length) h0 n0 O11 (own_nge _ (by omega))) hZ (own_w hw 231 rfl) (own_w hw 224 rfl) (by decide) (by decide)) hml.symm (lenOf pd_18 rfl) rfl (Nat.le_of_ble_eq_true rfl) rfl (by decide) (by decide) ?_
  rintro v12 rfl
  refine OwnN.Go.sp (g' := (mkF m 8 #[.val (.ref t1), .val (.int 0), .val (.int (Int32.ofNat cs.length)), .unset, .unset] [(.int ((Int32.ofNat cs.length) - (0 : Int32)))])) (fun T A t r => XS.iloadN A hx rfl (hb hby q37_5) rfl (XS.iloadN A hx rfl (hb hby q37_6) rfl (XS.isub A hx rfl (hb hby q37_7) rfl r))) ?_
  refine OwnN.Go.cast (g' := (mkF m 8 #[.val (.ref t1), .val (.int 0), .val (.int (Int32.ofNat cs.length)), .unset, .unset] [(.int (Int32.ofNat cs.length))])) (by rw [show ((Int32.ofNat cs.length) - (0 : Int32)) = (Int32.ofNat cs.length) from own_sub0 _] <;> rfl) ?_
  refine OwnN.Go.sp (g' := (mkF m 10 #[.val (.ref t1), .val (.int 0), .val (.int (Int32.ofNat cs.length)), .val (.int (Int32.ofNat cs.length)), .unset] [(.int (Int32.ofNat cs.length))])) (fun T A t r => XS.istoreN A hx rfl (hb hby q37_8) rfl (l' := #[.val (.ref t1), .val (.int 0), .val (.int (Int32.ofNat cs.length)), .val (.int (Int32.ofNat cs.length)), .unset]) rfl (XS.iloadN A hx rfl (hb hby q37_9) rfl r)) ?_
  refine OwnN.Go.newP (ty := .byte) (dv := (.int 0)) (cap := 158) (k' := 1) (n' := 158) (pc' := 12) (hb hby q37_10) rfl rfl (own_w hw 14 rfl) (own_nge _ (by omega)) (by rw [own_clamp (by omega)]; omega) (by decide) rfl rfl rfl (by decide) (by decide) ?_
  intro b14 h14 k14 g14 sz14 E14 A14
  refine OwnN.Go.sp (g' := (mkF m 20 #[.val (.ref t1), .val (.int 0), .val (.int (Int32.ofNat cs.length)), .val (.int (Int32.ofNat cs.length)), .val (.ref b14)] [(.ref t1), (.int 0), (.ref b14), (.int 0), (.ref t1)])) (fun T A t r => XS.astore A hx rfl (hb hby q37_12) rfl rfl (l' := #[.val (.ref t1), .val (.int 0), .val (.int (Int32.ofNat cs.length)), .val (.int (Int32.ofNat cs.length)), .val (.ref b14)]) rfl (XS.aloadN A hx rfl (hb hby q37_14) rfl rfl (XS.iloadN A hx rfl (hb hby q37_15) rfl (XS.aload A hx rfl (hb hby q37_16) rfl rfl (XS.iconst A hx rfl (hb hby q37_18) (XS.aloadN A hx rfl (hb hby q37_19) rfl rfl r)))))) ?_
  have f15 := (B1.ext E14)
  refine OwnN.Go.r (g' := (mkF m 21 #[.val (.ref t1), .val (.int 0), .val (.int (Int32.ofNat cs.length)), .val (.int (Int32.ofNat cs.length)), .val (.ref b14)] [(.int (Int32.ofNat cap)), (.int 0), (.ref b14), (.int 0), (.ref t1)])) (fun s' T L_ X eT hZ t r => own_len X hx hZ eT f15 (g := (mkF m 20 #[.val (.ref t1), .val (.int 0), .val (.int (Int32.ofNat cs.length)), .val (.int (Int32.ofNat cs.length)), .val (.ref b14)] [(.ref t1), (.int 0), (.ref b14), (.int 0), (.ref t1)])) rfl rfl (hb hby q37_20) t r) ?_
  refine OwnN.Go.sp (g' := (mkF m 23 #[.val (.ref t1), .val (.int 0), .val (.int (Int32.ofNat cs.length)), .val (.int (Int32.ofNat cs.length)), .val (.ref b14)] [(.int ((Int32.ofNat cap) - (0 : Int32))), (.int 0), (.ref b14), (.int 0), (.ref t1)])) (fun T A t r => XS.iloadN A hx rfl (hb hby q37_21) rfl (XS.isub A hx rfl (hb hby q37_22) rfl r)) ?_
  refine OwnN.Go.cast (g' := (mkF m 23 #[.val (.ref t1), .val (.int 0), .val (.int (Int32.ofNat cs.length)), .val (.int (Int32.ofNat cs.length)), .val (.ref b14)] [(.int (Int32.ofNat cap)), (.int 0), (.ref b14), (.int 0), (.ref t1)])) (by rw [show ((Int32.ofNat cap) - (0 : Int32)) = (Int32.ofNat cap) from own_sub0 _] <;> rfl) ?_
  refine OwnN.Go.sp (g' := (mkF m 24 #[.val (.ref t1), .val (.int 0), .val (.int (Int32.ofNat cs.length)), .val (.int (Int32.ofNat cs.length)), .val (.ref b14)] [(.int (Int32.ofNat cs.length)), (.int (Int32.ofNat cap)), (.int 0), (.ref b14), (.int 0), (.ref t1)])) (fun T A t r => XS.iloadN A hx rfl (hb hby q37_23) rfl r) ?_
  refine OwnN.Go.old fun O16 => ?_
  refine OwnN.Go.callSP (W := 4) (y := Y13) (argsL := [(.int (Int32.ofNat cap)), (.int (Int32.ofNat cs.length))]) (rest := [(.int 0), (.ref b14), (.int 0), (.ref t1)]) (pc' := 27) (hb hby q37_24) (own_w hw 232 rfl) (own_w hw 233 rfl) (own_w hw 234 rfl) (own_w hw 235 rfl) (by decide) (fun s' hZ => OwnN.Ct.bk (rmMN2 l Z a0 hw [] (Int32.ofNat cap) (Int32.ofNat cs.length) h14 n0 O16 (own_ltN hl hcap)) hZ (own_w hw 235 rfl) (own_w hw 234 rfl) (by decide) (by decide)) hml.symm (lenOf pd_7 rfl) rfl (Nat.le_of_ble_eq_true rfl) rfl (by decide) (by decide) ?_
  rintro v17 rfl
  refine OwnN.Go.kp (ws' := [b14]) (P := fun h' => Arv Z h' b14 k14 .byte (Int32.ofNat cs.length) (own_B cs) (.int 0)) (g' := (mkF m 30 #[.val (.ref t1), .val (.int 0), .val (.int (Int32.ofNat cs.length)), .val (.int (Int32.ofNat cs.length)), .val (.ref b14)] [])) (fun s' T L_ X eT N hZ hown => own_cpy (xs := []) (ys := (own_B cs)) 0 cs.length X hx hZ hown (own_w hw 236 rfl) (own_w hw 191 rfl) (own_w hw 189 rfl) (own_w hw 190 rfl) eT f15 A14 rfl (Nat.le_of_eq (own_Bl cs)) (fun _ _ => rfl) (by rw [own_clamp (by omega)]; omega) (by rw [own_clamp (by omega)]; omega) (by decide) (by omega) rfl rfl rfl rfl N (Nat.le_trans (Old.le O0) sz14) (g := (mkF m 27 #[.val (.ref t1), .val (.int 0), .val (.int (Int32.ofNat cs.length)), .val (.int (Int32.ofNat cs.length)), .val (.ref b14)] [(.int (Int32.ofNat cs.length)), (.int 0), (.ref b14), (.int 0), (.ref t1)])) rfl hml.symm rfl (hb hby q37_27) (by decide) (W := 0) (catOf (Nat.le_of_ble_eq_true rfl)) (by decide)) (allS (Or.inr sz14) all0) ?_
  intro h18 K18 V18
  refine OwnN.Go.sp (g' := (mkF m 32 #[.val (.ref t1), .val (.int 0), .val (.int (Int32.ofNat cs.length)), .val (.int (Int32.ofNat cs.length)), .val (.ref b14)] [(.ref b14)])) (fun T A t r => XS.aload A hx rfl (hb hby q37_30) rfl rfl r) ?_
  exact OwnN.Go.ret (v := (some (.ref b14))) (fun s' T L_ fs X hr => own_retR X hx hret rfl rfl (hb hby q37_32) hr) (fun h => by rw [hret] at h; cases h) (by decide) (by decide) ⟨_, _, rfl, sz14, V18⟩
theorem rmCR (l : Launch) (Z : State) (a0 : Array Value) (hw : own_T a0 Z) (wds : List Jvm.Cond) (t1 : Addr) (k1 : ClassId) (cap : Nat) (cs : List Int32) (h0 : Heap) (n0 : Nat) (O0 : Old Z n0 h0)  (B1 : Arv Z h0 t1 k1 .byte (Int32.ofNat cap) (own_B cs) (.int 0)) (hl : cs.length < cap) (hcap : cap ≤ 158) :
    OwnN.Ct l Z Y31 jdk_65_method_132_code 3 (some (.array .byte)) wds (⟨2, 1, 158, 56⟩ : Room) #[(.ref t1), (.int 0), (.int (Int32.ofNat cs.length))] n0 h0 [] (fun v h => ∃ (t : Addr) (kb : ClassId), v = some (.ref t) ∧ h0.size ≤ t ∧ Arv Z h t kb .byte (Int32.ofNat cs.length) (own_B cs) (.int 0)) := by
  refine OwnN.Ct.of (plainFor_of_name pn_java_util_Arrays) O0 all0 ?_
  intro p e s m below meth c hx hby hml hret hnm
  refine OwnN.Go.cast (ef_RII_3 m t1 (0 : Int32) (Int32.ofNat cs.length)) ?_
  refine OwnN.Go.sp (g' := (mkF m 6 #[.val (.ref t1), .val (.int 0), .val (.int (Int32.ofNat cs.length))] [(.ref t1), (.int (Int32.ofNat cs.length))])) (fun T A t r => XS.iloadN A hx rfl (hb hby q38_0) rfl (XS.ifNo A hx rfl (hb hby q38_1) rfl ((if0 _ _).trans (teq (by decide : ((0 : Int32) = (0 : Int32)))).2) (XS.iloadN A hx rfl (hb hby q38_4) rfl (XS.aloadN A hx rfl (hb hby q38_5) rfl rfl r)))) ?_
  refine OwnN.Go.r (g' := (mkF m 7 #[.val (.ref t1), .val (.int 0), .val (.int (Int32.ofNat cs.length))] [(.int (Int32.ofNat cap)), (.int (Int32.ofNat cs.length))])) (fun s' T L_ X eT hZ t r => own_len X hx hZ eT B1 (g := (mkF m 6 #[.val (.ref t1), .val (.int 0), .val (.int (Int32.ofNat cs.length))] [(.ref t1), (.int (Int32.ofNat cs.length))])) rfl rfl (hb hby q38_6) t r) ?_
  refine OwnN.Go.sp (g' := (mkF m 13 #[.val (.ref t1), .val (.int 0), .val (.int (Int32.ofNat cs.length))] [(.int (Int32.ofNat cs.length)), (.int 0), (.ref t1)])) (fun T A t r => XS.icmpNo A hx rfl (hb hby q38_7) rfl (feq (own_neN hl hcap)).1 (XS.aloadN A hx rfl (hb hby q38_10) rfl rfl (XS.iloadN A hx rfl (hb hby q38_11) rfl (XS.iloadN A hx rfl (hb hby q38_12) rfl r)))) ?_
  refine OwnN.Go.old fun O11 => ?_
  refine OwnN.Go.callS (ws' := []) (W := 0) (y := Y28) (argsL := [(.ref t1), (.int 0), (.int (Int32.ofNat cs.length))]) (rest := []) (pc' := 16) (k' := 1) (n' := 158) (hb hby q38_13) (own_w hw 226 rfl) (own_w hw 227 rfl) (own_w hw 224 rfl) (own_w hw 228 rfl) (by decide) (fun s' hZ => OwnN.Ct.bk (rmRB l Z a0 hw [] t1 k1 cap cs h0 n0 O11 B1 hl hcap) hZ (own_w hw 228 rfl) (own_w hw 224 rfl) (by decide) (by decide)) hml.symm (lenOf pd_19 rfl) rfl (Nat.le_of_ble_eq_true rfl) rfl rfl rfl (by decide) (by decide) all0 ?_
  rintro v12 h12 K12 ⟨t12, kb12, rfl, ge12, V12⟩
  exact OwnN.Go.ret (v := (some (.ref t12))) (fun s' T L_ fs X hr => own_retR X hx hret rfl rfl (hb hby q38_16) hr) (fun h => by rw [hret] at h; cases h) (by decide) (by decide) ⟨_, _, rfl, ge12, V12⟩
theorem rmI2 (l : Launch) (Z : State) (a0 : Array Value) (hw : own_T a0 Z) (wds : List Jvm.Cond) (a1 : Addr) (a2 : Addr) (t2 : Addr) (k2 : ClassId) (cap : Nat) (cs : List Int32) (zS : Int32) (h0 : Heap) (n0 : Nat) (O0 : Old Z n0 h0) (g_a1 : n0 ≤ a1) (E1 : Exa Z h0 a1 "java/lang/String") (F1 : Fld Z h0 a1 "java/lang/String" "value" "[B" .null) (F2 : Fld Z h0 a1 "java/lang/String" "coder" "B" (.int 0)) (E2 : Exa Z h0 a2 "java/lang/StringBuilder") (V2 : Fld Z h0 a2 "java/lang/AbstractStringBuilder" "value" "[B" (.ref t2)) (C2 : Fld Z h0 a2 "java/lang/AbstractStringBuilder" "coder" "B" (.int 0)) (N2 : Fld Z h0 a2 "java/lang/AbstractStringBuilder" "count" "I" (.int (Int32.ofNat cs.length))) (B2 : Arv Z h0 t2 k2 .byte (Int32.ofNat cap) (own_B cs) (.int 0)) (hl : cs.length < cap) (hcap : cap ≤ 158) (S0 : Sta Z Z.heap "java/lang/String" "COMPACT_STRINGS" "Z" (.int zS)) (P0 : ¬ zS = (0 : Int32)) :
    OwnN.Ct l Z Y32 jdk_42_method_150_code 5 none wds (⟨3, 1, 158, 71⟩ : Room) #[(.ref a1), (.ref a2), .null] n0 h0 [a1] (fun v h => ∃ (t : Addr) (kb : ClassId), v = none ∧ Exa Z h a1 "java/lang/String" ∧ Fld Z h a1 "java/lang/String" "coder" "B" (.int 0) ∧ Fld Z h a1 "java/lang/String" "value" "[B" (.ref t) ∧ Arv Z h t kb .byte (Int32.ofNat cs.length) (own_B cs) (.int 0)) := by
  refine OwnN.Ct.of (plainFor_of_name pn_java_lang_String) O0 (allS g_a1 all0) ?_
  intro p e s m below meth c hx hby hml hret hnm
  refine OwnN.Go.cast (ef_RRN_5 m a1 a2) ?_
  refine OwnN.Go.sp (g' := (mkF m 1 #[.val (.ref a1), .val (.ref a2), .val .null, .unset, .unset] [(.ref a1)])) (fun T A t r => XS.aloadN A hx rfl (hb hby q39_0) rfl rfl r) ?_
  refine OwnN.Go.v (g' := (mkF m 4 #[.val (.ref a1), .val (.ref a2), .val .null, .unset, .unset] [])) (fun s' T L_ X eT hZ hown => initO X hx hZ hown (own_w hw 19 rfl) (own_w hw 20 rfl) (own_w hw 21 rfl) eT (g := (mkF m 1 #[.val (.ref a1), .val (.ref a2), .val .null, .unset, .unset] [(.ref a1)])) rfl hml.symm rfl (hb hby q39_1) (by decide) (W := 0) (catOf (Nat.le_of_ble_eq_true rfl)) (by decide)) ?_
  refine OwnN.Go.sp (g' := (mkF m 5 #[.val (.ref a1), .val (.ref a2), .val .null, .unset, .unset] [(.ref a2)])) (fun T A t r => XS.aloadN A hx rfl (hb hby q39_4) rfl rfl r) ?_
  refine OwnN.Go.old fun O11 => ?_
  refine OwnN.Go.callVP (a := a2) (z := Y29) (W := 0) (y := Y29) (argsL := []) (rest := []) (pc' := 8) (hb hby q39_5) (own_w hw 204 rfl) (own_w hw 205 rfl) (fun s' hZ => notFace_of_selects (args := #[]) (mvT hZ (own_w hw 207 rfl))) (own_w hw 207 rfl) (own_w hw 206 rfl) (by decide) (fun s' hZ => OwnN.Ct.bk (rmGV l Z a0 hw [] a2 t2 h0 n0 O11 V2) hZ (own_w hw 208 rfl) (own_w hw 128 rfl) (by decide) (by decide)) E2 hml.symm (lenOf pd_20 rfl) rfl (Nat.le_of_ble_eq_true rfl) rfl (by decide) (by decide) ?_
  rintro v12 rfl
  refine OwnN.Go.sp (g' := (mkF m 10 #[.val (.ref a1), .val (.ref a2), .val .null, .val (.ref t2), .unset] [(.ref a2)])) (fun T A t r => XS.astoreN A hx rfl (hb hby q39_8) rfl rfl (l' := #[.val (.ref a1), .val (.ref a2), .val .null, .val (.ref t2), .unset]) rfl (XS.aloadN A hx rfl (hb hby q39_9) rfl rfl r)) ?_
  refine OwnC.goNP (k' := 0) (n' := 0) (OwnC.callerV (y := Y26) (z := Y30) (a := a2) (W := 0) (argsL := []) (rest := []) (pc' := 13) (rc := 0) (rs := 0) (ws' := []) hx (hb hby q39_10) (own_w hw 209 rfl) (own_w hw 210 rfl) (fun s' hZ => OwnC.own_nf (a1 := #[]) (mvT hZ (own_w hw 170 rfl)) rfl) (own_w hw 212 rfl) (own_w hw 213 rfl) (by decide) (fun s' hZ => OwnN.Ct.bk (rmLB l Z a0 hw [] a2 (Int32.ofNat cs.length) h0 n0 O11 E2 N2) hZ (own_w hw 214 rfl) (own_w hw 120 rfl) (by decide) (by decide)) E2 hml.symm (lenOf pd_13 rfl) rfl (Nat.le_of_ble_eq_true rfl) rfl (by decide) (by decide)) rfl rfl ?_
  rintro v13 rfl
  refine OwnN.Go.sp (g' := (mkF m 16 #[.val (.ref a1), .val (.ref a2), .val .null, .val (.ref t2), .val (.int (Int32.ofNat cs.length))] [(.ref a2)])) (fun T A t r => XS.istore A hx rfl (hb hby q39_13) rfl (l' := #[.val (.ref a1), .val (.ref a2), .val .null, .val (.ref t2), .val (.int (Int32.ofNat cs.length))]) rfl (XS.aloadN A hx rfl (hb hby q39_15) rfl rfl r)) ?_
  refine OwnN.Go.callVP (a := a2) (z := Y24) (W := 0) (y := Y24) (argsL := []) (rest := []) (pc' := 19) (hb hby q39_16) (own_w hw 217 rfl) (own_w hw 218 rfl) (fun s' hZ => notFace_of_selects (args := #[]) (mvT hZ (own_w hw 220 rfl))) (own_w hw 220 rfl) (own_w hw 219 rfl) (by decide) (fun s' hZ => OwnN.Ct.bk (rmIL l Z a0 hw [] a2 zS h0 n0 O11 C2 S0 P0) hZ (own_w hw 221 rfl) (own_w hw 128 rfl) (by decide) (by decide)) E2 hml.symm (lenOf pd_16 rfl) rfl (Nat.le_of_ble_eq_true rfl) rfl (by decide) (by decide) ?_
  rintro v14 rfl
  refine OwnN.Go.sp (g' := (mkF m 24 #[.val (.ref a1), .val (.ref a2), .val .null, .val (.ref t2), .val (.int (Int32.ofNat cs.length))] [(.int 0), (.ref a1)])) (fun T A t r => XS.ifNo A hx rfl (hb hby q39_19) rfl ((if0 _ _).trans (feq (by decide : ¬ ((1 : Int32) = (0 : Int32)))).1) (XS.aloadN A hx rfl (hb hby q39_22) rfl rfl (XS.iconst A hx rfl (hb hby q39_23) r))) ?_
  refine OwnN.Go.w (g' := (mkF m 27 #[.val (.ref a1), .val (.ref a2), .val .null, .val (.ref t2), .val (.int (Int32.ofNat cs.length))] [])) (fun s' T L_ X eT hZ hown => putF X hx hZ hown (host := "") (Or.inl (own_w hw 24 rfl)) Via.refl eT F2 E1 (Or.inr ⟨(own_w hw 25 rfl), rfl, hnm⟩) (own_w hw 10 rfl) (ty := .byte) (by decide) (by decide) (by decide) (g := (mkF m 24 #[.val (.ref a1), .val (.ref a2), .val .null, .val (.ref t2), .val (.int (Int32.ofNat cs.length))] [(.int 0), (.ref a1)])) rfl rfl (hb hby q39_24)) (Or.inl (List.mem_of_getElem? (i := 0) rfl)) ?_
  intro h16 W16
  have F16 := F2.same W16
  refine OwnN.Go.sp (g' := (mkF m 32 #[.val (.ref a1), .val (.ref a2), .val .null, .val (.ref t2), .val (.int (Int32.ofNat cs.length))] [(.int (Int32.ofNat cs.length)), (.int 0), (.ref t2), (.ref a1)])) (fun T A t r => XS.aloadN A hx rfl (hb hby q39_27) rfl rfl (XS.aloadN A hx rfl (hb hby q39_28) rfl rfl (XS.iconst A hx rfl (hb hby q39_29) (XS.iload A hx rfl (hb hby q39_30) rfl r)))) ?_
  refine OwnN.Go.old fun O17 => ?_
  have ne18 : a1 ≠ t2 := Exa.neArv E1 B2 (own_w hw 10 rfl)
  have f19 := (B2.other W16 (Ne.symm ne18))
  refine OwnN.Go.callS (ws' := []) (W := 1) (y := Y31) (argsL := [(.ref t2), (.int 0), (.int (Int32.ofNat cs.length))]) (rest := [(.ref a1)]) (pc' := 35) (k' := 1) (n' := 158) (hb hby q39_32) (own_w hw 222 rfl) (own_w hw 223 rfl) (own_w hw 224 rfl) (own_w hw 225 rfl) (by decide) (fun s' hZ => OwnN.Ct.bk (rmCR l Z a0 hw [] t2 k2 cap cs h16 n0 O17 f19 hl hcap) hZ (own_w hw 225 rfl) (own_w hw 224 rfl) (by decide) (by decide)) hml.symm (lenOf pd_19 rfl) rfl (Nat.le_of_ble_eq_true rfl) rfl rfl rfl (by decide) (by decide) all0 ?_
  rintro v20 h20 K20 ⟨t20, kb20, rfl, ge20, V20⟩
  have f21 := ((E1.wr W16).keep K20)
  have f22 := ((F1.other W16 (Or.inr (slot_ne (Or.inr (own_w hw 23 rfl)) (Or.inr (own_w hw 25 rfl)) (by decide) (t := (.array .byte)) (t' := .byte) (by decide) (by decide)))).keep K20 nin0)
  refine OwnN.Go.w (g' := (mkF m 38 #[.val (.ref a1), .val (.ref a2), .val .null, .val (.ref t2), .val (.int (Int32.ofNat cs.length))] [])) (fun s' T L_ X eT hZ hown => putF X hx hZ hown (host := "") (Or.inl (own_w hw 22 rfl)) Via.refl eT f22 f21 (Or.inr ⟨(own_w hw 23 rfl), rfl, hnm⟩) (own_w hw 10 rfl) (ty := (.array .byte)) (by decide) rfl rfl (g := (mkF m 35 #[.val (.ref a1), .val (.ref a2), .val .null, .val (.ref t2), .val (.int (Int32.ofNat cs.length))] [(.ref t20), (.ref a1)])) rfl rfl (hb hby q39_35)) (Or.inl (List.mem_of_getElem? (i := 0) rfl)) ?_
  intro h24 W24
  have F24 := f22.same W24
  refine OwnN.Go.sp (g' := (mkF m 97 #[.val (.ref a1), .val (.ref a2), .val .null, .val (.ref t2), .val (.int (Int32.ofNat cs.length))] [])) (fun T A t r => XS.goto A hx rfl (pc0 := 38) (pc' := 97) rfl (hb hby q39_38) (by decide) (by decide) r) ?_
  have f25 := (f21.wr W24)
  have f26 := ((F16.keep K20 nin0).other W24 (Or.inr (slot_ne (Or.inr (own_w hw 25 rfl)) (Or.inr (own_w hw 23 rfl)) (by decide) (t := .byte) (t' := (.array .byte)) (by decide) (by decide))))
  have f27 := (E1.wr W16)
  have ne28 : a1 ≠ t20 := Nat.ne_of_lt (Nat.lt_of_lt_of_le f27.lt ge20)
  have f29 := (V20.other W24 (Ne.symm ne28))
  exact OwnN.Go.ret (v := none) (fun s' T L_ fs X hr => X.returnOut hx hret (hb hby q39_97) hr) (fun _ => rfl) (by decide) (by decide) ⟨_, _, rfl, f25, f26, F24, f29⟩
theorem rmI1 (l : Launch) (Z : State) (a0 : Array Value) (hw : own_T a0 Z) (wds : List Jvm.Cond) (a1 : Addr) (a2 : Addr) (t2 : Addr) (k2 : ClassId) (cap : Nat) (cs : List Int32) (zS : Int32) (h0 : Heap) (n0 : Nat) (O0 : Old Z n0 h0) (g_a1 : n0 ≤ a1) (E1 : Exa Z h0 a1 "java/lang/String") (F1 : Fld Z h0 a1 "java/lang/String" "value" "[B" .null) (F2 : Fld Z h0 a1 "java/lang/String" "coder" "B" (.int 0)) (E2 : Exa Z h0 a2 "java/lang/StringBuilder") (V2 : Fld Z h0 a2 "java/lang/AbstractStringBuilder" "value" "[B" (.ref t2)) (C2 : Fld Z h0 a2 "java/lang/AbstractStringBuilder" "coder" "B" (.int 0)) (N2 : Fld Z h0 a2 "java/lang/AbstractStringBuilder" "count" "I" (.int (Int32.ofNat cs.length))) (B2 : Arv Z h0 t2 k2 .byte (Int32.ofNat cap) (own_B cs) (.int 0)) (hl : cs.length < cap) (hcap : cap ≤ 158) (S0 : Sta Z Z.heap "java/lang/String" "COMPACT_STRINGS" "Z" (.int zS)) (P0 : ¬ zS = (0 : Int32)) :
    OwnN.Ct l Z Y33 jdk_42_method_53_code 2 none wds (⟨4, 1, 158, 87⟩ : Room) #[(.ref a1), (.ref a2)] n0 h0 [a1] (fun v h => ∃ (t : Addr) (kb : ClassId), v = none ∧ Exa Z h a1 "java/lang/String" ∧ Fld Z h a1 "java/lang/String" "coder" "B" (.int 0) ∧ Fld Z h a1 "java/lang/String" "value" "[B" (.ref t) ∧ Arv Z h t kb .byte (Int32.ofNat cs.length) (own_B cs) (.int 0)) := by
  refine OwnN.Ct.of (plainFor_of_name pn_java_lang_String) O0 (allS g_a1 all0) ?_
  intro p e s m below meth c hx hby hml hret hnm
  refine OwnN.Go.cast (ef_RR_2 m a1 a2) ?_
  refine OwnN.Go.sp (g' := (mkF m 3 #[.val (.ref a1), .val (.ref a2)] [.null, (.ref a2), (.ref a1)])) (fun T A t r => XS.aloadN A hx rfl (hb hby q40_0) rfl rfl (XS.aloadN A hx rfl (hb hby q40_1) rfl rfl (XS.aconstNull A hx rfl (hb hby q40_2) r))) ?_
  refine OwnN.Go.old fun O11 => ?_
  refine OwnN.Go.callC (a := a1) (ws' := [a1]) (W := 0) (y := Y32) (argsL := [(.ref a2), .null]) (rest := []) (pc' := 6) (k' := 1) (n' := 158) (hb hby q40_3) rfl (own_w hw 201 rfl) (own_w hw 202 rfl) (own_w hw 203 rfl) (by decide) (fun s' hZ => OwnN.Ct.bk (rmI2 l Z a0 hw [] a1 a2 t2 k2 cap cs zS h0 n0 O11 g_a1 E1 F1 F2 E2 V2 C2 N2 B2 hl hcap S0 P0) hZ (own_w hw 203 rfl) (own_w hw 2 rfl) (by decide) (by decide)) hml.symm (lenOf pd_21 rfl) rfl (Nat.le_of_ble_eq_true rfl) rfl rfl rfl (by decide) (by decide) (allS (Or.inl (List.mem_of_getElem? (i := 0) rfl)) all0) ?_
  rintro v12 h12 K12 ⟨t12, kb12, rfl, E12, C12, V12, B12⟩
  exact OwnN.Go.ret (v := none) (fun s' T L_ fs X hr => X.returnOut hx hret (hb hby q40_6) hr) (fun _ => rfl) (by decide) (by decide) ⟨_, _, rfl, E12, C12, V12, B12⟩
theorem rmTO (l : Launch) (Z : State) (a0 : Array Value) (hw : own_T a0 Z) (wds : List Jvm.Cond) (a2 : Addr) (t2 : Addr) (k2 : ClassId) (cap : Nat) (cs : List Int32) (zS : Int32) (h0 : Heap) (n0 : Nat) (O0 : Old Z n0 h0)  (E2 : Exa Z h0 a2 "java/lang/StringBuilder") (V2 : Fld Z h0 a2 "java/lang/AbstractStringBuilder" "value" "[B" (.ref t2)) (C2 : Fld Z h0 a2 "java/lang/AbstractStringBuilder" "coder" "B" (.int 0)) (N2 : Fld Z h0 a2 "java/lang/AbstractStringBuilder" "count" "I" (.int (Int32.ofNat cs.length))) (B2 : Arv Z h0 t2 k2 .byte (Int32.ofNat cap) (own_B cs) (.int 0)) (hl : cs.length < cap) (hcap : cap ≤ 158) (S0 : Sta Z Z.heap "java/lang/String" "COMPACT_STRINGS" "Z" (.int zS)) (P0 : ¬ zS = (0 : Int32)) :
    OwnN.Ct l Z Y66 jdk_67_method_42_code 1 (some (.object "java/lang/String")) wds (⟨5, 2, 162, 101⟩ : Room) #[(.ref a2)] n0 h0 [] (fun v h => ∃ (sa ta : Addr) (ka : ClassId), v = some (.ref sa) ∧ Exa Z h sa "java/lang/String" ∧ Fld Z h sa "java/lang/String" "coder" "B" (.int 0) ∧ Fld Z h sa "java/lang/String" "value" "[B" (.ref ta) ∧ Arv Z h ta ka .byte (Int32.ofNat cs.length) (own_B cs) (.int 0)) := by
  refine OwnN.Ct.of (plainFor_of_name pn_java_lang_StringBuilder) O0 all0 ?_
  intro p e s m below meth c hx hby hml hret hnm
  refine OwnN.Go.cast (ef_R_1 m a2) ?_
  refine OwnN.Go.newO (k' := 1) (n' := 4) (pc' := 3) (hb hby q41_0) (own_w hw 197 rfl) (own_w hw 10 rfl) (own_w hw 2 rfl) rfl rfl rfl (by decide) (by decide) ?_
  intro b11 h11 g11 sz11 E11 A11 D11
  have F11_value : Fld Z h11 b11 "java/lang/String" "value" "[B" .null := D11 (Or.inr (own_w hw 23 rfl)) (ty := (.array .byte)) (by decide)
  have F11_coder : Fld Z h11 b11 "java/lang/String" "coder" "B" (.int 0) := D11 (Or.inr (own_w hw 25 rfl)) (ty := .byte) (by decide)
  refine OwnN.Go.sp (g' := (mkF m 5 #[.val (.ref a2)] [(.ref a2), (.ref b11), (.ref b11)])) (fun T A t r => XS.dup A hx rfl (hb hby q41_3) rfl rfl (XS.aloadN A hx rfl (hb hby q41_4) rfl rfl r)) ?_
  refine OwnN.Go.old fun O12 => ?_
  have f13 := (E2.ext E11)
  have f14 := (V2.ext E11)
  have f15 := (C2.ext E11)
  have f16 := (N2.ext E11)
  have f17 := (B2.ext E11)
  refine OwnN.Go.callC (a := b11) (ws' := [b11]) (W := 1) (y := Y33) (argsL := [(.ref a2)]) (rest := [(.ref b11)]) (pc' := 8) (k' := 2) (n' := 162) (hb hby q41_5) rfl (own_w hw 198 rfl) (own_w hw 199 rfl) (own_w hw 200 rfl) (by decide) (fun s' hZ => OwnN.Ct.bk (rmI1 l Z a0 hw [] b11 a2 t2 k2 cap cs zS h11 n0 O12 (Nat.le_trans (Old.le O0) sz11) A11 F11_value F11_coder f13 f14 f15 f16 f17 hl hcap S0 P0) hZ (own_w hw 200 rfl) (own_w hw 2 rfl) (by decide) (by decide)) hml.symm (lenOf pd_22 rfl) rfl (Nat.le_of_ble_eq_true rfl) rfl rfl rfl (by decide) (by decide) (allS (Or.inr sz11) all0) ?_
  rintro v18 h18 K18 ⟨t18, kb18, rfl, E18, C18, V18, B18⟩
  exact OwnN.Go.ret (v := (some (.ref b11))) (fun s' T L_ fs X hr => own_retR X hx hret rfl rfl (hb hby q41_8) hr) (fun h => by rw [hret] at h; cases h) (by decide) (by decide) ⟨_, _, _, rfl, E18, C18, V18, B18⟩
theorem rmRP1 (l : Launch) (Z : State) (a0 : Array Value) (hw : own_T a0 Z) (wds : List Jvm.Cond) (a1 : Addr) (h0 : Heap) (n0 : Nat) (O0 : Old Z n0 h0)   :
    OwnN.Ct l Z Y64 jdk_42_method_145_code 5 (some (.object "java/lang/String")) wds (⟨0, 0, 0, 0⟩ : Room) #[(.ref a1), (.int 1)] n0 h0 [] (fun v h => v = some (.ref a1) ∧ h = h0) := by
  refine OwnN.Ct.of (plainFor_of_name pn_java_lang_String) O0 all0 ?_
  intro p e s m below meth c hx hby hml hret hnm
  refine OwnN.Go.cast (ef_RI_5 m a1 (1 : Int32)) ?_
  refine OwnN.Go.sp (g' := (mkF m 38 #[.val (.ref a1), .val (.int 1), .unset, .unset, .unset] [(.ref a1)])) (fun T A t r => XS.iloadN A hx rfl (hb hby q42_0) rfl (XS.ifYes A hx rfl (pc0 := 1) (pc' := 32) rfl (hb hby q42_1) rfl ((if0 _ _).trans (flt (by decide : ¬ ((1 : Int32) < (0 : Int32)))).2.1) (by decide) (by decide) (XS.iloadN A hx rfl (hb hby q42_32) rfl (XS.iconst A hx rfl (hb hby q42_33) (XS.icmpNo A hx rfl (hb hby q42_34) rfl (teq (by decide : ((1 : Int32) = (1 : Int32)))).2 (XS.aloadN A hx rfl (hb hby q42_37) rfl rfl r)))))) ?_
  exact OwnN.Go.ret (v := (some (.ref a1))) (fun s' T L_ fs X hr => own_retR X hx hret rfl rfl (hb hby q42_38) hr) (fun h => by rw [hret] at h; cases h) (by decide) (by decide) ⟨rfl, rfl⟩
theorem rmRC2 (l : Launch) (Z : State) (a0 : Array Value) (hw : own_T a0 Z) (wds : List Jvm.Cond) (t1 : Addr) (k1 : ClassId) (h0 : Heap) (n0 : Nat) (O0 : Old Z n0 h0) (g_t1 : n0 ≤ t1) (B1 : Arv Z h0 t1 k1 .byte (8 : Int32) (own_B own_4) (.int 0)) :
    OwnN.Ct l Z Y34 jdk_42_method_146_code 4 none wds (⟨1, 0, 0, 40⟩ : Room) #[(.ref t1), (.int 0), (.int 8), (.int 4)] n0 h0 [t1] (fun v h => v = none ∧ Arv Z h t1 k1 .byte (8 : Int32) (own_B (own_4 ++ own_4)) (.int 0)) := by
  refine OwnN.Ct.of (plainFor_of_name pn_java_lang_String) O0 (allS g_t1 all0) ?_
  intro p e s m below meth c hx hby hml hret hnm
  refine OwnN.Go.cast (ef_RIII_4 m t1 (0 : Int32) (8 : Int32) (4 : Int32)) ?_
  refine OwnN.Go.sp (g' := (mkF m 33 #[.val (.ref t1), .val (.int 0), .val (.int 8), .val (.int 4)] [(.int 4), (.int 4), (.ref t1), (.int 0), (.ref t1)])) (fun T A t r => XS.iloadN A hx rfl (hb hby q43_0) rfl (XS.iloadN A hx rfl (hb hby q43_1) rfl (XS.iloadN A hx rfl (hb hby q43_2) rfl (XS.isub A hx rfl (hb hby q43_3) rfl (XS.icmpYes A hx rfl (pc0 := 4) (pc' := 24) rfl (hb hby q43_4) rfl (flt (by decide : ¬ ((4 : Int32) < (4 : Int32)))).2.1 (by decide) (by decide) (XS.aloadN A hx rfl (hb hby q43_24) rfl rfl (XS.iloadN A hx rfl (hb hby q43_25) rfl (XS.aloadN A hx rfl (hb hby q43_26) rfl rfl (XS.iloadN A hx rfl (hb hby q43_27) rfl (XS.iloadN A hx rfl (hb hby q43_28) rfl (XS.iadd A hx rfl (hb hby q43_29) rfl (XS.iloadN A hx rfl (hb hby q43_30) rfl (XS.iloadN A hx rfl (hb hby q43_31) rfl (XS.isub A hx rfl (hb hby q43_32) rfl r)))))))))))))) ?_
  refine OwnN.Go.kp (ws' := [t1]) (P := fun h' => Arv Z h' t1 k1 .byte (8 : Int32) (own_B (own_4 ++ own_4)) (.int 0)) (g' := (mkF m 36 #[.val (.ref t1), .val (.int 0), .val (.int 8), .val (.int 4)] [])) (fun s' T L_ X eT N hZ hown => own_cpy (xs := (own_B own_4)) (ys := (own_B own_4)) 4 4 X hx hZ hown (own_w hw 188 rfl) (own_w hw 191 rfl) (own_w hw 189 rfl) (own_w hw 190 rfl) eT B1 B1 rfl (by decide) (fun _ _ => rfl) (by decide) (by decide) (by decide) (by decide) rfl rfl rfl rfl N g_t1 (g := (mkF m 33 #[.val (.ref t1), .val (.int 0), .val (.int 8), .val (.int 4)] [(.int 4), (.int 4), (.ref t1), (.int 0), (.ref t1)])) rfl hml.symm rfl (hb hby q43_33) (by decide) (W := 0) (catOf (Nat.le_of_ble_eq_true rfl)) (by decide)) (allS (Or.inl (List.mem_of_getElem? (i := 0) rfl)) all0) ?_
  intro h11 K11 V11
  exact OwnN.Go.ret (v := none) (fun s' T L_ fs X hr => X.returnOut hx hret (hb hby q43_36) hr) (fun _ => rfl) (by decide) (by decide) ⟨rfl, V11⟩
theorem rmRP2 (l : Launch) (Z : State) (a0 : Array Value) (hw : own_T a0 Z) (wds : List Jvm.Cond) (a1 : Addr) (t1 : Addr) (k1 : ClassId) (h0 : Heap) (n0 : Nat) (O0 : Old Z n0 h0)  (C1 : Fld Z h0 a1 "java/lang/String" "coder" "B" (.int 0)) (V1 : Fld Z h0 a1 "java/lang/String" "value" "[B" (.ref t1)) (B1 : Arv Z h0 t1 k1 .byte (4 : Int32) (own_B own_4) (.int 0)) :
    OwnN.Ct l Z Y64 jdk_42_method_145_code 5 (some (.object "java/lang/String")) wds (⟨2, 2, 12, 55⟩ : Room) #[(.ref a1), (.int 2)] n0 h0 [] (fun v h => ∃ (sa ta : Addr) (ka : ClassId), v = some (.ref sa) ∧ Exa Z h sa "java/lang/String" ∧ Fld Z h sa "java/lang/String" "coder" "B" (.int 0) ∧ Fld Z h sa "java/lang/String" "value" "[B" (.ref ta) ∧ Arv Z h ta ka .byte (Int32.ofNat (own_4 ++ own_4).length) (own_B (own_4 ++ own_4)) (.int 0)) := by
  refine OwnN.Ct.of (plainFor_of_name pn_java_lang_String) O0 all0 ?_
  intro p e s m below meth c hx hby hml hret hnm
  refine OwnN.Go.cast (ef_RI_5 m a1 (2 : Int32)) ?_
  refine OwnN.Go.sp (g' := (mkF m 40 #[.val (.ref a1), .val (.int 2), .unset, .unset, .unset] [(.ref a1)])) (fun T A t r => XS.iloadN A hx rfl (hb hby q42_0) rfl (XS.ifYes A hx rfl (pc0 := 1) (pc' := 32) rfl (hb hby q42_1) rfl ((if0 _ _).trans (flt (by decide : ¬ ((2 : Int32) < (0 : Int32)))).2.1) (by decide) (by decide) (XS.iloadN A hx rfl (hb hby q42_32) rfl (XS.iconst A hx rfl (hb hby q42_33) (XS.icmpYes A hx rfl (pc0 := 34) (pc' := 39) rfl (hb hby q42_34) rfl (feq (by decide : ¬ ((2 : Int32) = (1 : Int32)))).2 (by decide) (by decide) (XS.aloadN A hx rfl (hb hby q42_39) rfl rfl r)))))) ?_
  refine OwnN.Go.v (g' := (mkF m 43 #[.val (.ref a1), .val (.int 2), .unset, .unset, .unset] [(.ref t1)])) (fun s' T L_ X eT hZ hown => getF X hx hZ hown (host := "") (Or.inl (own_w hw 22 rfl)) Via.refl eT V1 (g := (mkF m 40 #[.val (.ref a1), .val (.int 2), .unset, .unset, .unset] [(.ref a1)])) rfl rfl (hb hby q42_40)) ?_
  refine OwnN.Go.r (g' := (mkF m 44 #[.val (.ref a1), .val (.int 2), .unset, .unset, .unset] [(.int 4)])) (fun s' T L_ X eT hZ t r => own_len X hx hZ eT B1 (g := (mkF m 43 #[.val (.ref a1), .val (.int 2), .unset, .unset, .unset] [(.ref t1)])) rfl rfl (hb hby q42_43) t r) ?_
  refine OwnN.Go.sp (g' := (mkF m 56 #[.val (.ref a1), .val (.int 2), .val (.int 4), .unset, .unset] [])) (fun T A t r => XS.istoreN A hx rfl (hb hby q42_44) rfl (l' := #[.val (.ref a1), .val (.int 2), .val (.int 4), .unset, .unset]) rfl (XS.iloadN A hx rfl (hb hby q42_45) rfl (XS.ifNo A hx rfl (hb hby q42_46) rfl ((if0 _ _).trans (feq (by decide : ¬ ((4 : Int32) = (0 : Int32)))).1) (XS.iloadN A hx rfl (hb hby q42_49) rfl (XS.ifYes A hx rfl (pc0 := 50) (pc' := 56) rfl (hb hby q42_50) rfl ((if0 _ _).trans (feq (by decide : ¬ ((2 : Int32) = (0 : Int32)))).2) (by decide) (by decide) r))))) ?_
  refine OwnN.Go.v (g' := (mkF m 59 #[.val (.ref a1), .val (.int 2), .val (.int 4), .unset, .unset] [(.int 2147483647)])) (fun s' T L_ X eT hZ hown => own_ldcWI X hx hZ hown (own_w hw 464 rfl) eT (g := (mkF m 56 #[.val (.ref a1), .val (.int 2), .val (.int 4), .unset, .unset] [])) rfl (hb hby q42_56)) ?_
  refine OwnN.Go.sp (g' := (mkF m 113 #[.val (.ref a1), .val (.int 2), .val (.int 4), .val (.int 8), .unset] [(.int 8)])) (fun T A t r => XS.iloadN A hx rfl (hb hby q42_59) rfl (XS.idiv A hx rfl (hb hby q42_60) rfl (by decide) (XS.iloadN A hx rfl (hb hby q42_61) rfl (XS.icmpYes A hx rfl (pc0 := 62) (pc' := 76) rfl (hb hby q42_62) rfl (flt (by decide)).2.1 (by decide) (by decide) (XS.iloadN A hx rfl (hb hby q42_76) rfl (XS.iconst A hx rfl (hb hby q42_77) (XS.icmpYes A hx rfl (pc0 := 78) (pc' := 108) rfl (hb hby q42_78) rfl (feq (by decide : ¬ ((4 : Int32) = (1 : Int32)))).2 (by decide) (by decide) (XS.iloadN A hx rfl (hb hby q42_108) rfl (XS.iloadN A hx rfl (hb hby q42_109) rfl (XS.imul A hx rfl (hb hby q42_110) rfl (XS.istoreN A hx rfl (hb hby q42_111) rfl (l' := #[.val (.ref a1), .val (.int 2), .val (.int 4), .val (.int 8), .unset]) rfl (XS.iloadN A hx rfl (hb hby q42_112) rfl r)))))))))))) ?_
  refine OwnN.Go.newP (ty := .byte) (dv := (.int 0)) (cap := 8) (k' := 1) (n' := 8) (pc' := 115) (hb hby q42_113) rfl rfl (own_w hw 14 rfl) (by decide) (by decide) (by decide) rfl rfl rfl (by decide) (by decide) ?_
  intro b11 h11 k11 g11 sz11 E11 A11
  have V11 : Arv Z h11 b11 k11 .byte (8 : Int32) [(.int 0), (.int 0), (.int 0), (.int 0), (.int 0), (.int 0), (.int 0), (.int 0)] (.int 0) := A11.pad (pad_rep [] (.int 0) 8)
  refine OwnN.Go.sp (g' := (mkF m 118 #[.val (.ref a1), .val (.int 2), .val (.int 4), .val (.int 8), .val (.ref b11)] [(.ref a1)])) (fun T A t r => XS.astore A hx rfl (hb hby q42_115) rfl rfl (l' := #[.val (.ref a1), .val (.int 2), .val (.int 4), .val (.int 8), .val (.ref b11)]) rfl (XS.aloadN A hx rfl (hb hby q42_117) rfl rfl r)) ?_
  have f12 := (V1.ext E11)
  refine OwnN.Go.v (g' := (mkF m 121 #[.val (.ref a1), .val (.int 2), .val (.int 4), .val (.int 8), .val (.ref b11)] [(.ref t1)])) (fun s' T L_ X eT hZ hown => getF X hx hZ hown (host := "") (Or.inl (own_w hw 22 rfl)) Via.refl eT f12 (g := (mkF m 118 #[.val (.ref a1), .val (.int 2), .val (.int 4), .val (.int 8), .val (.ref b11)] [(.ref a1)])) rfl rfl (hb hby q42_118)) ?_
  refine OwnN.Go.sp (g' := (mkF m 126 #[.val (.ref a1), .val (.int 2), .val (.int 4), .val (.int 8), .val (.ref b11)] [(.int 4), (.int 0), (.ref b11), (.int 0), (.ref t1)])) (fun T A t r => XS.iconst A hx rfl (hb hby q42_121) (XS.aload A hx rfl (hb hby q42_122) rfl rfl (XS.iconst A hx rfl (hb hby q42_124) (XS.iloadN A hx rfl (hb hby q42_125) rfl r)))) ?_
  have f13 := (B1.ext E11)
  refine OwnN.Go.kp (ws' := [b11]) (P := fun h' => Arv Z h' b11 k11 .byte (8 : Int32) (own_B own_4) (.int 0)) (g' := (mkF m 129 #[.val (.ref a1), .val (.int 2), .val (.int 4), .val (.int 8), .val (.ref b11)] [])) (fun s' T L_ X eT N hZ hown => own_cpy (xs := []) (ys := (own_B own_4)) 0 4 X hx hZ hown (own_w hw 188 rfl) (own_w hw 191 rfl) (own_w hw 189 rfl) (own_w hw 190 rfl) eT f13 A11 rfl (by decide) (fun _ _ => rfl) (by decide) (by decide) (by decide) (by decide) rfl rfl rfl rfl N (Nat.le_trans (Old.le O0) sz11) (g := (mkF m 126 #[.val (.ref a1), .val (.int 2), .val (.int 4), .val (.int 8), .val (.ref b11)] [(.int 4), (.int 0), (.ref b11), (.int 0), (.ref t1)])) rfl hml.symm rfl (hb hby q42_126) (by decide) (W := 0) (catOf (Nat.le_of_ble_eq_true rfl)) (by decide)) (allS (Or.inr sz11) all0) ?_
  intro h14 K14 V14
  refine OwnN.Go.sp (g' := (mkF m 134 #[.val (.ref a1), .val (.int 2), .val (.int 4), .val (.int 8), .val (.ref b11)] [(.int 4), (.int 8), (.int 0), (.ref b11)])) (fun T A t r => XS.aload A hx rfl (hb hby q42_129) rfl rfl (XS.iconst A hx rfl (hb hby q42_131) (XS.iloadN A hx rfl (hb hby q42_132) rfl (XS.iloadN A hx rfl (hb hby q42_133) rfl r)))) ?_
  refine OwnN.Go.old fun O15 => ?_
  refine OwnN.Go.callS (ws' := [b11]) (W := 0) (y := Y34) (argsL := [(.ref b11), (.int 0), (.int 8), (.int 4)]) (rest := []) (pc' := 137) (k' := 1) (n' := 8) (hb hby q42_134) (own_w hw 465 rfl) (own_w hw 466 rfl) (own_w hw 2 rfl) (own_w hw 467 rfl) (by decide) (fun s' hZ => OwnN.Ct.bk (rmRC2 l Z a0 hw [] b11 k11 h14 n0 O15 (Nat.le_trans (Old.le O0) sz11) V14) hZ (own_w hw 467 rfl) (own_w hw 2 rfl) (by decide) (by decide)) hml.symm (lenOf pd_23 rfl) rfl (Nat.le_of_ble_eq_true rfl) rfl rfl rfl (by decide) (by decide) (allS (Or.inr sz11) all0) ?_
  rintro v16 h16 K16 ⟨rfl, B16⟩
  refine OwnN.Go.newO (k' := 2) (n' := 12) (pc' := 140) (hb hby q42_137) (own_w hw 9 rfl) (own_w hw 10 rfl) (own_w hw 2 rfl) rfl rfl rfl (by decide) (by decide) ?_
  intro b17 h17 g17 sz17 E17 A17 D17
  have F17_value : Fld Z h17 b17 "java/lang/String" "value" "[B" .null := D17 (Or.inr (own_w hw 23 rfl)) (ty := (.array .byte)) (by decide)
  have F17_coder : Fld Z h17 b17 "java/lang/String" "coder" "B" (.int 0) := D17 (Or.inr (own_w hw 25 rfl)) (ty := .byte) (by decide)
  refine OwnN.Go.sp (g' := (mkF m 144 #[.val (.ref a1), .val (.int 2), .val (.int 4), .val (.int 8), .val (.ref b11)] [(.ref a1), (.ref b11), (.ref b17), (.ref b17)])) (fun T A t r => XS.dup A hx rfl (hb hby q42_140) rfl rfl (XS.aload A hx rfl (hb hby q42_141) rfl rfl (XS.aloadN A hx rfl (hb hby q42_143) rfl rfl r))) ?_
  have ne18 : a1 ≠ b11 := Nat.ne_of_lt (Nat.lt_of_lt_of_le C1.lt (Nat.le_of_eq g11.symm))
  have f19 := ((((C1.ext E11).keep K14 (ninS ne18 nin0)).keep K16 (ninS ne18 nin0)).ext E17)
  refine OwnN.Go.v (g' := (mkF m 147 #[.val (.ref a1), .val (.int 2), .val (.int 4), .val (.int 8), .val (.ref b11)] [(.int 0), (.ref b11), (.ref b17), (.ref b17)])) (fun s' T L_ X eT hZ hown => getF X hx hZ hown (host := "") (Or.inl (own_w hw 24 rfl)) Via.refl eT f19 (g := (mkF m 144 #[.val (.ref a1), .val (.int 2), .val (.int 4), .val (.int 8), .val (.ref b11)] [(.ref a1), (.ref b11), (.ref b17), (.ref b17)])) rfl rfl (hb hby q42_144)) ?_
  refine OwnN.Go.old fun O20 => ?_
  refine OwnN.Go.callC (a := b17) (ws' := [b17]) (W := 1) (y := Y2) (argsL := [(.ref b11), (.int 0)]) (rest := [(.ref b17)]) (pc' := 150) (k' := 2) (n' := 12) (hb hby q42_147) rfl (own_w hw 15 rfl) (own_w hw 16 rfl) (own_w hw 18 rfl) (by decide) (fun s' hZ => OwnN.Ct.bk (rmSI l Z a0 hw [] b17 b11 _ _ h17 n0 O20 (Nat.le_trans (Old.le O0) sz17) A17 F17_value F17_coder) hZ (own_w hw 18 rfl) (own_w hw 2 rfl) (by decide) (by decide)) hml.symm (lenOf pd_2 rfl) rfl (Nat.le_of_ble_eq_true rfl) rfl rfl rfl (by decide) (by decide) (allS (Or.inr sz17) all0) ?_
  rintro v21 h21 K21 ⟨rfl, E21, C21, F21⟩
  have ne22 : b11 ≠ b17 := Nat.ne_of_lt (Nat.lt_of_lt_of_le B16.lt (Nat.le_of_eq g17.symm))
  have f23 := ((B16.ext E17).keep K21 (ninS ne22 nin0))
  exact OwnN.Go.ret (v := (some (.ref b17))) (fun s' T L_ fs X hr => own_retR X hx hret rfl rfl (hb hby q42_150) hr) (fun h => by rw [hret] at h; cases h) (by decide) (by decide) ⟨_, _, _, rfl, E21, C21, F21, f23⟩
theorem rmRC3 (l : Launch) (Z : State) (a0 : Array Value) (hw : own_T a0 Z) (wds : List Jvm.Cond) (t1 : Addr) (k1 : ClassId) (h0 : Heap) (n0 : Nat) (O0 : Old Z n0 h0) (g_t1 : n0 ≤ t1) (B1 : Arv Z h0 t1 k1 .byte (12 : Int32) (own_B own_4) (.int 0)) :
    OwnN.Ct l Z Y34 jdk_42_method_146_code 4 none wds (⟨1, 0, 0, 40⟩ : Room) #[(.ref t1), (.int 0), (.int 12), (.int 4)] n0 h0 [t1] (fun v h => v = none ∧ Arv Z h t1 k1 .byte (12 : Int32) (own_B ((own_4 ++ own_4) ++ own_4)) (.int 0)) := by
  refine OwnN.Ct.of (plainFor_of_name pn_java_lang_String) O0 (allS g_t1 all0) ?_
  intro p e s m below meth c hx hby hml hret hnm
  refine OwnN.Go.cast (ef_RIII_4 m t1 (0 : Int32) (12 : Int32) (4 : Int32)) ?_
  refine OwnN.Go.sp (g' := (mkF m 14 #[.val (.ref t1), .val (.int 0), .val (.int 12), .val (.int 4)] [(.int 4), (.int 4), (.ref t1), (.int 0), (.ref t1)])) (fun T A t r => XS.iloadN A hx rfl (hb hby q43_0) rfl (XS.iloadN A hx rfl (hb hby q43_1) rfl (XS.iloadN A hx rfl (hb hby q43_2) rfl (XS.isub A hx rfl (hb hby q43_3) rfl (XS.icmpNo A hx rfl (hb hby q43_4) rfl (tlt (by decide : ((4 : Int32) < (8 : Int32)))).2.1 (XS.aloadN A hx rfl (hb hby q43_7) rfl rfl (XS.iloadN A hx rfl (hb hby q43_8) rfl (XS.aloadN A hx rfl (hb hby q43_9) rfl rfl (XS.iloadN A hx rfl (hb hby q43_10) rfl (XS.iloadN A hx rfl (hb hby q43_11) rfl (XS.iadd A hx rfl (hb hby q43_12) rfl (XS.iloadN A hx rfl (hb hby q43_13) rfl r)))))))))))) ?_
  refine OwnN.Go.kp (ws' := [t1]) (P := fun h' => Arv Z h' t1 k1 .byte (12 : Int32) (own_B (own_4 ++ own_4)) (.int 0)) (g' := (mkF m 17 #[.val (.ref t1), .val (.int 0), .val (.int 12), .val (.int 4)] [])) (fun s' T L_ X eT N hZ hown => own_cpy (xs := (own_B own_4)) (ys := (own_B own_4)) 4 4 X hx hZ hown (own_w hw 188 rfl) (own_w hw 191 rfl) (own_w hw 189 rfl) (own_w hw 190 rfl) eT B1 B1 rfl (by decide) (fun _ _ => rfl) (by decide) (by decide) (by decide) (by decide) rfl rfl rfl rfl N g_t1 (g := (mkF m 14 #[.val (.ref t1), .val (.int 0), .val (.int 12), .val (.int 4)] [(.int 4), (.int 4), (.ref t1), (.int 0), (.ref t1)])) rfl hml.symm rfl (hb hby q43_14) (by decide) (W := 0) (catOf (Nat.le_of_ble_eq_true rfl)) (by decide)) (allS (Or.inl (List.mem_of_getElem? (i := 0) rfl)) all0) ?_
  intro h11 K11 V11
  refine OwnN.Go.sp (g' := (mkF m 20 #[.val (.ref t1), .val (.int 0), .val (.int 12), .val (.int 4)] [(.int ((4 : Int32) <<< ((1 : Int32) &&& 31)))])) (fun T A t r => XS.iloadN A hx rfl (hb hby q43_17) rfl (XS.iconst A hx rfl (hb hby q43_18) (XS.ishl A hx rfl (hb hby q43_19) rfl r))) ?_
  refine OwnN.Go.cast (g' := (mkF m 20 #[.val (.ref t1), .val (.int 0), .val (.int 12), .val (.int 4)] [(.int 8)])) (by rw [show ((4 : Int32) <<< ((1 : Int32) &&& 31)) = (8 : Int32) from (by decide)] <;> rfl) ?_
  refine OwnN.Go.sp (g' := (mkF m 31 #[.val (.ref t1), .val (.int 0), .val (.int 12), .val (.int 8)] [(.int 12), (.int 8), (.ref t1), (.int 0), (.ref t1)])) (fun T A t r => XS.istoreN A hx rfl (hb hby q43_20) rfl (l' := #[.val (.ref t1), .val (.int 0), .val (.int 12), .val (.int 8)]) rfl (XS.goto A hx rfl (pc0 := 21) (pc' := 0) rfl (hb hby q43_21) (by decide) (by decide) (XS.iloadN A hx rfl (hb hby q43_0) rfl (XS.iloadN A hx rfl (hb hby q43_1) rfl (XS.iloadN A hx rfl (hb hby q43_2) rfl (XS.isub A hx rfl (hb hby q43_3) rfl (XS.icmpYes A hx rfl (pc0 := 4) (pc' := 24) rfl (hb hby q43_4) rfl (flt (by decide : ¬ ((8 : Int32) < (4 : Int32)))).2.1 (by decide) (by decide) (XS.aloadN A hx rfl (hb hby q43_24) rfl rfl (XS.iloadN A hx rfl (hb hby q43_25) rfl (XS.aloadN A hx rfl (hb hby q43_26) rfl rfl (XS.iloadN A hx rfl (hb hby q43_27) rfl (XS.iloadN A hx rfl (hb hby q43_28) rfl (XS.iadd A hx rfl (hb hby q43_29) rfl (XS.iloadN A hx rfl (hb hby q43_30) rfl r)))))))))))))) ?_
  refine OwnN.Go.sp (g' := (mkF m 33 #[.val (.ref t1), .val (.int 0), .val (.int 12), .val (.int 8)] [(.int 4), (.int 8), (.ref t1), (.int 0), (.ref t1)])) (fun T A t r => XS.iloadN A hx rfl (hb hby q43_31) rfl (XS.isub A hx rfl (hb hby q43_32) rfl r)) ?_
  refine OwnN.Go.kp (ws' := [t1]) (P := fun h' => Arv Z h' t1 k1 .byte (12 : Int32) (own_B ((own_4 ++ own_4) ++ own_4)) (.int 0)) (g' := (mkF m 36 #[.val (.ref t1), .val (.int 0), .val (.int 12), .val (.int 8)] [])) (fun s' T L_ X eT N hZ hown => own_cpy (xs := (own_B (own_4 ++ own_4))) (ys := (own_B own_4)) 8 4 X hx hZ hown (own_w hw 188 rfl) (own_w hw 191 rfl) (own_w hw 189 rfl) (own_w hw 190 rfl) eT V11 V11 rfl (by decide) (by decide) (by decide) (by decide) (by decide) (by decide) rfl rfl rfl rfl N g_t1 (g := (mkF m 33 #[.val (.ref t1), .val (.int 0), .val (.int 12), .val (.int 8)] [(.int 4), (.int 8), (.ref t1), (.int 0), (.ref t1)])) rfl hml.symm rfl (hb hby q43_33) (by decide) (W := 0) (catOf (Nat.le_of_ble_eq_true rfl)) (by decide)) (allS (Or.inl (List.mem_of_getElem? (i := 0) rfl)) all0) ?_
  intro h12 K12 V12
  exact OwnN.Go.ret (v := none) (fun s' T L_ fs X hr => X.returnOut hx hret (hb hby q43_36) hr) (fun _ => rfl) (by decide) (by decide) ⟨rfl, V12⟩
theorem rmRP3 (l : Launch) (Z : State) (a0 : Array Value) (hw : own_T a0 Z) (wds : List Jvm.Cond) (a1 : Addr) (t1 : Addr) (k1 : ClassId) (h0 : Heap) (n0 : Nat) (O0 : Old Z n0 h0)  (C1 : Fld Z h0 a1 "java/lang/String" "coder" "B" (.int 0)) (V1 : Fld Z h0 a1 "java/lang/String" "value" "[B" (.ref t1)) (B1 : Arv Z h0 t1 k1 .byte (4 : Int32) (own_B own_4) (.int 0)) :
    OwnN.Ct l Z Y64 jdk_42_method_145_code 5 (some (.object "java/lang/String")) wds (⟨2, 2, 16, 55⟩ : Room) #[(.ref a1), (.int 3)] n0 h0 [] (fun v h => ∃ (sa ta : Addr) (ka : ClassId), v = some (.ref sa) ∧ Exa Z h sa "java/lang/String" ∧ Fld Z h sa "java/lang/String" "coder" "B" (.int 0) ∧ Fld Z h sa "java/lang/String" "value" "[B" (.ref ta) ∧ Arv Z h ta ka .byte (Int32.ofNat ((own_4 ++ own_4) ++ own_4).length) (own_B ((own_4 ++ own_4) ++ own_4)) (.int 0)) := by
  refine OwnN.Ct.of (plainFor_of_name pn_java_lang_String) O0 all0 ?_
  intro p e s m below meth c hx hby hml hret hnm
  refine OwnN.Go.cast (ef_RI_5 m a1 (3 : Int32)) ?_
  refine OwnN.Go.sp (g' := (mkF m 40 #[.val (.ref a1), .val (.int 3), .unset, .unset, .unset] [(.ref a1)])) (fun T A t r => XS.iloadN A hx rfl (hb hby q42_0) rfl (XS.ifYes A hx rfl (pc0 := 1) (pc' := 32) rfl (hb hby q42_1) rfl ((if0 _ _).trans (flt (by decide : ¬ ((3 : Int32) < (0 : Int32)))).2.1) (by decide) (by decide) (XS.iloadN A hx rfl (hb hby q42_32) rfl (XS.iconst A hx rfl (hb hby q42_33) (XS.icmpYes A hx rfl (pc0 := 34) (pc' := 39) rfl (hb hby q42_34) rfl (feq (by decide : ¬ ((3 : Int32) = (1 : Int32)))).2 (by decide) (by decide) (XS.aloadN A hx rfl (hb hby q42_39) rfl rfl r)))))) ?_
  refine OwnN.Go.v (g' := (mkF m 43 #[.val (.ref a1), .val (.int 3), .unset, .unset, .unset] [(.ref t1)])) (fun s' T L_ X eT hZ hown => getF X hx hZ hown (host := "") (Or.inl (own_w hw 22 rfl)) Via.refl eT V1 (g := (mkF m 40 #[.val (.ref a1), .val (.int 3), .unset, .unset, .unset] [(.ref a1)])) rfl rfl (hb hby q42_40)) ?_
  refine OwnN.Go.r (g' := (mkF m 44 #[.val (.ref a1), .val (.int 3), .unset, .unset, .unset] [(.int 4)])) (fun s' T L_ X eT hZ t r => own_len X hx hZ eT B1 (g := (mkF m 43 #[.val (.ref a1), .val (.int 3), .unset, .unset, .unset] [(.ref t1)])) rfl rfl (hb hby q42_43) t r) ?_
  refine OwnN.Go.sp (g' := (mkF m 56 #[.val (.ref a1), .val (.int 3), .val (.int 4), .unset, .unset] [])) (fun T A t r => XS.istoreN A hx rfl (hb hby q42_44) rfl (l' := #[.val (.ref a1), .val (.int 3), .val (.int 4), .unset, .unset]) rfl (XS.iloadN A hx rfl (hb hby q42_45) rfl (XS.ifNo A hx rfl (hb hby q42_46) rfl ((if0 _ _).trans (feq (by decide : ¬ ((4 : Int32) = (0 : Int32)))).1) (XS.iloadN A hx rfl (hb hby q42_49) rfl (XS.ifYes A hx rfl (pc0 := 50) (pc' := 56) rfl (hb hby q42_50) rfl ((if0 _ _).trans (feq (by decide : ¬ ((3 : Int32) = (0 : Int32)))).2) (by decide) (by decide) r))))) ?_
  refine OwnN.Go.v (g' := (mkF m 59 #[.val (.ref a1), .val (.int 3), .val (.int 4), .unset, .unset] [(.int 2147483647)])) (fun s' T L_ X eT hZ hown => own_ldcWI X hx hZ hown (own_w hw 464 rfl) eT (g := (mkF m 56 #[.val (.ref a1), .val (.int 3), .val (.int 4), .unset, .unset] [])) rfl (hb hby q42_56)) ?_
  refine OwnN.Go.sp (g' := (mkF m 113 #[.val (.ref a1), .val (.int 3), .val (.int 4), .val (.int 12), .unset] [(.int 12)])) (fun T A t r => XS.iloadN A hx rfl (hb hby q42_59) rfl (XS.idiv A hx rfl (hb hby q42_60) rfl (by decide) (XS.iloadN A hx rfl (hb hby q42_61) rfl (XS.icmpYes A hx rfl (pc0 := 62) (pc' := 76) rfl (hb hby q42_62) rfl (flt (by decide)).2.1 (by decide) (by decide) (XS.iloadN A hx rfl (hb hby q42_76) rfl (XS.iconst A hx rfl (hb hby q42_77) (XS.icmpYes A hx rfl (pc0 := 78) (pc' := 108) rfl (hb hby q42_78) rfl (feq (by decide : ¬ ((4 : Int32) = (1 : Int32)))).2 (by decide) (by decide) (XS.iloadN A hx rfl (hb hby q42_108) rfl (XS.iloadN A hx rfl (hb hby q42_109) rfl (XS.imul A hx rfl (hb hby q42_110) rfl (XS.istoreN A hx rfl (hb hby q42_111) rfl (l' := #[.val (.ref a1), .val (.int 3), .val (.int 4), .val (.int 12), .unset]) rfl (XS.iloadN A hx rfl (hb hby q42_112) rfl r)))))))))))) ?_
  refine OwnN.Go.newP (ty := .byte) (dv := (.int 0)) (cap := 12) (k' := 1) (n' := 12) (pc' := 115) (hb hby q42_113) rfl rfl (own_w hw 14 rfl) (by decide) (by decide) (by decide) rfl rfl rfl (by decide) (by decide) ?_
  intro b11 h11 k11 g11 sz11 E11 A11
  have V11 : Arv Z h11 b11 k11 .byte (12 : Int32) [(.int 0), (.int 0), (.int 0), (.int 0), (.int 0), (.int 0), (.int 0), (.int 0), (.int 0), (.int 0), (.int 0), (.int 0)] (.int 0) := A11.pad (pad_rep [] (.int 0) 12)
  refine OwnN.Go.sp (g' := (mkF m 118 #[.val (.ref a1), .val (.int 3), .val (.int 4), .val (.int 12), .val (.ref b11)] [(.ref a1)])) (fun T A t r => XS.astore A hx rfl (hb hby q42_115) rfl rfl (l' := #[.val (.ref a1), .val (.int 3), .val (.int 4), .val (.int 12), .val (.ref b11)]) rfl (XS.aloadN A hx rfl (hb hby q42_117) rfl rfl r)) ?_
  have f12 := (V1.ext E11)
  refine OwnN.Go.v (g' := (mkF m 121 #[.val (.ref a1), .val (.int 3), .val (.int 4), .val (.int 12), .val (.ref b11)] [(.ref t1)])) (fun s' T L_ X eT hZ hown => getF X hx hZ hown (host := "") (Or.inl (own_w hw 22 rfl)) Via.refl eT f12 (g := (mkF m 118 #[.val (.ref a1), .val (.int 3), .val (.int 4), .val (.int 12), .val (.ref b11)] [(.ref a1)])) rfl rfl (hb hby q42_118)) ?_
  refine OwnN.Go.sp (g' := (mkF m 126 #[.val (.ref a1), .val (.int 3), .val (.int 4), .val (.int 12), .val (.ref b11)] [(.int 4), (.int 0), (.ref b11), (.int 0), (.ref t1)])) (fun T A t r => XS.iconst A hx rfl (hb hby q42_121) (XS.aload A hx rfl (hb hby q42_122) rfl rfl (XS.iconst A hx rfl (hb hby q42_124) (XS.iloadN A hx rfl (hb hby q42_125) rfl r)))) ?_
  have f13 := (B1.ext E11)
  refine OwnN.Go.kp (ws' := [b11]) (P := fun h' => Arv Z h' b11 k11 .byte (12 : Int32) (own_B own_4) (.int 0)) (g' := (mkF m 129 #[.val (.ref a1), .val (.int 3), .val (.int 4), .val (.int 12), .val (.ref b11)] [])) (fun s' T L_ X eT N hZ hown => own_cpy (xs := []) (ys := (own_B own_4)) 0 4 X hx hZ hown (own_w hw 188 rfl) (own_w hw 191 rfl) (own_w hw 189 rfl) (own_w hw 190 rfl) eT f13 A11 rfl (by decide) (fun _ _ => rfl) (by decide) (by decide) (by decide) (by decide) rfl rfl rfl rfl N (Nat.le_trans (Old.le O0) sz11) (g := (mkF m 126 #[.val (.ref a1), .val (.int 3), .val (.int 4), .val (.int 12), .val (.ref b11)] [(.int 4), (.int 0), (.ref b11), (.int 0), (.ref t1)])) rfl hml.symm rfl (hb hby q42_126) (by decide) (W := 0) (catOf (Nat.le_of_ble_eq_true rfl)) (by decide)) (allS (Or.inr sz11) all0) ?_
  intro h14 K14 V14
  refine OwnN.Go.sp (g' := (mkF m 134 #[.val (.ref a1), .val (.int 3), .val (.int 4), .val (.int 12), .val (.ref b11)] [(.int 4), (.int 12), (.int 0), (.ref b11)])) (fun T A t r => XS.aload A hx rfl (hb hby q42_129) rfl rfl (XS.iconst A hx rfl (hb hby q42_131) (XS.iloadN A hx rfl (hb hby q42_132) rfl (XS.iloadN A hx rfl (hb hby q42_133) rfl r)))) ?_
  refine OwnN.Go.old fun O15 => ?_
  refine OwnN.Go.callS (ws' := [b11]) (W := 0) (y := Y34) (argsL := [(.ref b11), (.int 0), (.int 12), (.int 4)]) (rest := []) (pc' := 137) (k' := 1) (n' := 12) (hb hby q42_134) (own_w hw 465 rfl) (own_w hw 466 rfl) (own_w hw 2 rfl) (own_w hw 467 rfl) (by decide) (fun s' hZ => OwnN.Ct.bk (rmRC3 l Z a0 hw [] b11 k11 h14 n0 O15 (Nat.le_trans (Old.le O0) sz11) V14) hZ (own_w hw 467 rfl) (own_w hw 2 rfl) (by decide) (by decide)) hml.symm (lenOf pd_23 rfl) rfl (Nat.le_of_ble_eq_true rfl) rfl rfl rfl (by decide) (by decide) (allS (Or.inr sz11) all0) ?_
  rintro v16 h16 K16 ⟨rfl, B16⟩
  refine OwnN.Go.newO (k' := 2) (n' := 16) (pc' := 140) (hb hby q42_137) (own_w hw 9 rfl) (own_w hw 10 rfl) (own_w hw 2 rfl) rfl rfl rfl (by decide) (by decide) ?_
  intro b17 h17 g17 sz17 E17 A17 D17
  have F17_value : Fld Z h17 b17 "java/lang/String" "value" "[B" .null := D17 (Or.inr (own_w hw 23 rfl)) (ty := (.array .byte)) (by decide)
  have F17_coder : Fld Z h17 b17 "java/lang/String" "coder" "B" (.int 0) := D17 (Or.inr (own_w hw 25 rfl)) (ty := .byte) (by decide)
  refine OwnN.Go.sp (g' := (mkF m 144 #[.val (.ref a1), .val (.int 3), .val (.int 4), .val (.int 12), .val (.ref b11)] [(.ref a1), (.ref b11), (.ref b17), (.ref b17)])) (fun T A t r => XS.dup A hx rfl (hb hby q42_140) rfl rfl (XS.aload A hx rfl (hb hby q42_141) rfl rfl (XS.aloadN A hx rfl (hb hby q42_143) rfl rfl r))) ?_
  have ne18 : a1 ≠ b11 := Nat.ne_of_lt (Nat.lt_of_lt_of_le C1.lt (Nat.le_of_eq g11.symm))
  have f19 := ((((C1.ext E11).keep K14 (ninS ne18 nin0)).keep K16 (ninS ne18 nin0)).ext E17)
  refine OwnN.Go.v (g' := (mkF m 147 #[.val (.ref a1), .val (.int 3), .val (.int 4), .val (.int 12), .val (.ref b11)] [(.int 0), (.ref b11), (.ref b17), (.ref b17)])) (fun s' T L_ X eT hZ hown => getF X hx hZ hown (host := "") (Or.inl (own_w hw 24 rfl)) Via.refl eT f19 (g := (mkF m 144 #[.val (.ref a1), .val (.int 3), .val (.int 4), .val (.int 12), .val (.ref b11)] [(.ref a1), (.ref b11), (.ref b17), (.ref b17)])) rfl rfl (hb hby q42_144)) ?_
  refine OwnN.Go.old fun O20 => ?_
  refine OwnN.Go.callC (a := b17) (ws' := [b17]) (W := 1) (y := Y2) (argsL := [(.ref b11), (.int 0)]) (rest := [(.ref b17)]) (pc' := 150) (k' := 2) (n' := 16) (hb hby q42_147) rfl (own_w hw 15 rfl) (own_w hw 16 rfl) (own_w hw 18 rfl) (by decide) (fun s' hZ => OwnN.Ct.bk (rmSI l Z a0 hw [] b17 b11 _ _ h17 n0 O20 (Nat.le_trans (Old.le O0) sz17) A17 F17_value F17_coder) hZ (own_w hw 18 rfl) (own_w hw 2 rfl) (by decide) (by decide)) hml.symm (lenOf pd_2 rfl) rfl (Nat.le_of_ble_eq_true rfl) rfl rfl rfl (by decide) (by decide) (allS (Or.inr sz17) all0) ?_
  rintro v21 h21 K21 ⟨rfl, E21, C21, F21⟩
  have ne22 : b11 ≠ b17 := Nat.ne_of_lt (Nat.lt_of_lt_of_le B16.lt (Nat.le_of_eq g17.symm))
  have f23 := ((B16.ext E17).keep K21 (ninS ne22 nin0))
  exact OwnN.Go.ret (v := (some (.ref b17))) (fun s' T L_ fs X hr => own_retR X hx hret rfl rfl (hb hby q42_150) hr) (fun h => by rw [hret] at h; cases h) (by decide) (by decide) ⟨_, _, _, rfl, E21, C21, F21, f23⟩
theorem rmGR (l : Launch) (Z : State) (a0 : Array Value) (hw : own_T a0 Z) (wds : List Jvm.Cond) (a1 : Addr) (dE : Addr) (kD : ClassId) (h0 : Heap) (n0 : Nat) (O0 : Old Z n0 h0) (g_a1 : n0 ≤ a1) (E1 : Exa Z h0 a1 "java/util/ArrayList") (FE : Fld Z h0 a1 "java/util/ArrayList" "elementData" "[Ljava/lang/Object;" (.ref dE)) (FS : Fld Z h0 a1 "java/util/ArrayList" "size" "I" (.int 0)) (FM : Fld Z h0 a1 "java/util/AbstractList" "modCount" "I" (.int 1)) (SD : Sta Z Z.heap "java/util/ArrayList" "DEFAULTCAPACITY_EMPTY_ELEMENTDATA" "[Ljava/lang/Object;" (.ref dE)) (AD : Arv Z Z.heap dE kD (.object "java/lang/Object") (0 : Int32) [] .null) :
    OwnN.Ct l Z Y35 jdk_38_method_6_code 4 (some (.array (.object "java/lang/Object"))) wds (⟨1, 1, 10, 14⟩ : Room) #[(.ref a1), (.int 1)] n0 h0 [a1] (fun v h => ∃ (t : Addr) (kb : ClassId), v = some (.ref t) ∧ h0.size ≤ t ∧ Fld Z h a1 "java/util/ArrayList" "elementData" "[Ljava/lang/Object;" (.ref t) ∧ Fld Z h a1 "java/util/ArrayList" "size" "I" (.int 0) ∧ Fld Z h a1 "java/util/AbstractList" "modCount" "I" (.int 1) ∧ Arv Z h t kb (.object "java/lang/Object") (10 : Int32) [] .null ∧ Ovr Z kb "java/lang/Object") := by
  refine OwnN.Ct.of (plainFor_of_name pn_java_util_ArrayList) O0 (allS g_a1 all0) ?_
  intro p e s m below meth c hx hby hml hret hnm
  refine OwnN.Go.cast (ef_RI_4 m a1 (1 : Int32)) ?_
  refine OwnN.Go.old fun O11 => ?_
  have Vd12 := Arv.ext AD O11.2
  refine OwnN.Go.sp (g' := (mkF m 1 #[.val (.ref a1), .val (.int 1), .unset, .unset] [(.ref a1)])) (fun T A t r => XS.aloadN A hx rfl (hb hby q44_0) rfl rfl r) ?_
  refine OwnN.Go.v (g' := (mkF m 4 #[.val (.ref a1), .val (.int 1), .unset, .unset] [(.ref dE)])) (fun s' T L_ X eT hZ hown => getF X hx hZ hown (host := "") (Or.inl (own_w hw 102 rfl)) Via.refl eT FE (g := (mkF m 1 #[.val (.ref a1), .val (.int 1), .unset, .unset] [(.ref a1)])) rfl rfl (hb hby q44_1)) ?_
  refine OwnN.Go.r (g' := (mkF m 5 #[.val (.ref a1), .val (.int 1), .unset, .unset] [(.int 0)])) (fun s' T L_ X eT hZ t r => own_len X hx hZ eT Vd12 (g := (mkF m 4 #[.val (.ref a1), .val (.int 1), .unset, .unset] [(.ref dE)])) rfl rfl (hb hby q44_4) t r) ?_
  refine OwnN.Go.sp (g' := (mkF m 11 #[.val (.ref a1), .val (.int 1), .val (.int 0), .unset] [(.ref a1)])) (fun T A t r => XS.istoreN A hx rfl (hb hby q44_5) rfl (l' := #[.val (.ref a1), .val (.int 1), .val (.int 0), .unset]) rfl (XS.iloadN A hx rfl (hb hby q44_6) rfl (XS.ifNo A hx rfl (hb hby q44_7) rfl ((if0 _ _).trans (flt (by decide : ¬ ((0 : Int32) < (0 : Int32)))).2.2.1) (XS.aloadN A hx rfl (hb hby q44_10) rfl rfl r)))) ?_
  refine OwnN.Go.v (g' := (mkF m 14 #[.val (.ref a1), .val (.int 1), .val (.int 0), .unset] [(.ref dE)])) (fun s' T L_ X eT hZ hown => getF X hx hZ hown (host := "") (Or.inl (own_w hw 102 rfl)) Via.refl eT FE (g := (mkF m 11 #[.val (.ref a1), .val (.int 1), .val (.int 0), .unset] [(.ref a1)])) rfl rfl (hb hby q44_11)) ?_
  have St13 := Sta.ext O11.2 SD
  refine OwnN.Go.v (g' := (mkF m 17 #[.val (.ref a1), .val (.int 1), .val (.int 0), .unset] [(.ref dE), (.ref dE)])) (fun s' T L_ X eT hZ hown => getS2 X hx hZ hown (host := "") (Or.inl (own_w hw 101 rfl)) Via.refl eT St13 (g := (mkF m 14 #[.val (.ref a1), .val (.int 1), .val (.int 0), .unset] [(.ref dE)])) rfl (hb hby q44_14)) ?_
  refine OwnN.Go.r (g' := (mkF m 45 #[.val (.ref a1), .val (.int 1), .val (.int 0), .unset] [])) (fun s' T L_ X eT hZ t r => Jvm.RoadKit.acmp (g := (mkF m 17 #[.val (.ref a1), .val (.int 1), .val (.int 0), .unset] [(.ref dE), (.ref dE)])) X hx rfl rfl rfl (pc0 := 17) (pc' := 45) (same := true) rfl (hb hby q44_17) rfl (decide_eq_true rfl) (by decide) (by decide) r) ?_
  refine OwnN.Go.sp (g' := (mkF m 49 #[.val (.ref a1), .val (.int 1), .val (.int 0), .unset] [(.int 1), (.int 10), (.ref a1)])) (fun T A t r => XS.aloadN A hx rfl (hb hby q44_45) rfl rfl (XS.bipush A hx rfl (hb hby q44_46) (XS.iloadN A hx rfl (hb hby q44_48) rfl r))) ?_
  refine OwnN.Go.callSP (W := 1) (y := Y14) (argsL := [(.int 10), (.int 1)]) (rest := [(.ref a1)]) (pc' := 52) (hb hby q44_49) (own_w hw 265 rfl) (own_w hw 266 rfl) (own_w hw 234 rfl) (own_w hw 267 rfl) (by decide) (fun s' hZ => OwnN.Ct.bk (rmMX l Z a0 hw [] (10 : Int32) (1 : Int32) h0 n0 O11 (by decide)) hZ (own_w hw 267 rfl) (own_w hw 234 rfl) (by decide) (by decide)) hml.symm (lenOf pd_7 rfl) rfl (Nat.le_of_ble_eq_true rfl) rfl (by decide) (by decide) ?_
  rintro v14 rfl
  refine OwnC.newR (C := "java/lang/Object") (cap := 10) (k' := 1) (n' := 10) (pc' := 55) (hb hby q44_52) (own_w hw 268 rfl) (own_w hw 269 rfl) (by decide) (by decide) (by decide) rfl rfl rfl (by decide) (by decide) ?_
  intro b15 h15 k15 g15 sz15 E15 A15 O15
  refine OwnN.Go.sp (g' := (mkF m 56 #[.val (.ref a1), .val (.int 1), .val (.int 0), .unset] [(.ref b15), (.ref a1), (.ref b15)])) (fun T A t r => XS.dupX1 A hx rfl (hb hby q44_55) rfl rfl rfl r) ?_
  have f16 := (E1.ext E15)
  have f17 := (FE.ext E15)
  refine OwnN.Go.w (g' := (mkF m 59 #[.val (.ref a1), .val (.int 1), .val (.int 0), .unset] [(.ref b15)])) (fun s' T L_ X eT hZ hown => putF X hx hZ hown (host := "") (Or.inl (own_w hw 102 rfl)) Via.refl eT f17 f16 (Or.inl (own_w hw 103 rfl)) (own_w hw 86 rfl) (ty := (.array (.object "java/lang/Object"))) (by decide) rfl rfl (g := (mkF m 56 #[.val (.ref a1), .val (.int 1), .val (.int 0), .unset] [(.ref b15), (.ref a1), (.ref b15)])) rfl rfl (hb hby q44_56)) (Or.inl (List.mem_of_getElem? (i := 0) rfl)) ?_
  intro h19 W19
  have F19 := f17.same W19
  have f20 := ((FS.ext E15).other W19 (Or.inr (slot_ne (Or.inl (own_w hw 249 rfl)) (Or.inl (own_w hw 103 rfl)) (by decide) (t := .int) (t' := (.array (.object "java/lang/Object"))) (by decide) (by decide))))
  have f21 := ((FM.ext E15).other W19 (Or.inr (slot_ne (Or.inl (own_w hw 100 rfl)) (Or.inl (own_w hw 103 rfl)) (by decide) (t := .int) (t' := (.array (.object "java/lang/Object"))) (by decide) (by decide))))
  have ne22 : a1 ≠ b15 := Nat.ne_of_lt (Nat.lt_of_lt_of_le E1.lt (Nat.le_of_eq g15.symm))
  have f23 := (A15.other W19 (Ne.symm ne22))
  exact OwnN.Go.ret (v := (some (.ref b15))) (fun s' T L_ fs X hr => own_retR X hx hret rfl rfl (hb hby q44_59) hr) (fun h => by rw [hret] at h; cases h) (by decide) (by decide) ⟨_, _, rfl, sz15, F19, f20, f21, f23, O15⟩
theorem rmGS (l : Launch) (Z : State) (a0 : Array Value) (hw : own_T a0 Z) (wds : List Jvm.Cond) (a1 : Addr) (dE : Addr) (kD : ClassId) (h0 : Heap) (n0 : Nat) (O0 : Old Z n0 h0) (g_a1 : n0 ≤ a1) (E1 : Exa Z h0 a1 "java/util/ArrayList") (FE : Fld Z h0 a1 "java/util/ArrayList" "elementData" "[Ljava/lang/Object;" (.ref dE)) (FS : Fld Z h0 a1 "java/util/ArrayList" "size" "I" (.int 0)) (FM : Fld Z h0 a1 "java/util/AbstractList" "modCount" "I" (.int 1)) (SD : Sta Z Z.heap "java/util/ArrayList" "DEFAULTCAPACITY_EMPTY_ELEMENTDATA" "[Ljava/lang/Object;" (.ref dE)) (AD : Arv Z Z.heap dE kD (.object "java/lang/Object") (0 : Int32) [] .null) :
    OwnN.Ct l Z Y36 jdk_38_method_7_code 1 (some (.array (.object "java/lang/Object"))) wds (⟨2, 1, 10, 29⟩ : Room) #[(.ref a1)] n0 h0 [a1] (fun v h => ∃ (t : Addr) (kb : ClassId), v = some (.ref t) ∧ h0.size ≤ t ∧ Fld Z h a1 "java/util/ArrayList" "elementData" "[Ljava/lang/Object;" (.ref t) ∧ Fld Z h a1 "java/util/ArrayList" "size" "I" (.int 0) ∧ Fld Z h a1 "java/util/AbstractList" "modCount" "I" (.int 1) ∧ Arv Z h t kb (.object "java/lang/Object") (10 : Int32) [] .null ∧ Ovr Z kb "java/lang/Object") := by
  refine OwnN.Ct.of (plainFor_of_name pn_java_util_ArrayList) O0 (allS g_a1 all0) ?_
  intro p e s m below meth c hx hby hml hret hnm
  refine OwnN.Go.cast (ef_R_1 m a1) ?_
  refine OwnN.Go.sp (g' := (mkF m 2 #[.val (.ref a1)] [(.ref a1), (.ref a1)])) (fun T A t r => XS.aloadN A hx rfl (hb hby q45_0) rfl rfl (XS.aloadN A hx rfl (hb hby q45_1) rfl rfl r)) ?_
  refine OwnN.Go.v (g' := (mkF m 5 #[.val (.ref a1)] [(.int 0), (.ref a1)])) (fun s' T L_ X eT hZ hown => getF X hx hZ hown (host := "") (Or.inl (own_w hw 248 rfl)) Via.refl eT FS (g := (mkF m 2 #[.val (.ref a1)] [(.ref a1), (.ref a1)])) rfl rfl (hb hby q45_2)) ?_
  refine OwnN.Go.sp (g' := (mkF m 7 #[.val (.ref a1)] [(.int 1), (.ref a1)])) (fun T A t r => XS.iconst A hx rfl (hb hby q45_5) (XS.iadd A hx rfl (hb hby q45_6) rfl r)) ?_
  refine OwnN.Go.old fun O11 => ?_
  refine OwnC.goN (k' := 1) (n' := 10) (OwnC.callerP (y := Y35) (a := a1) (W := 0) (argsL := [(.int 1)]) (rest := []) (pc' := 10) (rc := 1) (rs := 10) (ws' := [a1]) hx (hb hby q45_7) (own_w hw 260 rfl) (own_w hw 262 rfl) (own_w hw 263 rfl) (own_w hw 261 rfl) (own_w hw 264 rfl) (by decide) (fun s' hZ => OwnN.Ct.bk (rmGR l Z a0 hw [] a1 dE kD h0 n0 O11 g_a1 E1 FE FS FM SD AD) hZ (own_w hw 264 rfl) (own_w hw 87 rfl) (by decide) (by decide)) E1 hml.symm (lenOf pd_24 rfl) rfl (Nat.le_of_ble_eq_true rfl) rfl (by decide) (by decide)) rfl rfl (allS (Or.inl (List.mem_of_getElem? (i := 0) rfl)) all0) ?_
  rintro v12 h12 K12 ⟨t12, kb12, rfl, ge12, FE12, FS12, FM12, A12, O12⟩
  exact OwnN.Go.ret (v := (some (.ref t12))) (fun s' T L_ fs X hr => own_retR X hx hret rfl rfl (hb hby q45_10) hr) (fun h => by rw [hret] at h; cases h) (by decide) (by decide) ⟨_, _, rfl, ge12, FE12, FS12, FM12, A12, O12⟩
theorem rmAD3 (l : Launch) (Z : State) (a0 : Array Value) (hw : own_T a0 Z) (wds : List Jvm.Cond) (a1 : Addr) (a2 : Addr) (dE : Addr) (kD : ClassId) (h0 : Heap) (n0 : Nat) (O0 : Old Z n0 h0) (g_a1 : n0 ≤ a1) (E1 : Exa Z h0 a1 "java/util/ArrayList") (FE : Fld Z h0 a1 "java/util/ArrayList" "elementData" "[Ljava/lang/Object;" (.ref dE)) (FS : Fld Z h0 a1 "java/util/ArrayList" "size" "I" (.int 0)) (FM : Fld Z h0 a1 "java/util/AbstractList" "modCount" "I" (.int 1)) (E2 : Exa Z h0 a2 "java/lang/String") (SD : Sta Z Z.heap "java/util/ArrayList" "DEFAULTCAPACITY_EMPTY_ELEMENTDATA" "[Ljava/lang/Object;" (.ref dE)) (AD : Arv Z Z.heap dE kD (.object "java/lang/Object") (0 : Int32) [] .null) :
    OwnN.Ct l Z Y37 jdk_38_method_24_code 4 none wds (⟨3, 1, 10, 41⟩ : Room) #[(.ref a1), (.ref a2), (.ref dE), (.int 0)] n0 h0 [a1] (fun v h => ∃ (t : Addr) (kb : ClassId), v = none ∧ Fld Z h a1 "java/util/ArrayList" "elementData" "[Ljava/lang/Object;" (.ref t) ∧ Fld Z h a1 "java/util/ArrayList" "size" "I" (.int 1) ∧ Fld Z h a1 "java/util/AbstractList" "modCount" "I" (.int 1) ∧ Arv Z h t kb (.object "java/lang/Object") (10 : Int32) [.ref a2, .null, .null, .null, .null, .null, .null, .null, .null, .null] .null) := by
  refine OwnN.Ct.of (plainFor_of_name pn_java_util_ArrayList) O0 (allS g_a1 all0) ?_
  intro p e s m below meth c hx hby hml hret hnm
  refine OwnN.Go.cast (ef_RRRI_4 m a1 a2 dE (0 : Int32)) ?_
  refine OwnN.Go.old fun O11 => ?_
  have Vd12 := Arv.ext AD O11.2
  refine OwnN.Go.sp (g' := (mkF m 2 #[.val (.ref a1), .val (.ref a2), .val (.ref dE), .val (.int 0)] [(.ref dE), (.int 0)])) (fun T A t r => XS.iloadN A hx rfl (hb hby q46_0) rfl (XS.aloadN A hx rfl (hb hby q46_1) rfl rfl r)) ?_
  refine OwnN.Go.r (g' := (mkF m 3 #[.val (.ref a1), .val (.ref a2), .val (.ref dE), .val (.int 0)] [(.int 0), (.int 0)])) (fun s' T L_ X eT hZ t r => own_len X hx hZ eT Vd12 (g := (mkF m 2 #[.val (.ref a1), .val (.ref a2), .val (.ref dE), .val (.int 0)] [(.ref dE), (.int 0)])) rfl rfl (hb hby q46_2) t r) ?_
  refine OwnN.Go.sp (g' := (mkF m 7 #[.val (.ref a1), .val (.ref a2), .val (.ref dE), .val (.int 0)] [(.ref a1)])) (fun T A t r => XS.icmpNo A hx rfl (hb hby q46_3) rfl (teq (by decide : ((0 : Int32) = (0 : Int32)))).2 (XS.aloadN A hx rfl (hb hby q46_6) rfl rfl r)) ?_
  refine OwnN.Go.keep fun KK13 => ?_
  refine OwnC.goN (k' := 1) (n' := 10) (OwnC.callerP (y := Y36) (a := a1) (W := 0) (argsL := []) (rest := []) (pc' := 10) (rc := 1) (rs := 10) (ws' := [a1]) hx (hb hby q46_7) (own_w hw 255 rfl) (own_w hw 257 rfl) (own_w hw 258 rfl) (own_w hw 256 rfl) (own_w hw 259 rfl) (by decide) (fun s' hZ => OwnN.Ct.bk (rmGS l Z a0 hw [] a1 dE kD h0 n0 O11 g_a1 E1 FE FS FM SD AD) hZ (own_w hw 259 rfl) (own_w hw 87 rfl) (by decide) (by decide)) E1 hml.symm (lenOf pd_25 rfl) rfl (Nat.le_of_ble_eq_true rfl) rfl (by decide) (by decide)) rfl rfl (allS (Or.inl (List.mem_of_getElem? (i := 0) rfl)) all0) ?_
  rintro v14 h14 K14 ⟨t14, kb14, rfl, ge14, FE14, FS14, FM14, A14, O14⟩
  have VV14 : Arv Z h14 t14 kb14 (.object "java/lang/Object") (10 : Int32) [.null, .null, .null, .null, .null, .null, .null, .null, .null, .null] .null := A14.pad (pad_rep [] .null 10)
  refine OwnN.Go.sp (g' := (mkF m 14 #[.val (.ref a1), .val (.ref a2), .val (.ref t14), .val (.int 0)] [(.ref a2), (.int 0), (.ref t14)])) (fun T A t r => XS.astoreN A hx rfl (hb hby q46_10) rfl rfl (l' := #[.val (.ref a1), .val (.ref a2), .val (.ref t14), .val (.int 0)]) rfl (XS.aloadN A hx rfl (hb hby q46_11) rfl rfl (XS.iloadN A hx rfl (hb hby q46_12) rfl (XS.aloadN A hx rfl (hb hby q46_13) rfl rfl r)))) ?_
  have f15 := (E2.keep K14)
  refine OwnN.Go.w (g' := (mkF m 15 #[.val (.ref a1), .val (.ref a2), .val (.ref t14), .val (.int 0)] [])) (fun s' T L_ X eT hZ hown => own_stA X hx hZ eT VV14 O14 (Ins.of_exa f15 (own_w hw 270 rfl)) (j := (0 : Int32)) ⟨by decide, by decide⟩ (g := (mkF m 14 #[.val (.ref a1), .val (.ref a2), .val (.ref t14), .val (.int 0)] [(.ref a2), (.int 0), (.ref t14)])) rfl rfl (hb hby q46_14)) (Or.inr (Nat.le_trans KK13.1 ge14)) ?_
  intro h16 W16
  have V16 : Arv Z h16 t14 kb14 (.object "java/lang/Object") (10 : Int32) [.ref a2, .null, .null, .null, .null, .null, .null, .null, .null, .null] .null := own_set VV14 rfl W16 rfl 0 rfl (Nat.le_of_ble_eq_true rfl)
  refine OwnN.Go.sp (g' := (mkF m 19 #[.val (.ref a1), .val (.ref a2), .val (.ref t14), .val (.int 0)] [(.int 1), (.ref a1)])) (fun T A t r => XS.aloadN A hx rfl (hb hby q46_15) rfl rfl (XS.iloadN A hx rfl (hb hby q46_16) rfl (XS.iconst A hx rfl (hb hby q46_17) (XS.iadd A hx rfl (hb hby q46_18) rfl r)))) ?_
  have f17 := ((E1.keep K14).wr W16)
  have ne18 : a1 ≠ t14 := Nat.ne_of_lt (Nat.lt_of_lt_of_le E1.lt ge14)
  have f19 := (FS14.other W16 (Or.inl ne18))
  refine OwnN.Go.w (g' := (mkF m 22 #[.val (.ref a1), .val (.ref a2), .val (.ref t14), .val (.int 0)] [])) (fun s' T L_ X eT hZ hown => putF X hx hZ hown (host := "") (Or.inl (own_w hw 248 rfl)) Via.refl eT f19 f17 (Or.inl (own_w hw 249 rfl)) (own_w hw 86 rfl) (ty := .int) (by decide) rfl rfl (g := (mkF m 19 #[.val (.ref a1), .val (.ref a2), .val (.ref t14), .val (.int 0)] [(.int 1), (.ref a1)])) rfl rfl (hb hby q46_19)) (Or.inl (List.mem_of_getElem? (i := 0) rfl)) ?_
  intro h21 W21
  have F21 := f19.same W21
  have f22 := ((FE14.other W16 (Or.inl ne18)).other W21 (Or.inr (slot_ne (Or.inl (own_w hw 103 rfl)) (Or.inl (own_w hw 249 rfl)) (by decide) (t := (.array (.object "java/lang/Object"))) (t' := .int) (by decide) (by decide))))
  have f23 := ((FM14.other W16 (Or.inl ne18)).other W21 (Or.inr (slot_ne (Or.inl (own_w hw 100 rfl)) (Or.inl (own_w hw 249 rfl)) (by decide) (t := .int) (t' := .int) (by decide) (by decide))))
  have f24 := (V16.other W21 (Ne.symm ne18))
  exact OwnN.Go.ret (v := none) (fun s' T L_ fs X hr => X.returnOut hx hret (hb hby q46_22) hr) (fun _ => rfl) (by decide) (by decide) ⟨_, _, rfl, f22, F21, f23, f24⟩
theorem rmADD (l : Launch) (Z : State) (a0 : Array Value) (hw : own_T a0 Z) (wds : List Jvm.Cond) (a1 : Addr) (a2 : Addr) (dE : Addr) (kD : ClassId) (h0 : Heap) (n0 : Nat) (O0 : Old Z n0 h0) (g_a1 : n0 ≤ a1) (E1 : Exa Z h0 a1 "java/util/ArrayList") (FE : Fld Z h0 a1 "java/util/ArrayList" "elementData" "[Ljava/lang/Object;" (.ref dE)) (FS : Fld Z h0 a1 "java/util/ArrayList" "size" "I" (.int 0)) (FM : Fld Z h0 a1 "java/util/AbstractList" "modCount" "I" (.int 0)) (E2 : Exa Z h0 a2 "java/lang/String") (SD : Sta Z Z.heap "java/util/ArrayList" "DEFAULTCAPACITY_EMPTY_ELEMENTDATA" "[Ljava/lang/Object;" (.ref dE)) (AD : Arv Z Z.heap dE kD (.object "java/lang/Object") (0 : Int32) [] .null) :
    OwnN.Ct l Z Y68 jdk_38_method_25_code 2 (some .boolean) wds (⟨4, 1, 10, 56⟩ : Room) #[(.ref a1), (.ref a2)] n0 h0 [a1] (fun v h => ∃ (t : Addr) (kb : ClassId), v = some (.int 1) ∧ Fld Z h a1 "java/util/ArrayList" "elementData" "[Ljava/lang/Object;" (.ref t) ∧ Fld Z h a1 "java/util/ArrayList" "size" "I" (.int 1) ∧ Fld Z h a1 "java/util/AbstractList" "modCount" "I" (.int 1) ∧ Arv Z h t kb (.object "java/lang/Object") (10 : Int32) [.ref a2, .null, .null, .null, .null, .null, .null, .null, .null, .null] .null) := by
  refine OwnN.Ct.of (plainFor_of_name pn_java_util_ArrayList) O0 (allS g_a1 all0) ?_
  intro p e s m below meth c hx hby hml hret hnm
  refine OwnN.Go.cast (ef_RR_2 m a1 a2) ?_
  refine OwnN.Go.sp (g' := (mkF m 2 #[.val (.ref a1), .val (.ref a2)] [(.ref a1), (.ref a1)])) (fun T A t r => XS.aloadN A hx rfl (hb hby q47_0) rfl rfl (XS.dup A hx rfl (hb hby q47_1) rfl rfl r)) ?_
  refine OwnN.Go.v (g' := (mkF m 5 #[.val (.ref a1), .val (.ref a2)] [(.int 0), (.ref a1)])) (fun s' T L_ X eT hZ hown => getF X hx hZ hown (host := "") (Or.inl (own_w hw 246 rfl)) (Via.of (own_w hw 247 rfl)) eT FM (g := (mkF m 2 #[.val (.ref a1), .val (.ref a2)] [(.ref a1), (.ref a1)])) rfl rfl (hb hby q47_2)) ?_
  refine OwnN.Go.sp (g' := (mkF m 7 #[.val (.ref a1), .val (.ref a2)] [(.int 1), (.ref a1)])) (fun T A t r => XS.iconst A hx rfl (hb hby q47_5) (XS.iadd A hx rfl (hb hby q47_6) rfl r)) ?_
  refine OwnN.Go.w (g' := (mkF m 10 #[.val (.ref a1), .val (.ref a2)] [])) (fun s' T L_ X eT hZ hown => putF X hx hZ hown (host := "") (Or.inl (own_w hw 246 rfl)) (Via.of (own_w hw 247 rfl)) eT FM E1 (Or.inl (own_w hw 100 rfl)) (own_w hw 86 rfl) (ty := .int) (by decide) rfl rfl (g := (mkF m 7 #[.val (.ref a1), .val (.ref a2)] [(.int 1), (.ref a1)])) rfl rfl (hb hby q47_7)) (Or.inl (List.mem_of_getElem? (i := 0) rfl)) ?_
  intro h12 W12
  have F12 := FM.same W12
  refine OwnN.Go.sp (g' := (mkF m 13 #[.val (.ref a1), .val (.ref a2)] [(.ref a1), (.ref a2), (.ref a1)])) (fun T A t r => XS.aloadN A hx rfl (hb hby q47_10) rfl rfl (XS.aloadN A hx rfl (hb hby q47_11) rfl rfl (XS.aloadN A hx rfl (hb hby q47_12) rfl rfl r))) ?_
  have f13 := (FE.other W12 (Or.inr (slot_ne (Or.inl (own_w hw 103 rfl)) (Or.inl (own_w hw 100 rfl)) (by decide) (t := (.array (.object "java/lang/Object"))) (t' := .int) (by decide) (by decide))))
  refine OwnN.Go.v (g' := (mkF m 16 #[.val (.ref a1), .val (.ref a2)] [(.ref dE), (.ref a2), (.ref a1)])) (fun s' T L_ X eT hZ hown => getF X hx hZ hown (host := "") (Or.inl (own_w hw 102 rfl)) Via.refl eT f13 (g := (mkF m 13 #[.val (.ref a1), .val (.ref a2)] [(.ref a1), (.ref a2), (.ref a1)])) rfl rfl (hb hby q47_13)) ?_
  refine OwnN.Go.sp (g' := (mkF m 17 #[.val (.ref a1), .val (.ref a2)] [(.ref a1), (.ref dE), (.ref a2), (.ref a1)])) (fun T A t r => XS.aloadN A hx rfl (hb hby q47_16) rfl rfl r) ?_
  have f14 := (FS.other W12 (Or.inr (slot_ne (Or.inl (own_w hw 249 rfl)) (Or.inl (own_w hw 100 rfl)) (by decide) (t := .int) (t' := .int) (by decide) (by decide))))
  refine OwnN.Go.v (g' := (mkF m 20 #[.val (.ref a1), .val (.ref a2)] [(.int 0), (.ref dE), (.ref a2), (.ref a1)])) (fun s' T L_ X eT hZ hown => getF X hx hZ hown (host := "") (Or.inl (own_w hw 248 rfl)) Via.refl eT f14 (g := (mkF m 17 #[.val (.ref a1), .val (.ref a2)] [(.ref a1), (.ref dE), (.ref a2), (.ref a1)])) rfl rfl (hb hby q47_17)) ?_
  refine OwnN.Go.old fun O15 => ?_
  have f16 := (E1.wr W12)
  have f17 := (E2.wr W12)
  refine OwnC.goN (k' := 1) (n' := 10) (OwnC.callerP (y := Y37) (a := a1) (W := 0) (argsL := [(.ref a2), (.ref dE), (.int 0)]) (rest := []) (pc' := 23) (rc := 1) (rs := 10) (ws' := [a1]) hx (hb hby q47_20) (own_w hw 250 rfl) (own_w hw 252 rfl) (own_w hw 253 rfl) (own_w hw 251 rfl) (own_w hw 254 rfl) (by decide) (fun s' hZ => OwnN.Ct.bk (rmAD3 l Z a0 hw [] a1 a2 dE kD h12 n0 O15 g_a1 f16 f13 f14 F12 f17 SD AD) hZ (own_w hw 254 rfl) (own_w hw 87 rfl) (by decide) (by decide)) f16 hml.symm (lenOf pd_26 rfl) rfl (Nat.le_of_ble_eq_true rfl) rfl (by decide) (by decide)) rfl rfl (allS (Or.inl (List.mem_of_getElem? (i := 0) rfl)) all0) ?_
  rintro v18 h18 K18 ⟨t18, kb18, rfl, FE18, FS18, FM18, A18⟩
  refine OwnN.Go.sp (g' := (mkF m 24 #[.val (.ref a1), .val (.ref a2)] [(.int 1)])) (fun T A t r => XS.iconst A hx rfl (hb hby q47_23) r) ?_
  exact OwnN.Go.ret (v := (some (.int (nar .boolean (1 : Int32))))) (fun s' T L_ fs X hr => retN X hx (t := .boolean) hret (by simp) (hb hby q47_24) hr) (fun h => by rw [hret] at h; cases h) (by decide) (by decide) ⟨_, _, rfl, FE18, FS18, FM18, A18⟩
theorem rmITI (l : Launch) (Z : State) (a0 : Array Value) (hw : own_T a0 Z) (wds : List Jvm.Cond) (a1 : Addr) (al : Addr) (t1 : Addr) (h0 : Heap) (n0 : Nat) (O0 : Old Z n0 h0) (g_a1 : n0 ≤ a1) (E1 : Exa Z h0 a1 "java/util/ArrayList$Itr") (I1 : Fld Z h0 a1 "java/util/ArrayList$Itr" "this$0" "Ljava/util/ArrayList;" .null) (I2 : Fld Z h0 a1 "java/util/ArrayList$Itr" "cursor" "I" (.int 0)) (I3 : Fld Z h0 a1 "java/util/ArrayList$Itr" "lastRet" "I" (.int 0)) (I4 : Fld Z h0 a1 "java/util/ArrayList$Itr" "expectedModCount" "I" (.int 0)) (EL : Exa Z h0 al "java/util/ArrayList") (FE : Fld Z h0 al "java/util/ArrayList" "elementData" "[Ljava/lang/Object;" (.ref t1)) (FS : Fld Z h0 al "java/util/ArrayList" "size" "I" (.int 1)) (FM : Fld Z h0 al "java/util/AbstractList" "modCount" "I" (.int 1)) :
    OwnN.Ct l Z Y38 jdk_49_method_1_code 2 none wds (⟨1, 0, 0, 12⟩ : Room) #[(.ref a1), (.ref al)] n0 h0 [a1] (fun v h => v = none ∧ Fld Z h a1 "java/util/ArrayList$Itr" "this$0" "Ljava/util/ArrayList;" (.ref al) ∧ Fld Z h a1 "java/util/ArrayList$Itr" "cursor" "I" (.int 0) ∧ Fld Z h a1 "java/util/ArrayList$Itr" "lastRet" "I" (.int (-1 : Int32)) ∧ Fld Z h a1 "java/util/ArrayList$Itr" "expectedModCount" "I" (.int 1)) := by
  refine OwnN.Ct.of (plainFor_of_name pn_java_util_ArrayList_Itr) O0 (allS g_a1 all0) ?_
  intro p e s m below meth c hx hby hml hret hnm
  refine OwnN.Go.cast (ef_RR_2 m a1 al) ?_
  refine OwnN.Go.sp (g' := (mkF m 2 #[.val (.ref a1), .val (.ref al)] [(.ref al), (.ref a1)])) (fun T A t r => XS.aloadN A hx rfl (hb hby q48_0) rfl rfl (XS.aloadN A hx rfl (hb hby q48_1) rfl rfl r)) ?_
  refine OwnN.Go.w (g' := (mkF m 5 #[.val (.ref a1), .val (.ref al)] [])) (fun s' T L_ X eT hZ hown => putF X hx hZ hown (host := "") (Or.inl (own_w hw 416 rfl)) Via.refl eT I1 E1 (Or.inr ⟨(own_w hw 417 rfl), rfl, hnm⟩) (own_w hw 410 rfl) (ty := (.object "java/util/ArrayList")) (by decide) rfl rfl (g := (mkF m 2 #[.val (.ref a1), .val (.ref al)] [(.ref al), (.ref a1)])) rfl rfl (hb hby q48_2)) (Or.inl (List.mem_of_getElem? (i := 0) rfl)) ?_
  intro h12 W12
  have F12 := I1.same W12
  refine OwnN.Go.sp (g' := (mkF m 6 #[.val (.ref a1), .val (.ref al)] [(.ref a1)])) (fun T A t r => XS.aloadN A hx rfl (hb hby q48_5) rfl rfl r) ?_
  refine OwnN.Go.v (g' := (mkF m 9 #[.val (.ref a1), .val (.ref al)] [])) (fun s' T L_ X eT hZ hown => initO X hx hZ hown (own_w hw 418 rfl) (own_w hw 20 rfl) (own_w hw 21 rfl) eT (g := (mkF m 6 #[.val (.ref a1), .val (.ref al)] [(.ref a1)])) rfl hml.symm rfl (hb hby q48_6) (by decide) (W := 0) (catOf (Nat.le_of_ble_eq_true rfl)) (by decide)) ?_
  refine OwnN.Go.sp (g' := (mkF m 11 #[.val (.ref a1), .val (.ref al)] [(.int (-1 : Int32)), (.ref a1)])) (fun T A t r => XS.aloadN A hx rfl (hb hby q48_9) rfl rfl (XS.iconst A hx rfl (hb hby q48_10) r)) ?_
  have f13 := (E1.wr W12)
  have f14 := (I3.other W12 (Or.inr (slot_ne (Or.inl (own_w hw 420 rfl)) (Or.inr (own_w hw 417 rfl)) (by decide) (t := .int) (t' := (.object "java/util/ArrayList")) (by decide) (by decide))))
  refine OwnN.Go.w (g' := (mkF m 14 #[.val (.ref a1), .val (.ref al)] [])) (fun s' T L_ X eT hZ hown => putF X hx hZ hown (host := "") (Or.inl (own_w hw 419 rfl)) Via.refl eT f14 f13 (Or.inl (own_w hw 420 rfl)) (own_w hw 410 rfl) (ty := .int) (by decide) rfl rfl (g := (mkF m 11 #[.val (.ref a1), .val (.ref al)] [(.int (-1 : Int32)), (.ref a1)])) rfl rfl (hb hby q48_11)) (Or.inl (List.mem_of_getElem? (i := 0) rfl)) ?_
  intro h16 W16
  have F16 := f14.same W16
  refine OwnN.Go.sp (g' := (mkF m 16 #[.val (.ref a1), .val (.ref al)] [(.ref a1), (.ref a1)])) (fun T A t r => XS.aloadN A hx rfl (hb hby q48_14) rfl rfl (XS.aloadN A hx rfl (hb hby q48_15) rfl rfl r)) ?_
  have f17 := (F12.other W16 (Or.inr (slot_ne (Or.inr (own_w hw 417 rfl)) (Or.inl (own_w hw 420 rfl)) (by decide) (t := (.object "java/util/ArrayList")) (t' := .int) (by decide) (by decide))))
  refine OwnN.Go.v (g' := (mkF m 19 #[.val (.ref a1), .val (.ref al)] [(.ref al), (.ref a1)])) (fun s' T L_ X eT hZ hown => getF X hx hZ hown (host := "") (Or.inl (own_w hw 416 rfl)) Via.refl eT f17 (g := (mkF m 16 #[.val (.ref a1), .val (.ref al)] [(.ref a1), (.ref a1)])) rfl rfl (hb hby q48_16)) ?_
  have ne18 : al ≠ a1 := ne_exa EL E1 (by decide)
  have f19 := ((FM.other W12 (Or.inl ne18)).other W16 (Or.inl ne18))
  refine OwnN.Go.v (g' := (mkF m 22 #[.val (.ref a1), .val (.ref al)] [(.int 1), (.ref a1)])) (fun s' T L_ X eT hZ hown => getF X hx hZ hown (host := "") (Or.inl (own_w hw 421 rfl)) (Via.of (own_w hw 247 rfl)) eT f19 (g := (mkF m 19 #[.val (.ref a1), .val (.ref al)] [(.ref al), (.ref a1)])) rfl rfl (hb hby q48_19)) ?_
  have f20 := (f13.wr W16)
  have f21 := ((I4.other W12 (Or.inr (slot_ne (Or.inl (own_w hw 423 rfl)) (Or.inr (own_w hw 417 rfl)) (by decide) (t := .int) (t' := (.object "java/util/ArrayList")) (by decide) (by decide)))).other W16 (Or.inr (slot_ne (Or.inl (own_w hw 423 rfl)) (Or.inl (own_w hw 420 rfl)) (by decide) (t := .int) (t' := .int) (by decide) (by decide))))
  refine OwnN.Go.w (g' := (mkF m 25 #[.val (.ref a1), .val (.ref al)] [])) (fun s' T L_ X eT hZ hown => putF X hx hZ hown (host := "") (Or.inl (own_w hw 422 rfl)) Via.refl eT f21 f20 (Or.inl (own_w hw 423 rfl)) (own_w hw 410 rfl) (ty := .int) (by decide) rfl rfl (g := (mkF m 22 #[.val (.ref a1), .val (.ref al)] [(.int 1), (.ref a1)])) rfl rfl (hb hby q48_22)) (Or.inl (List.mem_of_getElem? (i := 0) rfl)) ?_
  intro h23 W23
  have F23 := f21.same W23
  have f24 := (f17.other W23 (Or.inr (slot_ne (Or.inr (own_w hw 417 rfl)) (Or.inl (own_w hw 423 rfl)) (by decide) (t := (.object "java/util/ArrayList")) (t' := .int) (by decide) (by decide))))
  have f25 := (((I2.other W12 (Or.inr (slot_ne (Or.inl (own_w hw 431 rfl)) (Or.inr (own_w hw 417 rfl)) (by decide) (t := .int) (t' := (.object "java/util/ArrayList")) (by decide) (by decide)))).other W16 (Or.inr (slot_ne (Or.inl (own_w hw 431 rfl)) (Or.inl (own_w hw 420 rfl)) (by decide) (t := .int) (t' := .int) (by decide) (by decide)))).other W23 (Or.inr (slot_ne (Or.inl (own_w hw 431 rfl)) (Or.inl (own_w hw 423 rfl)) (by decide) (t := .int) (t' := .int) (by decide) (by decide))))
  have f26 := (F16.other W23 (Or.inr (slot_ne (Or.inl (own_w hw 420 rfl)) (Or.inl (own_w hw 423 rfl)) (by decide) (t := .int) (t' := .int) (by decide) (by decide))))
  exact OwnN.Go.ret (v := none) (fun s' T L_ fs X hr => X.returnOut hx hret (hb hby q48_25) hr) (fun _ => rfl) (by decide) (by decide) ⟨rfl, f24, f25, f26, F23⟩
theorem rmITN (l : Launch) (Z : State) (a0 : Array Value) (hw : own_T a0 Z) (wds : List Jvm.Cond) (al : Addr) (t1 : Addr) (h0 : Heap) (n0 : Nat) (O0 : Old Z n0 h0)  (EL : Exa Z h0 al "java/util/ArrayList") (FE : Fld Z h0 al "java/util/ArrayList" "elementData" "[Ljava/lang/Object;" (.ref t1)) (FS : Fld Z h0 al "java/util/ArrayList" "size" "I" (.int 1)) (FM : Fld Z h0 al "java/util/AbstractList" "modCount" "I" (.int 1)) :
    OwnN.Ct l Z Y71 jdk_38_method_55_code 1 (some (.object "java/util/Iterator")) wds (⟨2, 1, 4, 26⟩ : Room) #[(.ref al)] n0 h0 [] (fun v h => ∃ it : Addr, v = some (.ref it) ∧ h0.size ≤ it ∧ Exa Z h it "java/util/ArrayList$Itr" ∧ Fld Z h it "java/util/ArrayList$Itr" "this$0" "Ljava/util/ArrayList;" (.ref al) ∧ Fld Z h it "java/util/ArrayList$Itr" "cursor" "I" (.int 0) ∧ Fld Z h it "java/util/ArrayList$Itr" "lastRet" "I" (.int (-1 : Int32)) ∧ Fld Z h it "java/util/ArrayList$Itr" "expectedModCount" "I" (.int 1)) := by
  refine OwnN.Ct.of (plainFor_of_name pn_java_util_ArrayList) O0 all0 ?_
  intro p e s m below meth c hx hby hml hret hnm
  refine OwnN.Go.cast (ef_R_1 m al) ?_
  refine OwnN.Go.newO (k' := 1) (n' := 4) (pc' := 3) (hb hby q49_0) (own_w hw 409 rfl) (own_w hw 410 rfl) (own_w hw 411 rfl) rfl rfl rfl (by decide) (by decide) ?_
  intro b11 h11 g11 sz11 E11 A11 D11
  have F11_this_0 : Fld Z h11 b11 "java/util/ArrayList$Itr" "this$0" "Ljava/util/ArrayList;" .null := D11 (Or.inr (own_w hw 417 rfl)) (ty := (.object "java/util/ArrayList")) (by decide)
  have F11_lastRet : Fld Z h11 b11 "java/util/ArrayList$Itr" "lastRet" "I" (.int 0) := D11 (Or.inl (own_w hw 420 rfl)) (ty := .int) (by decide)
  have F11_expectedModCount : Fld Z h11 b11 "java/util/ArrayList$Itr" "expectedModCount" "I" (.int 0) := D11 (Or.inl (own_w hw 423 rfl)) (ty := .int) (by decide)
  have F11_cursor : Fld Z h11 b11 "java/util/ArrayList$Itr" "cursor" "I" (.int 0) := D11 (Or.inl (own_w hw 431 rfl)) (ty := .int) (by decide)
  refine OwnN.Go.sp (g' := (mkF m 5 #[.val (.ref al)] [(.ref al), (.ref b11), (.ref b11)])) (fun T A t r => XS.dup A hx rfl (hb hby q49_3) rfl rfl (XS.aloadN A hx rfl (hb hby q49_4) rfl rfl r)) ?_
  refine OwnN.Go.old fun O12 => ?_
  have f13 := (EL.ext E11)
  have f14 := (FE.ext E11)
  have f15 := (FS.ext E11)
  have f16 := (FM.ext E11)
  refine OwnN.Go.callC (a := b11) (ws' := [b11]) (W := 1) (y := Y38) (argsL := [(.ref al)]) (rest := [(.ref b11)]) (pc' := 8) (k' := 1) (n' := 4) (hb hby q49_5) rfl (own_w hw 412 rfl) (own_w hw 413 rfl) (own_w hw 415 rfl) (by decide) (fun s' hZ => OwnN.Ct.bk (rmITI l Z a0 hw [] b11 al t1 h11 n0 O12 (Nat.le_trans (Old.le O0) sz11) A11 F11_this_0 F11_cursor F11_lastRet F11_expectedModCount f13 f14 f15 f16) hZ (own_w hw 415 rfl) (own_w hw 411 rfl) (by decide) (by decide)) hml.symm (lenOf pd_27 rfl) rfl (Nat.le_of_ble_eq_true rfl) rfl rfl rfl (by decide) (by decide) (allS (Or.inr sz11) all0) ?_
  rintro v17 h17 K17 ⟨rfl, Ia17, Ib17, Ic17, Id17⟩
  have f18 := (A11.keep K17)
  exact OwnN.Go.ret (v := (some (.ref b11))) (fun s' T L_ fs X hr => own_retR X hx hret rfl rfl (hb hby q49_8) hr) (fun h => by rw [hret] at h; cases h) (by decide) (by decide) ⟨_, rfl, sz11, f18, Ia17, Ib17, Ic17, Id17⟩
theorem rmHN0 (l : Launch) (Z : State) (a0 : Array Value) (hw : own_T a0 Z) (wds : List Jvm.Cond) (a1 : Addr) (al : Addr) (h0 : Heap) (n0 : Nat) (O0 : Old Z n0 h0)  (I1 : Fld Z h0 a1 "java/util/ArrayList$Itr" "this$0" "Ljava/util/ArrayList;" (.ref al)) (I2 : Fld Z h0 a1 "java/util/ArrayList$Itr" "cursor" "I" (.int 0)) (FS : Fld Z h0 al "java/util/ArrayList" "size" "I" (.int 1)) :
    OwnN.Ct l Z Y72 jdk_49_method_2_code 1 (some .boolean) wds (⟨0, 0, 0, 0⟩ : Room) #[(.ref a1)] n0 h0 [] (fun v h => v = some (.int 1) ∧ h = h0) := by
  refine OwnN.Ct.of (plainFor_of_name pn_java_util_ArrayList_Itr) O0 all0 ?_
  intro p e s m below meth c hx hby hml hret hnm
  refine OwnN.Go.cast (ef_R_1 m a1) ?_
  refine OwnN.Go.sp (g' := (mkF m 1 #[.val (.ref a1)] [(.ref a1)])) (fun T A t r => XS.aloadN A hx rfl (hb hby q50_0) rfl rfl r) ?_
  refine OwnN.Go.v (g' := (mkF m 4 #[.val (.ref a1)] [(.int 0)])) (fun s' T L_ X eT hZ hown => getF X hx hZ hown (host := "") (Or.inl (own_w hw 430 rfl)) Via.refl eT I2 (g := (mkF m 1 #[.val (.ref a1)] [(.ref a1)])) rfl rfl (hb hby q50_1)) ?_
  refine OwnN.Go.sp (g' := (mkF m 5 #[.val (.ref a1)] [(.ref a1), (.int 0)])) (fun T A t r => XS.aloadN A hx rfl (hb hby q50_4) rfl rfl r) ?_
  refine OwnN.Go.v (g' := (mkF m 8 #[.val (.ref a1)] [(.ref al), (.int 0)])) (fun s' T L_ X eT hZ hown => getF X hx hZ hown (host := "") (Or.inl (own_w hw 416 rfl)) Via.refl eT I1 (g := (mkF m 5 #[.val (.ref a1)] [(.ref a1), (.int 0)])) rfl rfl (hb hby q50_5)) ?_
  refine OwnN.Go.v (g' := (mkF m 11 #[.val (.ref a1)] [(.int 1), (.int 0)])) (fun s' T L_ X eT hZ hown => getF X hx hZ hown (Or.inr (own_w hw 432 rfl)) Via.refl eT FS (g := (mkF m 8 #[.val (.ref a1)] [(.ref al), (.int 0)])) rfl rfl (hb hby q50_8)) ?_
  refine OwnN.Go.sp (g' := (mkF m 19 #[.val (.ref a1)] [(.int 1)])) (fun T A t r => XS.icmpNo A hx rfl (hb hby q50_11) rfl (feq (by decide : ¬ ((0 : Int32) = (1 : Int32)))).1 (XS.iconst A hx rfl (hb hby q50_14) (XS.goto A hx rfl (pc0 := 15) (pc' := 19) rfl (hb hby q50_15) (by decide) (by decide) r))) ?_
  exact OwnN.Go.ret (v := (some (.int (nar .boolean (1 : Int32))))) (fun s' T L_ fs X hr => retN X hx (t := .boolean) hret (by simp) (hb hby q50_19) hr) (fun h => by rw [hret] at h; cases h) (by decide) (by decide) ⟨rfl, rfl⟩
theorem rmHN1 (l : Launch) (Z : State) (a0 : Array Value) (hw : own_T a0 Z) (wds : List Jvm.Cond) (a1 : Addr) (al : Addr) (h0 : Heap) (n0 : Nat) (O0 : Old Z n0 h0)  (I1 : Fld Z h0 a1 "java/util/ArrayList$Itr" "this$0" "Ljava/util/ArrayList;" (.ref al)) (I2 : Fld Z h0 a1 "java/util/ArrayList$Itr" "cursor" "I" (.int 1)) (FS : Fld Z h0 al "java/util/ArrayList" "size" "I" (.int 1)) :
    OwnN.Ct l Z Y72 jdk_49_method_2_code 1 (some .boolean) wds (⟨0, 0, 0, 0⟩ : Room) #[(.ref a1)] n0 h0 [] (fun v h => v = some (.int 0) ∧ h = h0) := by
  refine OwnN.Ct.of (plainFor_of_name pn_java_util_ArrayList_Itr) O0 all0 ?_
  intro p e s m below meth c hx hby hml hret hnm
  refine OwnN.Go.cast (ef_R_1 m a1) ?_
  refine OwnN.Go.sp (g' := (mkF m 1 #[.val (.ref a1)] [(.ref a1)])) (fun T A t r => XS.aloadN A hx rfl (hb hby q50_0) rfl rfl r) ?_
  refine OwnN.Go.v (g' := (mkF m 4 #[.val (.ref a1)] [(.int 1)])) (fun s' T L_ X eT hZ hown => getF X hx hZ hown (host := "") (Or.inl (own_w hw 430 rfl)) Via.refl eT I2 (g := (mkF m 1 #[.val (.ref a1)] [(.ref a1)])) rfl rfl (hb hby q50_1)) ?_
  refine OwnN.Go.sp (g' := (mkF m 5 #[.val (.ref a1)] [(.ref a1), (.int 1)])) (fun T A t r => XS.aloadN A hx rfl (hb hby q50_4) rfl rfl r) ?_
  refine OwnN.Go.v (g' := (mkF m 8 #[.val (.ref a1)] [(.ref al), (.int 1)])) (fun s' T L_ X eT hZ hown => getF X hx hZ hown (host := "") (Or.inl (own_w hw 416 rfl)) Via.refl eT I1 (g := (mkF m 5 #[.val (.ref a1)] [(.ref a1), (.int 1)])) rfl rfl (hb hby q50_5)) ?_
  refine OwnN.Go.v (g' := (mkF m 11 #[.val (.ref a1)] [(.int 1), (.int 1)])) (fun s' T L_ X eT hZ hown => getF X hx hZ hown (Or.inr (own_w hw 432 rfl)) Via.refl eT FS (g := (mkF m 8 #[.val (.ref a1)] [(.ref al), (.int 1)])) rfl rfl (hb hby q50_8)) ?_
  refine OwnN.Go.sp (g' := (mkF m 19 #[.val (.ref a1)] [(.int 0)])) (fun T A t r => XS.icmpYes A hx rfl (pc0 := 11) (pc' := 18) rfl (hb hby q50_11) rfl (teq (by decide : ((1 : Int32) = (1 : Int32)))).1 (by decide) (by decide) (XS.iconst A hx rfl (hb hby q50_18) r)) ?_
  exact OwnN.Go.ret (v := (some (.int (nar .boolean (0 : Int32))))) (fun s' T L_ fs X hr => retN X hx (t := .boolean) hret (by simp) (hb hby q50_19) hr) (fun h => by rw [hret] at h; cases h) (by decide) (by decide) ⟨rfl, rfl⟩
theorem rmCM (l : Launch) (Z : State) (a0 : Array Value) (hw : own_T a0 Z) (wds : List Jvm.Cond) (a1 : Addr) (al : Addr) (h0 : Heap) (n0 : Nat) (O0 : Old Z n0 h0)  (I1 : Fld Z h0 a1 "java/util/ArrayList$Itr" "this$0" "Ljava/util/ArrayList;" (.ref al)) (I4 : Fld Z h0 a1 "java/util/ArrayList$Itr" "expectedModCount" "I" (.int 1)) (FM : Fld Z h0 al "java/util/AbstractList" "modCount" "I" (.int 1)) :
    OwnN.Ct l Z Y39 jdk_49_method_6_code 1 none wds (⟨0, 0, 0, 0⟩ : Room) #[(.ref a1)] n0 h0 [] (fun v h => v = none ∧ h = h0) := by
  refine OwnN.Ct.of (plainFor_of_name pn_java_util_ArrayList_Itr) O0 all0 ?_
  intro p e s m below meth c hx hby hml hret hnm
  refine OwnN.Go.cast (ef_R_1 m a1) ?_
  refine OwnN.Go.sp (g' := (mkF m 1 #[.val (.ref a1)] [(.ref a1)])) (fun T A t r => XS.aloadN A hx rfl (hb hby q51_0) rfl rfl r) ?_
  refine OwnN.Go.v (g' := (mkF m 4 #[.val (.ref a1)] [(.ref al)])) (fun s' T L_ X eT hZ hown => getF X hx hZ hown (host := "") (Or.inl (own_w hw 416 rfl)) Via.refl eT I1 (g := (mkF m 1 #[.val (.ref a1)] [(.ref a1)])) rfl rfl (hb hby q51_1)) ?_
  refine OwnN.Go.v (g' := (mkF m 7 #[.val (.ref a1)] [(.int 1)])) (fun s' T L_ X eT hZ hown => getF X hx hZ hown (host := "") (Or.inl (own_w hw 421 rfl)) (Via.of (own_w hw 247 rfl)) eT FM (g := (mkF m 4 #[.val (.ref a1)] [(.ref al)])) rfl rfl (hb hby q51_4)) ?_
  refine OwnN.Go.sp (g' := (mkF m 8 #[.val (.ref a1)] [(.ref a1), (.int 1)])) (fun T A t r => XS.aloadN A hx rfl (hb hby q51_7) rfl rfl r) ?_
  refine OwnN.Go.v (g' := (mkF m 11 #[.val (.ref a1)] [(.int 1), (.int 1)])) (fun s' T L_ X eT hZ hown => getF X hx hZ hown (host := "") (Or.inl (own_w hw 422 rfl)) Via.refl eT I4 (g := (mkF m 8 #[.val (.ref a1)] [(.ref a1), (.int 1)])) rfl rfl (hb hby q51_8)) ?_
  refine OwnN.Go.sp (g' := (mkF m 22 #[.val (.ref a1)] [])) (fun T A t r => XS.icmpYes A hx rfl (pc0 := 11) (pc' := 22) rfl (hb hby q51_11) rfl (teq (by decide : ((1 : Int32) = (1 : Int32)))).1 (by decide) (by decide) r) ?_
  exact OwnN.Go.ret (v := none) (fun s' T L_ fs X hr => X.returnOut hx hret (hb hby q51_22) hr) (fun _ => rfl) (by decide) (by decide) ⟨rfl, rfl⟩
theorem rmNX (l : Launch) (Z : State) (a0 : Array Value) (hw : own_T a0 Z) (wds : List Jvm.Cond) (a1 : Addr) (al : Addr) (t1 : Addr) (k1 : ClassId) (a2 : Addr) (h0 : Heap) (n0 : Nat) (O0 : Old Z n0 h0) (g_a1 : n0 ≤ a1) (E1 : Exa Z h0 a1 "java/util/ArrayList$Itr") (I1 : Fld Z h0 a1 "java/util/ArrayList$Itr" "this$0" "Ljava/util/ArrayList;" (.ref al)) (I2 : Fld Z h0 a1 "java/util/ArrayList$Itr" "cursor" "I" (.int 0)) (I3 : Fld Z h0 a1 "java/util/ArrayList$Itr" "lastRet" "I" (.int (-1 : Int32))) (I4 : Fld Z h0 a1 "java/util/ArrayList$Itr" "expectedModCount" "I" (.int 1)) (EL : Exa Z h0 al "java/util/ArrayList") (FE : Fld Z h0 al "java/util/ArrayList" "elementData" "[Ljava/lang/Object;" (.ref t1)) (FS : Fld Z h0 al "java/util/ArrayList" "size" "I" (.int 1)) (FM : Fld Z h0 al "java/util/AbstractList" "modCount" "I" (.int 1)) (A1 : Arv Z h0 t1 k1 (.object "java/lang/Object") (10 : Int32) [.ref a2, .null, .null, .null, .null, .null, .null, .null, .null, .null] .null) :
    OwnN.Ct l Z Y74 jdk_49_method_3_code 3 (some (.object "java/lang/Object")) wds (⟨1, 0, 0, 12⟩ : Room) #[(.ref a1)] n0 h0 [a1] (fun v h => v = some (.ref a2) ∧ Fld Z h a1 "java/util/ArrayList$Itr" "this$0" "Ljava/util/ArrayList;" (.ref al) ∧ Fld Z h a1 "java/util/ArrayList$Itr" "cursor" "I" (.int 1) ∧ Fld Z h a1 "java/util/ArrayList$Itr" "lastRet" "I" (.int 0) ∧ Fld Z h a1 "java/util/ArrayList$Itr" "expectedModCount" "I" (.int 1)) := by
  refine OwnN.Ct.of (plainFor_of_name pn_java_util_ArrayList_Itr) O0 (allS g_a1 all0) ?_
  intro p e s m below meth c hx hby hml hret hnm
  refine OwnN.Go.cast (ef_R_3 m a1) ?_
  refine OwnN.Go.sp (g' := (mkF m 1 #[.val (.ref a1), .unset, .unset] [(.ref a1)])) (fun T A t r => XS.aloadN A hx rfl (hb hby q52_0) rfl rfl r) ?_
  refine OwnN.Go.old fun O11 => ?_
  refine OwnN.Go.callVP (a := a1) (z := Y39) (W := 0) (y := Y39) (argsL := []) (rest := []) (pc' := 4) (hb hby q52_1) (own_w hw 441 rfl) (own_w hw 442 rfl) (fun s' hZ => notFace_of_selects (args := #[]) (mvT hZ (own_w hw 444 rfl))) (own_w hw 444 rfl) (own_w hw 443 rfl) (by decide) (fun s' hZ => OwnN.Ct.bk (rmCM l Z a0 hw [] a1 al h0 n0 O11 I1 I4 FM) hZ (own_w hw 445 rfl) (own_w hw 411 rfl) (by decide) (by decide)) E1 hml.symm (lenOf pd_3 rfl) rfl (Nat.le_of_ble_eq_true rfl) rfl (by decide) (by decide) ?_
  rintro v12 rfl
  refine OwnN.Go.sp (g' := (mkF m 5 #[.val (.ref a1), .unset, .unset] [(.ref a1)])) (fun T A t r => XS.aloadN A hx rfl (hb hby q52_4) rfl rfl r) ?_
  refine OwnN.Go.v (g' := (mkF m 8 #[.val (.ref a1), .unset, .unset] [(.int 0)])) (fun s' T L_ X eT hZ hown => getF X hx hZ hown (host := "") (Or.inl (own_w hw 430 rfl)) Via.refl eT I2 (g := (mkF m 5 #[.val (.ref a1), .unset, .unset] [(.ref a1)])) rfl rfl (hb hby q52_5)) ?_
  refine OwnN.Go.sp (g' := (mkF m 11 #[.val (.ref a1), .val (.int 0), .unset] [(.ref a1), (.int 0)])) (fun T A t r => XS.istoreN A hx rfl (hb hby q52_8) rfl (l' := #[.val (.ref a1), .val (.int 0), .unset]) rfl (XS.iloadN A hx rfl (hb hby q52_9) rfl (XS.aloadN A hx rfl (hb hby q52_10) rfl rfl r))) ?_
  refine OwnN.Go.v (g' := (mkF m 14 #[.val (.ref a1), .val (.int 0), .unset] [(.ref al), (.int 0)])) (fun s' T L_ X eT hZ hown => getF X hx hZ hown (host := "") (Or.inl (own_w hw 416 rfl)) Via.refl eT I1 (g := (mkF m 11 #[.val (.ref a1), .val (.int 0), .unset] [(.ref a1), (.int 0)])) rfl rfl (hb hby q52_11)) ?_
  refine OwnN.Go.v (g' := (mkF m 17 #[.val (.ref a1), .val (.int 0), .unset] [(.int 1), (.int 0)])) (fun s' T L_ X eT hZ hown => getF X hx hZ hown (Or.inr (own_w hw 432 rfl)) Via.refl eT FS (g := (mkF m 14 #[.val (.ref a1), .val (.int 0), .unset] [(.ref al), (.int 0)])) rfl rfl (hb hby q52_14)) ?_
  refine OwnN.Go.sp (g' := (mkF m 29 #[.val (.ref a1), .val (.int 0), .unset] [(.ref a1)])) (fun T A t r => XS.icmpYes A hx rfl (pc0 := 17) (pc' := 28) rfl (hb hby q52_17) rfl (tlt (by decide : ((0 : Int32) < (1 : Int32)))).1 (by decide) (by decide) (XS.aloadN A hx rfl (hb hby q52_28) rfl rfl r)) ?_
  refine OwnN.Go.v (g' := (mkF m 32 #[.val (.ref a1), .val (.int 0), .unset] [(.ref al)])) (fun s' T L_ X eT hZ hown => getF X hx hZ hown (host := "") (Or.inl (own_w hw 416 rfl)) Via.refl eT I1 (g := (mkF m 29 #[.val (.ref a1), .val (.int 0), .unset] [(.ref a1)])) rfl rfl (hb hby q52_29)) ?_
  refine OwnN.Go.v (g' := (mkF m 35 #[.val (.ref a1), .val (.int 0), .unset] [(.ref t1)])) (fun s' T L_ X eT hZ hown => getF X hx hZ hown (host := "") (Or.inl (own_w hw 446 rfl)) Via.refl eT FE (g := (mkF m 32 #[.val (.ref a1), .val (.int 0), .unset] [(.ref al)])) rfl rfl (hb hby q52_32)) ?_
  refine OwnN.Go.sp (g' := (mkF m 38 #[.val (.ref a1), .val (.int 0), .val (.ref t1)] [(.ref t1), (.int 0)])) (fun T A t r => XS.astoreN A hx rfl (hb hby q52_35) rfl rfl (l' := #[.val (.ref a1), .val (.int 0), .val (.ref t1)]) rfl (XS.iloadN A hx rfl (hb hby q52_36) rfl (XS.aloadN A hx rfl (hb hby q52_37) rfl rfl r))) ?_
  refine OwnN.Go.r (g' := (mkF m 39 #[.val (.ref a1), .val (.int 0), .val (.ref t1)] [(.int 10), (.int 0)])) (fun s' T L_ X eT hZ t r => own_len X hx hZ eT A1 (g := (mkF m 38 #[.val (.ref a1), .val (.int 0), .val (.ref t1)] [(.ref t1), (.int 0)])) rfl rfl (hb hby q52_38) t r) ?_
  refine OwnN.Go.sp (g' := (mkF m 54 #[.val (.ref a1), .val (.int 0), .val (.ref t1)] [(.int 1), (.ref a1)])) (fun T A t r => XS.icmpYes A hx rfl (pc0 := 39) (pc' := 50) rfl (hb hby q52_39) rfl (tlt (by decide : ((0 : Int32) < (10 : Int32)))).1 (by decide) (by decide) (XS.aloadN A hx rfl (hb hby q52_50) rfl rfl (XS.iloadN A hx rfl (hb hby q52_51) rfl (XS.iconst A hx rfl (hb hby q52_52) (XS.iadd A hx rfl (hb hby q52_53) rfl r))))) ?_
  refine OwnN.Go.w (g' := (mkF m 57 #[.val (.ref a1), .val (.int 0), .val (.ref t1)] [])) (fun s' T L_ X eT hZ hown => putF X hx hZ hown (host := "") (Or.inl (own_w hw 430 rfl)) Via.refl eT I2 E1 (Or.inl (own_w hw 431 rfl)) (own_w hw 410 rfl) (ty := .int) (by decide) rfl rfl (g := (mkF m 54 #[.val (.ref a1), .val (.int 0), .val (.ref t1)] [(.int 1), (.ref a1)])) rfl rfl (hb hby q52_54)) (Or.inl (List.mem_of_getElem? (i := 0) rfl)) ?_
  intro h14 W14
  have F14 := I2.same W14
  refine OwnN.Go.sp (g' := (mkF m 61 #[.val (.ref a1), .val (.int 0), .val (.ref t1)] [(.int 0), (.ref a1), (.int 0), (.ref t1)])) (fun T A t r => XS.aloadN A hx rfl (hb hby q52_57) rfl rfl (XS.aloadN A hx rfl (hb hby q52_58) rfl rfl (XS.iloadN A hx rfl (hb hby q52_59) rfl (XS.dupX1 A hx rfl (hb hby q52_60) rfl rfl rfl r)))) ?_
  have f15 := (E1.wr W14)
  have f16 := (I3.other W14 (Or.inr (slot_ne (Or.inl (own_w hw 420 rfl)) (Or.inl (own_w hw 431 rfl)) (by decide) (t := .int) (t' := .int) (by decide) (by decide))))
  refine OwnN.Go.w (g' := (mkF m 64 #[.val (.ref a1), .val (.int 0), .val (.ref t1)] [(.int 0), (.ref t1)])) (fun s' T L_ X eT hZ hown => putF X hx hZ hown (host := "") (Or.inl (own_w hw 419 rfl)) Via.refl eT f16 f15 (Or.inl (own_w hw 420 rfl)) (own_w hw 410 rfl) (ty := .int) (by decide) rfl rfl (g := (mkF m 61 #[.val (.ref a1), .val (.int 0), .val (.ref t1)] [(.int 0), (.ref a1), (.int 0), (.ref t1)])) rfl rfl (hb hby q52_61)) (Or.inl (List.mem_of_getElem? (i := 0) rfl)) ?_
  intro h18 W18
  have F18 := f16.same W18
  have ne19 : a1 ≠ t1 := Exa.neArv E1 A1 (own_w hw 410 rfl)
  have f20 := ((A1.other W14 (Ne.symm ne19)).other W18 (Ne.symm ne19))
  refine OwnN.Go.r (g' := (mkF m 65 #[.val (.ref a1), .val (.int 0), .val (.ref t1)] [(.ref a2)])) (fun s' T L_ X eT hZ t r => own_ldA X hx hZ eT f20 (j := (0 : Int32)) ⟨by decide, by decide⟩ (v := (.ref a2)) rfl (g := (mkF m 64 #[.val (.ref a1), .val (.int 0), .val (.ref t1)] [(.int 0), (.ref t1)])) rfl rfl (hb hby q52_64) t r) ?_
  have f21 := ((I1.other W14 (Or.inr (slot_ne (Or.inr (own_w hw 417 rfl)) (Or.inl (own_w hw 431 rfl)) (by decide) (t := (.object "java/util/ArrayList")) (t' := .int) (by decide) (by decide)))).other W18 (Or.inr (slot_ne (Or.inr (own_w hw 417 rfl)) (Or.inl (own_w hw 420 rfl)) (by decide) (t := (.object "java/util/ArrayList")) (t' := .int) (by decide) (by decide))))
  have f22 := (F14.other W18 (Or.inr (slot_ne (Or.inl (own_w hw 431 rfl)) (Or.inl (own_w hw 420 rfl)) (by decide) (t := .int) (t' := .int) (by decide) (by decide))))
  have f23 := ((I4.other W14 (Or.inr (slot_ne (Or.inl (own_w hw 423 rfl)) (Or.inl (own_w hw 431 rfl)) (by decide) (t := .int) (t' := .int) (by decide) (by decide)))).other W18 (Or.inr (slot_ne (Or.inl (own_w hw 423 rfl)) (Or.inl (own_w hw 420 rfl)) (by decide) (t := .int) (t' := .int) (by decide) (by decide))))
  exact OwnN.Go.ret (v := (some (.ref a2))) (fun s' T L_ fs X hr => own_retR X hx hret rfl rfl (hb hby q52_65) hr) (fun h => by rw [hret] at h; cases h) (by decide) (by decide) ⟨rfl, f21, f22, F18, f23⟩
theorem rmKSI (l : Launch) (Z : State) (a0 : Array Value) (hw : own_T a0 Z) (wds : List Jvm.Cond) (a1 : Addr) (a2 : Addr) (h0 : Heap) (n0 : Nat) (O0 : Old Z n0 h0) (g_a1 : n0 ≤ a1) (E1 : Exa Z h0 a1 "java/util/TreeMap$KeySet") (F1 : Fld Z h0 a1 "java/util/TreeMap$KeySet" "m" "Ljava/util/NavigableMap;" .null) :
    OwnN.Ct l Z Y40 jdk_2741_method_1_code 2 none wds (⟨3, 0, 0, 36⟩ : Room) #[(.ref a1), (.ref a2)] n0 h0 [a1] (fun v h => v = none ∧ Fld Z h a1 "java/util/TreeMap$KeySet" "m" "Ljava/util/NavigableMap;" (.ref a2)) := by
  refine OwnN.Ct.of (plainFor_of_name pn_java_util_TreeMap_KeySet) O0 (allS g_a1 all0) ?_
  intro p e s m below meth c hx hby hml hret hnm
  refine OwnN.Go.cast (ef_RR_2 m a1 a2) ?_
  refine OwnN.Go.sp (g' := (mkF m 1 #[.val (.ref a1), .val (.ref a2)] [(.ref a1)])) (fun T A t r => XS.aloadN A hx rfl (hb hby q53_0) rfl rfl r) ?_
  refine OwnN.Go.old fun O11 => ?_
  refine OwnN.Go.callCP (a := a1) (W := 0) (y := Y5) (argsL := []) (rest := []) (pc' := 4) (hb hby q53_1) rfl (own_w hw 323 rfl) (own_w hw 67 rfl) (own_w hw 71 rfl) (by decide) (fun s' hZ => OwnN.Ct.bk (rmASI l Z a0 hw [] a1 h0 n0 O11) hZ (own_w hw 71 rfl) (own_w hw 70 rfl) (by decide) (by decide)) hml.symm (lenOf pd_3 rfl) rfl (Nat.le_of_ble_eq_true rfl) rfl (by decide) (by decide) ?_
  rintro v12 rfl
  refine OwnN.Go.sp (g' := (mkF m 6 #[.val (.ref a1), .val (.ref a2)] [(.ref a2), (.ref a1)])) (fun T A t r => XS.aloadN A hx rfl (hb hby q53_4) rfl rfl (XS.aloadN A hx rfl (hb hby q53_5) rfl rfl r)) ?_
  refine OwnN.Go.w (g' := (mkF m 9 #[.val (.ref a1), .val (.ref a2)] [])) (fun s' T L_ X eT hZ hown => putF X hx hZ hown (host := "") (Or.inl (own_w hw 326 rfl)) Via.refl eT F1 E1 (Or.inr ⟨(own_w hw 327 rfl), rfl, hnm⟩) (own_w hw 317 rfl) (ty := (.object "java/util/NavigableMap")) (by decide) rfl rfl (g := (mkF m 6 #[.val (.ref a1), .val (.ref a2)] [(.ref a2), (.ref a1)])) rfl rfl (hb hby q53_6)) (Or.inl (List.mem_of_getElem? (i := 0) rfl)) ?_
  intro h14 W14
  have F14 := F1.same W14
  exact OwnN.Go.ret (v := none) (fun s' T L_ fs X hr => X.returnOut hx hret (hb hby q53_9) hr) (fun _ => rfl) (by decide) (by decide) ⟨rfl, F14⟩
theorem rmNK (l : Launch) (Z : State) (a0 : Array Value) (hw : own_T a0 Z) (wds : List Jvm.Cond) (a1 : Addr) (h0 : Heap) (n0 : Nat) (O0 : Old Z n0 h0) (g_a1 : n0 ≤ a1) (E1 : Exa Z h0 a1 "java/util/TreeMap") (F_size : Fld Z h0 a1 "java/util/TreeMap" "size" "I" (.int 0)) (F_modCount : Fld Z h0 a1 "java/util/TreeMap" "modCount" "I" (.int 0)) (F_root : Fld Z h0 a1 "java/util/TreeMap" "root" "Ljava/util/TreeMap$Entry;" .null) (F_navigableKeySet : Fld Z h0 a1 "java/util/TreeMap" "navigableKeySet" "Ljava/util/TreeMap$KeySet;" .null) :
    OwnN.Ct l Z Y46 jdk_2729_method_50_code 2 (some (.object "java/util/NavigableSet")) wds (⟨4, 1, 1, 51⟩ : Room) #[(.ref a1)] n0 h0 [a1] (fun v h => ∃ ks : Addr, v = some (.ref ks) ∧ Exa Z h ks "java/util/TreeMap$KeySet" ∧ Fld Z h ks "java/util/TreeMap$KeySet" "m" "Ljava/util/NavigableMap;" (.ref a1) ∧ Fld Z h a1 "java/util/TreeMap" "size" "I" (.int 0) ∧ Fld Z h a1 "java/util/TreeMap" "modCount" "I" (.int 0) ∧ Fld Z h a1 "java/util/TreeMap" "root" "Ljava/util/TreeMap$Entry;" .null) := by
  refine OwnN.Ct.of (plainFor_of_name pn_java_util_TreeMap) O0 (allS g_a1 all0) ?_
  intro p e s m below meth c hx hby hml hret hnm
  refine OwnN.Go.cast (ef_R_2 m a1) ?_
  refine OwnN.Go.sp (g' := (mkF m 1 #[.val (.ref a1), .unset] [(.ref a1)])) (fun T A t r => XS.aloadN A hx rfl (hb hby q54_0) rfl rfl r) ?_
  refine OwnN.Go.v (g' := (mkF m 4 #[.val (.ref a1), .unset] [.null])) (fun s' T L_ X eT hZ hown => getF X hx hZ hown (host := "") (Or.inl (own_w hw 314 rfl)) Via.refl eT F_navigableKeySet (g := (mkF m 1 #[.val (.ref a1), .unset] [(.ref a1)])) rfl rfl (hb hby q54_1)) ?_
  refine OwnN.Go.sp (g' := (mkF m 14 #[.val (.ref a1), .val .null] [(.ref a1)])) (fun T A t r => XS.astoreN A hx rfl (hb hby q54_4) rfl rfl (l' := #[.val (.ref a1), .val .null]) rfl (XS.aloadN A hx rfl (hb hby q54_5) rfl rfl (XS.ifnullYes A hx rfl (pc0 := 6) (pc' := 13) rfl (hb hby q54_6) rfl (by decide) (by decide) (XS.aloadN A hx rfl (hb hby q54_13) rfl rfl r)))) ?_
  refine OwnN.Go.newO (k' := 1) (n' := 1) (pc' := 17) (hb hby q54_14) (own_w hw 316 rfl) (own_w hw 317 rfl) (own_w hw 318 rfl) rfl rfl rfl (by decide) (by decide) ?_
  intro b11 h11 g11 sz11 E11 A11 D11
  have F11_m : Fld Z h11 b11 "java/util/TreeMap$KeySet" "m" "Ljava/util/NavigableMap;" .null := D11 (Or.inr (own_w hw 327 rfl)) (ty := (.object "java/util/NavigableMap")) (by decide)
  refine OwnN.Go.sp (g' := (mkF m 19 #[.val (.ref a1), .val .null] [(.ref a1), (.ref b11), (.ref b11), (.ref a1)])) (fun T A t r => XS.dup A hx rfl (hb hby q54_17) rfl rfl (XS.aloadN A hx rfl (hb hby q54_18) rfl rfl r)) ?_
  refine OwnN.Go.old fun O12 => ?_
  refine OwnN.Go.callC (a := b11) (ws' := [b11]) (W := 2) (y := Y40) (argsL := [(.ref a1)]) (rest := [(.ref b11), (.ref a1)]) (pc' := 22) (k' := 1) (n' := 1) (hb hby q54_19) rfl (own_w hw 319 rfl) (own_w hw 320 rfl) (own_w hw 322 rfl) (by decide) (fun s' hZ => OwnN.Ct.bk (rmKSI l Z a0 hw [] b11 a1 h11 n0 O12 (Nat.le_trans (Old.le O0) sz11) A11 F11_m) hZ (own_w hw 322 rfl) (own_w hw 318 rfl) (by decide) (by decide)) hml.symm (lenOf pd_4 rfl) rfl (Nat.le_of_ble_eq_true rfl) rfl rfl rfl (by decide) (by decide) (allS (Or.inr sz11) all0) ?_
  rintro v13 h13 K13 ⟨rfl, Fm13⟩
  refine OwnN.Go.sp (g' := (mkF m 23 #[.val (.ref a1), .val .null] [(.ref b11), (.ref a1), (.ref b11)])) (fun T A t r => XS.dupX1 A hx rfl (hb hby q54_22) rfl rfl rfl r) ?_
  have f14 := ((E1.ext E11).keep K13)
  have ne15 : a1 ≠ b11 := Nat.ne_of_lt (Nat.lt_of_lt_of_le E1.lt (Nat.le_of_eq g11.symm))
  have f16 := ((F_navigableKeySet.ext E11).keep K13 (ninS ne15 nin0))
  refine OwnN.Go.w (g' := (mkF m 26 #[.val (.ref a1), .val .null] [(.ref b11)])) (fun s' T L_ X eT hZ hown => putF X hx hZ hown (host := "") (Or.inl (own_w hw 314 rfl)) Via.refl eT f16 f14 (Or.inl (own_w hw 315 rfl)) (own_w hw 43 rfl) (ty := (.object "java/util/TreeMap$KeySet")) (by decide) rfl rfl (g := (mkF m 23 #[.val (.ref a1), .val .null] [(.ref b11), (.ref a1), (.ref b11)])) rfl rfl (hb hby q54_23)) (Or.inl (List.mem_of_getElem? (i := 0) rfl)) ?_
  intro h18 W18
  have F18 := f16.same W18
  have f19 := ((A11.keep K13).wr W18)
  have f20 := (Fm13.other W18 (Or.inl (Ne.symm ne15)))
  have f21 := (((F_size.ext E11).keep K13 (ninS ne15 nin0)).other W18 (Or.inr (slot_ne (Or.inl (own_w hw 57 rfl)) (Or.inl (own_w hw 315 rfl)) (by decide) (t := .int) (t' := (.object "java/util/TreeMap$KeySet")) (by decide) (by decide))))
  have f22 := (((F_modCount.ext E11).keep K13 (ninS ne15 nin0)).other W18 (Or.inr (slot_ne (Or.inl (own_w hw 59 rfl)) (Or.inl (own_w hw 315 rfl)) (by decide) (t := .int) (t' := (.object "java/util/TreeMap$KeySet")) (by decide) (by decide))))
  have f23 := (((F_root.ext E11).keep K13 (ninS ne15 nin0)).other W18 (Or.inr (slot_ne (Or.inl (own_w hw 352 rfl)) (Or.inl (own_w hw 315 rfl)) (by decide) (t := (.object "java/util/TreeMap$Entry")) (t' := (.object "java/util/TreeMap$KeySet")) (by decide) (by decide))))
  exact OwnN.Go.ret (v := (some (.ref b11))) (fun s' T L_ fs X hr => own_retR X hx hret rfl rfl (hb hby q54_26) hr) (fun h => by rw [hret] at h; cases h) (by decide) (by decide) ⟨_, rfl, f19, f20, f21, f22, f23⟩
theorem rmGF (l : Launch) (Z : State) (a0 : Array Value) (hw : own_T a0 Z) (wds : List Jvm.Cond) (a1 : Addr) (h0 : Heap) (n0 : Nat) (O0 : Old Z n0 h0)  (F1 : Fld Z h0 a1 "java/util/TreeMap" "root" "Ljava/util/TreeMap$Entry;" .null) :
    OwnN.Ct l Z Y42 jdk_2729_method_72_code 2 (some (.object "java/util/TreeMap$Entry")) wds (⟨0, 0, 0, 0⟩ : Room) #[(.ref a1)] n0 h0 [] (fun v h => v = some .null ∧ h = h0) := by
  refine OwnN.Ct.of (plainFor_of_name pn_java_util_TreeMap) O0 all0 ?_
  intro p e s m below meth c hx hby hml hret hnm
  refine OwnN.Go.cast (ef_R_2 m a1) ?_
  refine OwnN.Go.sp (g' := (mkF m 1 #[.val (.ref a1), .unset] [(.ref a1)])) (fun T A t r => XS.aloadN A hx rfl (hb hby q55_0) rfl rfl r) ?_
  refine OwnN.Go.v (g' := (mkF m 4 #[.val (.ref a1), .unset] [.null])) (fun s' T L_ X eT hZ hown => getF X hx hZ hown (host := "") (Or.inl (own_w hw 351 rfl)) Via.refl eT F1 (g := (mkF m 1 #[.val (.ref a1), .unset] [(.ref a1)])) rfl rfl (hb hby q55_1)) ?_
  refine OwnN.Go.sp (g' := (mkF m 25 #[.val (.ref a1), .val .null] [.null])) (fun T A t r => XS.astoreN A hx rfl (hb hby q55_4) rfl rfl (l' := #[.val (.ref a1), .val .null]) rfl (XS.aloadN A hx rfl (hb hby q55_5) rfl rfl (XS.ifnullYes A hx rfl (pc0 := 6) (pc' := 24) rfl (hb hby q55_6) rfl (by decide) (by decide) (XS.aloadN A hx rfl (hb hby q55_24) rfl rfl r)))) ?_
  exact OwnN.Go.ret (v := (some .null)) (fun s' T L_ fs X hr => own_retR X hx hret rfl rfl (hb hby q55_25) hr) (fun h => by rw [hret] at h; cases h) (by decide) (by decide) ⟨rfl, rfl⟩
theorem rmPEI (l : Launch) (Z : State) (a0 : Array Value) (hw : own_T a0 Z) (wds : List Jvm.Cond) (a1 : Addr) (a2 : Addr) (h0 : Heap) (n0 : Nat) (O0 : Old Z n0 h0) (g_a1 : n0 ≤ a1) (E1 : Exa Z h0 a1 "java/util/TreeMap$KeyIterator") (F_this0 : Fld Z h0 a1 "java/util/TreeMap$PrivateEntryIterator" "this$0" "Ljava/util/TreeMap;" .null) (F_expectedModCount : Fld Z h0 a1 "java/util/TreeMap$PrivateEntryIterator" "expectedModCount" "I" (.int 0)) (F_lastReturned : Fld Z h0 a1 "java/util/TreeMap$PrivateEntryIterator" "lastReturned" "Ljava/util/TreeMap$Entry;" .null) (F_next : Fld Z h0 a1 "java/util/TreeMap$PrivateEntryIterator" "next" "Ljava/util/TreeMap$Entry;" .null) (FM : Fld Z h0 a2 "java/util/TreeMap" "modCount" "I" (.int 0)) (E2 : Exa Z h0 a2 "java/util/TreeMap") :
    OwnN.Ct l Z Y41 jdk_2750_method_1_code 3 none wds (⟨1, 0, 0, 12⟩ : Room) #[(.ref a1), (.ref a2), .null] n0 h0 [a1] (fun v h => v = none ∧ Fld Z h a1 "java/util/TreeMap$PrivateEntryIterator" "next" "Ljava/util/TreeMap$Entry;" .null) := by
  refine OwnN.Ct.of (plainFor_of_name pn_java_util_TreeMap_PrivateEntryIterator) O0 (allS g_a1 all0) ?_
  intro p e s m below meth c hx hby hml hret hnm
  refine OwnN.Go.cast (ef_RRN_3 m a1 a2) ?_
  refine OwnN.Go.sp (g' := (mkF m 2 #[.val (.ref a1), .val (.ref a2), .val .null] [(.ref a2), (.ref a1)])) (fun T A t r => XS.aloadN A hx rfl (hb hby q56_0) rfl rfl (XS.aloadN A hx rfl (hb hby q56_1) rfl rfl r)) ?_
  refine OwnN.Go.w (g' := (mkF m 5 #[.val (.ref a1), .val (.ref a2), .val .null] [])) (fun s' T L_ X eT hZ hown => putF X hx hZ hown (host := "") (Or.inl (own_w hw 363 rfl)) Via.refl eT F_this0 E1 (Or.inr ⟨(own_w hw 364 rfl), rfl, hnm⟩) (own_w hw 344 rfl) (ty := (.object "java/util/TreeMap")) (by decide) rfl rfl (g := (mkF m 2 #[.val (.ref a1), .val (.ref a2), .val .null] [(.ref a2), (.ref a1)])) rfl rfl (hb hby q56_2)) (Or.inl (List.mem_of_getElem? (i := 0) rfl)) ?_
  intro h12 W12
  have F12 := F_this0.same W12
  refine OwnN.Go.sp (g' := (mkF m 6 #[.val (.ref a1), .val (.ref a2), .val .null] [(.ref a1)])) (fun T A t r => XS.aloadN A hx rfl (hb hby q56_5) rfl rfl r) ?_
  refine OwnN.Go.v (g' := (mkF m 9 #[.val (.ref a1), .val (.ref a2), .val .null] [])) (fun s' T L_ X eT hZ hown => initO X hx hZ hown (own_w hw 365 rfl) (own_w hw 20 rfl) (own_w hw 21 rfl) eT (g := (mkF m 6 #[.val (.ref a1), .val (.ref a2), .val .null] [(.ref a1)])) rfl hml.symm rfl (hb hby q56_6) (by decide) (W := 0) (catOf (Nat.le_of_ble_eq_true rfl)) (by decide)) ?_
  refine OwnN.Go.sp (g' := (mkF m 11 #[.val (.ref a1), .val (.ref a2), .val .null] [(.ref a2), (.ref a1)])) (fun T A t r => XS.aloadN A hx rfl (hb hby q56_9) rfl rfl (XS.aloadN A hx rfl (hb hby q56_10) rfl rfl r)) ?_
  have ne13 : a2 ≠ a1 := ne_exa E2 E1 (by decide)
  have f14 := (FM.other W12 (Or.inl ne13))
  refine OwnN.Go.v (g' := (mkF m 14 #[.val (.ref a1), .val (.ref a2), .val .null] [(.int 0), (.ref a1)])) (fun s' T L_ X eT hZ hown => OwnC.getRef X hx hZ hown (own_w hw 366 rfl) eT f14 (g := (mkF m 11 #[.val (.ref a1), .val (.ref a2), .val .null] [(.ref a2), (.ref a1)])) rfl rfl (hb hby q56_11)) ?_
  have f15 := (E1.wr W12)
  have f16 := (F_expectedModCount.other W12 (Or.inr (slot_ne (Or.inl (own_w hw 368 rfl)) (Or.inr (own_w hw 364 rfl)) (by decide) (t := .int) (t' := (.object "java/util/TreeMap")) (by decide) (by decide))))
  refine OwnN.Go.w (g' := (mkF m 17 #[.val (.ref a1), .val (.ref a2), .val .null] [])) (fun s' T L_ X eT hZ hown => putF X hx hZ hown (host := "") (Or.inl (own_w hw 367 rfl)) Via.refl eT f16 f15 (Or.inl (own_w hw 368 rfl)) (own_w hw 344 rfl) (ty := .int) (by decide) rfl rfl (g := (mkF m 14 #[.val (.ref a1), .val (.ref a2), .val .null] [(.int 0), (.ref a1)])) rfl rfl (hb hby q56_14)) (Or.inl (List.mem_of_getElem? (i := 0) rfl)) ?_
  intro h18 W18
  have F18 := f16.same W18
  refine OwnN.Go.sp (g' := (mkF m 19 #[.val (.ref a1), .val (.ref a2), .val .null] [.null, (.ref a1)])) (fun T A t r => XS.aloadN A hx rfl (hb hby q56_17) rfl rfl (XS.aconstNull A hx rfl (hb hby q56_18) r)) ?_
  have f19 := (f15.wr W18)
  have f20 := ((F_lastReturned.other W12 (Or.inr (slot_ne (Or.inl (own_w hw 370 rfl)) (Or.inr (own_w hw 364 rfl)) (by decide) (t := (.object "java/util/TreeMap$Entry")) (t' := (.object "java/util/TreeMap")) (by decide) (by decide)))).other W18 (Or.inr (slot_ne (Or.inl (own_w hw 370 rfl)) (Or.inl (own_w hw 368 rfl)) (by decide) (t := (.object "java/util/TreeMap$Entry")) (t' := .int) (by decide) (by decide))))
  refine OwnN.Go.w (g' := (mkF m 22 #[.val (.ref a1), .val (.ref a2), .val .null] [])) (fun s' T L_ X eT hZ hown => putF X hx hZ hown (host := "") (Or.inl (own_w hw 369 rfl)) Via.refl eT f20 f19 (Or.inl (own_w hw 370 rfl)) (own_w hw 344 rfl) (ty := (.object "java/util/TreeMap$Entry")) (by decide) rfl rfl (g := (mkF m 19 #[.val (.ref a1), .val (.ref a2), .val .null] [.null, (.ref a1)])) rfl rfl (hb hby q56_19)) (Or.inl (List.mem_of_getElem? (i := 0) rfl)) ?_
  intro h22 W22
  have F22 := f20.same W22
  refine OwnN.Go.sp (g' := (mkF m 24 #[.val (.ref a1), .val (.ref a2), .val .null] [.null, (.ref a1)])) (fun T A t r => XS.aloadN A hx rfl (hb hby q56_22) rfl rfl (XS.aloadN A hx rfl (hb hby q56_23) rfl rfl r)) ?_
  have f23 := (f19.wr W22)
  have f24 := (((F_next.other W12 (Or.inr (slot_ne (Or.inl (own_w hw 372 rfl)) (Or.inr (own_w hw 364 rfl)) (by decide) (t := (.object "java/util/TreeMap$Entry")) (t' := (.object "java/util/TreeMap")) (by decide) (by decide)))).other W18 (Or.inr (slot_ne (Or.inl (own_w hw 372 rfl)) (Or.inl (own_w hw 368 rfl)) (by decide) (t := (.object "java/util/TreeMap$Entry")) (t' := .int) (by decide) (by decide)))).other W22 (Or.inr (slot_ne (Or.inl (own_w hw 372 rfl)) (Or.inl (own_w hw 370 rfl)) (by decide) (t := (.object "java/util/TreeMap$Entry")) (t' := (.object "java/util/TreeMap$Entry")) (by decide) (by decide))))
  refine OwnN.Go.w (g' := (mkF m 27 #[.val (.ref a1), .val (.ref a2), .val .null] [])) (fun s' T L_ X eT hZ hown => putF X hx hZ hown (host := "") (Or.inl (own_w hw 371 rfl)) Via.refl eT f24 f23 (Or.inl (own_w hw 372 rfl)) (own_w hw 344 rfl) (ty := (.object "java/util/TreeMap$Entry")) (by decide) rfl rfl (g := (mkF m 24 #[.val (.ref a1), .val (.ref a2), .val .null] [.null, (.ref a1)])) rfl rfl (hb hby q56_24)) (Or.inl (List.mem_of_getElem? (i := 0) rfl)) ?_
  intro h26 W26
  have F26 := f24.same W26
  exact OwnN.Go.ret (v := none) (fun s' T L_ fs X hr => X.returnOut hx hret (hb hby q56_27) hr) (fun _ => rfl) (by decide) (by decide) ⟨rfl, F26⟩
theorem rmKII (l : Launch) (Z : State) (a0 : Array Value) (hw : own_T a0 Z) (wds : List Jvm.Cond) (a1 : Addr) (a2 : Addr) (h0 : Heap) (n0 : Nat) (O0 : Old Z n0 h0) (g_a1 : n0 ≤ a1) (E1 : Exa Z h0 a1 "java/util/TreeMap$KeyIterator") (F_this0 : Fld Z h0 a1 "java/util/TreeMap$PrivateEntryIterator" "this$0" "Ljava/util/TreeMap;" .null) (F_expectedModCount : Fld Z h0 a1 "java/util/TreeMap$PrivateEntryIterator" "expectedModCount" "I" (.int 0)) (F_lastReturned : Fld Z h0 a1 "java/util/TreeMap$PrivateEntryIterator" "lastReturned" "Ljava/util/TreeMap$Entry;" .null) (F_next : Fld Z h0 a1 "java/util/TreeMap$PrivateEntryIterator" "next" "Ljava/util/TreeMap$Entry;" .null) (FM : Fld Z h0 a2 "java/util/TreeMap" "modCount" "I" (.int 0)) (E2 : Exa Z h0 a2 "java/util/TreeMap") :
    OwnN.Ct l Z Y43 jdk_2740_method_1_code 3 none wds (⟨2, 0, 0, 26⟩ : Room) #[(.ref a1), (.ref a2), .null] n0 h0 [a1] (fun v h => v = none ∧ Fld Z h a1 "java/util/TreeMap$PrivateEntryIterator" "next" "Ljava/util/TreeMap$Entry;" .null) := by
  refine OwnN.Ct.of (plainFor_of_name pn_java_util_TreeMap_KeyIterator) O0 (allS g_a1 all0) ?_
  intro p e s m below meth c hx hby hml hret hnm
  refine OwnN.Go.cast (ef_RRN_3 m a1 a2) ?_
  refine OwnN.Go.sp (g' := (mkF m 3 #[.val (.ref a1), .val (.ref a2), .val .null] [.null, (.ref a2), (.ref a1)])) (fun T A t r => XS.aloadN A hx rfl (hb hby q57_0) rfl rfl (XS.aloadN A hx rfl (hb hby q57_1) rfl rfl (XS.aloadN A hx rfl (hb hby q57_2) rfl rfl r))) ?_
  refine OwnN.Go.old fun O11 => ?_
  refine OwnN.Go.callC (a := a1) (ws' := [a1]) (W := 0) (y := Y41) (argsL := [(.ref a2), .null]) (rest := []) (pc' := 6) (k' := 0) (n' := 0) (hb hby q57_3) rfl (own_w hw 357 rfl) (own_w hw 358 rfl) (own_w hw 362 rfl) (by decide) (fun s' hZ => OwnN.Ct.bk (rmPEI l Z a0 hw [] a1 a2 h0 n0 O11 g_a1 E1 F_this0 F_expectedModCount F_lastReturned F_next FM E2) hZ (own_w hw 362 rfl) (own_w hw 361 rfl) (by decide) (by decide)) hml.symm (lenOf pd_28 rfl) rfl (Nat.le_of_ble_eq_true rfl) rfl rfl rfl (by decide) (by decide) (allS (Or.inl (List.mem_of_getElem? (i := 0) rfl)) all0) ?_
  rintro v12 h12 K12 ⟨rfl, Fn12⟩
  exact OwnN.Go.ret (v := none) (fun s' T L_ fs X hr => X.returnOut hx hret (hb hby q57_6) hr) (fun _ => rfl) (by decide) (by decide) ⟨rfl, Fn12⟩
theorem rmKIT (l : Launch) (Z : State) (a0 : Array Value) (hw : own_T a0 Z) (wds : List Jvm.Cond) (a1 : Addr) (h0 : Heap) (n0 : Nat) (O0 : Old Z n0 h0)  (E1 : Exa Z h0 a1 "java/util/TreeMap") (F1 : Fld Z h0 a1 "java/util/TreeMap" "root" "Ljava/util/TreeMap$Entry;" .null) (F2 : Fld Z h0 a1 "java/util/TreeMap" "modCount" "I" (.int 0)) :
    OwnN.Ct l Z Y44 jdk_2729_method_65_code 1 (some (.object "java/util/Iterator")) wds (⟨3, 1, 4, 41⟩ : Room) #[(.ref a1)] n0 h0 [] (fun v h => ∃ ki : Addr, v = some (.ref ki) ∧ Exa Z h ki "java/util/TreeMap$KeyIterator" ∧ Fld Z h ki "java/util/TreeMap$PrivateEntryIterator" "next" "Ljava/util/TreeMap$Entry;" .null) := by
  refine OwnN.Ct.of (plainFor_of_name pn_java_util_TreeMap) O0 all0 ?_
  intro p e s m below meth c hx hby hml hret hnm
  refine OwnN.Go.cast (ef_R_1 m a1) ?_
  refine OwnN.Go.newO (k' := 1) (n' := 4) (pc' := 3) (hb hby q58_0) (own_w hw 343 rfl) (own_w hw 344 rfl) (own_w hw 345 rfl) rfl rfl rfl (by decide) (by decide) ?_
  intro b11 h11 g11 sz11 E11 A11 D11
  have F11_this_0 : Fld Z h11 b11 "java/util/TreeMap$PrivateEntryIterator" "this$0" "Ljava/util/TreeMap;" .null := D11 (Or.inr (own_w hw 364 rfl)) (ty := (.object "java/util/TreeMap")) (by decide)
  have F11_expectedModCount : Fld Z h11 b11 "java/util/TreeMap$PrivateEntryIterator" "expectedModCount" "I" (.int 0) := D11 (Or.inl (own_w hw 368 rfl)) (ty := .int) (by decide)
  have F11_lastReturned : Fld Z h11 b11 "java/util/TreeMap$PrivateEntryIterator" "lastReturned" "Ljava/util/TreeMap$Entry;" .null := D11 (Or.inl (own_w hw 370 rfl)) (ty := (.object "java/util/TreeMap$Entry")) (by decide)
  have F11_next : Fld Z h11 b11 "java/util/TreeMap$PrivateEntryIterator" "next" "Ljava/util/TreeMap$Entry;" .null := D11 (Or.inl (own_w hw 372 rfl)) (ty := (.object "java/util/TreeMap$Entry")) (by decide)
  refine OwnN.Go.sp (g' := (mkF m 6 #[.val (.ref a1)] [(.ref a1), (.ref a1), (.ref b11), (.ref b11)])) (fun T A t r => XS.dup A hx rfl (hb hby q58_3) rfl rfl (XS.aloadN A hx rfl (hb hby q58_4) rfl rfl (XS.aloadN A hx rfl (hb hby q58_5) rfl rfl r))) ?_
  refine OwnN.Go.old fun O12 => ?_
  have f13 := (F1.ext E11)
  have f15 := (E1.ext E11)
  refine OwnN.Go.callVP (a := a1) (z := Y42) (W := 3) (y := Y42) (argsL := []) (rest := [(.ref a1), (.ref b11), (.ref b11)]) (pc' := 9) (hb hby q58_6) (own_w hw 346 rfl) (own_w hw 347 rfl) (fun s' hZ => notFace_of_selects (args := #[]) (mvT hZ (own_w hw 349 rfl))) (own_w hw 349 rfl) (own_w hw 348 rfl) (by decide) (fun s' hZ => OwnN.Ct.bk (rmGF l Z a0 hw [] a1 h11 n0 O12 f13) hZ (own_w hw 350 rfl) (own_w hw 44 rfl) (by decide) (by decide)) f15 hml.symm (lenOf pd_29 rfl) rfl (Nat.le_of_ble_eq_true rfl) rfl (by decide) (by decide) ?_
  rintro v14 rfl
  have f16 := (F2.ext E11)
  refine OwnN.Go.callC (a := b11) (ws' := [b11]) (W := 1) (y := Y43) (argsL := [(.ref a1), .null]) (rest := [(.ref b11)]) (pc' := 12) (k' := 1) (n' := 4) (hb hby q58_9) rfl (own_w hw 353 rfl) (own_w hw 354 rfl) (own_w hw 356 rfl) (by decide) (fun s' hZ => OwnN.Ct.bk (rmKII l Z a0 hw [] b11 a1 h11 n0 O12 (Nat.le_trans (Old.le O0) sz11) A11 F11_this_0 F11_expectedModCount F11_lastReturned F11_next f16 f15) hZ (own_w hw 356 rfl) (own_w hw 345 rfl) (by decide) (by decide)) hml.symm (lenOf pd_28 rfl) rfl (Nat.le_of_ble_eq_true rfl) rfl rfl rfl (by decide) (by decide) (allS (Or.inr sz11) all0) ?_
  rintro v17 h17 K17 ⟨rfl, Fn17⟩
  have f18 := (A11.keep K17)
  exact OwnN.Go.ret (v := (some (.ref b11))) (fun s' T L_ fs X hr => own_retR X hx hret rfl rfl (hb hby q58_12) hr) (fun h => by rw [hret] at h; cases h) (by decide) (by decide) ⟨_, rfl, f18, Fn17⟩
theorem rmKST (l : Launch) (Z : State) (a0 : Array Value) (hw : own_T a0 Z) (wds : List Jvm.Cond) (a2 : Addr) (a1 : Addr) (h0 : Heap) (n0 : Nat) (O0 : Old Z n0 h0)  (EK : Exa Z h0 a2 "java/util/TreeMap$KeySet") (FK : Fld Z h0 a2 "java/util/TreeMap$KeySet" "m" "Ljava/util/NavigableMap;" (.ref a1)) (E1 : Exa Z h0 a1 "java/util/TreeMap") (F1 : Fld Z h0 a1 "java/util/TreeMap" "root" "Ljava/util/TreeMap$Entry;" .null) (F2 : Fld Z h0 a1 "java/util/TreeMap" "modCount" "I" (.int 0)) :
    OwnN.Ct l Z Y48 jdk_2741_method_2_code 1 (some (.object "java/util/Iterator")) wds (⟨4, 1, 4, 53⟩ : Room) #[(.ref a2)] n0 h0 [] (fun v h => ∃ ki : Addr, v = some (.ref ki) ∧ Exa Z h ki "java/util/TreeMap$KeyIterator" ∧ Fld Z h ki "java/util/TreeMap$PrivateEntryIterator" "next" "Ljava/util/TreeMap$Entry;" .null) := by
  refine OwnN.Ct.of (plainFor_of_name pn_java_util_TreeMap_KeySet) O0 all0 ?_
  intro p e s m below meth c hx hby hml hret hnm
  refine OwnN.Go.cast (ef_R_1 m a2) ?_
  refine OwnN.Go.sp (g' := (mkF m 1 #[.val (.ref a2)] [(.ref a2)])) (fun T A t r => XS.aloadN A hx rfl (hb hby q59_0) rfl rfl r) ?_
  refine OwnN.Go.v (g' := (mkF m 4 #[.val (.ref a2)] [(.ref a1)])) (fun s' T L_ X eT hZ hown => getF X hx hZ hown (host := "") (Or.inl (own_w hw 326 rfl)) Via.refl eT FK (g := (mkF m 1 #[.val (.ref a2)] [(.ref a2)])) rfl rfl (hb hby q59_1)) ?_
  refine OwnN.Go.v (g' := (mkF m 7 #[.val (.ref a2)] [(.int 1)])) (fun s' T L_ X eT hZ hown => instY X hx hZ hown (own_w hw 337 rfl) eT (Ins.self E1) (g := (mkF m 4 #[.val (.ref a2)] [(.ref a1)])) rfl rfl (hb hby q59_4)) ?_
  refine OwnN.Go.sp (g' := (mkF m 11 #[.val (.ref a2)] [(.ref a2)])) (fun T A t r => XS.ifNo A hx rfl (hb hby q59_7) rfl ((if0 _ _).trans (feq (by decide : ¬ ((1 : Int32) = (0 : Int32)))).1) (XS.aloadN A hx rfl (hb hby q59_10) rfl rfl r)) ?_
  refine OwnN.Go.v (g' := (mkF m 14 #[.val (.ref a2)] [(.ref a1)])) (fun s' T L_ X eT hZ hown => getF X hx hZ hown (host := "") (Or.inl (own_w hw 326 rfl)) Via.refl eT FK (g := (mkF m 11 #[.val (.ref a2)] [(.ref a2)])) rfl rfl (hb hby q59_11)) ?_
  refine OwnN.Go.v (g' := (mkF m 17 #[.val (.ref a2)] [(.ref a1)])) (fun s' T L_ X eT hZ hown => castY X hx hZ hown (own_w hw 337 rfl) eT (Ins.self E1) (g := (mkF m 14 #[.val (.ref a2)] [(.ref a1)])) rfl rfl (hb hby q59_14)) ?_
  refine OwnN.Go.old fun O11 => ?_
  refine OwnN.Go.callV (a := a1) (z := Y44) (ws' := []) (W := 0) (y := Y44) (argsL := []) (rest := []) (pc' := 20) (k' := 1) (n' := 4) (hb hby q59_17) (own_w hw 338 rfl) (own_w hw 339 rfl) (fun s' hZ => notFace_of_selects (args := #[]) (mvT hZ (own_w hw 341 rfl))) (own_w hw 341 rfl) (own_w hw 340 rfl) (by decide) (fun s' hZ => OwnN.Ct.bk (rmKIT l Z a0 hw [] a1 h0 n0 O11 E1 F1 F2) hZ (own_w hw 342 rfl) (own_w hw 44 rfl) (by decide) (by decide)) E1 hml.symm (lenOf pd_30 rfl) rfl (Nat.le_of_ble_eq_true rfl) rfl rfl rfl (by decide) (by decide) all0 ?_
  rintro v12 h12 K12 ⟨ki12, rfl, E12, F12⟩
  exact OwnN.Go.ret (v := (some (.ref ki12))) (fun s' T L_ fs X hr => own_retR X hx hret rfl rfl (hb hby q59_20) hr) (fun h => by rw [hret] at h; cases h) (by decide) (by decide) ⟨_, rfl, E12, F12⟩
theorem rmTIT (l : Launch) (Z : State) (a0 : Array Value) (hw : own_T a0 Z) (wds : List Jvm.Cond) (a2 : Addr) (a1 : Addr) (h0 : Heap) (n0 : Nat) (O0 : Old Z n0 h0) (g_a1 : n0 ≤ a1) (ES : Exa Z h0 a2 "java/util/TreeSet") (FS : Fld Z h0 a2 "java/util/TreeSet" "m" "Ljava/util/NavigableMap;" (.ref a1)) (E1 : Exa Z h0 a1 "java/util/TreeMap") (F_size : Fld Z h0 a1 "java/util/TreeMap" "size" "I" (.int 0)) (F_modCount : Fld Z h0 a1 "java/util/TreeMap" "modCount" "I" (.int 0)) (F_root : Fld Z h0 a1 "java/util/TreeMap" "root" "Ljava/util/TreeMap$Entry;" .null) (F_navigableKeySet : Fld Z h0 a1 "java/util/TreeMap" "navigableKeySet" "Ljava/util/TreeMap$KeySet;" .null) :
    OwnN.Ct l Z Y53 jdk_2756_method_6_code 1 (some (.object "java/util/Iterator")) wds (⟨5, 2, 5, 65⟩ : Room) #[(.ref a2)] n0 h0 [a1] (fun v h => ∃ ki : Addr, v = some (.ref ki) ∧ Exa Z h ki "java/util/TreeMap$KeyIterator" ∧ Fld Z h ki "java/util/TreeMap$PrivateEntryIterator" "next" "Ljava/util/TreeMap$Entry;" .null ∧ Fld Z h a1 "java/util/TreeMap" "size" "I" (.int 0)) := by
  refine OwnN.Ct.of (plainFor_of_name pn_java_util_TreeSet) O0 (allS g_a1 all0) ?_
  intro p e s m below meth c hx hby hml hret hnm
  refine OwnN.Go.cast (ef_R_1 m a2) ?_
  refine OwnN.Go.sp (g' := (mkF m 1 #[.val (.ref a2)] [(.ref a2)])) (fun T A t r => XS.aloadN A hx rfl (hb hby q60_0) rfl rfl r) ?_
  refine OwnN.Go.v (g' := (mkF m 4 #[.val (.ref a2)] [(.ref a1)])) (fun s' T L_ X eT hZ hown => getF X hx hZ hown (host := "") (Or.inl (own_w hw 79 rfl)) Via.refl eT FS (g := (mkF m 1 #[.val (.ref a2)] [(.ref a2)])) rfl rfl (hb hby q60_1)) ?_
  refine OwnN.Go.old fun O11 => ?_
  refine OwnC.goN (k' := 1) (n' := 1) (OwnC.callerI (xi := Y45) (y := Y46) (a := a1) (W := 0) (argsL := []) (rest := []) (pc' := 9) (rc := 1) (rs := 1) (ws' := [a1]) hx (hb hby q60_4) (own_w hw 305 rfl) (own_w hw 306 rfl) (own_w hw 307 rfl) (own_w hw 308 rfl) (own_w hw 309 rfl) (own_w hw 310 rfl) (own_w hw 311 rfl) (own_w hw 312 rfl) (by decide) (fun s' hZ => OwnN.Ct.bk (rmNK l Z a0 hw [] a1 h0 n0 O11 g_a1 E1 F_size F_modCount F_root F_navigableKeySet) hZ (own_w hw 313 rfl) (own_w hw 44 rfl) (by decide) (by decide)) E1 hml.symm (lenOf pd_31 rfl) rfl (Nat.le_of_ble_eq_true rfl) rfl (by decide) (by decide)) rfl rfl (allS (Or.inl (List.mem_of_getElem? (i := 0) rfl)) all0) ?_
  rintro v12 h12 K12 ⟨ks12, rfl, Ek12, Fk12, Fa12, Fb12, Fc12⟩
  refine OwnN.Go.old fun O13 => ?_
  have f14 := (E1.keep K12)
  refine OwnC.goN (k' := 2) (n' := 5) (OwnC.callerI (xi := Y47) (y := Y48) (a := ks12) (W := 0) (argsL := []) (rest := []) (pc' := 14) (rc := 1) (rs := 4) (ws' := []) hx (hb hby q60_9) (own_w hw 328 rfl) (own_w hw 329 rfl) (own_w hw 330 rfl) (own_w hw 331 rfl) (own_w hw 332 rfl) (own_w hw 333 rfl) (own_w hw 334 rfl) (own_w hw 335 rfl) (by decide) (fun s' hZ => OwnN.Ct.bk (rmKST l Z a0 hw [] ks12 a1 h12 n0 O13 Ek12 Fk12 f14 Fc12 Fb12) hZ (own_w hw 336 rfl) (own_w hw 318 rfl) (by decide) (by decide)) Ek12 hml.symm (lenOf pd_30 rfl) rfl (Nat.le_of_ble_eq_true rfl) rfl (by decide) (by decide)) rfl rfl all0 ?_
  rintro v15 h15 K15 ⟨ki15, rfl, E15, F15⟩
  have f16 := (Fa12.keep K15 nin0)
  exact OwnN.Go.ret (v := (some (.ref ki15))) (fun s' T L_ fs X hr => own_retR X hx hret rfl rfl (hb hby q60_14) hr) (fun h => by rw [hret] at h; cases h) (by decide) (by decide) ⟨_, rfl, E15, F15, f16⟩
theorem rmPHN (l : Launch) (Z : State) (a0 : Array Value) (hw : own_T a0 Z) (wds : List Jvm.Cond) (a1 : Addr) (h0 : Heap) (n0 : Nat) (O0 : Old Z n0 h0)  (F1 : Fld Z h0 a1 "java/util/TreeMap$PrivateEntryIterator" "next" "Ljava/util/TreeMap$Entry;" .null) :
    OwnN.Ct l Z Y55 jdk_2750_method_2_code 1 (some .boolean) wds (⟨0, 0, 0, 0⟩ : Room) #[(.ref a1)] n0 h0 [] (fun v h => v = some (.int 0) ∧ h = h0) := by
  refine OwnN.Ct.of (plainFor_of_name pn_java_util_TreeMap_PrivateEntryIterator) O0 all0 ?_
  intro p e s m below meth c hx hby hml hret hnm
  refine OwnN.Go.cast (ef_R_1 m a1) ?_
  refine OwnN.Go.sp (g' := (mkF m 1 #[.val (.ref a1)] [(.ref a1)])) (fun T A t r => XS.aloadN A hx rfl (hb hby q61_0) rfl rfl r) ?_
  refine OwnN.Go.v (g' := (mkF m 4 #[.val (.ref a1)] [.null])) (fun s' T L_ X eT hZ hown => getF X hx hZ hown (host := "") (Or.inl (own_w hw 371 rfl)) Via.refl eT F1 (g := (mkF m 1 #[.val (.ref a1)] [(.ref a1)])) rfl rfl (hb hby q61_1)) ?_
  refine OwnN.Go.sp (g' := (mkF m 12 #[.val (.ref a1)] [(.int 0)])) (fun T A t r => XS.ifnullYes A hx rfl (pc0 := 4) (pc' := 11) rfl (hb hby q61_4) rfl (by decide) (by decide) (XS.iconst A hx rfl (hb hby q61_11) r)) ?_
  exact OwnN.Go.ret (v := (some (.int (nar .boolean (0 : Int32))))) (fun s' T L_ fs X hr => retN X hx (t := .boolean) hret (by simp) (hb hby q61_12) hr) (fun h => by rw [hret] at h; cases h) (by decide) (by decide) ⟨rfl, rfl⟩
theorem rmTSZ (l : Launch) (Z : State) (a0 : Array Value) (hw : own_T a0 Z) (wds : List Jvm.Cond) (a1 : Addr) (h0 : Heap) (n0 : Nat) (O0 : Old Z n0 h0)  (F1 : Fld Z h0 a1 "java/util/TreeMap" "size" "I" (.int 0)) :
    OwnN.Ct l Z Y50 jdk_2729_method_5_code 1 (some .int) wds (⟨0, 0, 0, 0⟩ : Room) #[(.ref a1)] n0 h0 [] (fun v h => v = some (.int 0) ∧ h = h0) := by
  refine OwnN.Ct.of (plainFor_of_name pn_java_util_TreeMap) O0 all0 ?_
  intro p e s m below meth c hx hby hml hret hnm
  refine OwnN.Go.cast (ef_R_1 m a1) ?_
  refine OwnN.Go.sp (g' := (mkF m 1 #[.val (.ref a1)] [(.ref a1)])) (fun T A t r => XS.aloadN A hx rfl (hb hby q62_0) rfl rfl r) ?_
  refine OwnN.Go.v (g' := (mkF m 4 #[.val (.ref a1)] [(.int 0)])) (fun s' T L_ X eT hZ hown => getF X hx hZ hown (host := "") (Or.inl (own_w hw 56 rfl)) Via.refl eT F1 (g := (mkF m 1 #[.val (.ref a1)] [(.ref a1)])) rfl rfl (hb hby q62_1)) ?_
  exact OwnN.Go.ret (v := (some (.int 0))) (fun s' T L_ fs X hr => retI X hx hret (hb hby q62_4) hr) (fun h => by rw [hret] at h; cases h) (by decide) (by decide) ⟨rfl, rfl⟩
theorem rmAME (l : Launch) (Z : State) (a0 : Array Value) (hw : own_T a0 Z) (wds : List Jvm.Cond) (a1 : Addr) (h0 : Heap) (n0 : Nat) (O0 : Old Z n0 h0)  (E1 : Exa Z h0 a1 "java/util/TreeMap") (F1 : Fld Z h0 a1 "java/util/TreeMap" "size" "I" (.int 0)) :
    OwnN.Ct l Z Y52 jdk_71_method_3_code 1 (some .boolean) wds (⟨1, 0, 0, 12⟩ : Room) #[(.ref a1)] n0 h0 [] (fun v h => v = some (.int 1) ∧ h = h0) := by
  refine OwnN.Ct.of (plainFor_of_name pn_java_util_AbstractMap) O0 all0 ?_
  intro p e s m below meth c hx hby hml hret hnm
  refine OwnN.Go.cast (ef_R_1 m a1) ?_
  refine OwnN.Go.sp (g' := (mkF m 1 #[.val (.ref a1)] [(.ref a1)])) (fun T A t r => XS.aloadN A hx rfl (hb hby q63_0) rfl rfl r) ?_
  refine OwnN.Go.old fun O11 => ?_
  refine OwnC.goNP (k' := 0) (n' := 0) (OwnC.callerV (y := Y49) (z := Y50) (a := a1) (W := 0) (argsL := []) (rest := []) (pc' := 4) (rc := 0) (rs := 0) (ws' := []) hx (hb hby q63_1) (own_w hw 395 rfl) (own_w hw 396 rfl) (fun s' hZ => OwnC.own_nf (a1 := #[]) (mvT hZ (own_w hw 390 rfl)) rfl) (own_w hw 398 rfl) (own_w hw 399 rfl) (by decide) (fun s' hZ => OwnN.Ct.bk (rmTSZ l Z a0 hw [] a1 h0 n0 O11 F1) hZ (own_w hw 400 rfl) (own_w hw 44 rfl) (by decide) (by decide)) E1 hml.symm (lenOf pd_13 rfl) rfl (Nat.le_of_ble_eq_true rfl) rfl (by decide) (by decide)) rfl rfl ?_
  rintro v12 rfl
  refine OwnN.Go.sp (g' := (mkF m 12 #[.val (.ref a1)] [(.int 1)])) (fun T A t r => XS.ifNo A hx rfl (hb hby q63_4) rfl ((if0 _ _).trans (teq (by decide : ((0 : Int32) = (0 : Int32)))).2) (XS.iconst A hx rfl (hb hby q63_7) (XS.goto A hx rfl (pc0 := 8) (pc' := 12) rfl (hb hby q63_8) (by decide) (by decide) r))) ?_
  exact OwnN.Go.ret (v := (some (.int (nar .boolean (1 : Int32))))) (fun s' T L_ fs X hr => retN X hx (t := .boolean) hret (by simp) (hb hby q63_12) hr) (fun h => by rw [hret] at h; cases h) (by decide) (by decide) ⟨rfl, rfl⟩
theorem rmTSE (l : Launch) (Z : State) (a0 : Array Value) (hw : own_T a0 Z) (wds : List Jvm.Cond) (a2 : Addr) (a1 : Addr) (h0 : Heap) (n0 : Nat) (O0 : Old Z n0 h0)  (FS : Fld Z h0 a2 "java/util/TreeSet" "m" "Ljava/util/NavigableMap;" (.ref a1)) (E1 : Exa Z h0 a1 "java/util/TreeMap") (F1 : Fld Z h0 a1 "java/util/TreeMap" "size" "I" (.int 0)) :
    OwnN.Ct l Z Y56 jdk_2756_method_10_code 1 (some .boolean) wds (⟨2, 0, 0, 24⟩ : Room) #[(.ref a2)] n0 h0 [] (fun v h => v = some (.int 1) ∧ h = h0) := by
  refine OwnN.Ct.of (plainFor_of_name pn_java_util_TreeSet) O0 all0 ?_
  intro p e s m below meth c hx hby hml hret hnm
  refine OwnN.Go.cast (ef_R_1 m a2) ?_
  refine OwnN.Go.sp (g' := (mkF m 1 #[.val (.ref a2)] [(.ref a2)])) (fun T A t r => XS.aloadN A hx rfl (hb hby q64_0) rfl rfl r) ?_
  refine OwnN.Go.v (g' := (mkF m 4 #[.val (.ref a2)] [(.ref a1)])) (fun s' T L_ X eT hZ hown => getF X hx hZ hown (host := "") (Or.inl (own_w hw 79 rfl)) Via.refl eT FS (g := (mkF m 1 #[.val (.ref a2)] [(.ref a2)])) rfl rfl (hb hby q64_1)) ?_
  refine OwnN.Go.old fun O11 => ?_
  refine OwnC.goNP (k' := 0) (n' := 0) (OwnC.callerIU (J := "java/util/Map") (xi := Y51) (y := Y52) (a := a1) (W := 0) (argsL := []) (rest := []) (pc' := 9) (rc := 0) (rs := 0) (ws' := []) hx (hb hby q64_4) (own_w hw 387 rfl) (own_w hw 388 rfl) (own_w hw 389 rfl) (own_w hw 390 rfl) (own_w hw 391 rfl) (own_w hw 392 rfl) (own_w hw 393 rfl) (own_w hw 312 rfl) (by decide) (by decide) (by decide) (fun s' hZ => OwnN.Ct.bk (rmAME l Z a0 hw [] a1 h0 n0 O11 E1 F1) hZ (own_w hw 394 rfl) (own_w hw 53 rfl) (by decide) (by decide)) E1 hml.symm (lenOf pd_16 rfl) rfl (Nat.le_of_ble_eq_true rfl) rfl (by decide) (by decide)) rfl rfl ?_
  rintro v12 rfl
  exact OwnN.Go.ret (v := (some (.int (nar .boolean (1 : Int32))))) (fun s' T L_ fs X hr => retN X hx (t := .boolean) hret (by simp) (hb hby q64_9) hr) (fun h => by rw [hret] at h; cases h) (by decide) (by decide) ⟨rfl, rfl⟩
theorem rmAIM (l : Launch) (Z : State) (a0 : Array Value) (hw : own_T a0 Z) (wds : List Jvm.Cond) (a3 : Addr) (a2 : Addr) (a1 : Addr) (h0 : Heap) (n0 : Nat) (O0 : Old Z n0 h0) (g_a1 : n0 ≤ a1) (ES : Exa Z h0 a2 "java/util/TreeSet") (FS : Fld Z h0 a2 "java/util/TreeSet" "m" "Ljava/util/NavigableMap;" (.ref a1)) (E1 : Exa Z h0 a1 "java/util/TreeMap") (F_size : Fld Z h0 a1 "java/util/TreeMap" "size" "I" (.int 0)) (F_modCount : Fld Z h0 a1 "java/util/TreeMap" "modCount" "I" (.int 0)) (F_root : Fld Z h0 a1 "java/util/TreeMap" "root" "Ljava/util/TreeMap$Entry;" .null) (F_navigableKeySet : Fld Z h0 a1 "java/util/TreeMap" "navigableKeySet" "Ljava/util/TreeMap$KeySet;" .null) :
    OwnN.Ct l Z Y69 prog_4_method_14_code 4 none wds (⟨6, 2, 5, 77⟩ : Room) #[(.ref a3), (.ref a2)] n0 h0 [a1] (fun v h => v = none) := by
  refine OwnN.Ct.of (plainFor_of_name pn_com_example_typewire_typewire_codegen_JavaFile) O0 (allS g_a1 all0) ?_
  intro p e s m below meth c hx hby hml hret hnm
  refine OwnN.Go.cast (ef_RR_4 m a3 a2) ?_
  refine OwnN.Go.sp (g' := (mkF m 1 #[.val (.ref a3), .val (.ref a2), .unset, .unset] [(.ref a2)])) (fun T A t r => XS.aloadN A hx rfl (hb hby q65_0) rfl rfl r) ?_
  refine OwnN.Go.old fun O11 => ?_
  refine OwnN.Go.callV (a := a2) (z := Y53) (ws' := [a1]) (W := 0) (y := Y53) (argsL := []) (rest := []) (pc' := 4) (k' := 2) (n' := 5) (hb hby q65_1) (own_w hw 300 rfl) (own_w hw 301 rfl) (fun s' hZ => notFace_of_selects (args := #[]) (mvT hZ (own_w hw 303 rfl))) (own_w hw 303 rfl) (own_w hw 302 rfl) (by decide) (fun s' hZ => OwnN.Ct.bk (rmTIT l Z a0 hw [] a2 a1 h0 n0 O11 g_a1 ES FS E1 F_size F_modCount F_root F_navigableKeySet) hZ (own_w hw 304 rfl) (own_w hw 38 rfl) (by decide) (by decide)) ES hml.symm (lenOf pd_30 rfl) rfl (Nat.le_of_ble_eq_true rfl) rfl rfl rfl (by decide) (by decide) (allS (Or.inl (List.mem_of_getElem? (i := 0) rfl)) all0) ?_
  rintro v12 h12 K12 ⟨ki12, rfl, E12, F12, Fz12⟩
  refine OwnN.Go.sp (g' := (mkF m 6 #[.val (.ref a3), .val (.ref a2), .val (.ref ki12), .unset] [(.ref ki12)])) (fun T A t r => XS.astoreN A hx rfl (hb hby q65_4) rfl rfl (l' := #[.val (.ref a3), .val (.ref a2), .val (.ref ki12), .unset]) rfl (XS.aloadN A hx rfl (hb hby q65_5) rfl rfl r)) ?_
  refine OwnN.Go.old fun O13 => ?_
  refine OwnC.goNP (k' := 2) (n' := 5) (OwnC.callerI (xi := Y54) (y := Y55) (a := ki12) (W := 0) (argsL := []) (rest := []) (pc' := 11) (rc := 0) (rs := 0) (ws' := []) hx (hb hby q65_6) (own_w hw 373 rfl) (own_w hw 374 rfl) (own_w hw 375 rfl) (own_w hw 376 rfl) (own_w hw 377 rfl) (own_w hw 378 rfl) (own_w hw 379 rfl) (own_w hw 380 rfl) (by decide) (fun s' hZ => OwnN.Ct.bk (rmPHN l Z a0 hw [] ki12 h12 n0 O13 F12) hZ (own_w hw 381 rfl) (own_w hw 361 rfl) (by decide) (by decide)) E12 hml.symm (lenOf pd_16 rfl) rfl (Nat.le_of_ble_eq_true rfl) rfl (by decide) (by decide)) rfl rfl ?_
  rintro v14 rfl
  refine OwnN.Go.sp (g' := (mkF m 44 #[.val (.ref a3), .val (.ref a2), .val (.ref ki12), .unset] [(.ref a2)])) (fun T A t r => XS.ifYes A hx rfl (pc0 := 11) (pc' := 43) rfl (hb hby q65_11) rfl ((if0 _ _).trans (teq (by decide : ((0 : Int32) = (0 : Int32)))).1) (by decide) (by decide) (XS.aloadN A hx rfl (hb hby q65_43) rfl rfl r)) ?_
  have ne15 : a2 ≠ a1 := ne_exa ES E1 (by decide)
  have f16 := (FS.keep K12 (ninS ne15 nin0))
  have f17 := (E1.keep K12)
  have f19 := (ES.keep K12)
  refine OwnN.Go.callVP (a := a2) (z := Y56) (W := 0) (y := Y56) (argsL := []) (rest := []) (pc' := 47) (hb hby q65_44) (own_w hw 382 rfl) (own_w hw 383 rfl) (fun s' hZ => notFace_of_selects (args := #[]) (mvT hZ (own_w hw 385 rfl))) (own_w hw 385 rfl) (own_w hw 384 rfl) (by decide) (fun s' hZ => OwnN.Ct.bk (rmTSE l Z a0 hw [] a2 a1 h12 n0 O13 f16 f17 Fz12) hZ (own_w hw 386 rfl) (own_w hw 38 rfl) (by decide) (by decide)) f19 hml.symm (lenOf pd_16 rfl) rfl (Nat.le_of_ble_eq_true rfl) rfl (by decide) (by decide) ?_
  rintro v18 rfl
  refine OwnN.Go.sp (g' := (mkF m 57 #[.val (.ref a3), .val (.ref a2), .val (.ref ki12), .unset] [])) (fun T A t r => XS.ifYes A hx rfl (pc0 := 47) (pc' := 57) rfl (hb hby q65_47) rfl ((if0 _ _).trans (feq (by decide : ¬ ((1 : Int32) = (0 : Int32)))).2) (by decide) (by decide) r) ?_
  exact OwnN.Go.ret (v := none) (fun s' T L_ fs X hr => X.returnOut hx hret (hb hby q65_57) hr) (fun _ => rfl) (by decide) (by decide) rfl
theorem rmPCI (l : Launch) (Z : State) (a0 : Array Value) (hw : own_T a0 Z) (wds : List Jvm.Cond) (p1 : Int32) (p2 : Int32) (fm : Value) (h0 : Heap) (n0 : Nat) (O0 : Old Z n0 h0)  (RF : fm.isRef = true) (h1 : ¬ p1 < 0) (h2 : p1 < p2) :
    OwnN.Ct l Z Y57 jdk_41_method_11_code 3 (some .int) wds (⟨0, 0, 0, 0⟩ : Room) #[(.int p1), (.int p2), fm] n0 h0 [] (fun v h => v = some (.int p1) ∧ h = h0) := by
  refine OwnN.Ct.of (plainFor_of_name pn_jdk_internal_util_Preconditions) O0 all0 ?_
  intro p e s m below meth c hx hby hml hret hnm
  refine OwnN.Go.cast (ef_IIV_3 m p1 p2 fm RF) ?_
  refine OwnN.Go.sp (g' := (mkF m 17 #[.val (.int p1), .val (.int p2), .val fm] [(.int p1)])) (fun T A t r => XS.iloadN A hx rfl (hb hby q66_0) rfl (XS.ifNo A hx rfl (hb hby q66_1) rfl ((if0 _ _).trans (flt h1).1) (XS.iloadN A hx rfl (hb hby q66_4) rfl (XS.iloadN A hx rfl (hb hby q66_5) rfl (XS.icmpYes A hx rfl (pc0 := 6) (pc' := 16) rfl (hb hby q66_6) rfl (tlt h2).1 (by decide) (by decide) (XS.iloadN A hx rfl (hb hby q66_16) rfl r)))))) ?_
  exact OwnN.Go.ret (v := (some (.int p1))) (fun s' T L_ fs X hr => retI X hx hret (hb hby q66_17) hr) (fun h => by rw [hret] at h; cases h) (by decide) (by decide) ⟨rfl, rfl⟩
theorem rmSCI (l : Launch) (Z : State) (a0 : Array Value) (hw : own_T a0 Z) (wds : List Jvm.Cond) (p1 : Int32) (p2 : Int32) (fm : Value) (h0 : Heap) (n0 : Nat) (O0 : Old Z n0 h0)  (h1 : ¬ p1 < 0) (h2 : p1 < p2) (SF : Sta Z Z.heap "jdk/internal/util/Preconditions" "SIOOBE_FORMATTER" "Ljava/util/function/BiFunction;" fm) (RF : fm.isRef = true) :
    OwnN.Ct l Z Y58 jdk_42_method_155_code 2 none wds (⟨1, 0, 0, 14⟩ : Room) #[(.int p1), (.int p2)] n0 h0 [] (fun v h => v = none ∧ h = h0) := by
  refine OwnN.Ct.of (plainFor_of_name pn_java_lang_String) O0 all0 ?_
  intro p e s m below meth c hx hby hml hret hnm
  refine OwnN.Go.cast (ef_II_2 m p1 p2) ?_
  refine OwnN.Go.sp (g' := (mkF m 2 #[.val (.int p1), .val (.int p2)] [(.int p2), (.int p1)])) (fun T A t r => XS.iloadN A hx rfl (hb hby q67_0) rfl (XS.iloadN A hx rfl (hb hby q67_1) rfl r)) ?_
  refine OwnN.Go.old fun O11 => ?_
  have St12 := Sta.ext O11.2 SF
  refine OwnN.Go.v (g' := (mkF m 5 #[.val (.int p1), .val (.int p2)] [fm, (.int p2), (.int p1)])) (fun s' T L_ X eT hZ hown => getS2 X hx hZ hown (host := "") (Or.inl (own_w hw 485 rfl)) Via.refl eT St12 (g := (mkF m 2 #[.val (.int p1), .val (.int p2)] [(.int p2), (.int p1)])) rfl (hb hby q67_2)) ?_
  refine OwnN.Go.callSP (W := 0) (y := Y57) (argsL := [(.int p1), (.int p2), fm]) (rest := []) (pc' := 8) (hb hby q67_5) (own_w hw 487 rfl) (own_w hw 488 rfl) (own_w hw 486 rfl) (own_w hw 489 rfl) (by decide) (fun s' hZ => OwnN.Ct.bk (rmPCI l Z a0 hw [] p1 p2 fm h0 n0 O11 RF h1 h2) hZ (own_w hw 489 rfl) (own_w hw 486 rfl) (by decide) (by decide)) hml.symm (lenOf pd_32 rfl) rfl (Nat.le_of_ble_eq_true rfl) rfl (by decide) (by decide) ?_
  rintro v13 rfl
  refine OwnN.Go.sp (g' := (mkF m 9 #[.val (.int p1), .val (.int p2)] [])) (fun T A t r => XS.pop A hx rfl (hb hby q67_8) rfl rfl r) ?_
  exact OwnN.Go.ret (v := none) (fun s' T L_ fs X hr => X.returnOut hx hret (hb hby q67_9) hr) (fun _ => rfl) (by decide) (by decide) ⟨rfl, rfl⟩
theorem rmISL (l : Launch) (Z : State) (a0 : Array Value) (hw : own_T a0 Z) (wds : List Jvm.Cond) (a1 : Addr) (zS : Int32) (h0 : Heap) (n0 : Nat) (O0 : Old Z n0 h0)  (C1 : Fld Z h0 a1 "java/lang/String" "coder" "B" (.int 0)) (S0 : Sta Z Z.heap "java/lang/String" "COMPACT_STRINGS" "Z" (.int zS)) (P0 : ¬ zS = (0 : Int32)) :
    OwnN.Ct l Z Y59 jdk_42_method_154_code 1 (some .boolean) wds (⟨0, 0, 0, 0⟩ : Room) #[(.ref a1)] n0 h0 [] (fun v h => v = some (.int 1) ∧ h = h0) := by
  refine OwnN.Ct.of (plainFor_of_name pn_java_lang_String) O0 all0 ?_
  intro p e s m below meth c hx hby hml hret hnm
  refine OwnN.Go.cast (ef_R_1 m a1) ?_
  refine OwnN.Go.old fun O11 => ?_
  have St12 := Sta.ext O11.2 S0
  refine OwnN.Go.v (g' := (mkF m 3 #[.val (.ref a1)] [(.int zS)])) (fun s' T L_ X eT hZ hown => getS2 X hx hZ hown (host := "") (Or.inl (own_w hw 4 rfl)) Via.refl eT St12 (g := (mkF m 0 #[.val (.ref a1)] [])) rfl (hb hby q68_0)) ?_
  refine OwnN.Go.sp (g' := (mkF m 7 #[.val (.ref a1)] [(.ref a1)])) (fun T A t r => XS.ifNo A hx rfl (hb hby q68_3) rfl ((if0 _ _).trans (feq P0).1) (XS.aloadN A hx rfl (hb hby q68_6) rfl rfl r)) ?_
  refine OwnN.Go.v (g' := (mkF m 10 #[.val (.ref a1)] [(.int 0)])) (fun s' T L_ X eT hZ hown => getF X hx hZ hown (host := "") (Or.inl (own_w hw 24 rfl)) Via.refl eT C1 (g := (mkF m 7 #[.val (.ref a1)] [(.ref a1)])) rfl rfl (hb hby q68_7)) ?_
  refine OwnN.Go.sp (g' := (mkF m 18 #[.val (.ref a1)] [(.int 1)])) (fun T A t r => XS.ifNo A hx rfl (hb hby q68_10) rfl ((if0 _ _).trans (teq (by decide : ((0 : Int32) = (0 : Int32)))).2) (XS.iconst A hx rfl (hb hby q68_13) (XS.goto A hx rfl (pc0 := 14) (pc' := 18) rfl (hb hby q68_14) (by decide) (by decide) r))) ?_
  exact OwnN.Go.ret (v := (some (.int (nar .boolean (1 : Int32))))) (fun s' T L_ fs X hr => retN X hx (t := .boolean) hret (by simp) (hb hby q68_18) hr) (fun h => by rw [hret] at h; cases h) (by decide) (by decide) ⟨rfl, rfl⟩
theorem rmL1C (l : Launch) (Z : State) (a0 : Array Value) (hw : own_T a0 Z) (wds : List Jvm.Cond) (t1 : Addr) (k1 : ClassId) (cs : List Int32) (ix : Nat) (fm : Value) (h0 : Heap) (n0 : Nat) (O0 : Old Z n0 h0)  (B1 : Arv Z h0 t1 k1 .byte (Int32.ofNat cs.length) (own_B cs) (.int 0)) (hl : cs.length ≤ 4000) (hi : ix < cs.length) (hb0 : ¬ cs.getD ix 0 < 0 ∧ ¬ (255 : Int32) < cs.getD ix 0) (SF : Sta Z Z.heap "jdk/internal/util/Preconditions" "SIOOBE_FORMATTER" "Ljava/util/function/BiFunction;" fm) (RF : fm.isRef = true) :
    OwnN.Ct l Z Y60 jdk_43_method_2_code 2 (some .char) wds (⟨2, 0, 0, 27⟩ : Room) #[(.ref t1), (.int (Int32.ofNat ix))] n0 h0 [] (fun v h => v = some (.int (cs.getD ix 0)) ∧ h = h0) := by
  refine OwnN.Ct.of (plainFor_of_name pn_java_lang_StringLatin1) O0 all0 ?_
  intro p e s m below meth c hx hby hml hret hnm
  refine OwnN.Go.cast (ef_RI_2 m t1 (Int32.ofNat ix)) ?_
  refine OwnN.Go.sp (g' := (mkF m 2 #[.val (.ref t1), .val (.int (Int32.ofNat ix))] [(.ref t1), (.int (Int32.ofNat ix))])) (fun T A t r => XS.iloadN A hx rfl (hb hby q69_0) rfl (XS.aloadN A hx rfl (hb hby q69_1) rfl rfl r)) ?_
  refine OwnN.Go.r (g' := (mkF m 3 #[.val (.ref t1), .val (.int (Int32.ofNat ix))] [(.int (Int32.ofNat cs.length)), (.int (Int32.ofNat ix))])) (fun s' T L_ X eT hZ t r => own_len X hx hZ eT B1 (g := (mkF m 2 #[.val (.ref t1), .val (.int (Int32.ofNat ix))] [(.ref t1), (.int (Int32.ofNat ix))])) rfl rfl (hb hby q69_2) t r) ?_
  refine OwnN.Go.old fun O11 => ?_
  refine OwnN.Go.callSP (W := 0) (y := Y58) (argsL := [(.int (Int32.ofNat ix)), (.int (Int32.ofNat cs.length))]) (rest := []) (pc' := 6) (hb hby q69_3) (own_w hw 482 rfl) (own_w hw 483 rfl) (own_w hw 2 rfl) (own_w hw 484 rfl) (by decide) (fun s' hZ => OwnN.Ct.bk (rmSCI l Z a0 hw [] (Int32.ofNat ix) (Int32.ofNat cs.length) fm h0 n0 O11 (own_nn (by omega)) (own_jlt hi hl) SF RF) hZ (own_w hw 484 rfl) (own_w hw 2 rfl) (by decide) (by decide)) hml.symm (lenOf pd_18 rfl) rfl (Nat.le_of_ble_eq_true rfl) rfl (by decide) (by decide) ?_
  rintro v12 rfl
  refine OwnN.Go.sp (g' := (mkF m 8 #[.val (.ref t1), .val (.int (Int32.ofNat ix))] [(.int (Int32.ofNat ix)), (.ref t1)])) (fun T A t r => XS.aloadN A hx rfl (hb hby q69_6) rfl rfl (XS.iloadN A hx rfl (hb hby q69_7) rfl r)) ?_
  refine OwnN.Go.r (g' := (mkF m 9 #[.val (.ref t1), .val (.int (Int32.ofNat ix))] [(.int ((cs.getD ix 0).toInt8.toInt32))])) (fun s' T L_ X eT hZ t r => own_ldB X hx hZ eT B1 (j := (Int32.ofNat ix)) ⟨own_nn (by omega), own_jlt hi hl⟩ (v := (.int ((cs.getD ix 0).toInt8.toInt32))) (own_jv hi hl) (g := (mkF m 8 #[.val (.ref t1), .val (.int (Int32.ofNat ix))] [(.int (Int32.ofNat ix)), (.ref t1)])) rfl rfl (hb hby q69_8) t r) ?_
  refine OwnN.Go.sp (g' := (mkF m 14 #[.val (.ref t1), .val (.int (Int32.ofNat ix))] [(.int ((((cs.getD ix 0).toInt8.toInt32) &&& (255 : Int32)).toUInt32.toUInt16.toUInt32.toInt32))])) (fun T A t r => XS.sipush A hx rfl (hb hby q69_9) (XS.iand A hx rfl (hb hby q69_12) rfl (XS.i2c A hx rfl (hb hby q69_13) rfl r))) ?_
  exact OwnN.Go.ret (v := (some (.int (nar .char ((((cs.getD ix 0).toInt8.toInt32) &&& (255 : Int32)).toUInt32.toUInt16.toUInt32.toInt32))))) (fun s' T L_ fs X hr => retN X hx (t := .char) hret (by simp) (hb hby q69_14) hr) (fun h => by rw [hret] at h; cases h) (by decide) (by decide) ⟨congrArg (fun z => some (Value.int z)) (own_chr hb0), rfl⟩
theorem rmCHA (l : Launch) (Z : State) (a0 : Array Value) (hw : own_T a0 Z) (wds : List Jvm.Cond) (a1 : Addr) (t1 : Addr) (k1 : ClassId) (cs : List Int32) (ix : Nat) (zS : Int32) (fm : Value) (h0 : Heap) (n0 : Nat) (O0 : Old Z n0 h0)  (E1 : Exa Z h0 a1 "java/lang/String") (C1 : Fld Z h0 a1 "java/lang/String" "coder" "B" (.int 0)) (V1 : Fld Z h0 a1 "java/lang/String" "value" "[B" (.ref t1)) (B1 : Arv Z h0 t1 k1 .byte (Int32.ofNat cs.length) (own_B cs) (.int 0)) (hl : cs.length ≤ 4000) (hi : ix < cs.length) (hb0 : ¬ cs.getD ix 0 < 0 ∧ ¬ (255 : Int32) < cs.getD ix 0) (S0 : Sta Z Z.heap "java/lang/String" "COMPACT_STRINGS" "Z" (.int zS)) (P0 : ¬ zS = (0 : Int32)) (SF : Sta Z Z.heap "jdk/internal/util/Preconditions" "SIOOBE_FORMATTER" "Ljava/util/function/BiFunction;" fm) (RF : fm.isRef = true) :
    OwnN.Ct l Z Y61 jdk_42_method_56_code 2 (some .char) wds (⟨3, 0, 0, 40⟩ : Room) #[(.ref a1), (.int (Int32.ofNat ix))] n0 h0 [] (fun v h => v = some (.int (cs.getD ix 0)) ∧ h = h0) := by
  refine OwnN.Ct.of (plainFor_of_name pn_java_lang_String) O0 all0 ?_
  intro p e s m below meth c hx hby hml hret hnm
  refine OwnN.Go.cast (ef_RI_2 m a1 (Int32.ofNat ix)) ?_
  refine OwnN.Go.sp (g' := (mkF m 1 #[.val (.ref a1), .val (.int (Int32.ofNat ix))] [(.ref a1)])) (fun T A t r => XS.aloadN A hx rfl (hb hby q70_0) rfl rfl r) ?_
  refine OwnN.Go.old fun O11 => ?_
  refine OwnN.Go.callVP (a := a1) (z := Y59) (W := 0) (y := Y59) (argsL := []) (rest := []) (pc' := 4) (hb hby q70_1) (own_w hw 474 rfl) (own_w hw 475 rfl) (fun s' hZ => notFace_of_selects (args := #[]) (mvT hZ (own_w hw 477 rfl))) (own_w hw 477 rfl) (own_w hw 476 rfl) (by decide) (fun s' hZ => OwnN.Ct.bk (rmISL l Z a0 hw [] a1 zS h0 n0 O11 C1 S0 P0) hZ (own_w hw 478 rfl) (own_w hw 2 rfl) (by decide) (by decide)) E1 hml.symm (lenOf pd_16 rfl) rfl (Nat.le_of_ble_eq_true rfl) rfl (by decide) (by decide) ?_
  rintro v12 rfl
  refine OwnN.Go.sp (g' := (mkF m 8 #[.val (.ref a1), .val (.int (Int32.ofNat ix))] [(.ref a1)])) (fun T A t r => XS.ifNo A hx rfl (hb hby q70_4) rfl ((if0 _ _).trans (feq (by decide : ¬ ((1 : Int32) = (0 : Int32)))).1) (XS.aloadN A hx rfl (hb hby q70_7) rfl rfl r)) ?_
  refine OwnN.Go.v (g' := (mkF m 11 #[.val (.ref a1), .val (.int (Int32.ofNat ix))] [(.ref t1)])) (fun s' T L_ X eT hZ hown => getF X hx hZ hown (host := "") (Or.inl (own_w hw 22 rfl)) Via.refl eT V1 (g := (mkF m 8 #[.val (.ref a1), .val (.int (Int32.ofNat ix))] [(.ref a1)])) rfl rfl (hb hby q70_8)) ?_
  refine OwnN.Go.sp (g' := (mkF m 12 #[.val (.ref a1), .val (.int (Int32.ofNat ix))] [(.int (Int32.ofNat ix)), (.ref t1)])) (fun T A t r => XS.iloadN A hx rfl (hb hby q70_11) rfl r) ?_
  refine OwnN.Go.callSP (W := 0) (y := Y60) (argsL := [(.ref t1), (.int (Int32.ofNat ix))]) (rest := []) (pc' := 15) (hb hby q70_12) (own_w hw 479 rfl) (own_w hw 480 rfl) (own_w hw 7 rfl) (own_w hw 481 rfl) (by decide) (fun s' hZ => OwnN.Ct.bk (rmL1C l Z a0 hw [] t1 k1 cs ix fm h0 n0 O11 B1 hl hi hb0 SF RF) hZ (own_w hw 481 rfl) (own_w hw 7 rfl) (by decide) (by decide)) hml.symm (lenOf pd_33 rfl) rfl (Nat.le_of_ble_eq_true rfl) rfl (by decide) (by decide) ?_
  rintro v13 rfl
  exact OwnN.Go.ret (v := (some (.int (nar .char (cs.getD ix 0))))) (fun s' T L_ fs X hr => retN X hx (t := .char) hret (by simp) (hb hby q70_15) hr) (fun h => by rw [hret] at h; cases h) (by decide) (by decide) ⟨congrArg (fun z => some (Value.int z)) (own_nar hb0), rfl⟩
theorem rmSP (l : Launch) (Z : State) (a0 : Array Value) (hw : own_T a0 Z) (wds : List Jvm.Cond) (a1 : Addr) (t1 : Addr) (k1 : ClassId) (ds : List Int32) (jn : Nat) (pk : Int32) (zS : Int32) (fm : Value) (h0 : Heap) (n0 : Nat) (O0 : Old Z n0 h0)  (E1 : Exa Z h0 a1 "java/lang/String") (C1 : Fld Z h0 a1 "java/lang/String" "coder" "B" (.int 0)) (V1 : Fld Z h0 a1 "java/lang/String" "value" "[B" (.ref t1)) (B1 : Arv Z h0 t1 k1 .byte (Int32.ofNat (own_X ds).length) (own_B (own_X ds)) (.int 0)) (hl : (own_X ds).length ≤ 4000) (hsp : own_sp pk ds jn) (S0 : Sta Z Z.heap "java/lang/String" "COMPACT_STRINGS" "Z" (.int zS)) (P0 : ¬ zS = (0 : Int32)) (SF : Sta Z Z.heap "jdk/internal/util/Preconditions" "SIOOBE_FORMATTER" "Ljava/util/function/BiFunction;" fm) (RF : fm.isRef = true) :
    OwnN.Ct l Z Y80 method_3_code 4 (some .boolean) wds (⟨4, 0, 0, 53⟩ : Room) #[(.ref a1), (.int 109), (.int (Int32.ofNat jn)), (.int pk)] n0 h0 [] (fun v h => v = some (.int 1) ∧ h = h0) := by
  refine OwnN.Ct.of (plainFor_of_name pn_com_example_typewire_typewire_codegen_JavaFileIndentPinLaw) O0 all0 ?_
  intro p e s m below meth c hx hby hml hret hnm
  refine OwnN.Go.cast (ef_RIII_4 m a1 (109 : Int32) (Int32.ofNat jn) pk) ?_
  rcases hsp with hq | ⟨hq, hi, hv⟩
  · skip
    refine OwnN.Go.sp (g' := (mkF m 24 #[.val (.ref a1), .val (.int 109), .val (.int (Int32.ofNat jn)), .val (.int pk)] [(.int 1)])) (fun T A t r => XS.iloadN A hx rfl (hb hby q71_0) rfl (XS.iconst A hx rfl (hb hby q71_1) (XS.iloadN A hx rfl (hb hby q71_2) rfl (XS.imul A hx rfl (hb hby q71_3) rfl (XS.icmpYes A hx rfl (pc0 := 4) (pc' := 19) rfl (hb hby q71_4) rfl (flt hq).2.1 (by decide) (by decide) (XS.iconst A hx rfl (hb hby q71_19) (XS.goto A hx rfl (pc0 := 20) (pc' := 24) rfl (hb hby q71_20) (by decide) (by decide) r))))))) ?_
    exact OwnN.Go.ret (v := (some (.int (nar .boolean (1 : Int32))))) (fun s' T L_ fs X hr => retN X hx (t := .boolean) hret (by simp) (hb hby q71_24) hr) (fun h => by rw [hret] at h; cases h) (by decide) (by decide) ⟨rfl, rfl⟩
  · skip
    refine OwnN.Go.sp (g' := (mkF m 11 #[.val (.ref a1), .val (.int 109), .val (.int (Int32.ofNat jn)), .val (.int pk)] [(.int ((109 : Int32) + (Int32.ofNat jn))), (.ref a1)])) (fun T A t r => XS.iloadN A hx rfl (hb hby q71_0) rfl (XS.iconst A hx rfl (hb hby q71_1) (XS.iloadN A hx rfl (hb hby q71_2) rfl (XS.imul A hx rfl (hb hby q71_3) rfl (XS.icmpNo A hx rfl (hb hby q71_4) rfl (tlt hq).2.1 (XS.aloadN A hx rfl (hb hby q71_7) rfl rfl (XS.iloadN A hx rfl (hb hby q71_8) rfl (XS.iloadN A hx rfl (hb hby q71_9) rfl (XS.iadd A hx rfl (hb hby q71_10) rfl r))))))))) ?_
    refine OwnN.Go.cast (g' := (mkF m 11 #[.val (.ref a1), .val (.int 109), .val (.int (Int32.ofNat jn)), .val (.int pk)] [(.int (Int32.ofNat (109 + jn))), (.ref a1)])) (by rw [show ((109 : Int32) + (Int32.ofNat jn)) = (Int32.ofNat (109 + jn)) from (Int32.ofNat_add 109 jn).symm] <;> rfl) ?_
    refine OwnN.Go.old fun O11 => ?_
    refine OwnN.Go.callVP (a := a1) (z := Y61) (W := 0) (y := Y61) (argsL := [(.int (Int32.ofNat (109 + jn)))]) (rest := []) (pc' := 14) (hb hby q71_11) (own_w hw 469 rfl) (own_w hw 470 rfl) (fun s' hZ => notFace_of_selects (args := #[]) (mvT hZ (own_w hw 472 rfl))) (own_w hw 472 rfl) (own_w hw 471 rfl) (by decide) (fun s' hZ => OwnN.Ct.bk (rmCHA l Z a0 hw [] a1 t1 k1 (own_X ds) (109 + jn) zS fm h0 n0 O11 E1 C1 V1 B1 hl hi (by rw [hv]; decide) S0 P0 SF RF) hZ (own_w hw 473 rfl) (own_w hw 2 rfl) (by decide) (by decide)) E1 hml.symm (lenOf pd_34 rfl) rfl (Nat.le_of_ble_eq_true rfl) rfl (by decide) (by decide) ?_
    rintro v12 rfl
    refine OwnN.Go.cast (g' := (mkF m 14 #[.val (.ref a1), .val (.int 109), .val (.int (Int32.ofNat jn)), .val (.int pk)] [(.int 32)])) (by rw [show ((own_X ds).getD (109 + jn) 0) = (32 : Int32) from hv] <;> rfl) ?_
    refine OwnN.Go.sp (g' := (mkF m 24 #[.val (.ref a1), .val (.int 109), .val (.int (Int32.ofNat jn)), .val (.int pk)] [(.int 1)])) (fun T A t r => XS.bipush A hx rfl (hb hby q71_14) (XS.icmpNo A hx rfl (hb hby q71_16) rfl (teq (by decide : ((32 : Int32) = (32 : Int32)))).2 (XS.iconst A hx rfl (hb hby q71_19) (XS.goto A hx rfl (pc0 := 20) (pc' := 24) rfl (hb hby q71_20) (by decide) (by decide) r)))) ?_
    exact OwnN.Go.ret (v := (some (.int (nar .boolean (1 : Int32))))) (fun s' T L_ fs X hr => retN X hx (t := .boolean) hret (by simp) (hb hby q71_24) hr) (fun h => by rw [hret] at h; cases h) (by decide) (by decide) ⟨rfl, rfl⟩
theorem rmRP0 (l : Launch) (Z : State) (a0 : Array Value) (hw : own_T a0 Z) (wds : List Jvm.Cond) (a1 : Addr) (t1 : Addr) (k1 : ClassId) (h0 : Heap) (n0 : Nat) (O0 : Old Z n0 h0)  (V1 : Fld Z h0 a1 "java/lang/String" "value" "[B" (.ref t1)) (B1 : Arv Z h0 t1 k1 .byte (4 : Int32) (own_B own_4) (.int 0)) :
    Ct l Z a0 own_EL Y64 jdk_42_method_145_code 5 (some (.object "java/lang/String")) wds (⟨0, 2, 4, 0⟩ : Room) #[(.ref a1), (.int 0)] n0 h0 [] (fun v h => ∃ (sa ta : Addr) (ka : ClassId), v = some (.ref sa) ∧ Exa Z h sa "java/lang/String" ∧ Fld Z h sa "java/lang/String" "coder" "B" (.int 0) ∧ Fld Z h sa "java/lang/String" "value" "[B" (.ref ta) ∧ Arv Z h ta ka .byte (Int32.ofNat ([] : List Int32).length) (own_B ([] : List Int32)) (.int 0)) := by
  refine Ct.of (plainFor_of_name pn_java_lang_String) O0 all0 (own_EW hw) ?_
  intro p e s m below meth c hx hby hml hret hnm
  refine Go.cast (ef_RI_5 m a1 (0 : Int32)) ?_
  refine Go.sp (g' := (mkF m 40 #[.val (.ref a1), .val (.int 0), .unset, .unset, .unset] [(.ref a1)])) (fun T A t r => XS.iloadN A hx rfl (hb hby q42_0) rfl (XS.ifYes A hx rfl (pc0 := 1) (pc' := 32) rfl (hb hby q42_1) rfl ((if0 _ _).trans (flt (by decide : ¬ ((0 : Int32) < (0 : Int32)))).2.1) (by decide) (by decide) (XS.iloadN A hx rfl (hb hby q42_32) rfl (XS.iconst A hx rfl (hb hby q42_33) (XS.icmpYes A hx rfl (pc0 := 34) (pc' := 39) rfl (hb hby q42_34) rfl (feq (by decide : ¬ ((0 : Int32) = (1 : Int32)))).2 (by decide) (by decide) (XS.aloadN A hx rfl (hb hby q42_39) rfl rfl r)))))) ?_
  refine Go.v (g' := (mkF m 43 #[.val (.ref a1), .val (.int 0), .unset, .unset, .unset] [(.ref t1)])) (fun s' T L_ X eT hZ hown => getF X hx hZ hown (host := "") (Or.inl (own_w hw 22 rfl)) Via.refl eT V1 (g := (mkF m 40 #[.val (.ref a1), .val (.int 0), .unset, .unset, .unset] [(.ref a1)])) rfl rfl (hb hby q42_40)) ?_
  refine Go.r (g' := (mkF m 44 #[.val (.ref a1), .val (.int 0), .unset, .unset, .unset] [(.int 4)])) (fun s' T L_ X eT hZ t r => own_len X hx hZ eT B1 (g := (mkF m 43 #[.val (.ref a1), .val (.int 0), .unset, .unset, .unset] [(.ref t1)])) rfl rfl (hb hby q42_43) t r) ?_
  refine Go.sp (g' := (mkF m 53 #[.val (.ref a1), .val (.int 0), .val (.int 4), .unset, .unset] [])) (fun T A t r => XS.istoreN A hx rfl (hb hby q42_44) rfl (l' := #[.val (.ref a1), .val (.int 0), .val (.int 4), .unset, .unset]) rfl (XS.iloadN A hx rfl (hb hby q42_45) rfl (XS.ifNo A hx rfl (hb hby q42_46) rfl ((if0 _ _).trans (feq (by decide : ¬ ((4 : Int32) = (0 : Int32)))).1) (XS.iloadN A hx rfl (hb hby q42_49) rfl (XS.ifNo A hx rfl (hb hby q42_50) rfl ((if0 _ _).trans (teq (by decide : ((0 : Int32) = (0 : Int32)))).2) r))))) ?_
  refine Go.ldc (vs := (own_B ([] : List Int32))) (z := (Int32.ofNat ([] : List Int32).length)) (nn := 0) (k' := 2) (n' := 4) (pc' := 55) (hb hby q42_53) (own_w hw 144 rfl) (own_strA hw) (by decide) (by decide +kernel) (by decide +kernel) (by decide +kernel) (by decide +kernel) (by decide) rfl rfl rfl (by decide) (by decide) ?_
  intro a11 h11 bb11 kb11 E11 A11 C11 V11 B11 ne11
  exact Go.ret (v := (some (.ref a11))) (fun s' T L_ fs X hr => own_retR X hx hret rfl rfl (hb hby q42_55) hr) (fun h => by rw [hret] at h; cases h) (by decide) (by decide) ⟨_, _, _, rfl, A11, C11, V11, B11⟩
theorem rmLI0 (l : Launch) (Z : State) (a0 : Array Value) (hw : own_T a0 Z) (wds : List Jvm.Cond) (a1 : Addr) (al : Addr) (a2 : Addr) (t2 : Addr) (k2 : ClassId) (p1 : Int32) (dE : Addr) (kD : ClassId) (zS : Int32) (h0 : Heap) (n0 : Nat) (O0 : Old Z n0 h0) (g_al : n0 ≤ al) (EJ : Exa Z h0 a1 "com/example/typewire/typewire/codegen/JavaFile") (FL : Fld Z h0 a1 "com/example/typewire/typewire/codegen/JavaFile" "lines" "Ljava/util/List;" (.ref al)) (FD : Fld Z h0 a1 "com/example/typewire/typewire/codegen/JavaFile" "depth" "I" (.int 0)) (EL : Exa Z h0 al "java/util/ArrayList") (FE : Fld Z h0 al "java/util/ArrayList" "elementData" "[Ljava/lang/Object;" (.ref dE)) (FS : Fld Z h0 al "java/util/ArrayList" "size" "I" (.int 0)) (FM : Fld Z h0 al "java/util/AbstractList" "modCount" "I" (.int 0)) (E2 : Exa Z h0 a2 "java/lang/String") (C2 : Fld Z h0 a2 "java/lang/String" "coder" "B" (.int 0)) (V2 : Fld Z h0 a2 "java/lang/String" "value" "[B" (.ref t2)) (B2 : Arv Z h0 t2 k2 .byte (Int32.ofNat [p1].length) (own_B [p1]) (.int 0)) (SD : Sta Z Z.heap "java/util/ArrayList" "DEFAULTCAPACITY_EMPTY_ELEMENTDATA" "[Ljava/lang/Object;" (.ref dE)) (AD : Arv Z Z.heap dE kD (.object "java/lang/Object") (0 : Int32) [] .null) (S0 : Sta Z Z.heap "java/lang/String" "COMPACT_STRINGS" "Z" (.int zS)) (P0 : ¬ zS = (0 : Int32)) :
    Ct l Z a0 own_EL Y78 prog_4_method_4_code 2 (some (.object "com/example/typewire/typewire/codegen/JavaFile")) wds (⟨6, 9, 228, 114⟩ : Room) #[(.ref a1), (.ref a2)] n0 h0 [al] (fun v h => ∃ (st ts : Addr) (ks : ClassId) (tb : Addr) (kq : ClassId), v = some (.ref a1) ∧ Fld Z h al "java/util/ArrayList" "elementData" "[Ljava/lang/Object;" (.ref tb) ∧ Fld Z h al "java/util/ArrayList" "size" "I" (.int 1) ∧ Fld Z h al "java/util/AbstractList" "modCount" "I" (.int 1) ∧ Arv Z h tb kq (.object "java/lang/Object") (10 : Int32) [.ref st, .null, .null, .null, .null, .null, .null, .null, .null, .null] .null ∧ Exa Z h st "java/lang/String" ∧ Fld Z h st "java/lang/String" "coder" "B" (.int 0) ∧ Fld Z h st "java/lang/String" "value" "[B" (.ref ts) ∧ Arv Z h ts ks .byte (Int32.ofNat (own_D0 p1).length) (own_B (own_D0 p1)) (.int 0)) := by
  refine Ct.of (plainFor_of_name pn_com_example_typewire_typewire_codegen_JavaFile) O0 (allS g_al all0) (own_EW hw) ?_
  intro p e s m below meth c hx hby hml hret hnm
  refine Go.cast (ef_RR_2 m a1 a2) ?_
  refine Go.sp (g' := (mkF m 1 #[.val (.ref a1), .val (.ref a2)] [(.ref a1)])) (fun T A t r => XS.aloadN A hx rfl (hb hby q72_0) rfl rfl r) ?_
  refine Go.v (g' := (mkF m 4 #[.val (.ref a1), .val (.ref a2)] [(.ref al)])) (fun s' T L_ X eT hZ hown => getF X hx hZ hown (host := "") (Or.inl (own_w hw 104 rfl)) Via.refl eT FL (g := (mkF m 1 #[.val (.ref a1), .val (.ref a2)] [(.ref a1)])) rfl rfl (hb hby q72_1)) ?_
  refine Go.sp (g' := (mkF m 5 #[.val (.ref a1), .val (.ref a2)] [(.ref a2), (.ref al)])) (fun T A t r => XS.aloadN A hx rfl (hb hby q72_4) rfl rfl r) ?_
  refine Go.old fun O11 => ?_
  refine OwnC.goWP (k' := 0) (n' := 0) (OwnC.callerV (y := Y62) (z := Y62) (a := a2) (W := 1) (argsL := []) (rest := [(.ref al)]) (pc' := 8) (rc := 0) (rs := 0) (ws' := []) hx (hb hby q72_5) (own_w hw 113 rfl) (own_w hw 114 rfl) (fun s' hZ => OwnC.own_nf (a1 := #[]) (mvT hZ (own_w hw 116 rfl)) rfl) (own_w hw 116 rfl) (own_w hw 115 rfl) (by decide) (fun s' hZ => OwnN.Ct.bk (rmSE l Z a0 hw [] a2 t2 k2 p1 h0 n0 O11 V2 B2) hZ (own_w hw 117 rfl) (own_w hw 2 rfl) (by decide) (by decide)) E2 hml.symm (lenOf pd_16 rfl) rfl (Nat.le_of_ble_eq_true rfl) rfl (by decide) (by decide)) rfl rfl ?_
  rintro v12 rfl
  refine Go.sp (g' := (mkF m 16 #[.val (.ref a1), .val (.ref a2)] [(.ref al)])) (fun T A t r => XS.ifYes A hx rfl (pc0 := 8) (pc' := 16) rfl (hb hby q72_8) rfl ((if0 _ _).trans (teq (by decide : ((0 : Int32) = (0 : Int32)))).1) (by decide) (by decide) r) ?_
  refine Go.newO (k' := 1) (n' := 4) (pc' := 19) (hb hby q72_16) (own_w hw 118 rfl) (own_w hw 119 rfl) (own_w hw 120 rfl) rfl rfl rfl (by decide) (by decide) ?_
  intro b13 h13 g13 sz13 E13 A13 D13
  have F13_value : Fld Z h13 b13 "java/lang/AbstractStringBuilder" "value" "[B" .null := D13 (Or.inl (own_w hw 133 rfl)) (ty := (.array .byte)) (by decide)
  have F13_coder : Fld Z h13 b13 "java/lang/AbstractStringBuilder" "coder" "B" (.int 0) := D13 (Or.inl (own_w hw 135 rfl)) (ty := .byte) (by decide)
  have F13_count : Fld Z h13 b13 "java/lang/AbstractStringBuilder" "count" "I" (.int 0) := D13 (Or.inl (own_w hw 166 rfl)) (ty := .int) (by decide)
  refine Go.sp (g' := (mkF m 20 #[.val (.ref a1), .val (.ref a2)] [(.ref b13), (.ref b13), (.ref al)])) (fun T A t r => XS.dup A hx rfl (hb hby q72_19) rfl rfl r) ?_
  refine Go.keep fun KK14 => ?_
  refine Go.old fun O15 => ?_
  refine OwnC.goW (k' := 2) (n' := 20) (OwnC.callerC (y := Y63) (a := b13) (W := 2) (argsL := []) (rest := [(.ref b13), (.ref al)]) (pc' := 23) (rc := 1) (rs := 16) (ws' := [b13]) hx (hb hby q72_20) rfl (own_w hw 121 rfl) (own_w hw 122 rfl) (own_w hw 123 rfl) (by decide) (fun s' hZ => OwnN.Ct.bk (rmSBI l Z a0 hw [] b13 zS h13 n0 O15 (Nat.le_trans (Old.le O0) sz13) A13 F13_value F13_coder F13_count S0 P0) hZ (own_w hw 123 rfl) (own_w hw 120 rfl) (by decide) (by decide)) hml.symm (lenOf pd_3 rfl) rfl (Nat.le_of_ble_eq_true rfl) rfl (by decide) (by decide)) rfl rfl (allS (Or.inr sz13) all0) (allS (Or.inl (List.mem_of_getElem? (i := 0) rfl)) all0) ?_
  rintro v16 h16 K16 ⟨t16, kb16, rfl, ge16, V16, C16, N16, B16⟩
  refine ⟨[t16], (allS ⟨ge16, B16.lt⟩ all0), ?_⟩
  refine Go.ldc (vs := (own_B own_4)) (z := (Int32.ofNat own_4.length)) (nn := 16) (k' := 4) (n' := 40) (pc' := 25) (hb hby q72_23) (own_w hw 136 rfl) (own_strA hw) (by decide) (by decide +kernel) (by decide +kernel) (by decide +kernel) (by decide +kernel) (by decide) rfl rfl rfl (by decide) (by decide) ?_
  intro a17 h17 bb17 kb17 E17 A17 C17 V17 B17 ne17
  have nl18 := ne17 t16 (Or.inl (List.mem_of_getElem? (i := 0) rfl))
  have nl19 := ne17 b13 (Or.inl (List.mem_of_getElem? (i := 1) rfl))
  have f20 := (((EL.ext E13).keep K16).ext E17)
  have nl21 := ne17 al (Or.inr (SafeA.exa f20 (by decide) (by decide)))
  refine Go.sp (g' := (mkF m 26 #[.val (.ref a1), .val (.ref a2)] [(.ref a1), (.ref a17), (.ref b13), (.ref al)])) (fun T A t r => XS.aloadN A hx rfl (hb hby q72_25) rfl rfl r) ?_
  have ne22 : a1 ≠ b13 := Nat.ne_of_lt (Nat.lt_of_lt_of_le EJ.lt (Nat.le_of_eq g13.symm))
  have f23 := (((FD.ext E13).keep K16 (ninS ne22 nin0)).ext E17)
  refine Go.v (g' := (mkF m 29 #[.val (.ref a1), .val (.ref a2)] [(.int 0), (.ref a17), (.ref b13), (.ref al)])) (fun s' T L_ X eT hZ hown => getF X hx hZ hown (host := "") (Or.inl (own_w hw 137 rfl)) Via.refl eT f23 (g := (mkF m 26 #[.val (.ref a1), .val (.ref a2)] [(.ref a1), (.ref a17), (.ref b13), (.ref al)])) rfl rfl (hb hby q72_26)) ?_
  refine Go.old fun O24 => ?_
  refine Go.callVW (a := a17) (z := Y64) (ws' := []) (W := 2) (y := Y64) (argsL := [(.int 0)]) (rest := [(.ref b13), (.ref al)]) (pc' := 32) (k' := 6) (n' := 44) (hb hby q72_29) (own_w hw 139 rfl) (own_w hw 140 rfl) (fun s' hZ => notFace_of_selects (args := #[]) (mvT hZ (own_w hw 142 rfl))) (own_w hw 142 rfl) (own_w hw 141 rfl) (by decide) (rmRP0 l Z a0 hw [] a17 bb17 kb17 h17 n0 O24 V17 B17) (own_w hw 143 rfl) (own_w hw 2 rfl) (by decide) (by decide) A17 hml.symm (lenOf pd_35 rfl) rfl (Nat.le_of_ble_eq_true rfl) rfl rfl rfl (by decide) (by decide) all0 ?_
  rintro v25 h25 K25 ⟨sa25, ta25, ka25, rfl, E25, C25, V25, B25⟩
  refine Go.old fun O26 => ?_
  have f27 := (((A13.keep K16).ext E17).keep K25)
  have f28 := ((V16.ext E17).keep K25 nin0)
  have f29 := ((C16.ext E17).keep K25 nin0)
  have f30 := ((N16.ext E17).keep K25 nin0)
  have f31 := ((B16.ext E17).keep K25 nin0)
  refine OwnC.goW (k' := 6) (n' := 44) (OwnC.callerV (y := Y65) (z := Y65) (a := b13) (W := 1) (argsL := [(.ref sa25)]) (rest := [(.ref al)]) (pc' := 35) (rc := 0) (rs := 0) (ws' := [b13, t16]) hx (hb hby q72_32) (own_w hw 145 rfl) (own_w hw 146 rfl) (fun s' hZ => OwnC.own_nf (a1 := #[]) (mvT hZ (own_w hw 148 rfl)) rfl) (own_w hw 148 rfl) (own_w hw 147 rfl) (by decide) (fun s' hZ => OwnN.Ct.bk (rmB0 l Z a0 hw [] b13 t16 kb16 16 ([] : List Int32) sa25 ta25 ka25 ([] : List Int32) zS h25 n0 O26 (Nat.le_trans (Old.le O0) sz13) (Nat.le_trans (Old.le O0) (Nat.le_trans KK14.1 ge16)) f27 f28 f29 f30 f31 E25 C25 V25 B25 (Nat.le_of_ble_eq_true rfl) (by decide) S0 P0) hZ (own_w hw 149 rfl) (own_w hw 120 rfl) (by decide) (by decide)) f27 hml.symm (lenOf pd_36 rfl) rfl (Nat.le_of_ble_eq_true rfl) rfl (by decide) (by decide)) rfl rfl (allS (Or.inr sz13) (allS (Or.inr (Nat.le_trans KK14.1 ge16)) all0)) (allS (Or.inl (List.mem_of_getElem? (i := 1) rfl)) (allS (Or.inl (List.mem_of_getElem? (i := 0) rfl)) all0)) ?_
  rintro v32 h32 K32 ⟨rfl, V32, C32, N32, B32⟩
  refine ⟨[], all0, ?_⟩
  refine Go.sp (g' := (mkF m 36 #[.val (.ref a1), .val (.ref a2)] [(.ref a2), (.ref b13), (.ref al)])) (fun T A t r => XS.aloadN A hx rfl (hb hby q72_35) rfl rfl r) ?_
  refine Go.old fun O33 => ?_
  have f34 := (f27.keep K32)
  have f35 := (((((E2.ext E13).keep K16).ext E17).keep K25).keep K32)
  have ne36 : a2 ≠ b13 := Nat.ne_of_lt (Nat.lt_of_lt_of_le E2.lt (Nat.le_of_eq g13.symm))
  have f37 := (E2.ext E13)
  have ne38 : a2 ≠ t16 := Nat.ne_of_lt (Nat.lt_of_lt_of_le f37.lt ge16)
  have f39 := (((((C2.ext E13).keep K16 (ninS ne36 nin0)).ext E17).keep K25 nin0).keep K32 (ninS ne36 (ninS ne38 nin0)))
  have f40 := (((((V2.ext E13).keep K16 (ninS ne36 nin0)).ext E17).keep K25 nin0).keep K32 (ninS ne36 (ninS ne38 nin0)))
  have ne41 : t2 ≠ b13 := Nat.ne_of_lt (Nat.lt_of_lt_of_le B2.lt (Nat.le_of_eq g13.symm))
  have f42 := (B2.ext E13)
  have ne43 : t2 ≠ t16 := Nat.ne_of_lt (Nat.lt_of_lt_of_le f42.lt ge16)
  have f44 := (((((B2.ext E13).keep K16 (ninS ne41 nin0)).ext E17).keep K25 nin0).keep K32 (ninS ne41 (ninS ne43 nin0)))
  refine OwnC.goW (k' := 6) (n' := 44) (OwnC.callerV (y := Y65) (z := Y65) (a := b13) (W := 1) (argsL := [(.ref a2)]) (rest := [(.ref al)]) (pc' := 39) (rc := 0) (rs := 0) (ws' := [b13, t16]) hx (hb hby q72_36) (own_w hw 145 rfl) (own_w hw 146 rfl) (fun s' hZ => OwnC.own_nf (a1 := #[]) (mvT hZ (own_w hw 148 rfl)) rfl) (own_w hw 148 rfl) (own_w hw 147 rfl) (by decide) (fun s' hZ => OwnN.Ct.bk (rmB0 l Z a0 hw [] b13 t16 kb16 16 (([] : List Int32) ++ ([] : List Int32)) a2 t2 k2 [p1] zS h32 n0 O33 (Nat.le_trans (Old.le O0) sz13) (Nat.le_trans (Old.le O0) (Nat.le_trans KK14.1 ge16)) f34 V32 C32 N32 B32 f35 f39 f40 f44 (Nat.le_of_ble_eq_true rfl) (by decide) S0 P0) hZ (own_w hw 149 rfl) (own_w hw 120 rfl) (by decide) (by decide)) f34 hml.symm (lenOf pd_36 rfl) rfl (Nat.le_of_ble_eq_true rfl) rfl (by decide) (by decide)) rfl rfl (allS (Or.inr sz13) (allS (Or.inr (Nat.le_trans KK14.1 ge16)) all0)) (allS (Or.inl (List.mem_of_getElem? (i := 1) rfl)) (allS (Or.inl (List.mem_of_getElem? (i := 0) rfl)) all0)) ?_
  rintro v45 h45 K45 ⟨rfl, V45, C45, N45, B45⟩
  refine ⟨[], all0, ?_⟩
  refine Go.old fun O46 => ?_
  have f47 := (f34.keep K45)
  refine OwnC.goW (k' := 8) (n' := 206) (OwnC.callerV (y := Y66) (z := Y66) (a := b13) (W := 1) (argsL := []) (rest := [(.ref al)]) (pc' := 42) (rc := 2) (rs := 162) (ws' := []) hx (hb hby q72_39) (own_w hw 192 rfl) (own_w hw 193 rfl) (fun s' hZ => OwnC.own_nf (a1 := #[]) (mvT hZ (own_w hw 148 rfl)) rfl) (own_w hw 195 rfl) (own_w hw 194 rfl) (by decide) (fun s' hZ => OwnN.Ct.bk (rmTO l Z a0 hw [] b13 t16 kb16 16 ((([] : List Int32) ++ ([] : List Int32)) ++ [p1]) zS h45 n0 O46 f47 V45 C45 N45 B45 (Nat.le_of_ble_eq_true rfl) (by decide) S0 P0) hZ (own_w hw 196 rfl) (own_w hw 120 rfl) (by decide) (by decide)) f47 hml.symm (lenOf pd_37 rfl) rfl (Nat.le_of_ble_eq_true rfl) rfl (by decide) (by decide)) rfl rfl all0 all0 ?_
  rintro v48 h48 K48 ⟨sa48, ta48, ka48, rfl, E48, C48, V48, B48⟩
  refine ⟨[], all0, ?_⟩
  refine Go.old fun O49 => ?_
  have f50 := ((((f20.keep K25).keep K32).keep K45).keep K48)
  have ne51 : al ≠ b13 := Nat.ne_of_lt (Nat.lt_of_lt_of_le EL.lt (Nat.le_of_eq g13.symm))
  have f52 := (EL.ext E13)
  have ne53 : al ≠ t16 := Nat.ne_of_lt (Nat.lt_of_lt_of_le f52.lt ge16)
  have f54 := (((((((FE.ext E13).keep K16 (ninS ne51 nin0)).ext E17).keep K25 nin0).keep K32 (ninS ne51 (ninS ne53 nin0))).keep K45 (ninS ne51 (ninS ne53 nin0))).keep K48 nin0)
  have f55 := (((((((FS.ext E13).keep K16 (ninS ne51 nin0)).ext E17).keep K25 nin0).keep K32 (ninS ne51 (ninS ne53 nin0))).keep K45 (ninS ne51 (ninS ne53 nin0))).keep K48 nin0)
  have f56 := (((((((FM.ext E13).keep K16 (ninS ne51 nin0)).ext E17).keep K25 nin0).keep K32 (ninS ne51 (ninS ne53 nin0))).keep K45 (ninS ne51 (ninS ne53 nin0))).keep K48 nin0)
  refine OwnC.goW (k' := 9) (n' := 216) (OwnC.callerI (xi := Y67) (y := Y68) (a := al) (W := 0) (argsL := [(.ref sa48)]) (rest := []) (pc' := 47) (rc := 1) (rs := 10) (ws' := [al]) hx (hb hby q72_42) (own_w hw 237 rfl) (own_w hw 238 rfl) (own_w hw 239 rfl) (own_w hw 240 rfl) (own_w hw 241 rfl) (own_w hw 242 rfl) (own_w hw 243 rfl) (own_w hw 244 rfl) (by decide) (fun s' hZ => OwnN.Ct.bk (rmADD l Z a0 hw [] al sa48 dE kD h48 n0 O49 g_al f50 f54 f55 f56 E48 SD AD) hZ (own_w hw 245 rfl) (own_w hw 87 rfl) (by decide) (by decide)) f50 hml.symm (lenOf pd_38 rfl) rfl (Nat.le_of_ble_eq_true rfl) rfl (by decide) (by decide)) rfl rfl (allS (Or.inl (List.mem_of_getElem? (i := 0) rfl)) all0) (allS (Or.inr (SafeA.exa f50 (by decide) (by decide))) all0) ?_
  rintro v57 h57 K57 ⟨tb57, kq57, rfl, FE57, FS57, FM57, A57⟩
  refine ⟨[], all0, ?_⟩
  refine Go.sp (g' := (mkF m 49 #[.val (.ref a1), .val (.ref a2)] [(.ref a1)])) (fun T A t r => XS.pop A hx rfl (hb hby q72_47) rfl rfl (XS.aloadN A hx rfl (hb hby q72_48) rfl rfl r)) ?_
  have f58 := (E48.keep K57)
  have ne59 : sa48 ≠ al := ne_exa E48 f50 (by decide)
  have f60 := (C48.keep K57 (ninS ne59 nin0))
  have f61 := (V48.keep K57 (ninS ne59 nin0))
  have ne62 : al ≠ ta48 := Exa.neArv f50 B48 (own_w hw 86 rfl)
  have f63 := (B48.keep K57 (ninS (Ne.symm ne62) nin0))
  exact Go.ret (v := (some (.ref a1))) (fun s' T L_ fs X hr => own_retR X hx hret rfl rfl (hb hby q72_49) hr) (fun h => by rw [hret] at h; cases h) (by decide) (by decide) ⟨_, _, _, _, _, rfl, FE57, FS57, FM57, A57, f58, f60, f61, f63⟩
theorem rmLI1 (l : Launch) (Z : State) (a0 : Array Value) (hw : own_T a0 Z) (wds : List Jvm.Cond) (a1 : Addr) (al : Addr) (a2 : Addr) (t2 : Addr) (k2 : ClassId) (p1 : Int32) (dE : Addr) (kD : ClassId) (zS : Int32) (h0 : Heap) (n0 : Nat) (O0 : Old Z n0 h0) (g_al : n0 ≤ al) (EJ : Exa Z h0 a1 "com/example/typewire/typewire/codegen/JavaFile") (FL : Fld Z h0 a1 "com/example/typewire/typewire/codegen/JavaFile" "lines" "Ljava/util/List;" (.ref al)) (FD : Fld Z h0 a1 "com/example/typewire/typewire/codegen/JavaFile" "depth" "I" (.int 1)) (EL : Exa Z h0 al "java/util/ArrayList") (FE : Fld Z h0 al "java/util/ArrayList" "elementData" "[Ljava/lang/Object;" (.ref dE)) (FS : Fld Z h0 al "java/util/ArrayList" "size" "I" (.int 0)) (FM : Fld Z h0 al "java/util/AbstractList" "modCount" "I" (.int 0)) (E2 : Exa Z h0 a2 "java/lang/String") (C2 : Fld Z h0 a2 "java/lang/String" "coder" "B" (.int 0)) (V2 : Fld Z h0 a2 "java/lang/String" "value" "[B" (.ref t2)) (B2 : Arv Z h0 t2 k2 .byte (Int32.ofNat [p1].length) (own_B [p1]) (.int 0)) (SD : Sta Z Z.heap "java/util/ArrayList" "DEFAULTCAPACITY_EMPTY_ELEMENTDATA" "[Ljava/lang/Object;" (.ref dE)) (AD : Arv Z Z.heap dE kD (.object "java/lang/Object") (0 : Int32) [] .null) (S0 : Sta Z Z.heap "java/lang/String" "COMPACT_STRINGS" "Z" (.int zS)) (P0 : ¬ zS = (0 : Int32)) :
    Ct l Z a0 own_EL Y78 prog_4_method_4_code 2 (some (.object "com/example/typewire/typewire/codegen/JavaFile")) wds (⟨6, 9, 228, 114⟩ : Room) #[(.ref a1), (.ref a2)] n0 h0 [al] (fun v h => ∃ (st ts : Addr) (ks : ClassId) (tb : Addr) (kq : ClassId), v = some (.ref a1) ∧ Fld Z h al "java/util/ArrayList" "elementData" "[Ljava/lang/Object;" (.ref tb) ∧ Fld Z h al "java/util/ArrayList" "size" "I" (.int 1) ∧ Fld Z h al "java/util/AbstractList" "modCount" "I" (.int 1) ∧ Arv Z h tb kq (.object "java/lang/Object") (10 : Int32) [.ref st, .null, .null, .null, .null, .null, .null, .null, .null, .null] .null ∧ Exa Z h st "java/lang/String" ∧ Fld Z h st "java/lang/String" "coder" "B" (.int 0) ∧ Fld Z h st "java/lang/String" "value" "[B" (.ref ts) ∧ Arv Z h ts ks .byte (Int32.ofNat (own_D1 p1).length) (own_B (own_D1 p1)) (.int 0)) := by
  refine Ct.of (plainFor_of_name pn_com_example_typewire_typewire_codegen_JavaFile) O0 (allS g_al all0) (own_EW hw) ?_
  intro p e s m below meth c hx hby hml hret hnm
  refine Go.cast (ef_RR_2 m a1 a2) ?_
  refine Go.sp (g' := (mkF m 1 #[.val (.ref a1), .val (.ref a2)] [(.ref a1)])) (fun T A t r => XS.aloadN A hx rfl (hb hby q72_0) rfl rfl r) ?_
  refine Go.v (g' := (mkF m 4 #[.val (.ref a1), .val (.ref a2)] [(.ref al)])) (fun s' T L_ X eT hZ hown => getF X hx hZ hown (host := "") (Or.inl (own_w hw 104 rfl)) Via.refl eT FL (g := (mkF m 1 #[.val (.ref a1), .val (.ref a2)] [(.ref a1)])) rfl rfl (hb hby q72_1)) ?_
  refine Go.sp (g' := (mkF m 5 #[.val (.ref a1), .val (.ref a2)] [(.ref a2), (.ref al)])) (fun T A t r => XS.aloadN A hx rfl (hb hby q72_4) rfl rfl r) ?_
  refine Go.old fun O11 => ?_
  refine OwnC.goWP (k' := 0) (n' := 0) (OwnC.callerV (y := Y62) (z := Y62) (a := a2) (W := 1) (argsL := []) (rest := [(.ref al)]) (pc' := 8) (rc := 0) (rs := 0) (ws' := []) hx (hb hby q72_5) (own_w hw 113 rfl) (own_w hw 114 rfl) (fun s' hZ => OwnC.own_nf (a1 := #[]) (mvT hZ (own_w hw 116 rfl)) rfl) (own_w hw 116 rfl) (own_w hw 115 rfl) (by decide) (fun s' hZ => OwnN.Ct.bk (rmSE l Z a0 hw [] a2 t2 k2 p1 h0 n0 O11 V2 B2) hZ (own_w hw 117 rfl) (own_w hw 2 rfl) (by decide) (by decide)) E2 hml.symm (lenOf pd_16 rfl) rfl (Nat.le_of_ble_eq_true rfl) rfl (by decide) (by decide)) rfl rfl ?_
  rintro v12 rfl
  refine Go.sp (g' := (mkF m 16 #[.val (.ref a1), .val (.ref a2)] [(.ref al)])) (fun T A t r => XS.ifYes A hx rfl (pc0 := 8) (pc' := 16) rfl (hb hby q72_8) rfl ((if0 _ _).trans (teq (by decide : ((0 : Int32) = (0 : Int32)))).1) (by decide) (by decide) r) ?_
  refine Go.newO (k' := 1) (n' := 4) (pc' := 19) (hb hby q72_16) (own_w hw 118 rfl) (own_w hw 119 rfl) (own_w hw 120 rfl) rfl rfl rfl (by decide) (by decide) ?_
  intro b13 h13 g13 sz13 E13 A13 D13
  have F13_value : Fld Z h13 b13 "java/lang/AbstractStringBuilder" "value" "[B" .null := D13 (Or.inl (own_w hw 133 rfl)) (ty := (.array .byte)) (by decide)
  have F13_coder : Fld Z h13 b13 "java/lang/AbstractStringBuilder" "coder" "B" (.int 0) := D13 (Or.inl (own_w hw 135 rfl)) (ty := .byte) (by decide)
  have F13_count : Fld Z h13 b13 "java/lang/AbstractStringBuilder" "count" "I" (.int 0) := D13 (Or.inl (own_w hw 166 rfl)) (ty := .int) (by decide)
  refine Go.sp (g' := (mkF m 20 #[.val (.ref a1), .val (.ref a2)] [(.ref b13), (.ref b13), (.ref al)])) (fun T A t r => XS.dup A hx rfl (hb hby q72_19) rfl rfl r) ?_
  refine Go.keep fun KK14 => ?_
  refine Go.old fun O15 => ?_
  refine OwnC.goW (k' := 2) (n' := 20) (OwnC.callerC (y := Y63) (a := b13) (W := 2) (argsL := []) (rest := [(.ref b13), (.ref al)]) (pc' := 23) (rc := 1) (rs := 16) (ws' := [b13]) hx (hb hby q72_20) rfl (own_w hw 121 rfl) (own_w hw 122 rfl) (own_w hw 123 rfl) (by decide) (fun s' hZ => OwnN.Ct.bk (rmSBI l Z a0 hw [] b13 zS h13 n0 O15 (Nat.le_trans (Old.le O0) sz13) A13 F13_value F13_coder F13_count S0 P0) hZ (own_w hw 123 rfl) (own_w hw 120 rfl) (by decide) (by decide)) hml.symm (lenOf pd_3 rfl) rfl (Nat.le_of_ble_eq_true rfl) rfl (by decide) (by decide)) rfl rfl (allS (Or.inr sz13) all0) (allS (Or.inl (List.mem_of_getElem? (i := 0) rfl)) all0) ?_
  rintro v16 h16 K16 ⟨t16, kb16, rfl, ge16, V16, C16, N16, B16⟩
  refine ⟨[t16], (allS ⟨ge16, B16.lt⟩ all0), ?_⟩
  refine Go.ldc (vs := (own_B own_4)) (z := (Int32.ofNat own_4.length)) (nn := 16) (k' := 4) (n' := 40) (pc' := 25) (hb hby q72_23) (own_w hw 136 rfl) (own_strA hw) (by decide) (by decide +kernel) (by decide +kernel) (by decide +kernel) (by decide +kernel) (by decide) rfl rfl rfl (by decide) (by decide) ?_
  intro a17 h17 bb17 kb17 E17 A17 C17 V17 B17 ne17
  have nl18 := ne17 t16 (Or.inl (List.mem_of_getElem? (i := 0) rfl))
  have nl19 := ne17 b13 (Or.inl (List.mem_of_getElem? (i := 1) rfl))
  have f20 := (((EL.ext E13).keep K16).ext E17)
  have nl21 := ne17 al (Or.inr (SafeA.exa f20 (by decide) (by decide)))
  refine Go.sp (g' := (mkF m 26 #[.val (.ref a1), .val (.ref a2)] [(.ref a1), (.ref a17), (.ref b13), (.ref al)])) (fun T A t r => XS.aloadN A hx rfl (hb hby q72_25) rfl rfl r) ?_
  have ne22 : a1 ≠ b13 := Nat.ne_of_lt (Nat.lt_of_lt_of_le EJ.lt (Nat.le_of_eq g13.symm))
  have f23 := (((FD.ext E13).keep K16 (ninS ne22 nin0)).ext E17)
  refine Go.v (g' := (mkF m 29 #[.val (.ref a1), .val (.ref a2)] [(.int 1), (.ref a17), (.ref b13), (.ref al)])) (fun s' T L_ X eT hZ hown => getF X hx hZ hown (host := "") (Or.inl (own_w hw 137 rfl)) Via.refl eT f23 (g := (mkF m 26 #[.val (.ref a1), .val (.ref a2)] [(.ref a1), (.ref a17), (.ref b13), (.ref al)])) rfl rfl (hb hby q72_26)) ?_
  refine Go.old fun O24 => ?_
  refine OwnC.goWP (k' := 4) (n' := 40) (OwnC.callerV (y := Y64) (z := Y64) (a := a17) (W := 2) (argsL := [(.int 1)]) (rest := [(.ref b13), (.ref al)]) (pc' := 32) (rc := 0) (rs := 0) (ws' := []) hx (hb hby q72_29) (own_w hw 139 rfl) (own_w hw 140 rfl) (fun s' hZ => OwnC.own_nf (a1 := #[]) (mvT hZ (own_w hw 116 rfl)) rfl) (own_w hw 142 rfl) (own_w hw 141 rfl) (by decide) (fun s' hZ => OwnN.Ct.bk (rmRP1 l Z a0 hw [] a17 h17 n0 O24) hZ (own_w hw 143 rfl) (own_w hw 2 rfl) (by decide) (by decide)) A17 hml.symm (lenOf pd_35 rfl) rfl (Nat.le_of_ble_eq_true rfl) rfl (by decide) (by decide)) rfl rfl ?_
  rintro v25 rfl
  have f26 := ((A13.keep K16).ext E17)
  have f27 := (V16.ext E17)
  have f28 := (C16.ext E17)
  have f29 := (N16.ext E17)
  have f30 := (B16.ext E17)
  refine OwnC.goW (k' := 4) (n' := 40) (OwnC.callerV (y := Y65) (z := Y65) (a := b13) (W := 1) (argsL := [(.ref a17)]) (rest := [(.ref al)]) (pc' := 35) (rc := 0) (rs := 0) (ws' := [b13, t16]) hx (hb hby q72_32) (own_w hw 145 rfl) (own_w hw 146 rfl) (fun s' hZ => OwnC.own_nf (a1 := #[]) (mvT hZ (own_w hw 148 rfl)) rfl) (own_w hw 148 rfl) (own_w hw 147 rfl) (by decide) (fun s' hZ => OwnN.Ct.bk (rmB0 l Z a0 hw [] b13 t16 kb16 16 ([] : List Int32) a17 bb17 kb17 own_4 zS h17 n0 O24 (Nat.le_trans (Old.le O0) sz13) (Nat.le_trans (Old.le O0) (Nat.le_trans KK14.1 ge16)) f26 f27 f28 f29 f30 A17 C17 V17 B17 (Nat.le_of_ble_eq_true rfl) (by decide) S0 P0) hZ (own_w hw 149 rfl) (own_w hw 120 rfl) (by decide) (by decide)) f26 hml.symm (lenOf pd_36 rfl) rfl (Nat.le_of_ble_eq_true rfl) rfl (by decide) (by decide)) rfl rfl (allS (Or.inr sz13) (allS (Or.inr (Nat.le_trans KK14.1 ge16)) all0)) (allS (Or.inl (List.mem_of_getElem? (i := 1) rfl)) (allS (Or.inl (List.mem_of_getElem? (i := 0) rfl)) all0)) ?_
  rintro v31 h31 K31 ⟨rfl, V31, C31, N31, B31⟩
  refine ⟨[], all0, ?_⟩
  refine Go.sp (g' := (mkF m 36 #[.val (.ref a1), .val (.ref a2)] [(.ref a2), (.ref b13), (.ref al)])) (fun T A t r => XS.aloadN A hx rfl (hb hby q72_35) rfl rfl r) ?_
  refine Go.old fun O32 => ?_
  have f33 := (f26.keep K31)
  have f34 := ((((E2.ext E13).keep K16).ext E17).keep K31)
  have ne35 : a2 ≠ b13 := Nat.ne_of_lt (Nat.lt_of_lt_of_le E2.lt (Nat.le_of_eq g13.symm))
  have f36 := (E2.ext E13)
  have ne37 : a2 ≠ t16 := Nat.ne_of_lt (Nat.lt_of_lt_of_le f36.lt ge16)
  have f38 := ((((C2.ext E13).keep K16 (ninS ne35 nin0)).ext E17).keep K31 (ninS ne35 (ninS ne37 nin0)))
  have f39 := ((((V2.ext E13).keep K16 (ninS ne35 nin0)).ext E17).keep K31 (ninS ne35 (ninS ne37 nin0)))
  have ne40 : t2 ≠ b13 := Nat.ne_of_lt (Nat.lt_of_lt_of_le B2.lt (Nat.le_of_eq g13.symm))
  have f41 := (B2.ext E13)
  have ne42 : t2 ≠ t16 := Nat.ne_of_lt (Nat.lt_of_lt_of_le f41.lt ge16)
  have f43 := ((((B2.ext E13).keep K16 (ninS ne40 nin0)).ext E17).keep K31 (ninS ne40 (ninS ne42 nin0)))
  refine OwnC.goW (k' := 4) (n' := 40) (OwnC.callerV (y := Y65) (z := Y65) (a := b13) (W := 1) (argsL := [(.ref a2)]) (rest := [(.ref al)]) (pc' := 39) (rc := 0) (rs := 0) (ws' := [b13, t16]) hx (hb hby q72_36) (own_w hw 145 rfl) (own_w hw 146 rfl) (fun s' hZ => OwnC.own_nf (a1 := #[]) (mvT hZ (own_w hw 148 rfl)) rfl) (own_w hw 148 rfl) (own_w hw 147 rfl) (by decide) (fun s' hZ => OwnN.Ct.bk (rmB0 l Z a0 hw [] b13 t16 kb16 16 (([] : List Int32) ++ own_4) a2 t2 k2 [p1] zS h31 n0 O32 (Nat.le_trans (Old.le O0) sz13) (Nat.le_trans (Old.le O0) (Nat.le_trans KK14.1 ge16)) f33 V31 C31 N31 B31 f34 f38 f39 f43 (Nat.le_of_ble_eq_true rfl) (by decide) S0 P0) hZ (own_w hw 149 rfl) (own_w hw 120 rfl) (by decide) (by decide)) f33 hml.symm (lenOf pd_36 rfl) rfl (Nat.le_of_ble_eq_true rfl) rfl (by decide) (by decide)) rfl rfl (allS (Or.inr sz13) (allS (Or.inr (Nat.le_trans KK14.1 ge16)) all0)) (allS (Or.inl (List.mem_of_getElem? (i := 1) rfl)) (allS (Or.inl (List.mem_of_getElem? (i := 0) rfl)) all0)) ?_
  rintro v44 h44 K44 ⟨rfl, V44, C44, N44, B44⟩
  refine ⟨[], all0, ?_⟩
  refine Go.old fun O45 => ?_
  have f46 := (f33.keep K44)
  refine OwnC.goW (k' := 6) (n' := 202) (OwnC.callerV (y := Y66) (z := Y66) (a := b13) (W := 1) (argsL := []) (rest := [(.ref al)]) (pc' := 42) (rc := 2) (rs := 162) (ws' := []) hx (hb hby q72_39) (own_w hw 192 rfl) (own_w hw 193 rfl) (fun s' hZ => OwnC.own_nf (a1 := #[]) (mvT hZ (own_w hw 148 rfl)) rfl) (own_w hw 195 rfl) (own_w hw 194 rfl) (by decide) (fun s' hZ => OwnN.Ct.bk (rmTO l Z a0 hw [] b13 t16 kb16 16 ((([] : List Int32) ++ own_4) ++ [p1]) zS h44 n0 O45 f46 V44 C44 N44 B44 (Nat.le_of_ble_eq_true rfl) (by decide) S0 P0) hZ (own_w hw 196 rfl) (own_w hw 120 rfl) (by decide) (by decide)) f46 hml.symm (lenOf pd_37 rfl) rfl (Nat.le_of_ble_eq_true rfl) rfl (by decide) (by decide)) rfl rfl all0 all0 ?_
  rintro v47 h47 K47 ⟨sa47, ta47, ka47, rfl, E47, C47, V47, B47⟩
  refine ⟨[], all0, ?_⟩
  refine Go.old fun O48 => ?_
  have f49 := (((f20.keep K31).keep K44).keep K47)
  have ne50 : al ≠ b13 := Nat.ne_of_lt (Nat.lt_of_lt_of_le EL.lt (Nat.le_of_eq g13.symm))
  have f51 := (EL.ext E13)
  have ne52 : al ≠ t16 := Nat.ne_of_lt (Nat.lt_of_lt_of_le f51.lt ge16)
  have f53 := ((((((FE.ext E13).keep K16 (ninS ne50 nin0)).ext E17).keep K31 (ninS ne50 (ninS ne52 nin0))).keep K44 (ninS ne50 (ninS ne52 nin0))).keep K47 nin0)
  have f54 := ((((((FS.ext E13).keep K16 (ninS ne50 nin0)).ext E17).keep K31 (ninS ne50 (ninS ne52 nin0))).keep K44 (ninS ne50 (ninS ne52 nin0))).keep K47 nin0)
  have f55 := ((((((FM.ext E13).keep K16 (ninS ne50 nin0)).ext E17).keep K31 (ninS ne50 (ninS ne52 nin0))).keep K44 (ninS ne50 (ninS ne52 nin0))).keep K47 nin0)
  refine OwnC.goW (k' := 7) (n' := 212) (OwnC.callerI (xi := Y67) (y := Y68) (a := al) (W := 0) (argsL := [(.ref sa47)]) (rest := []) (pc' := 47) (rc := 1) (rs := 10) (ws' := [al]) hx (hb hby q72_42) (own_w hw 237 rfl) (own_w hw 238 rfl) (own_w hw 239 rfl) (own_w hw 240 rfl) (own_w hw 241 rfl) (own_w hw 242 rfl) (own_w hw 243 rfl) (own_w hw 244 rfl) (by decide) (fun s' hZ => OwnN.Ct.bk (rmADD l Z a0 hw [] al sa47 dE kD h47 n0 O48 g_al f49 f53 f54 f55 E47 SD AD) hZ (own_w hw 245 rfl) (own_w hw 87 rfl) (by decide) (by decide)) f49 hml.symm (lenOf pd_38 rfl) rfl (Nat.le_of_ble_eq_true rfl) rfl (by decide) (by decide)) rfl rfl (allS (Or.inl (List.mem_of_getElem? (i := 0) rfl)) all0) (allS (Or.inr (SafeA.exa f49 (by decide) (by decide))) all0) ?_
  rintro v56 h56 K56 ⟨tb56, kq56, rfl, FE56, FS56, FM56, A56⟩
  refine ⟨[], all0, ?_⟩
  refine Go.sp (g' := (mkF m 49 #[.val (.ref a1), .val (.ref a2)] [(.ref a1)])) (fun T A t r => XS.pop A hx rfl (hb hby q72_47) rfl rfl (XS.aloadN A hx rfl (hb hby q72_48) rfl rfl r)) ?_
  have f57 := (E47.keep K56)
  have ne58 : sa47 ≠ al := ne_exa E47 f49 (by decide)
  have f59 := (C47.keep K56 (ninS ne58 nin0))
  have f60 := (V47.keep K56 (ninS ne58 nin0))
  have ne61 : al ≠ ta47 := Exa.neArv f49 B47 (own_w hw 86 rfl)
  have f62 := (B47.keep K56 (ninS (Ne.symm ne61) nin0))
  exact Go.ret (v := (some (.ref a1))) (fun s' T L_ fs X hr => own_retR X hx hret rfl rfl (hb hby q72_49) hr) (fun h => by rw [hret] at h; cases h) (by decide) (by decide) ⟨_, _, _, _, _, rfl, FE56, FS56, FM56, A56, f57, f59, f60, f62⟩
theorem rmLI2 (l : Launch) (Z : State) (a0 : Array Value) (hw : own_T a0 Z) (wds : List Jvm.Cond) (a1 : Addr) (al : Addr) (a2 : Addr) (t2 : Addr) (k2 : ClassId) (p1 : Int32) (dE : Addr) (kD : ClassId) (zS : Int32) (h0 : Heap) (n0 : Nat) (O0 : Old Z n0 h0) (g_al : n0 ≤ al) (EJ : Exa Z h0 a1 "com/example/typewire/typewire/codegen/JavaFile") (FL : Fld Z h0 a1 "com/example/typewire/typewire/codegen/JavaFile" "lines" "Ljava/util/List;" (.ref al)) (FD : Fld Z h0 a1 "com/example/typewire/typewire/codegen/JavaFile" "depth" "I" (.int 2)) (EL : Exa Z h0 al "java/util/ArrayList") (FE : Fld Z h0 al "java/util/ArrayList" "elementData" "[Ljava/lang/Object;" (.ref dE)) (FS : Fld Z h0 al "java/util/ArrayList" "size" "I" (.int 0)) (FM : Fld Z h0 al "java/util/AbstractList" "modCount" "I" (.int 0)) (E2 : Exa Z h0 a2 "java/lang/String") (C2 : Fld Z h0 a2 "java/lang/String" "coder" "B" (.int 0)) (V2 : Fld Z h0 a2 "java/lang/String" "value" "[B" (.ref t2)) (B2 : Arv Z h0 t2 k2 .byte (Int32.ofNat [p1].length) (own_B [p1]) (.int 0)) (SD : Sta Z Z.heap "java/util/ArrayList" "DEFAULTCAPACITY_EMPTY_ELEMENTDATA" "[Ljava/lang/Object;" (.ref dE)) (AD : Arv Z Z.heap dE kD (.object "java/lang/Object") (0 : Int32) [] .null) (S0 : Sta Z Z.heap "java/lang/String" "COMPACT_STRINGS" "Z" (.int zS)) (P0 : ¬ zS = (0 : Int32)) :
    Ct l Z a0 own_EL Y78 prog_4_method_4_code 2 (some (.object "com/example/typewire/typewire/codegen/JavaFile")) wds (⟨6, 9, 228, 114⟩ : Room) #[(.ref a1), (.ref a2)] n0 h0 [al] (fun v h => ∃ (st ts : Addr) (ks : ClassId) (tb : Addr) (kq : ClassId), v = some (.ref a1) ∧ Fld Z h al "java/util/ArrayList" "elementData" "[Ljava/lang/Object;" (.ref tb) ∧ Fld Z h al "java/util/ArrayList" "size" "I" (.int 1) ∧ Fld Z h al "java/util/AbstractList" "modCount" "I" (.int 1) ∧ Arv Z h tb kq (.object "java/lang/Object") (10 : Int32) [.ref st, .null, .null, .null, .null, .null, .null, .null, .null, .null] .null ∧ Exa Z h st "java/lang/String" ∧ Fld Z h st "java/lang/String" "coder" "B" (.int 0) ∧ Fld Z h st "java/lang/String" "value" "[B" (.ref ts) ∧ Arv Z h ts ks .byte (Int32.ofNat (own_D2 p1).length) (own_B (own_D2 p1)) (.int 0)) := by
  refine Ct.of (plainFor_of_name pn_com_example_typewire_typewire_codegen_JavaFile) O0 (allS g_al all0) (own_EW hw) ?_
  intro p e s m below meth c hx hby hml hret hnm
  refine Go.cast (ef_RR_2 m a1 a2) ?_
  refine Go.sp (g' := (mkF m 1 #[.val (.ref a1), .val (.ref a2)] [(.ref a1)])) (fun T A t r => XS.aloadN A hx rfl (hb hby q72_0) rfl rfl r) ?_
  refine Go.v (g' := (mkF m 4 #[.val (.ref a1), .val (.ref a2)] [(.ref al)])) (fun s' T L_ X eT hZ hown => getF X hx hZ hown (host := "") (Or.inl (own_w hw 104 rfl)) Via.refl eT FL (g := (mkF m 1 #[.val (.ref a1), .val (.ref a2)] [(.ref a1)])) rfl rfl (hb hby q72_1)) ?_
  refine Go.sp (g' := (mkF m 5 #[.val (.ref a1), .val (.ref a2)] [(.ref a2), (.ref al)])) (fun T A t r => XS.aloadN A hx rfl (hb hby q72_4) rfl rfl r) ?_
  refine Go.old fun O11 => ?_
  refine OwnC.goWP (k' := 0) (n' := 0) (OwnC.callerV (y := Y62) (z := Y62) (a := a2) (W := 1) (argsL := []) (rest := [(.ref al)]) (pc' := 8) (rc := 0) (rs := 0) (ws' := []) hx (hb hby q72_5) (own_w hw 113 rfl) (own_w hw 114 rfl) (fun s' hZ => OwnC.own_nf (a1 := #[]) (mvT hZ (own_w hw 116 rfl)) rfl) (own_w hw 116 rfl) (own_w hw 115 rfl) (by decide) (fun s' hZ => OwnN.Ct.bk (rmSE l Z a0 hw [] a2 t2 k2 p1 h0 n0 O11 V2 B2) hZ (own_w hw 117 rfl) (own_w hw 2 rfl) (by decide) (by decide)) E2 hml.symm (lenOf pd_16 rfl) rfl (Nat.le_of_ble_eq_true rfl) rfl (by decide) (by decide)) rfl rfl ?_
  rintro v12 rfl
  refine Go.sp (g' := (mkF m 16 #[.val (.ref a1), .val (.ref a2)] [(.ref al)])) (fun T A t r => XS.ifYes A hx rfl (pc0 := 8) (pc' := 16) rfl (hb hby q72_8) rfl ((if0 _ _).trans (teq (by decide : ((0 : Int32) = (0 : Int32)))).1) (by decide) (by decide) r) ?_
  refine Go.newO (k' := 1) (n' := 4) (pc' := 19) (hb hby q72_16) (own_w hw 118 rfl) (own_w hw 119 rfl) (own_w hw 120 rfl) rfl rfl rfl (by decide) (by decide) ?_
  intro b13 h13 g13 sz13 E13 A13 D13
  have F13_value : Fld Z h13 b13 "java/lang/AbstractStringBuilder" "value" "[B" .null := D13 (Or.inl (own_w hw 133 rfl)) (ty := (.array .byte)) (by decide)
  have F13_coder : Fld Z h13 b13 "java/lang/AbstractStringBuilder" "coder" "B" (.int 0) := D13 (Or.inl (own_w hw 135 rfl)) (ty := .byte) (by decide)
  have F13_count : Fld Z h13 b13 "java/lang/AbstractStringBuilder" "count" "I" (.int 0) := D13 (Or.inl (own_w hw 166 rfl)) (ty := .int) (by decide)
  refine Go.sp (g' := (mkF m 20 #[.val (.ref a1), .val (.ref a2)] [(.ref b13), (.ref b13), (.ref al)])) (fun T A t r => XS.dup A hx rfl (hb hby q72_19) rfl rfl r) ?_
  refine Go.keep fun KK14 => ?_
  refine Go.old fun O15 => ?_
  refine OwnC.goW (k' := 2) (n' := 20) (OwnC.callerC (y := Y63) (a := b13) (W := 2) (argsL := []) (rest := [(.ref b13), (.ref al)]) (pc' := 23) (rc := 1) (rs := 16) (ws' := [b13]) hx (hb hby q72_20) rfl (own_w hw 121 rfl) (own_w hw 122 rfl) (own_w hw 123 rfl) (by decide) (fun s' hZ => OwnN.Ct.bk (rmSBI l Z a0 hw [] b13 zS h13 n0 O15 (Nat.le_trans (Old.le O0) sz13) A13 F13_value F13_coder F13_count S0 P0) hZ (own_w hw 123 rfl) (own_w hw 120 rfl) (by decide) (by decide)) hml.symm (lenOf pd_3 rfl) rfl (Nat.le_of_ble_eq_true rfl) rfl (by decide) (by decide)) rfl rfl (allS (Or.inr sz13) all0) (allS (Or.inl (List.mem_of_getElem? (i := 0) rfl)) all0) ?_
  rintro v16 h16 K16 ⟨t16, kb16, rfl, ge16, V16, C16, N16, B16⟩
  refine ⟨[t16], (allS ⟨ge16, B16.lt⟩ all0), ?_⟩
  refine Go.ldc (vs := (own_B own_4)) (z := (Int32.ofNat own_4.length)) (nn := 16) (k' := 4) (n' := 40) (pc' := 25) (hb hby q72_23) (own_w hw 136 rfl) (own_strA hw) (by decide) (by decide +kernel) (by decide +kernel) (by decide +kernel) (by decide +kernel) (by decide) rfl rfl rfl (by decide) (by decide) ?_
  intro a17 h17 bb17 kb17 E17 A17 C17 V17 B17 ne17
  have nl18 := ne17 t16 (Or.inl (List.mem_of_getElem? (i := 0) rfl))
  have nl19 := ne17 b13 (Or.inl (List.mem_of_getElem? (i := 1) rfl))
  have f20 := (((EL.ext E13).keep K16).ext E17)
  have nl21 := ne17 al (Or.inr (SafeA.exa f20 (by decide) (by decide)))
  refine Go.sp (g' := (mkF m 26 #[.val (.ref a1), .val (.ref a2)] [(.ref a1), (.ref a17), (.ref b13), (.ref al)])) (fun T A t r => XS.aloadN A hx rfl (hb hby q72_25) rfl rfl r) ?_
  have ne22 : a1 ≠ b13 := Nat.ne_of_lt (Nat.lt_of_lt_of_le EJ.lt (Nat.le_of_eq g13.symm))
  have f23 := (((FD.ext E13).keep K16 (ninS ne22 nin0)).ext E17)
  refine Go.v (g' := (mkF m 29 #[.val (.ref a1), .val (.ref a2)] [(.int 2), (.ref a17), (.ref b13), (.ref al)])) (fun s' T L_ X eT hZ hown => getF X hx hZ hown (host := "") (Or.inl (own_w hw 137 rfl)) Via.refl eT f23 (g := (mkF m 26 #[.val (.ref a1), .val (.ref a2)] [(.ref a1), (.ref a17), (.ref b13), (.ref al)])) rfl rfl (hb hby q72_26)) ?_
  refine Go.old fun O24 => ?_
  refine OwnC.goW (k' := 6) (n' := 52) (OwnC.callerV (y := Y64) (z := Y64) (a := a17) (W := 2) (argsL := [(.int 2)]) (rest := [(.ref b13), (.ref al)]) (pc' := 32) (rc := 2) (rs := 12) (ws' := []) hx (hb hby q72_29) (own_w hw 139 rfl) (own_w hw 140 rfl) (fun s' hZ => OwnC.own_nf (a1 := #[]) (mvT hZ (own_w hw 116 rfl)) rfl) (own_w hw 142 rfl) (own_w hw 141 rfl) (by decide) (fun s' hZ => OwnN.Ct.bk (rmRP2 l Z a0 hw [] a17 bb17 kb17 h17 n0 O24 C17 V17 B17) hZ (own_w hw 143 rfl) (own_w hw 2 rfl) (by decide) (by decide)) A17 hml.symm (lenOf pd_35 rfl) rfl (Nat.le_of_ble_eq_true rfl) rfl (by decide) (by decide)) rfl rfl all0 all0 ?_
  rintro v25 h25 K25 ⟨sa25, ta25, ka25, rfl, E25, C25, V25, B25⟩
  refine ⟨[], all0, ?_⟩
  refine Go.old fun O26 => ?_
  have f27 := (((A13.keep K16).ext E17).keep K25)
  have f28 := ((V16.ext E17).keep K25 nin0)
  have f29 := ((C16.ext E17).keep K25 nin0)
  have f30 := ((N16.ext E17).keep K25 nin0)
  have f31 := ((B16.ext E17).keep K25 nin0)
  refine OwnC.goW (k' := 6) (n' := 52) (OwnC.callerV (y := Y65) (z := Y65) (a := b13) (W := 1) (argsL := [(.ref sa25)]) (rest := [(.ref al)]) (pc' := 35) (rc := 0) (rs := 0) (ws' := [b13, t16]) hx (hb hby q72_32) (own_w hw 145 rfl) (own_w hw 146 rfl) (fun s' hZ => OwnC.own_nf (a1 := #[]) (mvT hZ (own_w hw 148 rfl)) rfl) (own_w hw 148 rfl) (own_w hw 147 rfl) (by decide) (fun s' hZ => OwnN.Ct.bk (rmB0 l Z a0 hw [] b13 t16 kb16 16 ([] : List Int32) sa25 ta25 ka25 (own_4 ++ own_4) zS h25 n0 O26 (Nat.le_trans (Old.le O0) sz13) (Nat.le_trans (Old.le O0) (Nat.le_trans KK14.1 ge16)) f27 f28 f29 f30 f31 E25 C25 V25 B25 (Nat.le_of_ble_eq_true rfl) (by decide) S0 P0) hZ (own_w hw 149 rfl) (own_w hw 120 rfl) (by decide) (by decide)) f27 hml.symm (lenOf pd_36 rfl) rfl (Nat.le_of_ble_eq_true rfl) rfl (by decide) (by decide)) rfl rfl (allS (Or.inr sz13) (allS (Or.inr (Nat.le_trans KK14.1 ge16)) all0)) (allS (Or.inl (List.mem_of_getElem? (i := 1) rfl)) (allS (Or.inl (List.mem_of_getElem? (i := 0) rfl)) all0)) ?_
  rintro v32 h32 K32 ⟨rfl, V32, C32, N32, B32⟩
  refine ⟨[], all0, ?_⟩
  refine Go.sp (g' := (mkF m 36 #[.val (.ref a1), .val (.ref a2)] [(.ref a2), (.ref b13), (.ref al)])) (fun T A t r => XS.aloadN A hx rfl (hb hby q72_35) rfl rfl r) ?_
  refine Go.old fun O33 => ?_
  have f34 := (f27.keep K32)
  have f35 := (((((E2.ext E13).keep K16).ext E17).keep K25).keep K32)
  have ne36 : a2 ≠ b13 := Nat.ne_of_lt (Nat.lt_of_lt_of_le E2.lt (Nat.le_of_eq g13.symm))
  have f37 := (E2.ext E13)
  have ne38 : a2 ≠ t16 := Nat.ne_of_lt (Nat.lt_of_lt_of_le f37.lt ge16)
  have f39 := (((((C2.ext E13).keep K16 (ninS ne36 nin0)).ext E17).keep K25 nin0).keep K32 (ninS ne36 (ninS ne38 nin0)))
  have f40 := (((((V2.ext E13).keep K16 (ninS ne36 nin0)).ext E17).keep K25 nin0).keep K32 (ninS ne36 (ninS ne38 nin0)))
  have ne41 : t2 ≠ b13 := Nat.ne_of_lt (Nat.lt_of_lt_of_le B2.lt (Nat.le_of_eq g13.symm))
  have f42 := (B2.ext E13)
  have ne43 : t2 ≠ t16 := Nat.ne_of_lt (Nat.lt_of_lt_of_le f42.lt ge16)
  have f44 := (((((B2.ext E13).keep K16 (ninS ne41 nin0)).ext E17).keep K25 nin0).keep K32 (ninS ne41 (ninS ne43 nin0)))
  refine OwnC.goW (k' := 6) (n' := 52) (OwnC.callerV (y := Y65) (z := Y65) (a := b13) (W := 1) (argsL := [(.ref a2)]) (rest := [(.ref al)]) (pc' := 39) (rc := 0) (rs := 0) (ws' := [b13, t16]) hx (hb hby q72_36) (own_w hw 145 rfl) (own_w hw 146 rfl) (fun s' hZ => OwnC.own_nf (a1 := #[]) (mvT hZ (own_w hw 148 rfl)) rfl) (own_w hw 148 rfl) (own_w hw 147 rfl) (by decide) (fun s' hZ => OwnN.Ct.bk (rmB0 l Z a0 hw [] b13 t16 kb16 16 (([] : List Int32) ++ (own_4 ++ own_4)) a2 t2 k2 [p1] zS h32 n0 O33 (Nat.le_trans (Old.le O0) sz13) (Nat.le_trans (Old.le O0) (Nat.le_trans KK14.1 ge16)) f34 V32 C32 N32 B32 f35 f39 f40 f44 (Nat.le_of_ble_eq_true rfl) (by decide) S0 P0) hZ (own_w hw 149 rfl) (own_w hw 120 rfl) (by decide) (by decide)) f34 hml.symm (lenOf pd_36 rfl) rfl (Nat.le_of_ble_eq_true rfl) rfl (by decide) (by decide)) rfl rfl (allS (Or.inr sz13) (allS (Or.inr (Nat.le_trans KK14.1 ge16)) all0)) (allS (Or.inl (List.mem_of_getElem? (i := 1) rfl)) (allS (Or.inl (List.mem_of_getElem? (i := 0) rfl)) all0)) ?_
  rintro v45 h45 K45 ⟨rfl, V45, C45, N45, B45⟩
  refine ⟨[], all0, ?_⟩
  refine Go.old fun O46 => ?_
  have f47 := (f34.keep K45)
  refine OwnC.goW (k' := 8) (n' := 214) (OwnC.callerV (y := Y66) (z := Y66) (a := b13) (W := 1) (argsL := []) (rest := [(.ref al)]) (pc' := 42) (rc := 2) (rs := 162) (ws' := []) hx (hb hby q72_39) (own_w hw 192 rfl) (own_w hw 193 rfl) (fun s' hZ => OwnC.own_nf (a1 := #[]) (mvT hZ (own_w hw 148 rfl)) rfl) (own_w hw 195 rfl) (own_w hw 194 rfl) (by decide) (fun s' hZ => OwnN.Ct.bk (rmTO l Z a0 hw [] b13 t16 kb16 16 ((([] : List Int32) ++ (own_4 ++ own_4)) ++ [p1]) zS h45 n0 O46 f47 V45 C45 N45 B45 (Nat.le_of_ble_eq_true rfl) (by decide) S0 P0) hZ (own_w hw 196 rfl) (own_w hw 120 rfl) (by decide) (by decide)) f47 hml.symm (lenOf pd_37 rfl) rfl (Nat.le_of_ble_eq_true rfl) rfl (by decide) (by decide)) rfl rfl all0 all0 ?_
  rintro v48 h48 K48 ⟨sa48, ta48, ka48, rfl, E48, C48, V48, B48⟩
  refine ⟨[], all0, ?_⟩
  refine Go.old fun O49 => ?_
  have f50 := ((((f20.keep K25).keep K32).keep K45).keep K48)
  have ne51 : al ≠ b13 := Nat.ne_of_lt (Nat.lt_of_lt_of_le EL.lt (Nat.le_of_eq g13.symm))
  have f52 := (EL.ext E13)
  have ne53 : al ≠ t16 := Nat.ne_of_lt (Nat.lt_of_lt_of_le f52.lt ge16)
  have f54 := (((((((FE.ext E13).keep K16 (ninS ne51 nin0)).ext E17).keep K25 nin0).keep K32 (ninS ne51 (ninS ne53 nin0))).keep K45 (ninS ne51 (ninS ne53 nin0))).keep K48 nin0)
  have f55 := (((((((FS.ext E13).keep K16 (ninS ne51 nin0)).ext E17).keep K25 nin0).keep K32 (ninS ne51 (ninS ne53 nin0))).keep K45 (ninS ne51 (ninS ne53 nin0))).keep K48 nin0)
  have f56 := (((((((FM.ext E13).keep K16 (ninS ne51 nin0)).ext E17).keep K25 nin0).keep K32 (ninS ne51 (ninS ne53 nin0))).keep K45 (ninS ne51 (ninS ne53 nin0))).keep K48 nin0)
  refine OwnC.goW (k' := 9) (n' := 224) (OwnC.callerI (xi := Y67) (y := Y68) (a := al) (W := 0) (argsL := [(.ref sa48)]) (rest := []) (pc' := 47) (rc := 1) (rs := 10) (ws' := [al]) hx (hb hby q72_42) (own_w hw 237 rfl) (own_w hw 238 rfl) (own_w hw 239 rfl) (own_w hw 240 rfl) (own_w hw 241 rfl) (own_w hw 242 rfl) (own_w hw 243 rfl) (own_w hw 244 rfl) (by decide) (fun s' hZ => OwnN.Ct.bk (rmADD l Z a0 hw [] al sa48 dE kD h48 n0 O49 g_al f50 f54 f55 f56 E48 SD AD) hZ (own_w hw 245 rfl) (own_w hw 87 rfl) (by decide) (by decide)) f50 hml.symm (lenOf pd_38 rfl) rfl (Nat.le_of_ble_eq_true rfl) rfl (by decide) (by decide)) rfl rfl (allS (Or.inl (List.mem_of_getElem? (i := 0) rfl)) all0) (allS (Or.inr (SafeA.exa f50 (by decide) (by decide))) all0) ?_
  rintro v57 h57 K57 ⟨tb57, kq57, rfl, FE57, FS57, FM57, A57⟩
  refine ⟨[], all0, ?_⟩
  refine Go.sp (g' := (mkF m 49 #[.val (.ref a1), .val (.ref a2)] [(.ref a1)])) (fun T A t r => XS.pop A hx rfl (hb hby q72_47) rfl rfl (XS.aloadN A hx rfl (hb hby q72_48) rfl rfl r)) ?_
  have f58 := (E48.keep K57)
  have ne59 : sa48 ≠ al := ne_exa E48 f50 (by decide)
  have f60 := (C48.keep K57 (ninS ne59 nin0))
  have f61 := (V48.keep K57 (ninS ne59 nin0))
  have ne62 : al ≠ ta48 := Exa.neArv f50 B48 (own_w hw 86 rfl)
  have f63 := (B48.keep K57 (ninS (Ne.symm ne62) nin0))
  exact Go.ret (v := (some (.ref a1))) (fun s' T L_ fs X hr => own_retR X hx hret rfl rfl (hb hby q72_49) hr) (fun h => by rw [hret] at h; cases h) (by decide) (by decide) ⟨_, _, _, _, _, rfl, FE57, FS57, FM57, A57, f58, f60, f61, f63⟩
theorem rmLI3 (l : Launch) (Z : State) (a0 : Array Value) (hw : own_T a0 Z) (wds : List Jvm.Cond) (a1 : Addr) (al : Addr) (a2 : Addr) (t2 : Addr) (k2 : ClassId) (p1 : Int32) (dE : Addr) (kD : ClassId) (zS : Int32) (h0 : Heap) (n0 : Nat) (O0 : Old Z n0 h0) (g_al : n0 ≤ al) (EJ : Exa Z h0 a1 "com/example/typewire/typewire/codegen/JavaFile") (FL : Fld Z h0 a1 "com/example/typewire/typewire/codegen/JavaFile" "lines" "Ljava/util/List;" (.ref al)) (FD : Fld Z h0 a1 "com/example/typewire/typewire/codegen/JavaFile" "depth" "I" (.int 3)) (EL : Exa Z h0 al "java/util/ArrayList") (FE : Fld Z h0 al "java/util/ArrayList" "elementData" "[Ljava/lang/Object;" (.ref dE)) (FS : Fld Z h0 al "java/util/ArrayList" "size" "I" (.int 0)) (FM : Fld Z h0 al "java/util/AbstractList" "modCount" "I" (.int 0)) (E2 : Exa Z h0 a2 "java/lang/String") (C2 : Fld Z h0 a2 "java/lang/String" "coder" "B" (.int 0)) (V2 : Fld Z h0 a2 "java/lang/String" "value" "[B" (.ref t2)) (B2 : Arv Z h0 t2 k2 .byte (Int32.ofNat [p1].length) (own_B [p1]) (.int 0)) (SD : Sta Z Z.heap "java/util/ArrayList" "DEFAULTCAPACITY_EMPTY_ELEMENTDATA" "[Ljava/lang/Object;" (.ref dE)) (AD : Arv Z Z.heap dE kD (.object "java/lang/Object") (0 : Int32) [] .null) (S0 : Sta Z Z.heap "java/lang/String" "COMPACT_STRINGS" "Z" (.int zS)) (P0 : ¬ zS = (0 : Int32)) :
    Ct l Z a0 own_EL Y78 prog_4_method_4_code 2 (some (.object "com/example/typewire/typewire/codegen/JavaFile")) wds (⟨6, 9, 228, 114⟩ : Room) #[(.ref a1), (.ref a2)] n0 h0 [al] (fun v h => ∃ (st ts : Addr) (ks : ClassId) (tb : Addr) (kq : ClassId), v = some (.ref a1) ∧ Fld Z h al "java/util/ArrayList" "elementData" "[Ljava/lang/Object;" (.ref tb) ∧ Fld Z h al "java/util/ArrayList" "size" "I" (.int 1) ∧ Fld Z h al "java/util/AbstractList" "modCount" "I" (.int 1) ∧ Arv Z h tb kq (.object "java/lang/Object") (10 : Int32) [.ref st, .null, .null, .null, .null, .null, .null, .null, .null, .null] .null ∧ Exa Z h st "java/lang/String" ∧ Fld Z h st "java/lang/String" "coder" "B" (.int 0) ∧ Fld Z h st "java/lang/String" "value" "[B" (.ref ts) ∧ Arv Z h ts ks .byte (Int32.ofNat (own_D3 p1).length) (own_B (own_D3 p1)) (.int 0)) := by
  refine Ct.of (plainFor_of_name pn_com_example_typewire_typewire_codegen_JavaFile) O0 (allS g_al all0) (own_EW hw) ?_
  intro p e s m below meth c hx hby hml hret hnm
  refine Go.cast (ef_RR_2 m a1 a2) ?_
  refine Go.sp (g' := (mkF m 1 #[.val (.ref a1), .val (.ref a2)] [(.ref a1)])) (fun T A t r => XS.aloadN A hx rfl (hb hby q72_0) rfl rfl r) ?_
  refine Go.v (g' := (mkF m 4 #[.val (.ref a1), .val (.ref a2)] [(.ref al)])) (fun s' T L_ X eT hZ hown => getF X hx hZ hown (host := "") (Or.inl (own_w hw 104 rfl)) Via.refl eT FL (g := (mkF m 1 #[.val (.ref a1), .val (.ref a2)] [(.ref a1)])) rfl rfl (hb hby q72_1)) ?_
  refine Go.sp (g' := (mkF m 5 #[.val (.ref a1), .val (.ref a2)] [(.ref a2), (.ref al)])) (fun T A t r => XS.aloadN A hx rfl (hb hby q72_4) rfl rfl r) ?_
  refine Go.old fun O11 => ?_
  refine OwnC.goWP (k' := 0) (n' := 0) (OwnC.callerV (y := Y62) (z := Y62) (a := a2) (W := 1) (argsL := []) (rest := [(.ref al)]) (pc' := 8) (rc := 0) (rs := 0) (ws' := []) hx (hb hby q72_5) (own_w hw 113 rfl) (own_w hw 114 rfl) (fun s' hZ => OwnC.own_nf (a1 := #[]) (mvT hZ (own_w hw 116 rfl)) rfl) (own_w hw 116 rfl) (own_w hw 115 rfl) (by decide) (fun s' hZ => OwnN.Ct.bk (rmSE l Z a0 hw [] a2 t2 k2 p1 h0 n0 O11 V2 B2) hZ (own_w hw 117 rfl) (own_w hw 2 rfl) (by decide) (by decide)) E2 hml.symm (lenOf pd_16 rfl) rfl (Nat.le_of_ble_eq_true rfl) rfl (by decide) (by decide)) rfl rfl ?_
  rintro v12 rfl
  refine Go.sp (g' := (mkF m 16 #[.val (.ref a1), .val (.ref a2)] [(.ref al)])) (fun T A t r => XS.ifYes A hx rfl (pc0 := 8) (pc' := 16) rfl (hb hby q72_8) rfl ((if0 _ _).trans (teq (by decide : ((0 : Int32) = (0 : Int32)))).1) (by decide) (by decide) r) ?_
  refine Go.newO (k' := 1) (n' := 4) (pc' := 19) (hb hby q72_16) (own_w hw 118 rfl) (own_w hw 119 rfl) (own_w hw 120 rfl) rfl rfl rfl (by decide) (by decide) ?_
  intro b13 h13 g13 sz13 E13 A13 D13
  have F13_value : Fld Z h13 b13 "java/lang/AbstractStringBuilder" "value" "[B" .null := D13 (Or.inl (own_w hw 133 rfl)) (ty := (.array .byte)) (by decide)
  have F13_coder : Fld Z h13 b13 "java/lang/AbstractStringBuilder" "coder" "B" (.int 0) := D13 (Or.inl (own_w hw 135 rfl)) (ty := .byte) (by decide)
  have F13_count : Fld Z h13 b13 "java/lang/AbstractStringBuilder" "count" "I" (.int 0) := D13 (Or.inl (own_w hw 166 rfl)) (ty := .int) (by decide)
  refine Go.sp (g' := (mkF m 20 #[.val (.ref a1), .val (.ref a2)] [(.ref b13), (.ref b13), (.ref al)])) (fun T A t r => XS.dup A hx rfl (hb hby q72_19) rfl rfl r) ?_
  refine Go.keep fun KK14 => ?_
  refine Go.old fun O15 => ?_
  refine OwnC.goW (k' := 2) (n' := 20) (OwnC.callerC (y := Y63) (a := b13) (W := 2) (argsL := []) (rest := [(.ref b13), (.ref al)]) (pc' := 23) (rc := 1) (rs := 16) (ws' := [b13]) hx (hb hby q72_20) rfl (own_w hw 121 rfl) (own_w hw 122 rfl) (own_w hw 123 rfl) (by decide) (fun s' hZ => OwnN.Ct.bk (rmSBI l Z a0 hw [] b13 zS h13 n0 O15 (Nat.le_trans (Old.le O0) sz13) A13 F13_value F13_coder F13_count S0 P0) hZ (own_w hw 123 rfl) (own_w hw 120 rfl) (by decide) (by decide)) hml.symm (lenOf pd_3 rfl) rfl (Nat.le_of_ble_eq_true rfl) rfl (by decide) (by decide)) rfl rfl (allS (Or.inr sz13) all0) (allS (Or.inl (List.mem_of_getElem? (i := 0) rfl)) all0) ?_
  rintro v16 h16 K16 ⟨t16, kb16, rfl, ge16, V16, C16, N16, B16⟩
  refine ⟨[t16], (allS ⟨ge16, B16.lt⟩ all0), ?_⟩
  refine Go.ldc (vs := (own_B own_4)) (z := (Int32.ofNat own_4.length)) (nn := 16) (k' := 4) (n' := 40) (pc' := 25) (hb hby q72_23) (own_w hw 136 rfl) (own_strA hw) (by decide) (by decide +kernel) (by decide +kernel) (by decide +kernel) (by decide +kernel) (by decide) rfl rfl rfl (by decide) (by decide) ?_
  intro a17 h17 bb17 kb17 E17 A17 C17 V17 B17 ne17
  have nl18 := ne17 t16 (Or.inl (List.mem_of_getElem? (i := 0) rfl))
  have nl19 := ne17 b13 (Or.inl (List.mem_of_getElem? (i := 1) rfl))
  have f20 := (((EL.ext E13).keep K16).ext E17)
  have nl21 := ne17 al (Or.inr (SafeA.exa f20 (by decide) (by decide)))
  refine Go.sp (g' := (mkF m 26 #[.val (.ref a1), .val (.ref a2)] [(.ref a1), (.ref a17), (.ref b13), (.ref al)])) (fun T A t r => XS.aloadN A hx rfl (hb hby q72_25) rfl rfl r) ?_
  have ne22 : a1 ≠ b13 := Nat.ne_of_lt (Nat.lt_of_lt_of_le EJ.lt (Nat.le_of_eq g13.symm))
  have f23 := (((FD.ext E13).keep K16 (ninS ne22 nin0)).ext E17)
  refine Go.v (g' := (mkF m 29 #[.val (.ref a1), .val (.ref a2)] [(.int 3), (.ref a17), (.ref b13), (.ref al)])) (fun s' T L_ X eT hZ hown => getF X hx hZ hown (host := "") (Or.inl (own_w hw 137 rfl)) Via.refl eT f23 (g := (mkF m 26 #[.val (.ref a1), .val (.ref a2)] [(.ref a1), (.ref a17), (.ref b13), (.ref al)])) rfl rfl (hb hby q72_26)) ?_
  refine Go.old fun O24 => ?_
  refine OwnC.goW (k' := 6) (n' := 56) (OwnC.callerV (y := Y64) (z := Y64) (a := a17) (W := 2) (argsL := [(.int 3)]) (rest := [(.ref b13), (.ref al)]) (pc' := 32) (rc := 2) (rs := 16) (ws' := []) hx (hb hby q72_29) (own_w hw 139 rfl) (own_w hw 140 rfl) (fun s' hZ => OwnC.own_nf (a1 := #[]) (mvT hZ (own_w hw 116 rfl)) rfl) (own_w hw 142 rfl) (own_w hw 141 rfl) (by decide) (fun s' hZ => OwnN.Ct.bk (rmRP3 l Z a0 hw [] a17 bb17 kb17 h17 n0 O24 C17 V17 B17) hZ (own_w hw 143 rfl) (own_w hw 2 rfl) (by decide) (by decide)) A17 hml.symm (lenOf pd_35 rfl) rfl (Nat.le_of_ble_eq_true rfl) rfl (by decide) (by decide)) rfl rfl all0 all0 ?_
  rintro v25 h25 K25 ⟨sa25, ta25, ka25, rfl, E25, C25, V25, B25⟩
  refine ⟨[], all0, ?_⟩
  refine Go.old fun O26 => ?_
  have f27 := (((A13.keep K16).ext E17).keep K25)
  have f28 := ((V16.ext E17).keep K25 nin0)
  have f29 := ((C16.ext E17).keep K25 nin0)
  have f30 := ((N16.ext E17).keep K25 nin0)
  have f31 := ((B16.ext E17).keep K25 nin0)
  refine OwnC.goW (k' := 6) (n' := 56) (OwnC.callerV (y := Y65) (z := Y65) (a := b13) (W := 1) (argsL := [(.ref sa25)]) (rest := [(.ref al)]) (pc' := 35) (rc := 0) (rs := 0) (ws' := [b13, t16]) hx (hb hby q72_32) (own_w hw 145 rfl) (own_w hw 146 rfl) (fun s' hZ => OwnC.own_nf (a1 := #[]) (mvT hZ (own_w hw 148 rfl)) rfl) (own_w hw 148 rfl) (own_w hw 147 rfl) (by decide) (fun s' hZ => OwnN.Ct.bk (rmB0 l Z a0 hw [] b13 t16 kb16 16 ([] : List Int32) sa25 ta25 ka25 ((own_4 ++ own_4) ++ own_4) zS h25 n0 O26 (Nat.le_trans (Old.le O0) sz13) (Nat.le_trans (Old.le O0) (Nat.le_trans KK14.1 ge16)) f27 f28 f29 f30 f31 E25 C25 V25 B25 (Nat.le_of_ble_eq_true rfl) (by decide) S0 P0) hZ (own_w hw 149 rfl) (own_w hw 120 rfl) (by decide) (by decide)) f27 hml.symm (lenOf pd_36 rfl) rfl (Nat.le_of_ble_eq_true rfl) rfl (by decide) (by decide)) rfl rfl (allS (Or.inr sz13) (allS (Or.inr (Nat.le_trans KK14.1 ge16)) all0)) (allS (Or.inl (List.mem_of_getElem? (i := 1) rfl)) (allS (Or.inl (List.mem_of_getElem? (i := 0) rfl)) all0)) ?_
  rintro v32 h32 K32 ⟨rfl, V32, C32, N32, B32⟩
  refine ⟨[], all0, ?_⟩
  refine Go.sp (g' := (mkF m 36 #[.val (.ref a1), .val (.ref a2)] [(.ref a2), (.ref b13), (.ref al)])) (fun T A t r => XS.aloadN A hx rfl (hb hby q72_35) rfl rfl r) ?_
  refine Go.old fun O33 => ?_
  have f34 := (f27.keep K32)
  have f35 := (((((E2.ext E13).keep K16).ext E17).keep K25).keep K32)
  have ne36 : a2 ≠ b13 := Nat.ne_of_lt (Nat.lt_of_lt_of_le E2.lt (Nat.le_of_eq g13.symm))
  have f37 := (E2.ext E13)
  have ne38 : a2 ≠ t16 := Nat.ne_of_lt (Nat.lt_of_lt_of_le f37.lt ge16)
  have f39 := (((((C2.ext E13).keep K16 (ninS ne36 nin0)).ext E17).keep K25 nin0).keep K32 (ninS ne36 (ninS ne38 nin0)))
  have f40 := (((((V2.ext E13).keep K16 (ninS ne36 nin0)).ext E17).keep K25 nin0).keep K32 (ninS ne36 (ninS ne38 nin0)))
  have ne41 : t2 ≠ b13 := Nat.ne_of_lt (Nat.lt_of_lt_of_le B2.lt (Nat.le_of_eq g13.symm))
  have f42 := (B2.ext E13)
  have ne43 : t2 ≠ t16 := Nat.ne_of_lt (Nat.lt_of_lt_of_le f42.lt ge16)
  have f44 := (((((B2.ext E13).keep K16 (ninS ne41 nin0)).ext E17).keep K25 nin0).keep K32 (ninS ne41 (ninS ne43 nin0)))
  refine OwnC.goW (k' := 6) (n' := 56) (OwnC.callerV (y := Y65) (z := Y65) (a := b13) (W := 1) (argsL := [(.ref a2)]) (rest := [(.ref al)]) (pc' := 39) (rc := 0) (rs := 0) (ws' := [b13, t16]) hx (hb hby q72_36) (own_w hw 145 rfl) (own_w hw 146 rfl) (fun s' hZ => OwnC.own_nf (a1 := #[]) (mvT hZ (own_w hw 148 rfl)) rfl) (own_w hw 148 rfl) (own_w hw 147 rfl) (by decide) (fun s' hZ => OwnN.Ct.bk (rmB0 l Z a0 hw [] b13 t16 kb16 16 (([] : List Int32) ++ ((own_4 ++ own_4) ++ own_4)) a2 t2 k2 [p1] zS h32 n0 O33 (Nat.le_trans (Old.le O0) sz13) (Nat.le_trans (Old.le O0) (Nat.le_trans KK14.1 ge16)) f34 V32 C32 N32 B32 f35 f39 f40 f44 (Nat.le_of_ble_eq_true rfl) (by decide) S0 P0) hZ (own_w hw 149 rfl) (own_w hw 120 rfl) (by decide) (by decide)) f34 hml.symm (lenOf pd_36 rfl) rfl (Nat.le_of_ble_eq_true rfl) rfl (by decide) (by decide)) rfl rfl (allS (Or.inr sz13) (allS (Or.inr (Nat.le_trans KK14.1 ge16)) all0)) (allS (Or.inl (List.mem_of_getElem? (i := 1) rfl)) (allS (Or.inl (List.mem_of_getElem? (i := 0) rfl)) all0)) ?_
  rintro v45 h45 K45 ⟨rfl, V45, C45, N45, B45⟩
  refine ⟨[], all0, ?_⟩
  refine Go.old fun O46 => ?_
  have f47 := (f34.keep K45)
  refine OwnC.goW (k' := 8) (n' := 218) (OwnC.callerV (y := Y66) (z := Y66) (a := b13) (W := 1) (argsL := []) (rest := [(.ref al)]) (pc' := 42) (rc := 2) (rs := 162) (ws' := []) hx (hb hby q72_39) (own_w hw 192 rfl) (own_w hw 193 rfl) (fun s' hZ => OwnC.own_nf (a1 := #[]) (mvT hZ (own_w hw 148 rfl)) rfl) (own_w hw 195 rfl) (own_w hw 194 rfl) (by decide) (fun s' hZ => OwnN.Ct.bk (rmTO l Z a0 hw [] b13 t16 kb16 16 ((([] : List Int32) ++ ((own_4 ++ own_4) ++ own_4)) ++ [p1]) zS h45 n0 O46 f47 V45 C45 N45 B45 (Nat.le_of_ble_eq_true rfl) (by decide) S0 P0) hZ (own_w hw 196 rfl) (own_w hw 120 rfl) (by decide) (by decide)) f47 hml.symm (lenOf pd_37 rfl) rfl (Nat.le_of_ble_eq_true rfl) rfl (by decide) (by decide)) rfl rfl all0 all0 ?_
  rintro v48 h48 K48 ⟨sa48, ta48, ka48, rfl, E48, C48, V48, B48⟩
  refine ⟨[], all0, ?_⟩
  refine Go.old fun O49 => ?_
  have f50 := ((((f20.keep K25).keep K32).keep K45).keep K48)
  have ne51 : al ≠ b13 := Nat.ne_of_lt (Nat.lt_of_lt_of_le EL.lt (Nat.le_of_eq g13.symm))
  have f52 := (EL.ext E13)
  have ne53 : al ≠ t16 := Nat.ne_of_lt (Nat.lt_of_lt_of_le f52.lt ge16)
  have f54 := (((((((FE.ext E13).keep K16 (ninS ne51 nin0)).ext E17).keep K25 nin0).keep K32 (ninS ne51 (ninS ne53 nin0))).keep K45 (ninS ne51 (ninS ne53 nin0))).keep K48 nin0)
  have f55 := (((((((FS.ext E13).keep K16 (ninS ne51 nin0)).ext E17).keep K25 nin0).keep K32 (ninS ne51 (ninS ne53 nin0))).keep K45 (ninS ne51 (ninS ne53 nin0))).keep K48 nin0)
  have f56 := (((((((FM.ext E13).keep K16 (ninS ne51 nin0)).ext E17).keep K25 nin0).keep K32 (ninS ne51 (ninS ne53 nin0))).keep K45 (ninS ne51 (ninS ne53 nin0))).keep K48 nin0)
  refine OwnC.goW (k' := 9) (n' := 228) (OwnC.callerI (xi := Y67) (y := Y68) (a := al) (W := 0) (argsL := [(.ref sa48)]) (rest := []) (pc' := 47) (rc := 1) (rs := 10) (ws' := [al]) hx (hb hby q72_42) (own_w hw 237 rfl) (own_w hw 238 rfl) (own_w hw 239 rfl) (own_w hw 240 rfl) (own_w hw 241 rfl) (own_w hw 242 rfl) (own_w hw 243 rfl) (own_w hw 244 rfl) (by decide) (fun s' hZ => OwnN.Ct.bk (rmADD l Z a0 hw [] al sa48 dE kD h48 n0 O49 g_al f50 f54 f55 f56 E48 SD AD) hZ (own_w hw 245 rfl) (own_w hw 87 rfl) (by decide) (by decide)) f50 hml.symm (lenOf pd_38 rfl) rfl (Nat.le_of_ble_eq_true rfl) rfl (by decide) (by decide)) rfl rfl (allS (Or.inl (List.mem_of_getElem? (i := 0) rfl)) all0) (allS (Or.inr (SafeA.exa f50 (by decide) (by decide))) all0) ?_
  rintro v57 h57 K57 ⟨tb57, kq57, rfl, FE57, FS57, FM57, A57⟩
  refine ⟨[], all0, ?_⟩
  refine Go.sp (g' := (mkF m 49 #[.val (.ref a1), .val (.ref a2)] [(.ref a1)])) (fun T A t r => XS.pop A hx rfl (hb hby q72_47) rfl rfl (XS.aloadN A hx rfl (hb hby q72_48) rfl rfl r)) ?_
  have f58 := (E48.keep K57)
  have ne59 : sa48 ≠ al := ne_exa E48 f50 (by decide)
  have f60 := (C48.keep K57 (ninS ne59 nin0))
  have f61 := (V48.keep K57 (ninS ne59 nin0))
  have ne62 : al ≠ ta48 := Exa.neArv f50 B48 (own_w hw 86 rfl)
  have f63 := (B48.keep K57 (ninS (Ne.symm ne62) nin0))
  exact Go.ret (v := (some (.ref a1))) (fun s' T L_ fs X hr => own_retR X hx hret rfl rfl (hb hby q72_49) hr) (fun h => by rw [hret] at h; cases h) (by decide) (by decide) ⟨_, _, _, _, _, rfl, FE57, FS57, FM57, A57, f58, f60, f61, f63⟩
theorem rmTX (l : Launch) (Z : State) (a0 : Array Value) (hw : own_T a0 Z) (wds : List Jvm.Cond) (a1 : Addr) (s1 : Addr) (m1 : Addr) (s2 : Addr) (m2 : Addr) (al : Addr) (tb : Addr) (kq : ClassId) (st : Addr) (ts : Addr) (ks : ClassId) (ds : List Int32) (a2 : Addr) (t2 : Addr) (k2 : ClassId) (a3 : Addr) (t3 : Addr) (k3 : ClassId) (zS : Int32) (h0 : Heap) (n0 : Nat) (O0 : Old Z n0 h0) (g_m1 : n0 ≤ m1) (g_m2 : n0 ≤ m2) (EJ : Exa Z h0 a1 "com/example/typewire/typewire/codegen/JavaFile") (J1 : Fld Z h0 a1 "com/example/typewire/typewire/codegen/JavaFile" "javaImports" "Ljava/util/TreeSet;" (.ref s1)) (J2 : Fld Z h0 a1 "com/example/typewire/typewire/codegen/JavaFile" "otherImports" "Ljava/util/TreeSet;" (.ref s2)) (J3 : Fld Z h0 a1 "com/example/typewire/typewire/codegen/JavaFile" "lines" "Ljava/util/List;" (.ref al)) (X0 : Exa Z h0 s1 "java/util/TreeSet") (X1 : Fld Z h0 s1 "java/util/TreeSet" "m" "Ljava/util/NavigableMap;" (.ref m1)) (X2 : Exa Z h0 m1 "java/util/TreeMap") (X3 : Fld Z h0 m1 "java/util/TreeMap" "size" "I" (.int 0)) (X4 : Fld Z h0 m1 "java/util/TreeMap" "modCount" "I" (.int 0)) (X5 : Fld Z h0 m1 "java/util/TreeMap" "root" "Ljava/util/TreeMap$Entry;" .null) (X6 : Fld Z h0 m1 "java/util/TreeMap" "navigableKeySet" "Ljava/util/TreeMap$KeySet;" .null) (Y0 : Exa Z h0 s2 "java/util/TreeSet") (Y1 : Fld Z h0 s2 "java/util/TreeSet" "m" "Ljava/util/NavigableMap;" (.ref m2)) (Y2 : Exa Z h0 m2 "java/util/TreeMap") (Y3 : Fld Z h0 m2 "java/util/TreeMap" "size" "I" (.int 0)) (Y4 : Fld Z h0 m2 "java/util/TreeMap" "modCount" "I" (.int 0)) (Y5 : Fld Z h0 m2 "java/util/TreeMap" "root" "Ljava/util/TreeMap$Entry;" .null) (Y6 : Fld Z h0 m2 "java/util/TreeMap" "navigableKeySet" "Ljava/util/TreeMap$KeySet;" .null) (hne : m1 ≠ m2) (EL : Exa Z h0 al "java/util/ArrayList") (FE : Fld Z h0 al "java/util/ArrayList" "elementData" "[Ljava/lang/Object;" (.ref tb)) (FS : Fld Z h0 al "java/util/ArrayList" "size" "I" (.int 1)) (FM : Fld Z h0 al "java/util/AbstractList" "modCount" "I" (.int 1)) (AT : Arv Z h0 tb kq (.object "java/lang/Object") (10 : Int32) [.ref st, .null, .null, .null, .null, .null, .null, .null, .null, .null] .null) (Es : Exa Z h0 st "java/lang/String") (Cs : Fld Z h0 st "java/lang/String" "coder" "B" (.int 0)) (Vs : Fld Z h0 st "java/lang/String" "value" "[B" (.ref ts)) (Bs : Arv Z h0 ts ks .byte (Int32.ofNat ds.length) (own_B ds) (.int 0)) (E2 : Exa Z h0 a2 "java/lang/String") (C2 : Fld Z h0 a2 "java/lang/String" "coder" "B" (.int 0)) (V2 : Fld Z h0 a2 "java/lang/String" "value" "[B" (.ref t2)) (B2 : Arv Z h0 t2 k2 .byte (Int32.ofNat [112].length) (own_B [112]) (.int 0)) (E3 : Exa Z h0 a3 "java/lang/String") (C3 : Fld Z h0 a3 "java/lang/String" "coder" "B" (.int 0)) (V3 : Fld Z h0 a3 "java/lang/String" "value" "[B" (.ref t3)) (B3 : Arv Z h0 t3 k3 .byte (Int32.ofNat [115].length) (own_B [115]) (.int 0)) (hd : ds.length ≤ 13) (S0 : Sta Z Z.heap "java/lang/String" "COMPACT_STRINGS" "Z" (.int zS)) (P0 : ¬ zS = (0 : Int32)) :
    Ct l Z a0 own_EL Y79 prog_4_method_13_code 6 (some (.object "java/lang/String")) wds (⟨7, 20, 914, 113⟩ : Room) #[(.ref a1), (.ref a2), (.ref a3)] n0 h0 [m1, m2] (fun v h => ∃ (sa ta : Addr) (ka : ClassId), v = some (.ref sa) ∧ Exa Z h sa "java/lang/String" ∧ Fld Z h sa "java/lang/String" "coder" "B" (.int 0) ∧ Fld Z h sa "java/lang/String" "value" "[B" (.ref ta) ∧ Arv Z h ta ka .byte (Int32.ofNat (own_X ds).length) (own_B (own_X ds)) (.int 0)) := by
  refine Ct.of (plainFor_of_name pn_com_example_typewire_typewire_codegen_JavaFile) O0 (allS g_m1 (allS g_m2 all0)) (own_EW hw) ?_
  intro p e s m below meth c hx hby hml hret hnm
  refine Go.cast (ef_RRR_6 m a1 a2 a3) ?_
  refine Go.newO (k' := 1) (n' := 4) (pc' := 3) (hb hby q73_0) (own_w hw 118 rfl) (own_w hw 119 rfl) (own_w hw 120 rfl) rfl rfl rfl (by decide) (by decide) ?_
  intro b11 h11 g11 sz11 E11 A11 D11
  have F11_value : Fld Z h11 b11 "java/lang/AbstractStringBuilder" "value" "[B" .null := D11 (Or.inl (own_w hw 133 rfl)) (ty := (.array .byte)) (by decide)
  have F11_coder : Fld Z h11 b11 "java/lang/AbstractStringBuilder" "coder" "B" (.int 0) := D11 (Or.inl (own_w hw 135 rfl)) (ty := .byte) (by decide)
  have F11_count : Fld Z h11 b11 "java/lang/AbstractStringBuilder" "count" "I" (.int 0) := D11 (Or.inl (own_w hw 166 rfl)) (ty := .int) (by decide)
  refine Go.sp (g' := (mkF m 4 #[.val (.ref a1), .val (.ref a2), .val (.ref a3), .unset, .unset, .unset] [(.ref b11), (.ref b11)])) (fun T A t r => XS.dup A hx rfl (hb hby q73_3) rfl rfl r) ?_
  refine Go.keep fun KK12 => ?_
  refine Go.old fun O13 => ?_
  refine OwnC.goW (k' := 2) (n' := 20) (OwnC.callerC (y := Y63) (a := b11) (W := 1) (argsL := []) (rest := [(.ref b11)]) (pc' := 7) (rc := 1) (rs := 16) (ws' := [b11]) hx (hb hby q73_4) rfl (own_w hw 121 rfl) (own_w hw 122 rfl) (own_w hw 123 rfl) (by decide) (fun s' hZ => OwnN.Ct.bk (rmSBI l Z a0 hw [] b11 zS h11 n0 O13 (Nat.le_trans (Old.le O0) sz11) A11 F11_value F11_coder F11_count S0 P0) hZ (own_w hw 123 rfl) (own_w hw 120 rfl) (by decide) (by decide)) hml.symm (lenOf pd_3 rfl) rfl (Nat.le_of_ble_eq_true rfl) rfl (by decide) (by decide)) rfl rfl (allS (Or.inr sz11) all0) (allS (Or.inl (List.mem_of_getElem? (i := 0) rfl)) all0) ?_
  rintro v14 h14 K14 ⟨t14, kb14, rfl, ge14, V14, C14, N14, B14⟩
  refine ⟨[t14], (allS ⟨ge14, B14.lt⟩ all0), ?_⟩
  refine Go.sp (g' := (mkF m 9 #[.val (.ref a1), .val (.ref a2), .val (.ref a3), .val (.ref b11), .unset, .unset] [(.ref b11)])) (fun T A t r => XS.astoreN A hx rfl (hb hby q73_7) rfl rfl (l' := #[.val (.ref a1), .val (.ref a2), .val (.ref a3), .val (.ref b11), .unset, .unset]) rfl (XS.aloadN A hx rfl (hb hby q73_8) rfl rfl r)) ?_
  refine Go.ldc (vs := (own_B own_L127)) (z := (Int32.ofNat own_L127.length)) (nn := 152) (k' := 4) (n' := 176) (pc' := 11) (hb hby q73_9) (own_w hw 278 rfl) (own_strA hw) (by decide) (by decide +kernel) (by decide +kernel) (by decide +kernel) (by decide +kernel) (by decide) rfl rfl rfl (by decide) (by decide) ?_
  intro a15 h15 bb15 kb15 E15 A15 C15 V15 B15 ne15
  have nl16 := ne15 t14 (Or.inl (List.mem_of_getElem? (i := 0) rfl))
  have nl17 := ne15 b11 (Or.inl (List.mem_of_getElem? (i := 1) rfl))
  have f18 := (((X2.ext E11).keep K14).ext E15)
  have nl19 := ne15 m1 (Or.inr (SafeA.exa f18 (by decide) (by decide)))
  have f20 := (((Y2.ext E11).keep K14).ext E15)
  have nl21 := ne15 m2 (Or.inr (SafeA.exa f20 (by decide) (by decide)))
  refine Go.keep fun KK22 => ?_
  refine Go.old fun O23 => ?_
  have f24 := ((A11.keep K14).ext E15)
  have f25 := (V14.ext E15)
  have f26 := (C14.ext E15)
  have f27 := (N14.ext E15)
  have f28 := (B14.ext E15)
  refine OwnC.goW (k' := 5) (n' := 214) (OwnC.callerV (y := Y65) (z := Y65) (a := b11) (W := 0) (argsL := [(.ref a15)]) (rest := []) (pc' := 14) (rc := 1) (rs := 38) (ws' := [b11]) hx (hb hby q73_11) (own_w hw 145 rfl) (own_w hw 146 rfl) (fun s' hZ => OwnC.own_nf (a1 := #[]) (mvT hZ (own_w hw 148 rfl)) rfl) (own_w hw 148 rfl) (own_w hw 147 rfl) (by decide) (fun s' hZ => OwnN.Ct.bk (rmBg0 l Z a0 hw [] b11 t14 kb14 ([] : List Int32) a15 bb15 kb15 own_L127 zS h15 n0 O23 (Nat.le_trans (Old.le O0) sz11) f24 f25 f26 f27 f28 A15 C15 V15 B15 (by decide +kernel) (by decide +kernel) S0 P0) hZ (own_w hw 149 rfl) (own_w hw 120 rfl) (by decide) (by decide)) f24 hml.symm (lenOf pd_36 rfl) rfl (Nat.le_of_ble_eq_true rfl) rfl (by decide) (by decide)) rfl rfl (allS (Or.inr sz11) all0) (allS (Or.inl (List.mem_of_getElem? (i := 1) rfl)) all0) ?_
  rintro v29 h29 K29 ⟨t29, kb29, rfl, ge29, V29, C29, N29, B29⟩
  refine ⟨[t29], (allS ⟨ge29, B29.lt⟩ all0), ?_⟩
  refine Go.sp (g' := (mkF m 15 #[.val (.ref a1), .val (.ref a2), .val (.ref a3), .val (.ref b11), .unset, .unset] [(.ref a3), (.ref b11)])) (fun T A t r => XS.aloadN A hx rfl (hb hby q73_14) rfl rfl r) ?_
  refine Go.keep fun KK30 => ?_
  refine Go.old fun O31 => ?_
  have f32 := (f24.keep K29)
  have f33 := ((((E3.ext E11).keep K14).ext E15).keep K29)
  have ne34 : a3 ≠ b11 := Nat.ne_of_lt (Nat.lt_of_lt_of_le E3.lt (Nat.le_of_eq g11.symm))
  have f35 := ((((C3.ext E11).keep K14 (ninS ne34 nin0)).ext E15).keep K29 (ninS ne34 nin0))
  have f36 := ((((V3.ext E11).keep K14 (ninS ne34 nin0)).ext E15).keep K29 (ninS ne34 nin0))
  have ne37 : t3 ≠ b11 := Nat.ne_of_lt (Nat.lt_of_lt_of_le B3.lt (Nat.le_of_eq g11.symm))
  have f38 := ((((B3.ext E11).keep K14 (ninS ne37 nin0)).ext E15).keep K29 (ninS ne37 nin0))
  refine OwnC.goW (k' := 6) (n' := 292) (OwnC.callerV (y := Y65) (z := Y65) (a := b11) (W := 0) (argsL := [(.ref a3)]) (rest := []) (pc' := 18) (rc := 1) (rs := 78) (ws' := [b11]) hx (hb hby q73_15) (own_w hw 145 rfl) (own_w hw 146 rfl) (fun s' hZ => OwnC.own_nf (a1 := #[]) (mvT hZ (own_w hw 148 rfl)) rfl) (own_w hw 148 rfl) (own_w hw 147 rfl) (by decide) (fun s' hZ => OwnN.Ct.bk (rmBg1 l Z a0 hw [] b11 t29 kb29 (([] : List Int32) ++ own_L127) a3 t3 k3 [115] zS h29 n0 O31 (Nat.le_trans (Old.le O0) sz11) f32 V29 C29 N29 B29 f33 f35 f36 f38 (by decide +kernel) (by decide +kernel) S0 P0) hZ (own_w hw 149 rfl) (own_w hw 120 rfl) (by decide) (by decide)) f32 hml.symm (lenOf pd_36 rfl) rfl (Nat.le_of_ble_eq_true rfl) rfl (by decide) (by decide)) rfl rfl (allS (Or.inr sz11) all0) (allS (Or.inl (List.mem_of_getElem? (i := 2) rfl)) all0) ?_
  rintro v39 h39 K39 ⟨t39, kb39, rfl, ge39, V39, C39, N39, B39⟩
  refine ⟨[t39], (allS ⟨ge39, B39.lt⟩ all0), ?_⟩
  refine Go.ldc (vs := (own_B own_L129)) (z := (Int32.ofNat own_L129.length)) (nn := 232) (k' := 8) (n' := 528) (pc' := 20) (hb hby q73_18) (own_w hw 294 rfl) (own_strA hw) (by decide) (by decide +kernel) (by decide +kernel) (by decide +kernel) (by decide +kernel) (by decide) rfl rfl rfl (by decide) (by decide) ?_
  intro a40 h40 bb40 kb40 E40 A40 C40 V40 B40 ne40
  have nl41 := ne40 t39 (Or.inl (List.mem_of_getElem? (i := 0) rfl))
  have nl42 := ne40 t29 (Or.inl (List.mem_of_getElem? (i := 1) rfl))
  have nl43 := ne40 t14 (Or.inl (List.mem_of_getElem? (i := 2) rfl))
  have nl44 := ne40 b11 (Or.inl (List.mem_of_getElem? (i := 3) rfl))
  have f45 := (((f18.keep K29).keep K39).ext E40)
  have nl46 := ne40 m1 (Or.inr (SafeA.exa f45 (by decide) (by decide)))
  have f47 := (((f20.keep K29).keep K39).ext E40)
  have nl48 := ne40 m2 (Or.inr (SafeA.exa f47 (by decide) (by decide)))
  refine Go.keep fun KK49 => ?_
  refine Go.old fun O50 => ?_
  have f51 := ((f32.keep K39).ext E40)
  have f52 := (V39.ext E40)
  have f53 := (C39.ext E40)
  have f54 := (N39.ext E40)
  have f55 := (B39.ext E40)
  refine OwnC.goW (k' := 9) (n' := 686) (OwnC.callerV (y := Y65) (z := Y65) (a := b11) (W := 0) (argsL := [(.ref a40)]) (rest := []) (pc' := 23) (rc := 1) (rs := 158) (ws' := [b11]) hx (hb hby q73_20) (own_w hw 145 rfl) (own_w hw 146 rfl) (fun s' hZ => OwnC.own_nf (a1 := #[]) (mvT hZ (own_w hw 148 rfl)) rfl) (own_w hw 148 rfl) (own_w hw 147 rfl) (by decide) (fun s' hZ => OwnN.Ct.bk (rmBg2 l Z a0 hw [] b11 t39 kb39 ((([] : List Int32) ++ own_L127) ++ [115]) a40 bb40 kb40 own_L129 zS h40 n0 O50 (Nat.le_trans (Old.le O0) sz11) f51 f52 f53 f54 f55 A40 C40 V40 B40 (by decide +kernel) (by decide +kernel) S0 P0) hZ (own_w hw 149 rfl) (own_w hw 120 rfl) (by decide) (by decide)) f51 hml.symm (lenOf pd_36 rfl) rfl (Nat.le_of_ble_eq_true rfl) rfl (by decide) (by decide)) rfl rfl (allS (Or.inr sz11) all0) (allS (Or.inl (List.mem_of_getElem? (i := 3) rfl)) all0) ?_
  rintro v56 h56 K56 ⟨t56, kb56, rfl, ge56, V56, C56, N56, B56⟩
  refine ⟨[t56], (allS ⟨ge56, B56.lt⟩ all0), ?_⟩
  refine Go.sp (g' := (mkF m 25 #[.val (.ref a1), .val (.ref a2), .val (.ref a3), .val (.ref b11), .unset, .unset] [(.ref b11)])) (fun T A t r => XS.pop A hx rfl (hb hby q73_23) rfl rfl (XS.aloadN A hx rfl (hb hby q73_24) rfl rfl r)) ?_
  refine Go.ldc (vs := (own_B own_L131)) (z := (Int32.ofNat own_L131.length)) (nn := 32) (k' := 11) (n' := 722) (pc' := 27) (hb hby q73_25) (own_w hw 295 rfl) (own_strA hw) (by decide) (by decide +kernel) (by decide +kernel) (by decide +kernel) (by decide +kernel) (by decide) rfl rfl rfl (by decide) (by decide) ?_
  intro a57 h57 bb57 kb57 E57 A57 C57 V57 B57 ne57
  have nl58 := ne57 t56 (Or.inl (List.mem_of_getElem? (i := 0) rfl))
  have nl59 := ne57 t39 (Or.inl (List.mem_of_getElem? (i := 1) rfl))
  have nl60 := ne57 t29 (Or.inl (List.mem_of_getElem? (i := 2) rfl))
  have nl61 := ne57 t14 (Or.inl (List.mem_of_getElem? (i := 3) rfl))
  have nl62 := ne57 b11 (Or.inl (List.mem_of_getElem? (i := 4) rfl))
  have f63 := ((f45.keep K56).ext E57)
  have nl64 := ne57 m1 (Or.inr (SafeA.exa f63 (by decide) (by decide)))
  have f65 := ((f47.keep K56).ext E57)
  have nl66 := ne57 m2 (Or.inr (SafeA.exa f65 (by decide) (by decide)))
  refine Go.old fun O67 => ?_
  have f68 := ((f51.keep K56).ext E57)
  have f69 := (V56.ext E57)
  have f70 := (C56.ext E57)
  have f71 := (N56.ext E57)
  have f72 := (B56.ext E57)
  refine OwnC.goW (k' := 11) (n' := 722) (OwnC.callerV (y := Y65) (z := Y65) (a := b11) (W := 0) (argsL := [(.ref a57)]) (rest := []) (pc' := 30) (rc := 0) (rs := 0) (ws' := [b11, t56]) hx (hb hby q73_27) (own_w hw 145 rfl) (own_w hw 146 rfl) (fun s' hZ => OwnC.own_nf (a1 := #[]) (mvT hZ (own_w hw 148 rfl)) rfl) (own_w hw 148 rfl) (own_w hw 147 rfl) (by decide) (fun s' hZ => OwnN.Ct.bk (rmB0 l Z a0 hw [] b11 t56 kb56 158 (((([] : List Int32) ++ own_L127) ++ [115]) ++ own_L129) a57 bb57 kb57 own_L131 zS h57 n0 O67 (Nat.le_trans (Old.le O0) sz11) (Nat.le_trans (Old.le O0) (Nat.le_trans KK49.1 ge56)) f68 f69 f70 f71 f72 A57 C57 V57 B57 (by decide +kernel) (by decide) S0 P0) hZ (own_w hw 149 rfl) (own_w hw 120 rfl) (by decide) (by decide)) f68 hml.symm (lenOf pd_36 rfl) rfl (Nat.le_of_ble_eq_true rfl) rfl (by decide) (by decide)) rfl rfl (allS (Or.inr sz11) (allS (Or.inr (Nat.le_trans KK49.1 ge56)) all0)) (allS (Or.inl (List.mem_of_getElem? (i := 4) rfl)) (allS (Or.inl (List.mem_of_getElem? (i := 0) rfl)) all0)) ?_
  rintro v73 h73 K73 ⟨rfl, V73, C73, N73, B73⟩
  refine ⟨[], all0, ?_⟩
  refine Go.sp (g' := (mkF m 31 #[.val (.ref a1), .val (.ref a2), .val (.ref a3), .val (.ref b11), .unset, .unset] [(.ref a2), (.ref b11)])) (fun T A t r => XS.aloadN A hx rfl (hb hby q73_30) rfl rfl r) ?_
  refine Go.old fun O74 => ?_
  have f75 := (f68.keep K73)
  have f76 := (((((((((E2.ext E11).keep K14).ext E15).keep K29).keep K39).ext E40).keep K56).ext E57).keep K73)
  have ne77 : a2 ≠ b11 := Nat.ne_of_lt (Nat.lt_of_lt_of_le E2.lt (Nat.le_of_eq g11.symm))
  have f78 := ((((((E2.ext E11).keep K14).ext E15).keep K29).keep K39).ext E40)
  have ne79 : a2 ≠ t56 := Nat.ne_of_lt (Nat.lt_of_lt_of_le f78.lt ge56)
  have f80 := (((((((((C2.ext E11).keep K14 (ninS ne77 nin0)).ext E15).keep K29 (ninS ne77 nin0)).keep K39 (ninS ne77 nin0)).ext E40).keep K56 (ninS ne77 nin0)).ext E57).keep K73 (ninS ne77 (ninS ne79 nin0)))
  have f81 := (((((((((V2.ext E11).keep K14 (ninS ne77 nin0)).ext E15).keep K29 (ninS ne77 nin0)).keep K39 (ninS ne77 nin0)).ext E40).keep K56 (ninS ne77 nin0)).ext E57).keep K73 (ninS ne77 (ninS ne79 nin0)))
  have ne82 : t2 ≠ b11 := Nat.ne_of_lt (Nat.lt_of_lt_of_le B2.lt (Nat.le_of_eq g11.symm))
  have f83 := ((((((B2.ext E11).keep K14 (ninS ne82 nin0)).ext E15).keep K29 (ninS ne82 nin0)).keep K39 (ninS ne82 nin0)).ext E40)
  have ne84 : t2 ≠ t56 := Nat.ne_of_lt (Nat.lt_of_lt_of_le f83.lt ge56)
  have f85 := (((((((((B2.ext E11).keep K14 (ninS ne82 nin0)).ext E15).keep K29 (ninS ne82 nin0)).keep K39 (ninS ne82 nin0)).ext E40).keep K56 (ninS ne82 nin0)).ext E57).keep K73 (ninS ne82 (ninS ne84 nin0)))
  refine OwnC.goW (k' := 11) (n' := 722) (OwnC.callerV (y := Y65) (z := Y65) (a := b11) (W := 0) (argsL := [(.ref a2)]) (rest := []) (pc' := 34) (rc := 0) (rs := 0) (ws' := [b11, t56]) hx (hb hby q73_31) (own_w hw 145 rfl) (own_w hw 146 rfl) (fun s' hZ => OwnC.own_nf (a1 := #[]) (mvT hZ (own_w hw 148 rfl)) rfl) (own_w hw 148 rfl) (own_w hw 147 rfl) (by decide) (fun s' hZ => OwnN.Ct.bk (rmB0 l Z a0 hw [] b11 t56 kb56 158 ((((([] : List Int32) ++ own_L127) ++ [115]) ++ own_L129) ++ own_L131) a2 t2 k2 [112] zS h73 n0 O74 (Nat.le_trans (Old.le O0) sz11) (Nat.le_trans (Old.le O0) (Nat.le_trans KK49.1 ge56)) f75 V73 C73 N73 B73 f76 f80 f81 f85 (by decide +kernel) (by decide) S0 P0) hZ (own_w hw 149 rfl) (own_w hw 120 rfl) (by decide) (by decide)) f75 hml.symm (lenOf pd_36 rfl) rfl (Nat.le_of_ble_eq_true rfl) rfl (by decide) (by decide)) rfl rfl (allS (Or.inr sz11) (allS (Or.inr (Nat.le_trans KK49.1 ge56)) all0)) (allS (Or.inl (List.mem_of_getElem? (i := 4) rfl)) (allS (Or.inl (List.mem_of_getElem? (i := 0) rfl)) all0)) ?_
  rintro v86 h86 K86 ⟨rfl, V86, C86, N86, B86⟩
  refine ⟨[], all0, ?_⟩
  refine Go.ldc (vs := (own_B own_L133)) (z := (Int32.ofNat own_L133.length)) (nn := 12) (k' := 13) (n' := 738) (pc' := 36) (hb hby q73_34) (own_w hw 296 rfl) (own_strA hw) (by decide) (by decide +kernel) (by decide +kernel) (by decide +kernel) (by decide +kernel) (by decide) rfl rfl rfl (by decide) (by decide) ?_
  intro a87 h87 bb87 kb87 E87 A87 C87 V87 B87 ne87
  have nl88 := ne87 t56 (Or.inl (List.mem_of_getElem? (i := 0) rfl))
  have nl89 := ne87 t39 (Or.inl (List.mem_of_getElem? (i := 1) rfl))
  have nl90 := ne87 t29 (Or.inl (List.mem_of_getElem? (i := 2) rfl))
  have nl91 := ne87 t14 (Or.inl (List.mem_of_getElem? (i := 3) rfl))
  have nl92 := ne87 b11 (Or.inl (List.mem_of_getElem? (i := 4) rfl))
  have f93 := (((f63.keep K73).keep K86).ext E87)
  have nl94 := ne87 m1 (Or.inr (SafeA.exa f93 (by decide) (by decide)))
  have f95 := (((f65.keep K73).keep K86).ext E87)
  have nl96 := ne87 m2 (Or.inr (SafeA.exa f95 (by decide) (by decide)))
  refine Go.old fun O97 => ?_
  have f98 := ((f75.keep K86).ext E87)
  have f99 := (V86.ext E87)
  have f100 := (C86.ext E87)
  have f101 := (N86.ext E87)
  have f102 := (B86.ext E87)
  refine OwnC.goW (k' := 13) (n' := 738) (OwnC.callerV (y := Y65) (z := Y65) (a := b11) (W := 0) (argsL := [(.ref a87)]) (rest := []) (pc' := 39) (rc := 0) (rs := 0) (ws' := [b11, t56]) hx (hb hby q73_36) (own_w hw 145 rfl) (own_w hw 146 rfl) (fun s' hZ => OwnC.own_nf (a1 := #[]) (mvT hZ (own_w hw 148 rfl)) rfl) (own_w hw 148 rfl) (own_w hw 147 rfl) (by decide) (fun s' hZ => OwnN.Ct.bk (rmB0 l Z a0 hw [] b11 t56 kb56 158 (((((([] : List Int32) ++ own_L127) ++ [115]) ++ own_L129) ++ own_L131) ++ [112]) a87 bb87 kb87 own_L133 zS h87 n0 O97 (Nat.le_trans (Old.le O0) sz11) (Nat.le_trans (Old.le O0) (Nat.le_trans KK49.1 ge56)) f98 f99 f100 f101 f102 A87 C87 V87 B87 (by decide +kernel) (by decide) S0 P0) hZ (own_w hw 149 rfl) (own_w hw 120 rfl) (by decide) (by decide)) f98 hml.symm (lenOf pd_36 rfl) rfl (Nat.le_of_ble_eq_true rfl) rfl (by decide) (by decide)) rfl rfl (allS (Or.inr sz11) (allS (Or.inr (Nat.le_trans KK49.1 ge56)) all0)) (allS (Or.inl (List.mem_of_getElem? (i := 4) rfl)) (allS (Or.inl (List.mem_of_getElem? (i := 0) rfl)) all0)) ?_
  rintro v103 h103 K103 ⟨rfl, V103, C103, N103, B103⟩
  refine ⟨[], all0, ?_⟩
  refine Go.sp (g' := (mkF m 42 #[.val (.ref a1), .val (.ref a2), .val (.ref a3), .val (.ref b11), .unset, .unset] [(.ref a1), (.ref b11)])) (fun T A t r => XS.pop A hx rfl (hb hby q73_39) rfl rfl (XS.aloadN A hx rfl (hb hby q73_40) rfl rfl (XS.aloadN A hx rfl (hb hby q73_41) rfl rfl r))) ?_
  have ne104 : a1 ≠ b11 := Nat.ne_of_lt (Nat.lt_of_lt_of_le EJ.lt (Nat.le_of_eq g11.symm))
  have f105 := ((((((EJ.ext E11).keep K14).ext E15).keep K29).keep K39).ext E40)
  have ne106 : a1 ≠ t56 := Nat.ne_of_lt (Nat.lt_of_lt_of_le f105.lt ge56)
  have f107 := ((((((((((((J1.ext E11).keep K14 (ninS ne104 nin0)).ext E15).keep K29 (ninS ne104 nin0)).keep K39 (ninS ne104 nin0)).ext E40).keep K56 (ninS ne104 nin0)).ext E57).keep K73 (ninS ne104 (ninS ne106 nin0))).keep K86 (ninS ne104 (ninS ne106 nin0))).ext E87).keep K103 (ninS ne104 (ninS ne106 nin0)))
  refine Go.v (g' := (mkF m 45 #[.val (.ref a1), .val (.ref a2), .val (.ref a3), .val (.ref b11), .unset, .unset] [(.ref s1), (.ref b11)])) (fun s' T L_ X eT hZ hown => getF X hx hZ hown (host := "") (Or.inl (own_w hw 81 rfl)) Via.refl eT f107 (g := (mkF m 42 #[.val (.ref a1), .val (.ref a2), .val (.ref a3), .val (.ref b11), .unset, .unset] [(.ref a1), (.ref b11)])) rfl rfl (hb hby q73_42)) ?_
  refine Go.old fun O108 => ?_
  have f109 := ((((((((((((X0.ext E11).keep K14).ext E15).keep K29).keep K39).ext E40).keep K56).ext E57).keep K73).keep K86).ext E87).keep K103)
  have ne110 : s1 ≠ b11 := Nat.ne_of_lt (Nat.lt_of_lt_of_le X0.lt (Nat.le_of_eq g11.symm))
  have f111 := ((((((X0.ext E11).keep K14).ext E15).keep K29).keep K39).ext E40)
  have ne112 : s1 ≠ t56 := Nat.ne_of_lt (Nat.lt_of_lt_of_le f111.lt ge56)
  have f113 := ((((((((((((X1.ext E11).keep K14 (ninS ne110 nin0)).ext E15).keep K29 (ninS ne110 nin0)).keep K39 (ninS ne110 nin0)).ext E40).keep K56 (ninS ne110 nin0)).ext E57).keep K73 (ninS ne110 (ninS ne112 nin0))).keep K86 (ninS ne110 (ninS ne112 nin0))).ext E87).keep K103 (ninS ne110 (ninS ne112 nin0)))
  have f114 := (f93.keep K103)
  have ne115 : m1 ≠ b11 := Nat.ne_of_lt (Nat.lt_of_lt_of_le X2.lt (Nat.le_of_eq g11.symm))
  have ne116 : m1 ≠ t56 := Nat.ne_of_lt (Nat.lt_of_lt_of_le f45.lt ge56)
  have f117 := ((((((((((((X3.ext E11).keep K14 (ninS ne115 nin0)).ext E15).keep K29 (ninS ne115 nin0)).keep K39 (ninS ne115 nin0)).ext E40).keep K56 (ninS ne115 nin0)).ext E57).keep K73 (ninS ne115 (ninS ne116 nin0))).keep K86 (ninS ne115 (ninS ne116 nin0))).ext E87).keep K103 (ninS ne115 (ninS ne116 nin0)))
  have f118 := ((((((((((((X4.ext E11).keep K14 (ninS ne115 nin0)).ext E15).keep K29 (ninS ne115 nin0)).keep K39 (ninS ne115 nin0)).ext E40).keep K56 (ninS ne115 nin0)).ext E57).keep K73 (ninS ne115 (ninS ne116 nin0))).keep K86 (ninS ne115 (ninS ne116 nin0))).ext E87).keep K103 (ninS ne115 (ninS ne116 nin0)))
  have f119 := ((((((((((((X5.ext E11).keep K14 (ninS ne115 nin0)).ext E15).keep K29 (ninS ne115 nin0)).keep K39 (ninS ne115 nin0)).ext E40).keep K56 (ninS ne115 nin0)).ext E57).keep K73 (ninS ne115 (ninS ne116 nin0))).keep K86 (ninS ne115 (ninS ne116 nin0))).ext E87).keep K103 (ninS ne115 (ninS ne116 nin0)))
  have f120 := ((((((((((((X6.ext E11).keep K14 (ninS ne115 nin0)).ext E15).keep K29 (ninS ne115 nin0)).keep K39 (ninS ne115 nin0)).ext E40).keep K56 (ninS ne115 nin0)).ext E57).keep K73 (ninS ne115 (ninS ne116 nin0))).keep K86 (ninS ne115 (ninS ne116 nin0))).ext E87).keep K103 (ninS ne115 (ninS ne116 nin0)))
  refine OwnC.goW (k' := 15) (n' := 743) (OwnC.callerS (y := Y69) (W := 0) (argsL := [(.ref b11), (.ref s1)]) (rest := []) (pc' := 48) (rc := 2) (rs := 5) (ws' := [m1]) hx (hb hby q73_45) (own_w hw 297 rfl) (own_w hw 298 rfl) (own_w hw 28 rfl) (own_w hw 299 rfl) (by decide) (fun s' hZ => OwnN.Ct.bk (rmAIM l Z a0 hw [] b11 s1 m1 h103 n0 O108 g_m1 f109 f113 f114 f117 f118 f119 f120) hZ (own_w hw 299 rfl) (own_w hw 28 rfl) (by decide) (by decide)) hml.symm (lenOf pd_39 rfl) rfl (Nat.le_of_ble_eq_true rfl) rfl (by decide) (by decide)) rfl rfl (allS (Or.inl (List.mem_of_getElem? (i := 0) rfl)) all0) (allS (Or.inr (SafeA.exa f114 (by decide) (by decide))) all0) ?_
  rintro v121 h121 K121 rfl
  refine ⟨[], all0, ?_⟩
  refine Go.sp (g' := (mkF m 50 #[.val (.ref a1), .val (.ref a2), .val (.ref a3), .val (.ref b11), .unset, .unset] [(.ref a1), (.ref b11)])) (fun T A t r => XS.aloadN A hx rfl (hb hby q73_48) rfl rfl (XS.aloadN A hx rfl (hb hby q73_49) rfl rfl r)) ?_
  have f123 := ((((((f105.keep K56).ext E57).keep K73).keep K86).ext E87).keep K103)
  have ne122 : a1 ≠ m1 := ne_exa f123 f114 (by decide)
  have f124 := (((((((((((((J2.ext E11).keep K14 (ninS ne104 nin0)).ext E15).keep K29 (ninS ne104 nin0)).keep K39 (ninS ne104 nin0)).ext E40).keep K56 (ninS ne104 nin0)).ext E57).keep K73 (ninS ne104 (ninS ne106 nin0))).keep K86 (ninS ne104 (ninS ne106 nin0))).ext E87).keep K103 (ninS ne104 (ninS ne106 nin0))).keep K121 (ninS ne122 nin0))
  refine Go.v (g' := (mkF m 53 #[.val (.ref a1), .val (.ref a2), .val (.ref a3), .val (.ref b11), .unset, .unset] [(.ref s2), (.ref b11)])) (fun s' T L_ X eT hZ hown => getF X hx hZ hown (host := "") (Or.inl (own_w hw 83 rfl)) Via.refl eT f124 (g := (mkF m 50 #[.val (.ref a1), .val (.ref a2), .val (.ref a3), .val (.ref b11), .unset, .unset] [(.ref a1), (.ref b11)])) rfl rfl (hb hby q73_50)) ?_
  refine Go.old fun O125 => ?_
  have f126 := (((((((((((((Y0.ext E11).keep K14).ext E15).keep K29).keep K39).ext E40).keep K56).ext E57).keep K73).keep K86).ext E87).keep K103).keep K121)
  have ne127 : s2 ≠ b11 := Nat.ne_of_lt (Nat.lt_of_lt_of_le Y0.lt (Nat.le_of_eq g11.symm))
  have f128 := ((((((Y0.ext E11).keep K14).ext E15).keep K29).keep K39).ext E40)
  have ne129 : s2 ≠ t56 := Nat.ne_of_lt (Nat.lt_of_lt_of_le f128.lt ge56)
  have f131 := ((((((f128.keep K56).ext E57).keep K73).keep K86).ext E87).keep K103)
  have ne130 : s2 ≠ m1 := ne_exa f131 f114 (by decide)
  have f132 := (((((((((((((Y1.ext E11).keep K14 (ninS ne127 nin0)).ext E15).keep K29 (ninS ne127 nin0)).keep K39 (ninS ne127 nin0)).ext E40).keep K56 (ninS ne127 nin0)).ext E57).keep K73 (ninS ne127 (ninS ne129 nin0))).keep K86 (ninS ne127 (ninS ne129 nin0))).ext E87).keep K103 (ninS ne127 (ninS ne129 nin0))).keep K121 (ninS ne130 nin0))
  have f133 := ((f95.keep K103).keep K121)
  have ne134 : m2 ≠ b11 := Nat.ne_of_lt (Nat.lt_of_lt_of_le Y2.lt (Nat.le_of_eq g11.symm))
  have ne135 : m2 ≠ t56 := Nat.ne_of_lt (Nat.lt_of_lt_of_le f47.lt ge56)
  have f136 := (((((((((((((Y3.ext E11).keep K14 (ninS ne134 nin0)).ext E15).keep K29 (ninS ne134 nin0)).keep K39 (ninS ne134 nin0)).ext E40).keep K56 (ninS ne134 nin0)).ext E57).keep K73 (ninS ne134 (ninS ne135 nin0))).keep K86 (ninS ne134 (ninS ne135 nin0))).ext E87).keep K103 (ninS ne134 (ninS ne135 nin0))).keep K121 (ninS (Ne.symm hne) nin0))
  have f137 := (((((((((((((Y4.ext E11).keep K14 (ninS ne134 nin0)).ext E15).keep K29 (ninS ne134 nin0)).keep K39 (ninS ne134 nin0)).ext E40).keep K56 (ninS ne134 nin0)).ext E57).keep K73 (ninS ne134 (ninS ne135 nin0))).keep K86 (ninS ne134 (ninS ne135 nin0))).ext E87).keep K103 (ninS ne134 (ninS ne135 nin0))).keep K121 (ninS (Ne.symm hne) nin0))
  have f138 := (((((((((((((Y5.ext E11).keep K14 (ninS ne134 nin0)).ext E15).keep K29 (ninS ne134 nin0)).keep K39 (ninS ne134 nin0)).ext E40).keep K56 (ninS ne134 nin0)).ext E57).keep K73 (ninS ne134 (ninS ne135 nin0))).keep K86 (ninS ne134 (ninS ne135 nin0))).ext E87).keep K103 (ninS ne134 (ninS ne135 nin0))).keep K121 (ninS (Ne.symm hne) nin0))
  have f139 := (((((((((((((Y6.ext E11).keep K14 (ninS ne134 nin0)).ext E15).keep K29 (ninS ne134 nin0)).keep K39 (ninS ne134 nin0)).ext E40).keep K56 (ninS ne134 nin0)).ext E57).keep K73 (ninS ne134 (ninS ne135 nin0))).keep K86 (ninS ne134 (ninS ne135 nin0))).ext E87).keep K103 (ninS ne134 (ninS ne135 nin0))).keep K121 (ninS (Ne.symm hne) nin0))
  refine OwnC.goW (k' := 17) (n' := 748) (OwnC.callerS (y := Y69) (W := 0) (argsL := [(.ref b11), (.ref s2)]) (rest := []) (pc' := 56) (rc := 2) (rs := 5) (ws' := [m2]) hx (hb hby q73_53) (own_w hw 297 rfl) (own_w hw 298 rfl) (own_w hw 28 rfl) (own_w hw 299 rfl) (by decide) (fun s' hZ => OwnN.Ct.bk (rmAIM l Z a0 hw [] b11 s2 m2 h121 n0 O125 g_m2 f126 f132 f133 f136 f137 f138 f139) hZ (own_w hw 299 rfl) (own_w hw 28 rfl) (by decide) (by decide)) hml.symm (lenOf pd_39 rfl) rfl (Nat.le_of_ble_eq_true rfl) rfl (by decide) (by decide)) rfl rfl (allS (Or.inl (List.mem_of_getElem? (i := 1) rfl)) all0) (allS (Or.inr (SafeA.exa f133 (by decide) (by decide))) all0) ?_
  rintro v140 h140 K140 rfl
  refine ⟨[], all0, ?_⟩
  refine Go.sp (g' := (mkF m 57 #[.val (.ref a1), .val (.ref a2), .val (.ref a3), .val (.ref b11), .unset, .unset] [(.ref a1)])) (fun T A t r => XS.aloadN A hx rfl (hb hby q73_56) rfl rfl r) ?_
  have f142 := (f123.keep K121)
  have ne141 : a1 ≠ m2 := ne_exa f142 f133 (by decide)
  have f143 := ((((((((((((((J3.ext E11).keep K14 (ninS ne104 nin0)).ext E15).keep K29 (ninS ne104 nin0)).keep K39 (ninS ne104 nin0)).ext E40).keep K56 (ninS ne104 nin0)).ext E57).keep K73 (ninS ne104 (ninS ne106 nin0))).keep K86 (ninS ne104 (ninS ne106 nin0))).ext E87).keep K103 (ninS ne104 (ninS ne106 nin0))).keep K121 (ninS ne122 nin0)).keep K140 (ninS ne141 nin0))
  refine Go.v (g' := (mkF m 60 #[.val (.ref a1), .val (.ref a2), .val (.ref a3), .val (.ref b11), .unset, .unset] [(.ref al)])) (fun s' T L_ X eT hZ hown => getF X hx hZ hown (host := "") (Or.inl (own_w hw 104 rfl)) Via.refl eT f143 (g := (mkF m 57 #[.val (.ref a1), .val (.ref a2), .val (.ref a3), .val (.ref b11), .unset, .unset] [(.ref a1)])) rfl rfl (hb hby q73_57)) ?_
  refine Go.keep fun KK144 => ?_
  refine Go.old fun O145 => ?_
  have f146 := ((((((((((((((EL.ext E11).keep K14).ext E15).keep K29).keep K39).ext E40).keep K56).ext E57).keep K73).keep K86).ext E87).keep K103).keep K121).keep K140)
  have ne147 : al ≠ b11 := Nat.ne_of_lt (Nat.lt_of_lt_of_le EL.lt (Nat.le_of_eq g11.symm))
  have f148 := ((((((EL.ext E11).keep K14).ext E15).keep K29).keep K39).ext E40)
  have ne149 : al ≠ t56 := Nat.ne_of_lt (Nat.lt_of_lt_of_le f148.lt ge56)
  have f151 := ((((((f148.keep K56).ext E57).keep K73).keep K86).ext E87).keep K103)
  have ne150 : al ≠ m1 := ne_exa f151 f114 (by decide)
  have f153 := (f151.keep K121)
  have ne152 : al ≠ m2 := ne_exa f153 f133 (by decide)
  have f154 := ((((((((((((((FE.ext E11).keep K14 (ninS ne147 nin0)).ext E15).keep K29 (ninS ne147 nin0)).keep K39 (ninS ne147 nin0)).ext E40).keep K56 (ninS ne147 nin0)).ext E57).keep K73 (ninS ne147 (ninS ne149 nin0))).keep K86 (ninS ne147 (ninS ne149 nin0))).ext E87).keep K103 (ninS ne147 (ninS ne149 nin0))).keep K121 (ninS ne150 nin0)).keep K140 (ninS ne152 nin0))
  have f155 := ((((((((((((((FS.ext E11).keep K14 (ninS ne147 nin0)).ext E15).keep K29 (ninS ne147 nin0)).keep K39 (ninS ne147 nin0)).ext E40).keep K56 (ninS ne147 nin0)).ext E57).keep K73 (ninS ne147 (ninS ne149 nin0))).keep K86 (ninS ne147 (ninS ne149 nin0))).ext E87).keep K103 (ninS ne147 (ninS ne149 nin0))).keep K121 (ninS ne150 nin0)).keep K140 (ninS ne152 nin0))
  have f156 := ((((((((((((((FM.ext E11).keep K14 (ninS ne147 nin0)).ext E15).keep K29 (ninS ne147 nin0)).keep K39 (ninS ne147 nin0)).ext E40).keep K56 (ninS ne147 nin0)).ext E57).keep K73 (ninS ne147 (ninS ne149 nin0))).keep K86 (ninS ne147 (ninS ne149 nin0))).ext E87).keep K103 (ninS ne147 (ninS ne149 nin0))).keep K121 (ninS ne150 nin0)).keep K140 (ninS ne152 nin0))
  refine OwnC.goW (k' := 18) (n' := 752) (OwnC.callerI (xi := Y70) (y := Y71) (a := al) (W := 0) (argsL := []) (rest := []) (pc' := 65) (rc := 1) (rs := 4) (ws' := []) hx (hb hby q73_60) (own_w hw 401 rfl) (own_w hw 402 rfl) (own_w hw 403 rfl) (own_w hw 404 rfl) (own_w hw 405 rfl) (own_w hw 406 rfl) (own_w hw 407 rfl) (own_w hw 244 rfl) (by decide) (fun s' hZ => OwnN.Ct.bk (rmITN l Z a0 hw [] al tb h140 n0 O145 f146 f154 f155 f156) hZ (own_w hw 408 rfl) (own_w hw 87 rfl) (by decide) (by decide)) f146 hml.symm (lenOf pd_30 rfl) rfl (Nat.le_of_ble_eq_true rfl) rfl (by decide) (by decide)) rfl rfl all0 all0 ?_
  rintro v157 h157 K157 ⟨it157, rfl, ge157, E157, Ia157, Ib157, Ic157, Id157⟩
  refine ⟨[], all0, ?_⟩
  refine Go.sp (g' := (mkF m 69 #[.val (.ref a1), .val (.ref a2), .val (.ref a3), .val (.ref b11), .val (.ref it157), .unset] [(.ref it157)])) (fun T A t r => XS.astore A hx rfl (hb hby q73_65) rfl rfl (l' := #[.val (.ref a1), .val (.ref a2), .val (.ref a3), .val (.ref b11), .val (.ref it157), .unset]) rfl (XS.aload A hx rfl (hb hby q73_67) rfl rfl r)) ?_
  refine Go.old fun O158 => ?_
  have f159 := (f155.keep K157 nin0)
  refine OwnC.goWP (k' := 18) (n' := 752) (OwnC.callerI (xi := Y54) (y := Y72) (a := it157) (W := 0) (argsL := []) (rest := []) (pc' := 74) (rc := 0) (rs := 0) (ws' := []) hx (hb hby q73_69) (own_w hw 373 rfl) (own_w hw 374 rfl) (own_w hw 375 rfl) (own_w hw 424 rfl) (own_w hw 425 rfl) (own_w hw 426 rfl) (own_w hw 427 rfl) (own_w hw 428 rfl) (by decide) (fun s' hZ => OwnN.Ct.bk (rmHN0 l Z a0 hw [] it157 al h157 n0 O158 Ia157 Ib157 f159) hZ (own_w hw 429 rfl) (own_w hw 411 rfl) (by decide) (by decide)) E157 hml.symm (lenOf pd_16 rfl) rfl (Nat.le_of_ble_eq_true rfl) rfl (by decide) (by decide)) rfl rfl ?_
  rintro v160 rfl
  refine Go.sp (g' := (mkF m 79 #[.val (.ref a1), .val (.ref a2), .val (.ref a3), .val (.ref b11), .val (.ref it157), .unset] [(.ref it157)])) (fun T A t r => XS.ifNo A hx rfl (hb hby q73_74) rfl ((if0 _ _).trans (feq (by decide : ¬ ((1 : Int32) = (0 : Int32)))).1) (XS.aload A hx rfl (hb hby q73_77) rfl rfl r)) ?_
  have f161 := (f146.keep K157)
  have f162 := (f154.keep K157 nin0)
  have f163 := (f156.keep K157 nin0)
  have ne164 : tb ≠ b11 := Nat.ne_of_lt (Nat.lt_of_lt_of_le AT.lt (Nat.le_of_eq g11.symm))
  have f165 := ((((((AT.ext E11).keep K14 (ninS ne164 nin0)).ext E15).keep K29 (ninS ne164 nin0)).keep K39 (ninS ne164 nin0)).ext E40)
  have ne166 : tb ≠ t56 := Nat.ne_of_lt (Nat.lt_of_lt_of_le f165.lt ge56)
  have f168 := ((((((f165.keep K56 (ninS ne164 nin0)).ext E57).keep K73 (ninS ne164 (ninS ne166 nin0))).keep K86 (ninS ne164 (ninS ne166 nin0))).ext E87).keep K103 (ninS ne164 (ninS ne166 nin0)))
  have ne167 : m1 ≠ tb := Exa.neArv f114 f168 (own_w hw 43 rfl)
  have f170 := (f168.keep K121 (ninS (Ne.symm ne167) nin0))
  have ne169 : m2 ≠ tb := Exa.neArv f133 f170 (own_w hw 43 rfl)
  have f171 := (((((((((((((((AT.ext E11).keep K14 (ninS ne164 nin0)).ext E15).keep K29 (ninS ne164 nin0)).keep K39 (ninS ne164 nin0)).ext E40).keep K56 (ninS ne164 nin0)).ext E57).keep K73 (ninS ne164 (ninS ne166 nin0))).keep K86 (ninS ne164 (ninS ne166 nin0))).ext E87).keep K103 (ninS ne164 (ninS ne166 nin0))).keep K121 (ninS (Ne.symm ne167) nin0)).keep K140 (ninS (Ne.symm ne169) nin0)).keep K157 nin0)
  refine OwnC.goW (k' := 18) (n' := 752) (OwnC.callerI (xi := Y73) (y := Y74) (a := it157) (W := 0) (argsL := []) (rest := []) (pc' := 84) (rc := 0) (rs := 0) (ws' := [it157]) hx (hb hby q73_79) (own_w hw 433 rfl) (own_w hw 434 rfl) (own_w hw 435 rfl) (own_w hw 436 rfl) (own_w hw 437 rfl) (own_w hw 438 rfl) (own_w hw 439 rfl) (own_w hw 428 rfl) (by decide) (fun s' hZ => OwnN.Ct.bk (rmNX l Z a0 hw [] it157 al tb kq st h157 n0 O158 (Nat.le_trans (Old.le O0) (Nat.le_trans KK144.1 ge157)) E157 Ia157 Ib157 Ic157 Id157 f161 f162 f159 f163 f171) hZ (own_w hw 440 rfl) (own_w hw 411 rfl) (by decide) (by decide)) E157 hml.symm (lenOf pd_40 rfl) rfl (Nat.le_of_ble_eq_true rfl) rfl (by decide) (by decide)) rfl rfl (allS (Or.inr (Nat.le_trans KK144.1 ge157)) all0) (allS (Or.inr (SafeA.exa E157 (by decide) (by decide))) all0) ?_
  rintro v172 h172 K172 ⟨rfl, Ia172, Ib172, Ic172, Id172⟩
  refine ⟨[], all0, ?_⟩
  have f173 := ((((((((((((((((Es.ext E11).keep K14).ext E15).keep K29).keep K39).ext E40).keep K56).ext E57).keep K73).keep K86).ext E87).keep K103).keep K121).keep K140).keep K157).keep K172)
  refine Go.v (g' := (mkF m 87 #[.val (.ref a1), .val (.ref a2), .val (.ref a3), .val (.ref b11), .val (.ref it157), .unset] [(.ref st)])) (fun s' T L_ X eT hZ hown => castY X hx hZ hown (own_w hw 447 rfl) eT (Ins.self f173) (g := (mkF m 84 #[.val (.ref a1), .val (.ref a2), .val (.ref a3), .val (.ref b11), .val (.ref it157), .unset] [(.ref st)])) rfl rfl (hb hby q73_84)) ?_
  refine Go.sp (g' := (mkF m 92 #[.val (.ref a1), .val (.ref a2), .val (.ref a3), .val (.ref b11), .val (.ref it157), .val (.ref st)] [(.ref st), (.ref b11)])) (fun T A t r => XS.astore A hx rfl (hb hby q73_87) rfl rfl (l' := #[.val (.ref a1), .val (.ref a2), .val (.ref a3), .val (.ref b11), .val (.ref it157), .val (.ref st)]) rfl (XS.aloadN A hx rfl (hb hby q73_89) rfl rfl (XS.aload A hx rfl (hb hby q73_90) rfl rfl r))) ?_
  have hH : own_H.length = 109 := own_Hl
  refine Go.old fun O174 => ?_
  have f175 := (((((f98.keep K103).keep K121).keep K140).keep K157).keep K172)
  have f176 := (((f98.keep K103).keep K121).keep K140)
  have ne177 : b11 ≠ it157 := Nat.ne_of_lt (Nat.lt_of_lt_of_le f176.lt ge157)
  have f178 := ((((V103.keep K121 (ninS (Ne.symm ne115) nin0)).keep K140 (ninS (Ne.symm ne134) nin0)).keep K157 nin0).keep K172 (ninS ne177 nin0))
  have f179 := ((((C103.keep K121 (ninS (Ne.symm ne115) nin0)).keep K140 (ninS (Ne.symm ne134) nin0)).keep K157 nin0).keep K172 (ninS ne177 nin0))
  have f180 := ((((N103.keep K121 (ninS (Ne.symm ne115) nin0)).keep K140 (ninS (Ne.symm ne134) nin0)).keep K157 nin0).keep K172 (ninS ne177 nin0))
  have f181 := ((B103.keep K121 (ninS (Ne.symm ne116) nin0)).keep K140 (ninS (Ne.symm ne135) nin0))
  have ne182 : t56 ≠ it157 := Nat.ne_of_lt (Nat.lt_of_lt_of_le f181.lt ge157)
  have f183 := ((((B103.keep K121 (ninS (Ne.symm ne116) nin0)).keep K140 (ninS (Ne.symm ne135) nin0)).keep K157 nin0).keep K172 (ninS ne182 nin0))
  have ne184 : st ≠ b11 := Nat.ne_of_lt (Nat.lt_of_lt_of_le Es.lt (Nat.le_of_eq g11.symm))
  have f185 := ((((((Es.ext E11).keep K14).ext E15).keep K29).keep K39).ext E40)
  have ne186 : st ≠ t56 := Nat.ne_of_lt (Nat.lt_of_lt_of_le f185.lt ge56)
  have f188 := ((((((f185.keep K56).ext E57).keep K73).keep K86).ext E87).keep K103)
  have ne187 : st ≠ m1 := ne_exa f188 f114 (by decide)
  have f190 := (f188.keep K121)
  have ne189 : st ≠ m2 := ne_exa f190 f133 (by decide)
  have f191 := (f190.keep K140)
  have ne192 : st ≠ it157 := Nat.ne_of_lt (Nat.lt_of_lt_of_le f191.lt ge157)
  have f193 := ((((((((((((((((Cs.ext E11).keep K14 (ninS ne184 nin0)).ext E15).keep K29 (ninS ne184 nin0)).keep K39 (ninS ne184 nin0)).ext E40).keep K56 (ninS ne184 nin0)).ext E57).keep K73 (ninS ne184 (ninS ne186 nin0))).keep K86 (ninS ne184 (ninS ne186 nin0))).ext E87).keep K103 (ninS ne184 (ninS ne186 nin0))).keep K121 (ninS ne187 nin0)).keep K140 (ninS ne189 nin0)).keep K157 nin0).keep K172 (ninS ne192 nin0))
  have f194 := ((((((((((((((((Vs.ext E11).keep K14 (ninS ne184 nin0)).ext E15).keep K29 (ninS ne184 nin0)).keep K39 (ninS ne184 nin0)).ext E40).keep K56 (ninS ne184 nin0)).ext E57).keep K73 (ninS ne184 (ninS ne186 nin0))).keep K86 (ninS ne184 (ninS ne186 nin0))).ext E87).keep K103 (ninS ne184 (ninS ne186 nin0))).keep K121 (ninS ne187 nin0)).keep K140 (ninS ne189 nin0)).keep K157 nin0).keep K172 (ninS ne192 nin0))
  have ne195 : ts ≠ b11 := Nat.ne_of_lt (Nat.lt_of_lt_of_le Bs.lt (Nat.le_of_eq g11.symm))
  have f196 := ((((((Bs.ext E11).keep K14 (ninS ne195 nin0)).ext E15).keep K29 (ninS ne195 nin0)).keep K39 (ninS ne195 nin0)).ext E40)
  have ne197 : ts ≠ t56 := Nat.ne_of_lt (Nat.lt_of_lt_of_le f196.lt ge56)
  have f199 := ((((((f196.keep K56 (ninS ne195 nin0)).ext E57).keep K73 (ninS ne195 (ninS ne197 nin0))).keep K86 (ninS ne195 (ninS ne197 nin0))).ext E87).keep K103 (ninS ne195 (ninS ne197 nin0)))
  have ne198 : m1 ≠ ts := Exa.neArv f114 f199 (own_w hw 43 rfl)
  have f201 := (f199.keep K121 (ninS (Ne.symm ne198) nin0))
  have ne200 : m2 ≠ ts := Exa.neArv f133 f201 (own_w hw 43 rfl)
  have f202 := (f201.keep K140 (ninS (Ne.symm ne200) nin0))
  have ne203 : ts ≠ it157 := Nat.ne_of_lt (Nat.lt_of_lt_of_le f202.lt ge157)
  have f204 := ((((((((((((((((Bs.ext E11).keep K14 (ninS ne195 nin0)).ext E15).keep K29 (ninS ne195 nin0)).keep K39 (ninS ne195 nin0)).ext E40).keep K56 (ninS ne195 nin0)).ext E57).keep K73 (ninS ne195 (ninS ne197 nin0))).keep K86 (ninS ne195 (ninS ne197 nin0))).ext E87).keep K103 (ninS ne195 (ninS ne197 nin0))).keep K121 (ninS (Ne.symm ne198) nin0)).keep K140 (ninS (Ne.symm ne200) nin0)).keep K157 nin0).keep K172 (ninS ne203 nin0))
  refine OwnC.goW (k' := 18) (n' := 752) (OwnC.callerV (y := Y65) (z := Y65) (a := b11) (W := 0) (argsL := [(.ref st)]) (rest := []) (pc' := 95) (rc := 0) (rs := 0) (ws' := [b11, t56]) hx (hb hby q73_92) (own_w hw 145 rfl) (own_w hw 146 rfl) (fun s' hZ => OwnC.own_nf (a1 := #[]) (mvT hZ (own_w hw 148 rfl)) rfl) (own_w hw 148 rfl) (own_w hw 147 rfl) (by decide) (fun s' hZ => OwnN.Ct.bk (rmB0 l Z a0 hw [] b11 t56 kb56 158 ((((((([] : List Int32) ++ own_L127) ++ [115]) ++ own_L129) ++ own_L131) ++ [112]) ++ own_L133) st ts ks ds zS h172 n0 O174 (Nat.le_trans (Old.le O0) sz11) (Nat.le_trans (Old.le O0) (Nat.le_trans KK49.1 ge56)) f175 f178 f179 f180 f183 f173 f193 f194 f204 (by show own_H.length + ds.length ≤ 158; omega) (by decide) S0 P0) hZ (own_w hw 149 rfl) (own_w hw 120 rfl) (by decide) (by decide)) f175 hml.symm (lenOf pd_36 rfl) rfl (Nat.le_of_ble_eq_true rfl) rfl (by decide) (by decide)) rfl rfl (allS (Or.inr sz11) (allS (Or.inr (Nat.le_trans KK49.1 ge56)) all0)) (allS (Or.inl (List.mem_of_getElem? (i := 4) rfl)) (allS (Or.inl (List.mem_of_getElem? (i := 0) rfl)) all0)) ?_
  rintro v205 h205 K205 ⟨rfl, V205, C205, N205, B205⟩
  refine ⟨[], all0, ?_⟩
  refine Go.sp (g' := (mkF m 97 #[.val (.ref a1), .val (.ref a2), .val (.ref a3), .val (.ref b11), .val (.ref it157), .val (.ref st)] [(.int 10), (.ref b11)])) (fun T A t r => XS.bipush A hx rfl (hb hby q73_95) r) ?_
  refine Go.old fun O206 => ?_
  have f207 := (f175.keep K205)
  refine OwnC.goW (k' := 18) (n' := 752) (OwnC.callerV (y := Y75) (z := Y75) (a := b11) (W := 0) (argsL := [(.int 10)]) (rest := []) (pc' := 100) (rc := 0) (rs := 0) (ws' := [b11, t56]) hx (hb hby q73_97) (own_w hw 448 rfl) (own_w hw 449 rfl) (fun s' hZ => OwnC.own_nf (a1 := #[]) (mvT hZ (own_w hw 148 rfl)) rfl) (own_w hw 451 rfl) (own_w hw 450 rfl) (by decide) (fun s' hZ => OwnN.Ct.bk (rmBC l Z a0 hw [] b11 t56 kb56 158 (((((((([] : List Int32) ++ own_L127) ++ [115]) ++ own_L129) ++ own_L131) ++ [112]) ++ own_L133) ++ ds) zS h205 n0 O206 (Nat.le_trans (Old.le O0) sz11) (Nat.le_trans (Old.le O0) (Nat.le_trans KK49.1 ge56)) f207 V205 C205 N205 B205 (by show (own_H ++ ds).length + 1 ≤ 158; rw [List.length_append]; omega) (by decide) S0 P0) hZ (own_w hw 452 rfl) (own_w hw 120 rfl) (by decide) (by decide)) f207 hml.symm (lenOf pd_41 rfl) rfl (Nat.le_of_ble_eq_true rfl) rfl (by decide) (by decide)) rfl rfl (allS (Or.inr sz11) (allS (Or.inr (Nat.le_trans KK49.1 ge56)) all0)) (allS (Or.inl (List.mem_of_getElem? (i := 4) rfl)) (allS (Or.inl (List.mem_of_getElem? (i := 0) rfl)) all0)) ?_
  rintro v208 h208 K208 ⟨rfl, V208, C208, N208, B208⟩
  refine ⟨[], all0, ?_⟩
  refine Go.sp (g' := (mkF m 69 #[.val (.ref a1), .val (.ref a2), .val (.ref a3), .val (.ref b11), .val (.ref it157), .val (.ref st)] [(.ref it157)])) (fun T A t r => XS.pop A hx rfl (hb hby q73_100) rfl rfl (XS.goto A hx rfl (pc0 := 101) (pc' := 67) rfl (hb hby q73_101) (by decide) (by decide) (XS.aload A hx rfl (hb hby q73_67) rfl rfl r))) ?_
  refine Go.old fun O209 => ?_
  have f210 := ((Ia172.keep K205 (ninS (Ne.symm ne177) (ninS (Ne.symm ne182) nin0))).keep K208 (ninS (Ne.symm ne177) (ninS (Ne.symm ne182) nin0)))
  have f211 := ((Ib172.keep K205 (ninS (Ne.symm ne177) (ninS (Ne.symm ne182) nin0))).keep K208 (ninS (Ne.symm ne177) (ninS (Ne.symm ne182) nin0)))
  have ne212 : al ≠ it157 := Nat.ne_of_lt (Nat.lt_of_lt_of_le f146.lt ge157)
  have f213 := (((f159.keep K172 (ninS ne212 nin0)).keep K205 (ninS ne147 (ninS ne149 nin0))).keep K208 (ninS ne147 (ninS ne149 nin0)))
  have f215 := (((E157.keep K172).keep K205).keep K208)
  refine OwnC.goWP (k' := 18) (n' := 752) (OwnC.callerI (xi := Y54) (y := Y72) (a := it157) (W := 0) (argsL := []) (rest := []) (pc' := 74) (rc := 0) (rs := 0) (ws' := []) hx (hb hby q73_69) (own_w hw 373 rfl) (own_w hw 374 rfl) (own_w hw 375 rfl) (own_w hw 424 rfl) (own_w hw 425 rfl) (own_w hw 426 rfl) (own_w hw 427 rfl) (own_w hw 428 rfl) (by decide) (fun s' hZ => OwnN.Ct.bk (rmHN1 l Z a0 hw [] it157 al h208 n0 O209 f210 f211 f213) hZ (own_w hw 429 rfl) (own_w hw 411 rfl) (by decide) (by decide)) f215 hml.symm (lenOf pd_16 rfl) rfl (Nat.le_of_ble_eq_true rfl) rfl (by decide) (by decide)) rfl rfl ?_
  rintro v214 rfl
  refine Go.sp (g' := (mkF m 105 #[.val (.ref a1), .val (.ref a2), .val (.ref a3), .val (.ref b11), .val (.ref it157), .val (.ref st)] [(.ref b11)])) (fun T A t r => XS.ifYes A hx rfl (pc0 := 74) (pc' := 104) rfl (hb hby q73_74) rfl ((if0 _ _).trans (teq (by decide : ((0 : Int32) = (0 : Int32)))).1) (by decide) (by decide) (XS.aloadN A hx rfl (hb hby q73_104) rfl rfl r)) ?_
  have f216 := (f207.keep K208)
  refine OwnC.goW (k' := 20) (n' := 914) (OwnC.callerV (y := Y66) (z := Y66) (a := b11) (W := 0) (argsL := []) (rest := []) (pc' := 108) (rc := 2) (rs := 162) (ws' := []) hx (hb hby q73_105) (own_w hw 192 rfl) (own_w hw 193 rfl) (fun s' hZ => OwnC.own_nf (a1 := #[]) (mvT hZ (own_w hw 148 rfl)) rfl) (own_w hw 195 rfl) (own_w hw 194 rfl) (by decide) (fun s' hZ => OwnN.Ct.bk (rmTO l Z a0 hw [] b11 t56 kb56 158 ((((((((([] : List Int32) ++ own_L127) ++ [115]) ++ own_L129) ++ own_L131) ++ [112]) ++ own_L133) ++ ds) ++ [10]) zS h208 n0 O209 f216 V208 C208 N208 B208 (by show (own_X ds).length < 158; rw [own_Xl]; omega) (by decide) S0 P0) hZ (own_w hw 196 rfl) (own_w hw 120 rfl) (by decide) (by decide)) f216 hml.symm (lenOf pd_37 rfl) rfl (Nat.le_of_ble_eq_true rfl) rfl (by decide) (by decide)) rfl rfl all0 all0 ?_
  rintro v217 h217 K217 ⟨sa217, ta217, ka217, rfl, E217, C217, V217, B217⟩
  refine ⟨[], all0, ?_⟩
  exact Go.ret (v := (some (.ref sa217))) (fun s' T L_ fs X hr => own_retR X hx hret rfl rfl (hb hby q73_108) hr) (fun h => by rw [hret] at h; cases h) (by decide) (by decide) ⟨_, _, _, rfl, E217, C217, V217, B217⟩
theorem rm0 (l : Launch) (Z : State) (a0 : Array Value) (hw : own_T a0 Z) (wds : List Jvm.Cond) (p1 : Int32) (p2 : Int32) (dE : Addr) (kD : ClassId) (zS : Int32) (fm : Value) (h0 : Heap) (n0 : Nat) (O0 : Old Z n0 h0)  (SD : Sta Z Z.heap "java/util/ArrayList" "DEFAULTCAPACITY_EMPTY_ELEMENTDATA" "[Ljava/lang/Object;" (.ref dE)) (AD : Arv Z Z.heap dE kD (.object "java/lang/Object") (0 : Int32) [] .null) (S0 : Sta Z Z.heap "java/lang/String" "COMPACT_STRINGS" "Z" (.int zS)) (P0 : ¬ zS = (0 : Int32)) (SF : Sta Z Z.heap "jdk/internal/util/Preconditions" "SIOOBE_FORMATTER" "Ljava/util/function/BiFunction;" fm) (RF : fm.isRef = true) :
    Ct l Z a0 own_EL x code maxLocals ret wds room_1 #[(.int p1), (.int p2)] n0 h0 [] (fun v h => v = some (.int 1)) := by
  refine Ct.of (plainFor_of_name pn_com_example_typewire_typewire_codegen_JavaFileIndentPinLaw) O0 all0 (own_EW hw) ?_
  intro p e s m below meth c hx hby hml hret hnm
  refine Go.cast (ef_II_L m p1 p2) ?_
  refine Go.sp (g' := (mkF m 6 #[.val (.int p1), .val (.int p2), .unset, .unset, .unset, .unset, .unset, .unset, .unset, .unset, .unset, .unset] [(.int ((p1 &&& (255 : Int32)).toUInt32.toUInt16.toUInt32.toInt32))])) (fun T A t r => XS.iloadN A hx rfl (hb hby at_0) rfl (XS.sipush A hx rfl (hb hby at_1) (XS.iand A hx rfl (hb hby at_4) rfl (XS.i2c A hx rfl (hb hby at_5) rfl r)))) ?_
  refine Go.cast (g' := (mkF m 6 #[.val (.int p1), .val (.int p2), .unset, .unset, .unset, .unset, .unset, .unset, .unset, .unset, .unset, .unset] [(.int (p1 &&& (255 : Int32)))])) (by rw [show ((p1 &&& (255 : Int32)).toUInt32.toUInt16.toUInt32.toInt32) = (p1 &&& (255 : Int32)) from i2c_mask _] <;> rfl) ?_
  refine Go.sp (g' := (mkF m 12 #[.val (.int p1), .val (.int p2), .val (.int (p1 &&& (255 : Int32))), .val (.int (p2 &&& (3 : Int32))), .unset, .unset, .unset, .unset, .unset, .unset, .unset, .unset] [(.int (p1 &&& (255 : Int32)))])) (fun T A t r => XS.istoreN A hx rfl (hb hby at_6) rfl (l' := #[.val (.int p1), .val (.int p2), .val (.int (p1 &&& (255 : Int32))), .unset, .unset, .unset, .unset, .unset, .unset, .unset, .unset, .unset]) rfl (XS.iloadN A hx rfl (hb hby at_7) rfl (XS.iconst A hx rfl (hb hby at_8) (XS.iand A hx rfl (hb hby at_9) rfl (XS.istoreN A hx rfl (hb hby at_10) rfl (l' := #[.val (.int p1), .val (.int p2), .val (.int (p1 &&& (255 : Int32))), .val (.int (p2 &&& (3 : Int32))), .unset, .unset, .unset, .unset, .unset, .unset, .unset, .unset]) rfl (XS.iloadN A hx rfl (hb hby at_11) rfl r)))))) ?_
  refine Go.old fun O11 => ?_
  refine OwnC.goW (k' := 2) (n' := 5) (OwnC.callerS (y := Y76) (W := 0) (argsL := [(.int (p1 &&& (255 : Int32)))]) (rest := []) (pc' := 15) (rc := 2) (rs := 5) (ws' := []) hx (hb hby at_12) (own_w hw 0 rfl) (own_w hw 1 rfl) (own_w hw 2 rfl) (own_w hw 3 rfl) (by decide) (fun s' hZ => OwnN.Ct.bk (rmVO l Z a0 hw [] (p1 &&& (255 : Int32)) zS h0 n0 O11 (own_and255 p1).2 S0 P0) hZ (own_w hw 3 rfl) (own_w hw 2 rfl) (by decide) (by decide)) hml.symm (lenOf pd_42 rfl) rfl (Nat.le_of_ble_eq_true rfl) rfl (by decide) (by decide)) rfl rfl all0 all0 ?_
  rintro v12 h12 K12 ⟨sa12, ta12, ka12, rfl, E12, C12, V12, B12⟩
  refine ⟨[], all0, ?_⟩
  refine Go.sp (g' := (mkF m 17 #[.val (.int p1), .val (.int p2), .val (.int (p1 &&& (255 : Int32))), .val (.int (p2 &&& (3 : Int32))), .val (.ref sa12), .unset, .unset, .unset, .unset, .unset, .unset, .unset] [])) (fun T A t r => XS.astore A hx rfl (hb hby at_15) rfl rfl (l' := #[.val (.int p1), .val (.int p2), .val (.int (p1 &&& (255 : Int32))), .val (.int (p2 &&& (3 : Int32))), .val (.ref sa12), .unset, .unset, .unset, .unset, .unset, .unset, .unset]) rfl r) ?_
  refine Go.newO (k' := 3) (n' := 10) (pc' := 20) (hb hby at_17) (own_w hw 26 rfl) (own_w hw 27 rfl) (own_w hw 28 rfl) rfl rfl rfl (by decide) (by decide) ?_
  intro b13 h13 g13 sz13 E13 A13 D13
  have F13_javaImports : Fld Z h13 b13 "com/example/typewire/typewire/codegen/JavaFile" "javaImports" "Ljava/util/TreeSet;" .null := D13 (Or.inr (own_w hw 82 rfl)) (ty := (.object "java/util/TreeSet")) (by decide)
  have F13_otherImports : Fld Z h13 b13 "com/example/typewire/typewire/codegen/JavaFile" "otherImports" "Ljava/util/TreeSet;" .null := D13 (Or.inr (own_w hw 84 rfl)) (ty := (.object "java/util/TreeSet")) (by decide)
  have F13_lines : Fld Z h13 b13 "com/example/typewire/typewire/codegen/JavaFile" "lines" "Ljava/util/List;" .null := D13 (Or.inr (own_w hw 105 rfl)) (ty := (.object "java/util/List")) (by decide)
  have F13_className : Fld Z h13 b13 "com/example/typewire/typewire/codegen/JavaFile" "className" "Ljava/lang/String;" .null := D13 (Or.inr (own_w hw 107 rfl)) (ty := (.object "java/lang/String")) (by decide)
  have F13_depth : Fld Z h13 b13 "com/example/typewire/typewire/codegen/JavaFile" "depth" "I" (.int 0) := D13 (Or.inl (own_w hw 138 rfl)) (ty := .int) (by decide)
  refine Go.sp (g' := (mkF m 21 #[.val (.int p1), .val (.int p2), .val (.int (p1 &&& (255 : Int32))), .val (.int (p2 &&& (3 : Int32))), .val (.ref sa12), .unset, .unset, .unset, .unset, .unset, .unset, .unset] [(.ref b13), (.ref b13)])) (fun T A t r => XS.dup A hx rfl (hb hby at_20) rfl rfl r) ?_
  refine Go.ldc0 (nn := 4) (k' := 5) (n' := 18) (pc' := 23) (hb hby at_21) (own_w hw 29 rfl) (own_strA hw) (by decide) (by decide) rfl rfl rfl (by decide) (by decide) ?_
  intro a14 h14 E14
  refine Go.keep fun KK15 => ?_
  refine Go.old fun O16 => ?_
  have f17 := (A13.ext E14)
  have f18 := (F13_javaImports.ext E14)
  have f19 := (F13_otherImports.ext E14)
  have f20 := (F13_lines.ext E14)
  have f21 := (F13_className.ext E14)
  have f22 := (F13_depth.ext E14)
  refine OwnC.goW (k' := 10) (n' := 41) (OwnC.callerC (y := Y77) (a := b13) (W := 1) (argsL := [(.ref a14)]) (rest := [(.ref b13)]) (pc' := 26) (rc := 5) (rs := 23) (ws' := [b13]) hx (hb hby at_23) rfl (own_w hw 32 rfl) (own_w hw 33 rfl) (own_w hw 34 rfl) (by decide) (fun s' hZ => OwnN.Ct.bk (rmJFI l Z a0 hw [] b13 a14 dE kD h14 n0 O16 (Nat.le_trans (Old.le O0) sz13) f17 f18 f19 f20 f21 f22 SD AD) hZ (own_w hw 34 rfl) (own_w hw 28 rfl) (by decide) (by decide)) hml.symm (lenOf pd_11 rfl) rfl (Nat.le_of_ble_eq_true rfl) rfl (by decide) (by decide)) rfl rfl (allS (Or.inr sz13) all0) (allS (Or.inl (List.mem_of_getElem? (i := 0) rfl)) all0) ?_
  rintro v23 h23 K23 ⟨s123, m123, s223, m223, al23, rfl, J123, J223, J323, D23, X023, X123, X223, X323, X423, X523, X623, Y023, Y123, Y223, Y323, Y423, Y523, Y623, ne23, ga23, gb23, gc23, EL23, FE23, FS23, FM23⟩
  refine ⟨[], all0, ?_⟩
  refine Go.sp (g' := (mkF m 32 #[.val (.int p1), .val (.int p2), .val (.int (p1 &&& (255 : Int32))), .val (.int (p2 &&& (3 : Int32))), .val (.ref sa12), .val (.ref b13), .unset, .unset, .unset, .unset, .unset, .unset] [(.ref sa12), (.ref b13)])) (fun T A t r => XS.astore A hx rfl (hb hby at_26) rfl rfl (l' := #[.val (.int p1), .val (.int p2), .val (.int (p1 &&& (255 : Int32))), .val (.int (p2 &&& (3 : Int32))), .val (.ref sa12), .val (.ref b13), .unset, .unset, .unset, .unset, .unset, .unset]) rfl (XS.aload A hx rfl (hb hby at_28) rfl rfl (XS.aload A hx rfl (hb hby at_30) rfl rfl r))) ?_
  refine Go.old fun O24 => ?_
  have f25 := (f17.keep K23)
  have f26 := (((E12.ext E13).ext E14).keep K23)
  have ne27 : sa12 ≠ b13 := Nat.ne_of_lt (Nat.lt_of_lt_of_le E12.lt (Nat.le_of_eq g13.symm))
  have f28 := (((C12.ext E13).ext E14).keep K23 (ninS ne27 nin0))
  have f29 := (((V12.ext E13).ext E14).keep K23 (ninS ne27 nin0))
  have ne30 : ta12 ≠ b13 := Nat.ne_of_lt (Nat.lt_of_lt_of_le B12.lt (Nat.le_of_eq g13.symm))
  have f31 := (((B12.ext E13).ext E14).keep K23 (ninS ne30 nin0))
  refine Go.callVW (a := b13) (z := Y78) (ws' := [al23]) (W := 0) (y := Y78) (argsL := [(.ref sa12)]) (rest := []) (pc' := 35) (k' := 19) (n' := 269) (hb hby at_32) (own_w hw 108 rfl) (own_w hw 109 rfl) (fun s' hZ => notFace_of_selects (args := #[]) (mvT hZ (own_w hw 111 rfl))) (own_w hw 111 rfl) (own_w hw 110 rfl) (by decide) (rmLI0 l Z a0 hw [] b13 al23 sa12 ta12 ka12 (p1 &&& (255 : Int32)) dE kD zS h23 n0 O24 (Nat.le_trans (Old.le O0) (Nat.le_trans KK15.1 gc23)) f25 J323 D23 EL23 FE23 FS23 FM23 f26 f28 f29 f31 SD AD S0 P0) (own_w hw 112 rfl) (own_w hw 28 rfl) (by decide) (by decide) f25 hml.symm (lenOf pd_43 rfl) rfl (Nat.le_of_ble_eq_true rfl) rfl rfl rfl (by decide) (by decide) (allS (Or.inr (Nat.le_trans KK15.1 gc23)) all0) ?_
  rintro v32 h32 K32 ⟨st32, ts32, ks32, tb32, kq32, rfl, FE32, FS32, FM32, A32, E32, C32, V32, B32⟩
  refine Go.sp (g' := (mkF m 38 #[.val (.int p1), .val (.int p2), .val (.int (p1 &&& (255 : Int32))), .val (.int (p2 &&& (3 : Int32))), .val (.ref sa12), .val (.ref b13), .unset, .unset, .unset, .unset, .unset, .unset] [(.ref b13)])) (fun T A t r => XS.pop A hx rfl (hb hby at_35) rfl rfl (XS.aload A hx rfl (hb hby at_36) rfl rfl r)) ?_
  refine Go.ldc (vs := (own_B [112])) (z := (Int32.ofNat [112].length)) (nn := 4) (k' := 21) (n' := 277) (pc' := 40) (hb hby at_38) (own_w hw 271 rfl) (own_strA hw) (by decide) (by decide +kernel) (by decide +kernel) (by decide +kernel) (by decide +kernel) (by decide) rfl rfl rfl (by decide) (by decide) ?_
  intro a33 h33 bb33 kb33 E33 A33 C33 V33 B33 ne33
  have nl34 := ne33 b13 (Or.inl (List.mem_of_getElem? (i := 0) rfl))
  refine Go.ldc (vs := (own_B [115])) (z := (Int32.ofNat [115].length)) (nn := 4) (k' := 23) (n' := 285) (pc' := 42) (hb hby at_40) (own_w hw 272 rfl) (own_strA hw) (by decide) (by decide +kernel) (by decide +kernel) (by decide +kernel) (by decide +kernel) (by decide) rfl rfl rfl (by decide) (by decide) ?_
  intro a35 h35 bb35 kb35 E35 A35 C35 V35 B35 ne35
  have nl36 := ne35 b13 (Or.inl (List.mem_of_getElem? (i := 0) rfl))
  refine Go.old fun O37 => ?_
  have f38 := (((f25.keep K32).ext E33).ext E35)
  have ne39 : b13 ≠ al23 := Nat.ne_of_lt (Nat.lt_of_lt_of_le f17.lt gc23)
  have f40 := (((J123.keep K32 (ninS ne39 nin0)).ext E33).ext E35)
  have f41 := (((J223.keep K32 (ninS ne39 nin0)).ext E33).ext E35)
  have f42 := (((J323.keep K32 (ninS ne39 nin0)).ext E33).ext E35)
  have f43 := (((X023.keep K32).ext E33).ext E35)
  have ne44 : s123 ≠ al23 := ne_exa X023 EL23 (by decide)
  have f45 := (((X123.keep K32 (ninS ne44 nin0)).ext E33).ext E35)
  have f46 := (((X223.keep K32).ext E33).ext E35)
  have ne47 : m123 ≠ al23 := ne_exa X223 EL23 (by decide)
  have f48 := (((X323.keep K32 (ninS ne47 nin0)).ext E33).ext E35)
  have f49 := (((X423.keep K32 (ninS ne47 nin0)).ext E33).ext E35)
  have f50 := (((X523.keep K32 (ninS ne47 nin0)).ext E33).ext E35)
  have f51 := (((X623.keep K32 (ninS ne47 nin0)).ext E33).ext E35)
  have f52 := (((Y023.keep K32).ext E33).ext E35)
  have ne53 : s223 ≠ al23 := ne_exa Y023 EL23 (by decide)
  have f54 := (((Y123.keep K32 (ninS ne53 nin0)).ext E33).ext E35)
  have f55 := (((Y223.keep K32).ext E33).ext E35)
  have ne56 : m223 ≠ al23 := ne_exa Y223 EL23 (by decide)
  have f57 := (((Y323.keep K32 (ninS ne56 nin0)).ext E33).ext E35)
  have f58 := (((Y423.keep K32 (ninS ne56 nin0)).ext E33).ext E35)
  have f59 := (((Y523.keep K32 (ninS ne56 nin0)).ext E33).ext E35)
  have f60 := (((Y623.keep K32 (ninS ne56 nin0)).ext E33).ext E35)
  have f61 := (((EL23.keep K32).ext E33).ext E35)
  have f62 := ((FE32.ext E33).ext E35)
  have f63 := ((FS32.ext E33).ext E35)
  have f64 := ((FM32.ext E33).ext E35)
  have f65 := ((A32.ext E33).ext E35)
  have f66 := ((E32.ext E33).ext E35)
  have f67 := ((C32.ext E33).ext E35)
  have f68 := ((V32.ext E33).ext E35)
  have f69 := ((B32.ext E33).ext E35)
  have f70 := (A33.ext E35)
  have f71 := (C33.ext E35)
  have f72 := (V33.ext E35)
  have f73 := (B33.ext E35)
  refine Go.callVW (a := b13) (z := Y79) (ws' := [m123, m223]) (W := 0) (y := Y79) (argsL := [(.ref a33), (.ref a35)]) (rest := []) (pc' := 45) (k' := 43) (n' := 1199) (hb hby at_42) (own_w hw 273 rfl) (own_w hw 274 rfl) (fun s' hZ => notFace_of_selects (args := #[]) (mvT hZ (own_w hw 276 rfl))) (own_w hw 276 rfl) (own_w hw 275 rfl) (by decide) (rmTX l Z a0 hw [] b13 s123 m123 s223 m223 al23 tb32 kq32 st32 ts32 ks32 (own_D0 (p1 &&& (255 : Int32))) a33 bb33 kb33 a35 bb35 kb35 zS h35 n0 O37 (Nat.le_trans (Old.le O0) (Nat.le_trans KK15.1 ga23)) (Nat.le_trans (Old.le O0) (Nat.le_trans KK15.1 gb23)) f38 f40 f41 f42 f43 f45 f46 f48 f49 f50 f51 f52 f54 f55 f57 f58 f59 f60 ne23 f61 f62 f63 f64 f65 f66 f67 f68 f69 f70 f71 f72 f73 A35 C35 V35 B35 (Nat.le_of_ble_eq_true rfl) S0 P0) (own_w hw 277 rfl) (own_w hw 28 rfl) (by decide) (by decide) f38 hml.symm (lenOf pd_44 rfl) rfl (Nat.le_of_ble_eq_true rfl) rfl rfl rfl (by decide) (by decide) (allS (Or.inr (Nat.le_trans KK15.1 ga23)) (allS (Or.inr (Nat.le_trans KK15.1 gb23)) all0)) ?_
  rintro v74 h74 K74 ⟨sa74, ta74, ka74, rfl, E74, C74, V74, B74⟩
  refine Go.sp (g' := (mkF m 47 #[.val (.int p1), .val (.int p2), .val (.int (p1 &&& (255 : Int32))), .val (.int (p2 &&& (3 : Int32))), .val (.ref sa12), .val (.ref b13), .val (.ref sa74), .unset, .unset, .unset, .unset, .unset] [])) (fun T A t r => XS.astore A hx rfl (hb hby at_45) rfl rfl (l' := #[.val (.int p1), .val (.int p2), .val (.int (p1 &&& (255 : Int32))), .val (.int (p2 &&& (3 : Int32))), .val (.ref sa12), .val (.ref b13), .val (.ref sa74), .unset, .unset, .unset, .unset, .unset]) rfl r) ?_
  refine Go.newO (k' := 44) (n' := 1204) (pc' := 50) (hb hby at_47) (own_w hw 26 rfl) (own_w hw 27 rfl) (own_w hw 28 rfl) rfl rfl rfl (by decide) (by decide) ?_
  intro b75 h75 g75 sz75 E75 A75 D75
  have F75_javaImports : Fld Z h75 b75 "com/example/typewire/typewire/codegen/JavaFile" "javaImports" "Ljava/util/TreeSet;" .null := D75 (Or.inr (own_w hw 82 rfl)) (ty := (.object "java/util/TreeSet")) (by decide)
  have F75_otherImports : Fld Z h75 b75 "com/example/typewire/typewire/codegen/JavaFile" "otherImports" "Ljava/util/TreeSet;" .null := D75 (Or.inr (own_w hw 84 rfl)) (ty := (.object "java/util/TreeSet")) (by decide)
  have F75_lines : Fld Z h75 b75 "com/example/typewire/typewire/codegen/JavaFile" "lines" "Ljava/util/List;" .null := D75 (Or.inr (own_w hw 105 rfl)) (ty := (.object "java/util/List")) (by decide)
  have F75_className : Fld Z h75 b75 "com/example/typewire/typewire/codegen/JavaFile" "className" "Ljava/lang/String;" .null := D75 (Or.inr (own_w hw 107 rfl)) (ty := (.object "java/lang/String")) (by decide)
  have F75_depth : Fld Z h75 b75 "com/example/typewire/typewire/codegen/JavaFile" "depth" "I" (.int 0) := D75 (Or.inl (own_w hw 138 rfl)) (ty := .int) (by decide)
  refine Go.sp (g' := (mkF m 51 #[.val (.int p1), .val (.int p2), .val (.int (p1 &&& (255 : Int32))), .val (.int (p2 &&& (3 : Int32))), .val (.ref sa12), .val (.ref b13), .val (.ref sa74), .unset, .unset, .unset, .unset, .unset] [(.ref b75), (.ref b75)])) (fun T A t r => XS.dup A hx rfl (hb hby at_50) rfl rfl r) ?_
  refine Go.ldc0 (nn := 4) (k' := 46) (n' := 1212) (pc' := 53) (hb hby at_51) (own_w hw 29 rfl) (own_strA hw) (by decide) (by decide) rfl rfl rfl (by decide) (by decide) ?_
  intro a76 h76 E76
  refine Go.keep fun KK77 => ?_
  refine Go.old fun O78 => ?_
  have f79 := (A75.ext E76)
  have f80 := (F75_javaImports.ext E76)
  have f81 := (F75_otherImports.ext E76)
  have f82 := (F75_lines.ext E76)
  have f83 := (F75_className.ext E76)
  have f84 := (F75_depth.ext E76)
  refine OwnC.goW (k' := 51) (n' := 1235) (OwnC.callerC (y := Y77) (a := b75) (W := 1) (argsL := [(.ref a76)]) (rest := [(.ref b75)]) (pc' := 56) (rc := 5) (rs := 23) (ws' := [b75]) hx (hb hby at_53) rfl (own_w hw 32 rfl) (own_w hw 33 rfl) (own_w hw 34 rfl) (by decide) (fun s' hZ => OwnN.Ct.bk (rmJFI l Z a0 hw [] b75 a76 dE kD h76 n0 O78 (Nat.le_trans (Old.le O0) sz75) f79 f80 f81 f82 f83 f84 SD AD) hZ (own_w hw 34 rfl) (own_w hw 28 rfl) (by decide) (by decide)) hml.symm (lenOf pd_11 rfl) rfl (Nat.le_of_ble_eq_true rfl) rfl (by decide) (by decide)) rfl rfl (allS (Or.inr sz75) all0) (allS (Or.inl (List.mem_of_getElem? (i := 0) rfl)) all0) ?_
  rintro v85 h85 K85 ⟨s185, m185, s285, m285, al85, rfl, J185, J285, J385, D85, X085, X185, X285, X385, X485, X585, X685, Y085, Y185, Y285, Y385, Y485, Y585, Y685, ne85, ga85, gb85, gc85, EL85, FE85, FS85, FM85⟩
  refine ⟨[], all0, ?_⟩
  refine Go.sp (g' := (mkF m 61 #[.val (.int p1), .val (.int p2), .val (.int (p1 &&& (255 : Int32))), .val (.int (p2 &&& (3 : Int32))), .val (.ref sa12), .val (.ref b13), .val (.ref sa74), .val (.ref b75), .val (.int 1), .unset, .unset, .unset] [])) (fun T A t r => XS.astore A hx rfl (hb hby at_56) rfl rfl (l' := #[.val (.int p1), .val (.int p2), .val (.int (p1 &&& (255 : Int32))), .val (.int (p2 &&& (3 : Int32))), .val (.ref sa12), .val (.ref b13), .val (.ref sa74), .val (.ref b75), .unset, .unset, .unset, .unset]) rfl (XS.iconst A hx rfl (hb hby at_58) (XS.istore A hx rfl (hb hby at_59) rfl (l' := #[.val (.int p1), .val (.int p2), .val (.int (p1 &&& (255 : Int32))), .val (.int (p2 &&& (3 : Int32))), .val (.ref sa12), .val (.ref b13), .val (.ref sa74), .val (.ref b75), .val (.int 1), .unset, .unset, .unset]) rfl r))) ?_
  have TL : ∀ (hJ86 : Heap) (pk : Int32) (i1 : Nat) (ds : List Int32) (sx tx : Addr) (kx : ClassId) (hA : Int32.ofNat (own_X ds).length = (109 : Int32) + (4 : Int32) * pk + (2 : Int32)) (hL : (own_X ds).length ≤ 4000) (hI : (109 : Int32) + (4 : Int32) * pk = Int32.ofNat i1) (hI2 : i1 + 1 < (own_X ds).length) (hI3 : (own_X ds).getD i1 0 = (p1 &&& (255 : Int32))) (hI4 : (own_X ds).getD (i1 + 1) 0 = (10 : Int32)) (hs0 : own_sp pk ds 0) (hs1 : own_sp pk ds 1) (hs2 : own_sp pk ds 2) (hs3 : own_sp pk ds 3) (hs4 : own_sp pk ds 4) (hs5 : own_sp pk ds 5) (hs6 : own_sp pk ds 6) (hs7 : own_sp pk ds 7) (hs8 : own_sp pk ds 8) (hs9 : own_sp pk ds 9) (hs10 : own_sp pk ds 10) (hs11 : own_sp pk ds 11), (Exa Z hJ86 sa74 "java/lang/String") → (Fld Z hJ86 sa74 "java/lang/String" "coder" "B" (.int 0)) → (Fld Z hJ86 sa74 "java/lang/String" "value" "[B" (.ref ta74)) → (Arv Z hJ86 ta74 ka74 .byte (Int32.ofNat (own_X (own_D0 (p1 &&& (255 : Int32)))).length) (own_B (own_X (own_D0 (p1 &&& (255 : Int32))))) (.int 0)) → (Exa Z hJ86 sx "java/lang/String") → (Fld Z hJ86 sx "java/lang/String" "coder" "B" (.int 0)) → (Fld Z hJ86 sx "java/lang/String" "value" "[B" (.ref tx)) → (Arv Z hJ86 tx kx .byte (Int32.ofNat (own_X ds).length) (own_B (own_X ds)) (.int 0)) → Go x.cls p l e room_1 s m #[(.int p1), (.int p2)] below meth c Z a0 own_EL n0 h0 [] (fun v h => v = some (.int 1)) [b75, b13] 84 2393 hJ86 (mkF m 161 #[.val (.int p1), .val (.int p2), .val (.int (p1 &&& (255 : Int32))), .val (.int pk), .val (.ref sa12), .val (.ref b13), .val (.ref sa74), .val (.ref b75), .val (.int 1), .val (.ref sx), .unset, .unset] []) := by
    intro hJ86 pk i1 ds sx tx kx hA hL hI hI2 hI3 hI4 hs0 hs1 hs2 hs3 hs4 hs5 hs6 hs7 hs8 hs9 hs10 hs11 j87 j88 j89 j90 j91 j92 j93 j94
    refine Go.sp (g' := (mkF m 163 #[.val (.int p1), .val (.int p2), .val (.int (p1 &&& (255 : Int32))), .val (.int pk), .val (.ref sa12), .val (.ref b13), .val (.ref sa74), .val (.ref b75), .val (.int 1), .val (.ref sx), .unset, .unset] [(.ref sa74)])) (fun T A t r => XS.aload A hx rfl (hb hby at_161) rfl rfl r) ?_
    refine Go.old fun O95 => ?_
    refine OwnC.goWP (k' := 84) (n' := 2393) (OwnC.callerV (y := Y20) (z := Y20) (a := sa74) (W := 0) (argsL := []) (rest := []) (pc' := 166) (rc := 0) (rs := 0) (ws' := []) hx (hb hby at_163) (own_w hw 468 rfl) (own_w hw 156 rfl) (fun s' hZ => OwnC.own_nf (a1 := #[]) (mvT hZ (own_w hw 116 rfl)) rfl) (own_w hw 158 rfl) (own_w hw 157 rfl) (by decide) (fun s' hZ => OwnN.Ct.bk (rmSL l Z a0 hw [] sa74 ta74 ka74 (own_X (own_D0 (p1 &&& (255 : Int32)))) zS hJ86 n0 O95 j87 j88 j89 j90 S0 P0) hZ (own_w hw 159 rfl) (own_w hw 2 rfl) (by decide) (by decide)) j87 hml.symm (lenOf pd_13 rfl) rfl (Nat.le_of_ble_eq_true rfl) rfl (by decide) (by decide)) rfl rfl ?_
    rintro v96 rfl
    refine Go.cast (g' := (mkF m 166 #[.val (.int p1), .val (.int p2), .val (.int (p1 &&& (255 : Int32))), .val (.int pk), .val (.ref sa12), .val (.ref b13), .val (.ref sa74), .val (.ref b75), .val (.int 1), .val (.ref sx), .unset, .unset] [(.int 111)])) (by rw [show (Int32.ofNat (own_X (own_D0 (p1 &&& (255 : Int32)))).length) = (111 : Int32) from (by rw [own_Xl] <;> rfl)] <;> rfl) ?_
    refine Go.sp (g' := (mkF m 180 #[.val (.int p1), .val (.int p2), .val (.int (p1 &&& (255 : Int32))), .val (.int pk), .val (.ref sa12), .val (.ref b13), .val (.ref sa74), .val (.ref b75), .val (.int 1), .val (.ref sx), .val (.int 109), .unset] [(.ref sx)])) (fun T A t r => XS.iconst A hx rfl (hb hby at_166) (XS.isub A hx rfl (hb hby at_167) rfl (XS.istore A hx rfl (hb hby at_168) rfl (l' := #[.val (.int p1), .val (.int p2), .val (.int (p1 &&& (255 : Int32))), .val (.int pk), .val (.ref sa12), .val (.ref b13), .val (.ref sa74), .val (.ref b75), .val (.int 1), .val (.ref sx), .val (.int 109), .unset]) rfl (XS.iload A hx rfl (hb hby at_170) rfl (XS.iconst A hx rfl (hb hby at_172) (XS.icmpYes A hx rfl (pc0 := 173) (pc' := 178) rfl (hb hby at_173) rfl (flt (by decide : ¬ ((109 : Int32) < (1 : Int32)))).2.1 (by decide) (by decide) (XS.aload A hx rfl (hb hby at_178) rfl rfl r))))))) ?_
    refine OwnC.goWP (k' := 84) (n' := 2393) (OwnC.callerV (y := Y20) (z := Y20) (a := sx) (W := 0) (argsL := []) (rest := []) (pc' := 183) (rc := 0) (rs := 0) (ws' := []) hx (hb hby at_180) (own_w hw 468 rfl) (own_w hw 156 rfl) (fun s' hZ => OwnC.own_nf (a1 := #[]) (mvT hZ (own_w hw 116 rfl)) rfl) (own_w hw 158 rfl) (own_w hw 157 rfl) (by decide) (fun s' hZ => OwnN.Ct.bk (rmSL l Z a0 hw [] sx tx kx (own_X ds) zS hJ86 n0 O95 j91 j92 j93 j94 S0 P0) hZ (own_w hw 159 rfl) (own_w hw 2 rfl) (by decide) (by decide)) j91 hml.symm (lenOf pd_13 rfl) rfl (Nat.le_of_ble_eq_true rfl) rfl (by decide) (by decide)) rfl rfl ?_
    rintro v97 rfl
    refine Go.sp (g' := (mkF m 202 #[.val (.int p1), .val (.int p2), .val (.int (p1 &&& (255 : Int32))), .val (.int pk), .val (.ref sa12), .val (.ref b13), .val (.ref sa74), .val (.ref b75), .val (.int 1), .val (.ref sx), .val (.int 109), .unset] [(.int 108), (.ref sx)])) (fun T A t r => XS.iload A hx rfl (hb hby at_183) rfl (XS.iconst A hx rfl (hb hby at_185) (XS.iloadN A hx rfl (hb hby at_186) rfl (XS.imul A hx rfl (hb hby at_187) rfl (XS.iadd A hx rfl (hb hby at_188) rfl (XS.iconst A hx rfl (hb hby at_189) (XS.iadd A hx rfl (hb hby at_190) rfl (XS.icmpYes A hx rfl (pc0 := 191) (pc' := 196) rfl (hb hby at_191) rfl (teq hA).1 (by decide) (by decide) (XS.aload A hx rfl (hb hby at_196) rfl rfl (XS.iload A hx rfl (hb hby at_198) rfl (XS.iconst A hx rfl (hb hby at_200) (XS.isub A hx rfl (hb hby at_201) rfl r)))))))))))) ?_
    refine OwnC.goWP (k' := 84) (n' := 2393) (OwnC.callerV (y := Y61) (z := Y61) (a := sx) (W := 0) (argsL := [(.int 108)]) (rest := []) (pc' := 205) (rc := 0) (rs := 0) (ws' := []) hx (hb hby at_202) (own_w hw 469 rfl) (own_w hw 470 rfl) (fun s' hZ => OwnC.own_nf (a1 := #[]) (mvT hZ (own_w hw 116 rfl)) rfl) (own_w hw 472 rfl) (own_w hw 471 rfl) (by decide) (fun s' hZ => OwnN.Ct.bk (rmCHA l Z a0 hw [] sx tx kx (own_X ds) 108 zS fm hJ86 n0 O95 j91 j92 j93 j94 hL (by rw [own_Xl]; omega) (by rw [own_X107]; decide) S0 P0 SF RF) hZ (own_w hw 473 rfl) (own_w hw 2 rfl) (by decide) (by decide)) j91 hml.symm (lenOf pd_34 rfl) rfl (Nat.le_of_ble_eq_true rfl) rfl (by decide) (by decide)) rfl rfl ?_
    rintro v98 rfl
    refine Go.cast (g' := (mkF m 205 #[.val (.int p1), .val (.int p2), .val (.int (p1 &&& (255 : Int32))), .val (.int pk), .val (.ref sa12), .val (.ref b13), .val (.ref sa74), .val (.ref b75), .val (.int 1), .val (.ref sx), .val (.int 109), .unset] [(.int 10)])) (by rw [show ((own_X ds).getD 108 0) = (10 : Int32) from own_X107 _] <;> rfl) ?_
    refine Go.sp (g' := (mkF m 218 #[.val (.int p1), .val (.int p2), .val (.int (p1 &&& (255 : Int32))), .val (.int pk), .val (.ref sa12), .val (.ref b13), .val (.ref sa74), .val (.ref b75), .val (.int 1), .val (.ref sx), .val (.int 109), .unset] [(.int pk), (.int 0), (.int 109), (.ref sx)])) (fun T A t r => XS.bipush A hx rfl (hb hby at_205) (XS.icmpYes A hx rfl (pc0 := 207) (pc' := 212) rfl (hb hby at_207) rfl (teq (by decide : ((10 : Int32) = (10 : Int32)))).1 (by decide) (by decide) (XS.aload A hx rfl (hb hby at_212) rfl rfl (XS.iload A hx rfl (hb hby at_214) rfl (XS.iconst A hx rfl (hb hby at_216) (XS.iloadN A hx rfl (hb hby at_217) rfl r)))))) ?_
    refine OwnC.goWP (k' := 84) (n' := 2393) (OwnC.callerS (y := Y80) (W := 0) (argsL := [(.ref sx), (.int 109), (.int 0), (.int pk)]) (rest := []) (pc' := 221) (rc := 0) (rs := 0) (ws' := []) hx (hb hby at_218) (own_w hw 490 rfl) (own_w hw 491 rfl) (own_w hw 492 rfl) (own_w hw 493 rfl) (by decide) (fun s' hZ => OwnN.Ct.bk (rmSP l Z a0 hw [] sx tx kx ds 0 pk zS fm hJ86 n0 O95 j91 j92 j93 j94 hL hs0 S0 P0 SF RF) hZ (own_w hw 493 rfl) (own_w hw 492 rfl) (by decide) (by decide)) hml.symm (lenOf pd_45 rfl) rfl (Nat.le_of_ble_eq_true rfl) rfl (by decide) (by decide)) rfl rfl ?_
    rintro v99 rfl
    refine Go.sp (g' := (mkF m 230 #[.val (.int p1), .val (.int p2), .val (.int (p1 &&& (255 : Int32))), .val (.int pk), .val (.ref sa12), .val (.ref b13), .val (.ref sa74), .val (.ref b75), .val (.int 1), .val (.ref sx), .val (.int 109), .unset] [(.int pk), (.int 1), (.int 109), (.ref sx)])) (fun T A t r => XS.ifNo A hx rfl (hb hby at_221) rfl ((if0 _ _).trans (feq (by decide : ¬ ((1 : Int32) = (0 : Int32)))).1) (XS.aload A hx rfl (hb hby at_224) rfl rfl (XS.iload A hx rfl (hb hby at_226) rfl (XS.iconst A hx rfl (hb hby at_228) (XS.iloadN A hx rfl (hb hby at_229) rfl r))))) ?_
    refine OwnC.goWP (k' := 84) (n' := 2393) (OwnC.callerS (y := Y80) (W := 0) (argsL := [(.ref sx), (.int 109), (.int 1), (.int pk)]) (rest := []) (pc' := 233) (rc := 0) (rs := 0) (ws' := []) hx (hb hby at_230) (own_w hw 490 rfl) (own_w hw 491 rfl) (own_w hw 492 rfl) (own_w hw 493 rfl) (by decide) (fun s' hZ => OwnN.Ct.bk (rmSP l Z a0 hw [] sx tx kx ds 1 pk zS fm hJ86 n0 O95 j91 j92 j93 j94 hL hs1 S0 P0 SF RF) hZ (own_w hw 493 rfl) (own_w hw 492 rfl) (by decide) (by decide)) hml.symm (lenOf pd_45 rfl) rfl (Nat.le_of_ble_eq_true rfl) rfl (by decide) (by decide)) rfl rfl ?_
    rintro v100 rfl
    refine Go.sp (g' := (mkF m 242 #[.val (.int p1), .val (.int p2), .val (.int (p1 &&& (255 : Int32))), .val (.int pk), .val (.ref sa12), .val (.ref b13), .val (.ref sa74), .val (.ref b75), .val (.int 1), .val (.ref sx), .val (.int 109), .unset] [(.int pk), (.int 2), (.int 109), (.ref sx)])) (fun T A t r => XS.ifNo A hx rfl (hb hby at_233) rfl ((if0 _ _).trans (feq (by decide : ¬ ((1 : Int32) = (0 : Int32)))).1) (XS.aload A hx rfl (hb hby at_236) rfl rfl (XS.iload A hx rfl (hb hby at_238) rfl (XS.iconst A hx rfl (hb hby at_240) (XS.iloadN A hx rfl (hb hby at_241) rfl r))))) ?_
    refine OwnC.goWP (k' := 84) (n' := 2393) (OwnC.callerS (y := Y80) (W := 0) (argsL := [(.ref sx), (.int 109), (.int 2), (.int pk)]) (rest := []) (pc' := 245) (rc := 0) (rs := 0) (ws' := []) hx (hb hby at_242) (own_w hw 490 rfl) (own_w hw 491 rfl) (own_w hw 492 rfl) (own_w hw 493 rfl) (by decide) (fun s' hZ => OwnN.Ct.bk (rmSP l Z a0 hw [] sx tx kx ds 2 pk zS fm hJ86 n0 O95 j91 j92 j93 j94 hL hs2 S0 P0 SF RF) hZ (own_w hw 493 rfl) (own_w hw 492 rfl) (by decide) (by decide)) hml.symm (lenOf pd_45 rfl) rfl (Nat.le_of_ble_eq_true rfl) rfl (by decide) (by decide)) rfl rfl ?_
    rintro v101 rfl
    refine Go.sp (g' := (mkF m 254 #[.val (.int p1), .val (.int p2), .val (.int (p1 &&& (255 : Int32))), .val (.int pk), .val (.ref sa12), .val (.ref b13), .val (.ref sa74), .val (.ref b75), .val (.int 1), .val (.ref sx), .val (.int 109), .unset] [(.int pk), (.int 3), (.int 109), (.ref sx)])) (fun T A t r => XS.ifNo A hx rfl (hb hby at_245) rfl ((if0 _ _).trans (feq (by decide : ¬ ((1 : Int32) = (0 : Int32)))).1) (XS.aload A hx rfl (hb hby at_248) rfl rfl (XS.iload A hx rfl (hb hby at_250) rfl (XS.iconst A hx rfl (hb hby at_252) (XS.iloadN A hx rfl (hb hby at_253) rfl r))))) ?_
    refine OwnC.goWP (k' := 84) (n' := 2393) (OwnC.callerS (y := Y80) (W := 0) (argsL := [(.ref sx), (.int 109), (.int 3), (.int pk)]) (rest := []) (pc' := 257) (rc := 0) (rs := 0) (ws' := []) hx (hb hby at_254) (own_w hw 490 rfl) (own_w hw 491 rfl) (own_w hw 492 rfl) (own_w hw 493 rfl) (by decide) (fun s' hZ => OwnN.Ct.bk (rmSP l Z a0 hw [] sx tx kx ds 3 pk zS fm hJ86 n0 O95 j91 j92 j93 j94 hL hs3 S0 P0 SF RF) hZ (own_w hw 493 rfl) (own_w hw 492 rfl) (by decide) (by decide)) hml.symm (lenOf pd_45 rfl) rfl (Nat.le_of_ble_eq_true rfl) rfl (by decide) (by decide)) rfl rfl ?_
    rintro v102 rfl
    refine Go.sp (g' := (mkF m 266 #[.val (.int p1), .val (.int p2), .val (.int (p1 &&& (255 : Int32))), .val (.int pk), .val (.ref sa12), .val (.ref b13), .val (.ref sa74), .val (.ref b75), .val (.int 1), .val (.ref sx), .val (.int 109), .unset] [(.int pk), (.int 4), (.int 109), (.ref sx)])) (fun T A t r => XS.ifNo A hx rfl (hb hby at_257) rfl ((if0 _ _).trans (feq (by decide : ¬ ((1 : Int32) = (0 : Int32)))).1) (XS.aload A hx rfl (hb hby at_260) rfl rfl (XS.iload A hx rfl (hb hby at_262) rfl (XS.iconst A hx rfl (hb hby at_264) (XS.iloadN A hx rfl (hb hby at_265) rfl r))))) ?_
    refine OwnC.goWP (k' := 84) (n' := 2393) (OwnC.callerS (y := Y80) (W := 0) (argsL := [(.ref sx), (.int 109), (.int 4), (.int pk)]) (rest := []) (pc' := 269) (rc := 0) (rs := 0) (ws' := []) hx (hb hby at_266) (own_w hw 490 rfl) (own_w hw 491 rfl) (own_w hw 492 rfl) (own_w hw 493 rfl) (by decide) (fun s' hZ => OwnN.Ct.bk (rmSP l Z a0 hw [] sx tx kx ds 4 pk zS fm hJ86 n0 O95 j91 j92 j93 j94 hL hs4 S0 P0 SF RF) hZ (own_w hw 493 rfl) (own_w hw 492 rfl) (by decide) (by decide)) hml.symm (lenOf pd_45 rfl) rfl (Nat.le_of_ble_eq_true rfl) rfl (by decide) (by decide)) rfl rfl ?_
    rintro v103 rfl
    refine Go.sp (g' := (mkF m 278 #[.val (.int p1), .val (.int p2), .val (.int (p1 &&& (255 : Int32))), .val (.int pk), .val (.ref sa12), .val (.ref b13), .val (.ref sa74), .val (.ref b75), .val (.int 1), .val (.ref sx), .val (.int 109), .unset] [(.int pk), (.int 5), (.int 109), (.ref sx)])) (fun T A t r => XS.ifNo A hx rfl (hb hby at_269) rfl ((if0 _ _).trans (feq (by decide : ¬ ((1 : Int32) = (0 : Int32)))).1) (XS.aload A hx rfl (hb hby at_272) rfl rfl (XS.iload A hx rfl (hb hby at_274) rfl (XS.iconst A hx rfl (hb hby at_276) (XS.iloadN A hx rfl (hb hby at_277) rfl r))))) ?_
    refine OwnC.goWP (k' := 84) (n' := 2393) (OwnC.callerS (y := Y80) (W := 0) (argsL := [(.ref sx), (.int 109), (.int 5), (.int pk)]) (rest := []) (pc' := 281) (rc := 0) (rs := 0) (ws' := []) hx (hb hby at_278) (own_w hw 490 rfl) (own_w hw 491 rfl) (own_w hw 492 rfl) (own_w hw 493 rfl) (by decide) (fun s' hZ => OwnN.Ct.bk (rmSP l Z a0 hw [] sx tx kx ds 5 pk zS fm hJ86 n0 O95 j91 j92 j93 j94 hL hs5 S0 P0 SF RF) hZ (own_w hw 493 rfl) (own_w hw 492 rfl) (by decide) (by decide)) hml.symm (lenOf pd_45 rfl) rfl (Nat.le_of_ble_eq_true rfl) rfl (by decide) (by decide)) rfl rfl ?_
    rintro v104 rfl
    refine Go.sp (g' := (mkF m 291 #[.val (.int p1), .val (.int p2), .val (.int (p1 &&& (255 : Int32))), .val (.int pk), .val (.ref sa12), .val (.ref b13), .val (.ref sa74), .val (.ref b75), .val (.int 1), .val (.ref sx), .val (.int 109), .unset] [(.int pk), (.int 6), (.int 109), (.ref sx)])) (fun T A t r => XS.ifNo A hx rfl (hb hby at_281) rfl ((if0 _ _).trans (feq (by decide : ¬ ((1 : Int32) = (0 : Int32)))).1) (XS.aload A hx rfl (hb hby at_284) rfl rfl (XS.iload A hx rfl (hb hby at_286) rfl (XS.bipush A hx rfl (hb hby at_288) (XS.iloadN A hx rfl (hb hby at_290) rfl r))))) ?_
    refine OwnC.goWP (k' := 84) (n' := 2393) (OwnC.callerS (y := Y80) (W := 0) (argsL := [(.ref sx), (.int 109), (.int 6), (.int pk)]) (rest := []) (pc' := 294) (rc := 0) (rs := 0) (ws' := []) hx (hb hby at_291) (own_w hw 490 rfl) (own_w hw 491 rfl) (own_w hw 492 rfl) (own_w hw 493 rfl) (by decide) (fun s' hZ => OwnN.Ct.bk (rmSP l Z a0 hw [] sx tx kx ds 6 pk zS fm hJ86 n0 O95 j91 j92 j93 j94 hL hs6 S0 P0 SF RF) hZ (own_w hw 493 rfl) (own_w hw 492 rfl) (by decide) (by decide)) hml.symm (lenOf pd_45 rfl) rfl (Nat.le_of_ble_eq_true rfl) rfl (by decide) (by decide)) rfl rfl ?_
    rintro v105 rfl
    refine Go.sp (g' := (mkF m 304 #[.val (.int p1), .val (.int p2), .val (.int (p1 &&& (255 : Int32))), .val (.int pk), .val (.ref sa12), .val (.ref b13), .val (.ref sa74), .val (.ref b75), .val (.int 1), .val (.ref sx), .val (.int 109), .unset] [(.int pk), (.int 7), (.int 109), (.ref sx)])) (fun T A t r => XS.ifNo A hx rfl (hb hby at_294) rfl ((if0 _ _).trans (feq (by decide : ¬ ((1 : Int32) = (0 : Int32)))).1) (XS.aload A hx rfl (hb hby at_297) rfl rfl (XS.iload A hx rfl (hb hby at_299) rfl (XS.bipush A hx rfl (hb hby at_301) (XS.iloadN A hx rfl (hb hby at_303) rfl r))))) ?_
    refine OwnC.goWP (k' := 84) (n' := 2393) (OwnC.callerS (y := Y80) (W := 0) (argsL := [(.ref sx), (.int 109), (.int 7), (.int pk)]) (rest := []) (pc' := 307) (rc := 0) (rs := 0) (ws' := []) hx (hb hby at_304) (own_w hw 490 rfl) (own_w hw 491 rfl) (own_w hw 492 rfl) (own_w hw 493 rfl) (by decide) (fun s' hZ => OwnN.Ct.bk (rmSP l Z a0 hw [] sx tx kx ds 7 pk zS fm hJ86 n0 O95 j91 j92 j93 j94 hL hs7 S0 P0 SF RF) hZ (own_w hw 493 rfl) (own_w hw 492 rfl) (by decide) (by decide)) hml.symm (lenOf pd_45 rfl) rfl (Nat.le_of_ble_eq_true rfl) rfl (by decide) (by decide)) rfl rfl ?_
    rintro v106 rfl
    refine Go.sp (g' := (mkF m 317 #[.val (.int p1), .val (.int p2), .val (.int (p1 &&& (255 : Int32))), .val (.int pk), .val (.ref sa12), .val (.ref b13), .val (.ref sa74), .val (.ref b75), .val (.int 1), .val (.ref sx), .val (.int 109), .unset] [(.int pk), (.int 8), (.int 109), (.ref sx)])) (fun T A t r => XS.ifNo A hx rfl (hb hby at_307) rfl ((if0 _ _).trans (feq (by decide : ¬ ((1 : Int32) = (0 : Int32)))).1) (XS.aload A hx rfl (hb hby at_310) rfl rfl (XS.iload A hx rfl (hb hby at_312) rfl (XS.bipush A hx rfl (hb hby at_314) (XS.iloadN A hx rfl (hb hby at_316) rfl r))))) ?_
    refine OwnC.goWP (k' := 84) (n' := 2393) (OwnC.callerS (y := Y80) (W := 0) (argsL := [(.ref sx), (.int 109), (.int 8), (.int pk)]) (rest := []) (pc' := 320) (rc := 0) (rs := 0) (ws' := []) hx (hb hby at_317) (own_w hw 490 rfl) (own_w hw 491 rfl) (own_w hw 492 rfl) (own_w hw 493 rfl) (by decide) (fun s' hZ => OwnN.Ct.bk (rmSP l Z a0 hw [] sx tx kx ds 8 pk zS fm hJ86 n0 O95 j91 j92 j93 j94 hL hs8 S0 P0 SF RF) hZ (own_w hw 493 rfl) (own_w hw 492 rfl) (by decide) (by decide)) hml.symm (lenOf pd_45 rfl) rfl (Nat.le_of_ble_eq_true rfl) rfl (by decide) (by decide)) rfl rfl ?_
    rintro v107 rfl
    refine Go.sp (g' := (mkF m 330 #[.val (.int p1), .val (.int p2), .val (.int (p1 &&& (255 : Int32))), .val (.int pk), .val (.ref sa12), .val (.ref b13), .val (.ref sa74), .val (.ref b75), .val (.int 1), .val (.ref sx), .val (.int 109), .unset] [(.int pk), (.int 9), (.int 109), (.ref sx)])) (fun T A t r => XS.ifNo A hx rfl (hb hby at_320) rfl ((if0 _ _).trans (feq (by decide : ¬ ((1 : Int32) = (0 : Int32)))).1) (XS.aload A hx rfl (hb hby at_323) rfl rfl (XS.iload A hx rfl (hb hby at_325) rfl (XS.bipush A hx rfl (hb hby at_327) (XS.iloadN A hx rfl (hb hby at_329) rfl r))))) ?_
    refine OwnC.goWP (k' := 84) (n' := 2393) (OwnC.callerS (y := Y80) (W := 0) (argsL := [(.ref sx), (.int 109), (.int 9), (.int pk)]) (rest := []) (pc' := 333) (rc := 0) (rs := 0) (ws' := []) hx (hb hby at_330) (own_w hw 490 rfl) (own_w hw 491 rfl) (own_w hw 492 rfl) (own_w hw 493 rfl) (by decide) (fun s' hZ => OwnN.Ct.bk (rmSP l Z a0 hw [] sx tx kx ds 9 pk zS fm hJ86 n0 O95 j91 j92 j93 j94 hL hs9 S0 P0 SF RF) hZ (own_w hw 493 rfl) (own_w hw 492 rfl) (by decide) (by decide)) hml.symm (lenOf pd_45 rfl) rfl (Nat.le_of_ble_eq_true rfl) rfl (by decide) (by decide)) rfl rfl ?_
    rintro v108 rfl
    refine Go.sp (g' := (mkF m 343 #[.val (.int p1), .val (.int p2), .val (.int (p1 &&& (255 : Int32))), .val (.int pk), .val (.ref sa12), .val (.ref b13), .val (.ref sa74), .val (.ref b75), .val (.int 1), .val (.ref sx), .val (.int 109), .unset] [(.int pk), (.int 10), (.int 109), (.ref sx)])) (fun T A t r => XS.ifNo A hx rfl (hb hby at_333) rfl ((if0 _ _).trans (feq (by decide : ¬ ((1 : Int32) = (0 : Int32)))).1) (XS.aload A hx rfl (hb hby at_336) rfl rfl (XS.iload A hx rfl (hb hby at_338) rfl (XS.bipush A hx rfl (hb hby at_340) (XS.iloadN A hx rfl (hb hby at_342) rfl r))))) ?_
    refine OwnC.goWP (k' := 84) (n' := 2393) (OwnC.callerS (y := Y80) (W := 0) (argsL := [(.ref sx), (.int 109), (.int 10), (.int pk)]) (rest := []) (pc' := 346) (rc := 0) (rs := 0) (ws' := []) hx (hb hby at_343) (own_w hw 490 rfl) (own_w hw 491 rfl) (own_w hw 492 rfl) (own_w hw 493 rfl) (by decide) (fun s' hZ => OwnN.Ct.bk (rmSP l Z a0 hw [] sx tx kx ds 10 pk zS fm hJ86 n0 O95 j91 j92 j93 j94 hL hs10 S0 P0 SF RF) hZ (own_w hw 493 rfl) (own_w hw 492 rfl) (by decide) (by decide)) hml.symm (lenOf pd_45 rfl) rfl (Nat.le_of_ble_eq_true rfl) rfl (by decide) (by decide)) rfl rfl ?_
    rintro v109 rfl
    refine Go.sp (g' := (mkF m 356 #[.val (.int p1), .val (.int p2), .val (.int (p1 &&& (255 : Int32))), .val (.int pk), .val (.ref sa12), .val (.ref b13), .val (.ref sa74), .val (.ref b75), .val (.int 1), .val (.ref sx), .val (.int 109), .unset] [(.int pk), (.int 11), (.int 109), (.ref sx)])) (fun T A t r => XS.ifNo A hx rfl (hb hby at_346) rfl ((if0 _ _).trans (feq (by decide : ¬ ((1 : Int32) = (0 : Int32)))).1) (XS.aload A hx rfl (hb hby at_349) rfl rfl (XS.iload A hx rfl (hb hby at_351) rfl (XS.bipush A hx rfl (hb hby at_353) (XS.iloadN A hx rfl (hb hby at_355) rfl r))))) ?_
    refine OwnC.goWP (k' := 84) (n' := 2393) (OwnC.callerS (y := Y80) (W := 0) (argsL := [(.ref sx), (.int 109), (.int 11), (.int pk)]) (rest := []) (pc' := 359) (rc := 0) (rs := 0) (ws' := []) hx (hb hby at_356) (own_w hw 490 rfl) (own_w hw 491 rfl) (own_w hw 492 rfl) (own_w hw 493 rfl) (by decide) (fun s' hZ => OwnN.Ct.bk (rmSP l Z a0 hw [] sx tx kx ds 11 pk zS fm hJ86 n0 O95 j91 j92 j93 j94 hL hs11 S0 P0 SF RF) hZ (own_w hw 493 rfl) (own_w hw 492 rfl) (by decide) (by decide)) hml.symm (lenOf pd_45 rfl) rfl (Nat.le_of_ble_eq_true rfl) rfl (by decide) (by decide)) rfl rfl ?_
    rintro v110 rfl
    refine Go.sp (g' := (mkF m 387 #[.val (.int p1), .val (.int p2), .val (.int (p1 &&& (255 : Int32))), .val (.int pk), .val (.ref sa12), .val (.ref b13), .val (.ref sa74), .val (.ref b75), .val (.int 1), .val (.ref sx), .val (.int 109), .val (.int 1)] [(.int ((109 : Int32) + ((4 : Int32) * pk))), (.ref sx)])) (fun T A t r => XS.ifNo A hx rfl (hb hby at_359) rfl ((if0 _ _).trans (feq (by decide : ¬ ((1 : Int32) = (0 : Int32)))).1) (XS.iconst A hx rfl (hb hby at_362) (XS.goto A hx rfl (pc0 := 363) (pc' := 367) rfl (hb hby at_363) (by decide) (by decide) (XS.istore A hx rfl (hb hby at_367) rfl (l' := #[.val (.int p1), .val (.int p2), .val (.int (p1 &&& (255 : Int32))), .val (.int pk), .val (.ref sa12), .val (.ref b13), .val (.ref sa74), .val (.ref b75), .val (.int 1), .val (.ref sx), .val (.int 109), .val (.int 1)]) rfl (XS.iload A hx rfl (hb hby at_369) rfl (XS.ifNo A hx rfl (hb hby at_371) rfl ((if0 _ _).trans (feq (by decide : ¬ ((1 : Int32) = (0 : Int32)))).1) (XS.iload A hx rfl (hb hby at_374) rfl (XS.ifNo A hx rfl (hb hby at_376) rfl ((if0 _ _).trans (feq (by decide : ¬ ((1 : Int32) = (0 : Int32)))).1) (XS.aload A hx rfl (hb hby at_379) rfl rfl (XS.iload A hx rfl (hb hby at_381) rfl (XS.iconst A hx rfl (hb hby at_383) (XS.iloadN A hx rfl (hb hby at_384) rfl (XS.imul A hx rfl (hb hby at_385) rfl (XS.iadd A hx rfl (hb hby at_386) rfl r)))))))))))))) ?_
    refine Go.cast (g' := (mkF m 387 #[.val (.int p1), .val (.int p2), .val (.int (p1 &&& (255 : Int32))), .val (.int pk), .val (.ref sa12), .val (.ref b13), .val (.ref sa74), .val (.ref b75), .val (.int 1), .val (.ref sx), .val (.int 109), .val (.int 1)] [(.int (Int32.ofNat i1)), (.ref sx)])) (by rw [show ((109 : Int32) + ((4 : Int32) * pk)) = (Int32.ofNat i1) from hI] <;> rfl) ?_
    refine OwnC.goWP (k' := 84) (n' := 2393) (OwnC.callerV (y := Y61) (z := Y61) (a := sx) (W := 0) (argsL := [(.int (Int32.ofNat i1))]) (rest := []) (pc' := 390) (rc := 0) (rs := 0) (ws' := []) hx (hb hby at_387) (own_w hw 469 rfl) (own_w hw 470 rfl) (fun s' hZ => OwnC.own_nf (a1 := #[]) (mvT hZ (own_w hw 116 rfl)) rfl) (own_w hw 472 rfl) (own_w hw 471 rfl) (by decide) (fun s' hZ => OwnN.Ct.bk (rmCHA l Z a0 hw [] sx tx kx (own_X ds) i1 zS fm hJ86 n0 O95 j91 j92 j93 j94 hL (Nat.lt_of_succ_lt hI2) (by rw [hI3]; exact own_and255 p1) S0 P0 SF RF) hZ (own_w hw 473 rfl) (own_w hw 2 rfl) (by decide) (by decide)) j91 hml.symm (lenOf pd_34 rfl) rfl (Nat.le_of_ble_eq_true rfl) rfl (by decide) (by decide)) rfl rfl ?_
    rintro v111 rfl
    refine Go.cast (g' := (mkF m 390 #[.val (.int p1), .val (.int p2), .val (.int (p1 &&& (255 : Int32))), .val (.int pk), .val (.ref sa12), .val (.ref b13), .val (.ref sa74), .val (.ref b75), .val (.int 1), .val (.ref sx), .val (.int 109), .val (.int 1)] [(.int (p1 &&& (255 : Int32)))])) (by rw [show ((own_X ds).getD i1 0) = (p1 &&& (255 : Int32)) from hI3] <;> rfl) ?_
    refine Go.sp (g' := (mkF m 404 #[.val (.int p1), .val (.int p2), .val (.int (p1 &&& (255 : Int32))), .val (.int pk), .val (.ref sa12), .val (.ref b13), .val (.ref sa74), .val (.ref b75), .val (.int 1), .val (.ref sx), .val (.int 109), .val (.int 1)] [(.int (((109 : Int32) + ((4 : Int32) * pk)) + (1 : Int32))), (.ref sx)])) (fun T A t r => XS.iloadN A hx rfl (hb hby at_390) rfl (XS.icmpNo A hx rfl (hb hby at_391) rfl (teq (rfl : (p1 &&& (255 : Int32)) = (p1 &&& (255 : Int32)))).2 (XS.aload A hx rfl (hb hby at_394) rfl rfl (XS.iload A hx rfl (hb hby at_396) rfl (XS.iconst A hx rfl (hb hby at_398) (XS.iloadN A hx rfl (hb hby at_399) rfl (XS.imul A hx rfl (hb hby at_400) rfl (XS.iadd A hx rfl (hb hby at_401) rfl (XS.iconst A hx rfl (hb hby at_402) (XS.iadd A hx rfl (hb hby at_403) rfl r)))))))))) ?_
    refine Go.cast (g' := (mkF m 404 #[.val (.int p1), .val (.int p2), .val (.int (p1 &&& (255 : Int32))), .val (.int pk), .val (.ref sa12), .val (.ref b13), .val (.ref sa74), .val (.ref b75), .val (.int 1), .val (.ref sx), .val (.int 109), .val (.int 1)] [(.int (Int32.ofNat (i1 + 1))), (.ref sx)])) (by rw [show (((109 : Int32) + ((4 : Int32) * pk)) + (1 : Int32)) = (Int32.ofNat (i1 + 1)) from (by rw [hI]; exact (Int32.ofNat_add i1 1).symm)] <;> rfl) ?_
    refine OwnC.goWP (k' := 84) (n' := 2393) (OwnC.callerV (y := Y61) (z := Y61) (a := sx) (W := 0) (argsL := [(.int (Int32.ofNat (i1 + 1)))]) (rest := []) (pc' := 407) (rc := 0) (rs := 0) (ws' := []) hx (hb hby at_404) (own_w hw 469 rfl) (own_w hw 470 rfl) (fun s' hZ => OwnC.own_nf (a1 := #[]) (mvT hZ (own_w hw 116 rfl)) rfl) (own_w hw 472 rfl) (own_w hw 471 rfl) (by decide) (fun s' hZ => OwnN.Ct.bk (rmCHA l Z a0 hw [] sx tx kx (own_X ds) (i1 + 1) zS fm hJ86 n0 O95 j91 j92 j93 j94 hL hI2 (by rw [hI4]; decide) S0 P0 SF RF) hZ (own_w hw 473 rfl) (own_w hw 2 rfl) (by decide) (by decide)) j91 hml.symm (lenOf pd_34 rfl) rfl (Nat.le_of_ble_eq_true rfl) rfl (by decide) (by decide)) rfl rfl ?_
    rintro v112 rfl
    refine Go.cast (g' := (mkF m 407 #[.val (.int p1), .val (.int p2), .val (.int (p1 &&& (255 : Int32))), .val (.int pk), .val (.ref sa12), .val (.ref b13), .val (.ref sa74), .val (.ref b75), .val (.int 1), .val (.ref sx), .val (.int 109), .val (.int 1)] [(.int 10)])) (by rw [show ((own_X ds).getD (i1 + 1) 0) = (10 : Int32) from hI4] <;> rfl) ?_
    refine Go.sp (g' := (mkF m 417 #[.val (.int p1), .val (.int p2), .val (.int (p1 &&& (255 : Int32))), .val (.int pk), .val (.ref sa12), .val (.ref b13), .val (.ref sa74), .val (.ref b75), .val (.int 1), .val (.ref sx), .val (.int 109), .val (.int 1)] [(.int 1)])) (fun T A t r => XS.bipush A hx rfl (hb hby at_407) (XS.icmpNo A hx rfl (hb hby at_409) rfl (teq (by decide : ((10 : Int32) = (10 : Int32)))).2 (XS.iconst A hx rfl (hb hby at_412) (XS.goto A hx rfl (pc0 := 413) (pc' := 417) rfl (hb hby at_413) (by decide) (by decide) r)))) ?_
    exact Go.ret (v := (some (.int (nar .boolean (1 : Int32))))) (fun s' T L_ fs X hr => retN X hx (t := .boolean) hret (by simp) (hb hby at_417) hr) (fun h => by rw [hret] at h; cases h) (by decide) (by decide) rfl
  rcases own_and3 p2 with hn | hn | hn | hn
  · skip
    refine Go.cast (g' := (mkF m 61 #[.val (.int p1), .val (.int p2), .val (.int (p1 &&& (255 : Int32))), .val (.int 0), .val (.ref sa12), .val (.ref b13), .val (.ref sa74), .val (.ref b75), .val (.int 1), .unset, .unset, .unset] [])) (by rw [hn] <;> rfl) ?_
    refine Go.sp (g' := (mkF m 146 #[.val (.int p1), .val (.int p2), .val (.int (p1 &&& (255 : Int32))), .val (.int 0), .val (.ref sa12), .val (.ref b13), .val (.ref sa74), .val (.ref b75), .val (.int 1), .unset, .unset, .unset] [(.ref sa12), (.ref b75)])) (fun T A t r => XS.iloadN A hx rfl (hb hby at_61) rfl (XS.iconst A hx rfl (hb hby at_62) (XS.icmpYes A hx rfl (pc0 := 63) (pc' := 88) rfl (hb hby at_63) rfl (tlt (by decide : ((0 : Int32) < (1 : Int32)))).1 (by decide) (by decide) (XS.iloadN A hx rfl (hb hby at_88) rfl (XS.iconst A hx rfl (hb hby at_89) (XS.icmpYes A hx rfl (pc0 := 90) (pc' := 115) rfl (hb hby at_90) rfl (tlt (by decide : ((0 : Int32) < (2 : Int32)))).1 (by decide) (by decide) (XS.iloadN A hx rfl (hb hby at_115) rfl (XS.iconst A hx rfl (hb hby at_116) (XS.icmpYes A hx rfl (pc0 := 117) (pc' := 142) rfl (hb hby at_117) rfl (tlt (by decide : ((0 : Int32) < (3 : Int32)))).1 (by decide) (by decide) (XS.aload A hx rfl (hb hby at_142) rfl rfl (XS.aload A hx rfl (hb hby at_144) rfl rfl r))))))))))) ?_
    refine Go.old fun O113 => ?_
    have f114 := (f79.keep K85)
    have f115 := (((((((f26.keep K32).ext E33).ext E35).keep K74).ext E75).ext E76).keep K85)
    have f116 := ((E12.ext E13).ext E14)
    have ne117 : sa12 ≠ al23 := Nat.ne_of_lt (Nat.lt_of_lt_of_le f116.lt gc23)
    have ne118 : sa12 ≠ m223 := Nat.ne_of_lt (Nat.lt_of_lt_of_le f116.lt gb23)
    have ne119 : sa12 ≠ m123 := Nat.ne_of_lt (Nat.lt_of_lt_of_le f116.lt ga23)
    have f120 := ((((f26.keep K32).ext E33).ext E35).keep K74)
    have ne121 : sa12 ≠ b75 := Nat.ne_of_lt (Nat.lt_of_lt_of_le f120.lt (Nat.le_of_eq g75.symm))
    have f122 := (((((((f28.keep K32 (ninS ne117 nin0)).ext E33).ext E35).keep K74 (ninS ne119 (ninS ne118 nin0))).ext E75).ext E76).keep K85 (ninS ne121 nin0))
    have f123 := (((((((f29.keep K32 (ninS ne117 nin0)).ext E33).ext E35).keep K74 (ninS ne119 (ninS ne118 nin0))).ext E75).ext E76).keep K85 (ninS ne121 nin0))
    have f124 := ((B12.ext E13).ext E14)
    have ne125 : ta12 ≠ al23 := Nat.ne_of_lt (Nat.lt_of_lt_of_le f124.lt gc23)
    have ne126 : ta12 ≠ m223 := Nat.ne_of_lt (Nat.lt_of_lt_of_le f124.lt gb23)
    have ne127 : ta12 ≠ m123 := Nat.ne_of_lt (Nat.lt_of_lt_of_le f124.lt ga23)
    have f128 := ((((f31.keep K32 (ninS ne125 nin0)).ext E33).ext E35).keep K74 (ninS ne127 (ninS ne126 nin0)))
    have ne129 : ta12 ≠ b75 := Nat.ne_of_lt (Nat.lt_of_lt_of_le f128.lt (Nat.le_of_eq g75.symm))
    have f130 := (((((((f31.keep K32 (ninS ne125 nin0)).ext E33).ext E35).keep K74 (ninS ne127 (ninS ne126 nin0))).ext E75).ext E76).keep K85 (ninS ne129 nin0))
    refine Go.callVW (a := b75) (z := Y78) (ws' := [al85]) (W := 0) (y := Y78) (argsL := [(.ref sa12)]) (rest := []) (pc' := 149) (k' := 60) (n' := 1463) (hb hby at_146) (own_w hw 108 rfl) (own_w hw 109 rfl) (fun s' hZ => notFace_of_selects (args := #[]) (mvT hZ (own_w hw 111 rfl))) (own_w hw 111 rfl) (own_w hw 110 rfl) (by decide) (rmLI0 l Z a0 hw [] b75 al85 sa12 ta12 ka12 (p1 &&& (255 : Int32)) dE kD zS h85 n0 O113 (Nat.le_trans (Old.le O0) (Nat.le_trans KK77.1 gc85)) f114 J385 D85 EL85 FE85 FS85 FM85 f115 f122 f123 f130 SD AD S0 P0) (own_w hw 112 rfl) (own_w hw 28 rfl) (by decide) (by decide) f114 hml.symm (lenOf pd_43 rfl) rfl (Nat.le_of_ble_eq_true rfl) rfl rfl rfl (by decide) (by decide) (allS (Or.inr (Nat.le_trans KK77.1 gc85)) all0) ?_
    rintro v131 h131 K131 ⟨st131, ts131, ks131, tb131, kq131, rfl, FE131, FS131, FM131, A131, E131, C131, V131, B131⟩
    refine Go.sp (g' := (mkF m 152 #[.val (.int p1), .val (.int p2), .val (.int (p1 &&& (255 : Int32))), .val (.int 0), .val (.ref sa12), .val (.ref b13), .val (.ref sa74), .val (.ref b75), .val (.int 1), .unset, .unset, .unset] [(.ref b75)])) (fun T A t r => XS.pop A hx rfl (hb hby at_149) rfl rfl (XS.aload A hx rfl (hb hby at_150) rfl rfl r)) ?_
    refine Go.ldc (vs := (own_B [112])) (z := (Int32.ofNat [112].length)) (nn := 4) (k' := 62) (n' := 1471) (pc' := 154) (hb hby at_152) (own_w hw 271 rfl) (own_strA hw) (by decide) (by decide +kernel) (by decide +kernel) (by decide +kernel) (by decide +kernel) (by decide) rfl rfl rfl (by decide) (by decide) ?_
    intro a132 h132 bb132 kb132 E132 A132 C132 V132 B132 ne132
    have nl133 := ne132 b75 (Or.inl (List.mem_of_getElem? (i := 0) rfl))
    have nl134 := ne132 b13 (Or.inl (List.mem_of_getElem? (i := 1) rfl))
    refine Go.ldc (vs := (own_B [115])) (z := (Int32.ofNat [115].length)) (nn := 4) (k' := 64) (n' := 1479) (pc' := 156) (hb hby at_154) (own_w hw 272 rfl) (own_strA hw) (by decide) (by decide +kernel) (by decide +kernel) (by decide +kernel) (by decide +kernel) (by decide) rfl rfl rfl (by decide) (by decide) ?_
    intro a135 h135 bb135 kb135 E135 A135 C135 V135 B135 ne135
    have nl136 := ne135 b75 (Or.inl (List.mem_of_getElem? (i := 0) rfl))
    have nl137 := ne135 b13 (Or.inl (List.mem_of_getElem? (i := 1) rfl))
    refine Go.old fun O138 => ?_
    have f139 := (((f114.keep K131).ext E132).ext E135)
    have ne140 : b75 ≠ al85 := Nat.ne_of_lt (Nat.lt_of_lt_of_le f79.lt gc85)
    have f141 := (((J185.keep K131 (ninS ne140 nin0)).ext E132).ext E135)
    have f142 := (((J285.keep K131 (ninS ne140 nin0)).ext E132).ext E135)
    have f143 := (((J385.keep K131 (ninS ne140 nin0)).ext E132).ext E135)
    have f144 := (((X085.keep K131).ext E132).ext E135)
    have ne145 : s185 ≠ al85 := ne_exa X085 EL85 (by decide)
    have f146 := (((X185.keep K131 (ninS ne145 nin0)).ext E132).ext E135)
    have f147 := (((X285.keep K131).ext E132).ext E135)
    have ne148 : m185 ≠ al85 := ne_exa X285 EL85 (by decide)
    have f149 := (((X385.keep K131 (ninS ne148 nin0)).ext E132).ext E135)
    have f150 := (((X485.keep K131 (ninS ne148 nin0)).ext E132).ext E135)
    have f151 := (((X585.keep K131 (ninS ne148 nin0)).ext E132).ext E135)
    have f152 := (((X685.keep K131 (ninS ne148 nin0)).ext E132).ext E135)
    have f153 := (((Y085.keep K131).ext E132).ext E135)
    have ne154 : s285 ≠ al85 := ne_exa Y085 EL85 (by decide)
    have f155 := (((Y185.keep K131 (ninS ne154 nin0)).ext E132).ext E135)
    have f156 := (((Y285.keep K131).ext E132).ext E135)
    have ne157 : m285 ≠ al85 := ne_exa Y285 EL85 (by decide)
    have f158 := (((Y385.keep K131 (ninS ne157 nin0)).ext E132).ext E135)
    have f159 := (((Y485.keep K131 (ninS ne157 nin0)).ext E132).ext E135)
    have f160 := (((Y585.keep K131 (ninS ne157 nin0)).ext E132).ext E135)
    have f161 := (((Y685.keep K131 (ninS ne157 nin0)).ext E132).ext E135)
    have f162 := (((EL85.keep K131).ext E132).ext E135)
    have f163 := ((FE131.ext E132).ext E135)
    have f164 := ((FS131.ext E132).ext E135)
    have f165 := ((FM131.ext E132).ext E135)
    have f166 := ((A131.ext E132).ext E135)
    have f167 := ((E131.ext E132).ext E135)
    have f168 := ((C131.ext E132).ext E135)
    have f169 := ((V131.ext E132).ext E135)
    have f170 := ((B131.ext E132).ext E135)
    have f171 := (A132.ext E135)
    have f172 := (C132.ext E135)
    have f173 := (V132.ext E135)
    have f174 := (B132.ext E135)
    refine Go.callVW (a := b75) (z := Y79) (ws' := [m185, m285]) (W := 0) (y := Y79) (argsL := [(.ref a132), (.ref a135)]) (rest := []) (pc' := 159) (k' := 84) (n' := 2393) (hb hby at_156) (own_w hw 273 rfl) (own_w hw 274 rfl) (fun s' hZ => notFace_of_selects (args := #[]) (mvT hZ (own_w hw 276 rfl))) (own_w hw 276 rfl) (own_w hw 275 rfl) (by decide) (rmTX l Z a0 hw [] b75 s185 m185 s285 m285 al85 tb131 kq131 st131 ts131 ks131 (own_D0 (p1 &&& (255 : Int32))) a132 bb132 kb132 a135 bb135 kb135 zS h135 n0 O138 (Nat.le_trans (Old.le O0) (Nat.le_trans KK77.1 ga85)) (Nat.le_trans (Old.le O0) (Nat.le_trans KK77.1 gb85)) f139 f141 f142 f143 f144 f146 f147 f149 f150 f151 f152 f153 f155 f156 f158 f159 f160 f161 ne85 f162 f163 f164 f165 f166 f167 f168 f169 f170 f171 f172 f173 f174 A135 C135 V135 B135 (Nat.le_of_ble_eq_true rfl) S0 P0) (own_w hw 277 rfl) (own_w hw 28 rfl) (by decide) (by decide) f139 hml.symm (lenOf pd_44 rfl) rfl (Nat.le_of_ble_eq_true rfl) rfl rfl rfl (by decide) (by decide) (allS (Or.inr (Nat.le_trans KK77.1 ga85)) (allS (Or.inr (Nat.le_trans KK77.1 gb85)) all0)) ?_
    rintro v175 h175 K175 ⟨sa175, ta175, ka175, rfl, E175, C175, V175, B175⟩
    refine Go.sp (g' := (mkF m 161 #[.val (.int p1), .val (.int p2), .val (.int (p1 &&& (255 : Int32))), .val (.int 0), .val (.ref sa12), .val (.ref b13), .val (.ref sa74), .val (.ref b75), .val (.int 1), .val (.ref sa175), .unset, .unset] [])) (fun T A t r => XS.astore A hx rfl (hb hby at_159) rfl rfl (l' := #[.val (.int p1), .val (.int p2), .val (.int (p1 &&& (255 : Int32))), .val (.int 0), .val (.ref sa12), .val (.ref b13), .val (.ref sa74), .val (.ref b75), .val (.int 1), .val (.ref sa175), .unset, .unset]) rfl r) ?_
    have f176 := (((((((E74.ext E75).ext E76).keep K85).keep K131).ext E132).ext E135).keep K175)
    have ne177 : sa74 ≠ b75 := Nat.ne_of_lt (Nat.lt_of_lt_of_le E74.lt (Nat.le_of_eq g75.symm))
    have f178 := ((E74.ext E75).ext E76)
    have ne179 : sa74 ≠ al85 := Nat.ne_of_lt (Nat.lt_of_lt_of_le f178.lt gc85)
    have ne180 : sa74 ≠ m285 := Nat.ne_of_lt (Nat.lt_of_lt_of_le f178.lt gb85)
    have ne181 : sa74 ≠ m185 := Nat.ne_of_lt (Nat.lt_of_lt_of_le f178.lt ga85)
    have f182 := (((((((C74.ext E75).ext E76).keep K85 (ninS ne177 nin0)).keep K131 (ninS ne179 nin0)).ext E132).ext E135).keep K175 (ninS ne181 (ninS ne180 nin0)))
    have f183 := (((((((V74.ext E75).ext E76).keep K85 (ninS ne177 nin0)).keep K131 (ninS ne179 nin0)).ext E132).ext E135).keep K175 (ninS ne181 (ninS ne180 nin0)))
    have ne184 : ta74 ≠ b75 := Nat.ne_of_lt (Nat.lt_of_lt_of_le B74.lt (Nat.le_of_eq g75.symm))
    have f185 := ((B74.ext E75).ext E76)
    have ne186 : ta74 ≠ al85 := Nat.ne_of_lt (Nat.lt_of_lt_of_le f185.lt gc85)
    have ne187 : ta74 ≠ m285 := Nat.ne_of_lt (Nat.lt_of_lt_of_le f185.lt gb85)
    have ne188 : ta74 ≠ m185 := Nat.ne_of_lt (Nat.lt_of_lt_of_le f185.lt ga85)
    have f189 := (((((((B74.ext E75).ext E76).keep K85 (ninS ne184 nin0)).keep K131 (ninS ne186 nin0)).ext E132).ext E135).keep K175 (ninS ne188 (ninS ne187 nin0)))
    exact TL h175 (0 : Int32) 109 (own_D0 (p1 &&& (255 : Int32))) sa175 ta175 ka175 (by rw [own_Xl] <;> rfl) (by rw [own_Xl]; exact (Nat.le_of_ble_eq_true rfl)) (by decide) (by rw [own_Xl]; exact (Nat.le_of_ble_eq_true rfl)) (own_XD (ds := (own_D0 (p1 &&& (255 : Int32)))) 109 rfl (j := 0) (Nat.le_of_ble_eq_true rfl)) (own_XE (ds := (own_D0 (p1 &&& (255 : Int32)))) 110 rfl) (Or.inl (by decide)) (Or.inl (by decide)) (Or.inl (by decide)) (Or.inl (by decide)) (Or.inl (by decide)) (Or.inl (by decide)) (Or.inl (by decide)) (Or.inl (by decide)) (Or.inl (by decide)) (Or.inl (by decide)) (Or.inl (by decide)) (Or.inl (by decide)) f176 f182 f183 f189 E175 C175 V175 B175
  · skip
    refine Go.cast (g' := (mkF m 61 #[.val (.int p1), .val (.int p2), .val (.int (p1 &&& (255 : Int32))), .val (.int 1), .val (.ref sa12), .val (.ref b13), .val (.ref sa74), .val (.ref b75), .val (.int 1), .unset, .unset, .unset] [])) (by rw [hn] <;> rfl) ?_
    refine Go.sp (g' := (mkF m 73 #[.val (.int p1), .val (.int p2), .val (.int (p1 &&& (255 : Int32))), .val (.int 1), .val (.ref sa12), .val (.ref b13), .val (.ref sa74), .val (.ref b75), .val (.int 1), .unset, .unset, .unset] [(.ref b75)])) (fun T A t r => XS.iloadN A hx rfl (hb hby at_61) rfl (XS.iconst A hx rfl (hb hby at_62) (XS.icmpNo A hx rfl (hb hby at_63) rfl (flt (by decide : ¬ ((1 : Int32) < (1 : Int32)))).1 (XS.iload A hx rfl (hb hby at_66) rfl (XS.ifNo A hx rfl (hb hby at_68) rfl ((if0 _ _).trans (feq (by decide : ¬ ((1 : Int32) = (0 : Int32)))).1) (XS.aload A hx rfl (hb hby at_71) rfl rfl r)))))) ?_
    refine Go.old fun O190 => ?_
    have f191 := (f79.keep K85)
    refine OwnC.goW (k' := 51) (n' := 1235) (OwnC.callerV (y := Y81) (z := Y81) (a := b75) (W := 0) (argsL := []) (rest := []) (pc' := 76) (rc := 0) (rs := 0) (ws' := [b75]) hx (hb hby at_73) (own_w hw 459 rfl) (own_w hw 460 rfl) (fun s' hZ => OwnC.own_nf (a1 := #[]) (mvT hZ (own_w hw 111 rfl)) rfl) (own_w hw 462 rfl) (own_w hw 461 rfl) (by decide) (fun s' hZ => OwnN.Ct.bk (rmJI0 l Z a0 hw [] b75 (.ref s185) (.ref s285) (.ref al85) h85 n0 O190 (Nat.le_trans (Old.le O0) sz75) f191 D85 J185 J285 J385) hZ (own_w hw 463 rfl) (own_w hw 28 rfl) (by decide) (by decide)) f191 hml.symm (lenOf pd_46 rfl) rfl (Nat.le_of_ble_eq_true rfl) rfl (by decide) (by decide)) rfl rfl (allS (Or.inr sz75) all0) (allS (Or.inl (List.mem_of_getElem? (i := 0) rfl)) all0) ?_
    rintro v192 h192 K192 ⟨rfl, D192, J1192, J2192, J3192⟩
    refine ⟨[], all0, ?_⟩
    refine Go.sp (g' := (mkF m 78 #[.val (.int p1), .val (.int p2), .val (.int (p1 &&& (255 : Int32))), .val (.int 1), .val (.ref sa12), .val (.ref b13), .val (.ref sa74), .val (.ref b75), .val (.int 1), .unset, .unset, .unset] [(.ref b75), (.ref b75)])) (fun T A t r => XS.aload A hx rfl (hb hby at_76) rfl rfl r) ?_
    refine Go.r (g' := (mkF m 81 #[.val (.int p1), .val (.int p2), .val (.int (p1 &&& (255 : Int32))), .val (.int 1), .val (.ref sa12), .val (.ref b13), .val (.ref sa74), .val (.ref b75), .val (.int 1), .unset, .unset, .unset] [])) (fun s' T L_ X eT hZ t r => Jvm.RoadKit.acmp (g := (mkF m 78 #[.val (.int p1), .val (.int p2), .val (.int (p1 &&& (255 : Int32))), .val (.int 1), .val (.ref sa12), .val (.ref b13), .val (.ref sa74), .val (.ref b75), .val (.int 1), .unset, .unset, .unset] [(.ref b75), (.ref b75)])) X hx rfl rfl rfl (pc0 := 78) (pc' := 81) (same := true) rfl (hb hby at_78) rfl (decide_eq_true rfl) (by decide) (by decide) r) ?_
    refine Go.sp (g' := (mkF m 146 #[.val (.int p1), .val (.int p2), .val (.int (p1 &&& (255 : Int32))), .val (.int 1), .val (.ref sa12), .val (.ref b13), .val (.ref sa74), .val (.ref b75), .val (.int 1), .unset, .unset, .unset] [(.ref sa12), (.ref b75)])) (fun T A t r => XS.iconst A hx rfl (hb hby at_81) (XS.goto A hx rfl (pc0 := 82) (pc' := 86) rfl (hb hby at_82) (by decide) (by decide) (XS.istore A hx rfl (hb hby at_86) rfl (l' := #[.val (.int p1), .val (.int p2), .val (.int (p1 &&& (255 : Int32))), .val (.int 1), .val (.ref sa12), .val (.ref b13), .val (.ref sa74), .val (.ref b75), .val (.int 1), .unset, .unset, .unset]) rfl (XS.iloadN A hx rfl (hb hby at_88) rfl (XS.iconst A hx rfl (hb hby at_89) (XS.icmpYes A hx rfl (pc0 := 90) (pc' := 115) rfl (hb hby at_90) rfl (tlt (by decide : ((1 : Int32) < (2 : Int32)))).1 (by decide) (by decide) (XS.iloadN A hx rfl (hb hby at_115) rfl (XS.iconst A hx rfl (hb hby at_116) (XS.icmpYes A hx rfl (pc0 := 117) (pc' := 142) rfl (hb hby at_117) rfl (tlt (by decide : ((1 : Int32) < (3 : Int32)))).1 (by decide) (by decide) (XS.aload A hx rfl (hb hby at_142) rfl rfl (XS.aload A hx rfl (hb hby at_144) rfl rfl r))))))))))) ?_
    refine Go.old fun O193 => ?_
    have f194 := (f191.keep K192)
    have f195 := (EL85.keep K192)
    have ne196 : b75 ≠ al85 := Nat.ne_of_lt (Nat.lt_of_lt_of_le f79.lt gc85)
    have f197 := (FE85.keep K192 (ninS (Ne.symm ne196) nin0))
    have f198 := (FS85.keep K192 (ninS (Ne.symm ne196) nin0))
    have f199 := (FM85.keep K192 (ninS (Ne.symm ne196) nin0))
    have f200 := ((((((((f26.keep K32).ext E33).ext E35).keep K74).ext E75).ext E76).keep K85).keep K192)
    have f201 := ((E12.ext E13).ext E14)
    have ne202 : sa12 ≠ al23 := Nat.ne_of_lt (Nat.lt_of_lt_of_le f201.lt gc23)
    have ne203 : sa12 ≠ m223 := Nat.ne_of_lt (Nat.lt_of_lt_of_le f201.lt gb23)
    have ne204 : sa12 ≠ m123 := Nat.ne_of_lt (Nat.lt_of_lt_of_le f201.lt ga23)
    have f205 := ((((f26.keep K32).ext E33).ext E35).keep K74)
    have ne206 : sa12 ≠ b75 := Nat.ne_of_lt (Nat.lt_of_lt_of_le f205.lt (Nat.le_of_eq g75.symm))
    have f207 := ((((((((f28.keep K32 (ninS ne202 nin0)).ext E33).ext E35).keep K74 (ninS ne204 (ninS ne203 nin0))).ext E75).ext E76).keep K85 (ninS ne206 nin0)).keep K192 (ninS ne206 nin0))
    have f208 := ((((((((f29.keep K32 (ninS ne202 nin0)).ext E33).ext E35).keep K74 (ninS ne204 (ninS ne203 nin0))).ext E75).ext E76).keep K85 (ninS ne206 nin0)).keep K192 (ninS ne206 nin0))
    have f209 := ((B12.ext E13).ext E14)
    have ne210 : ta12 ≠ al23 := Nat.ne_of_lt (Nat.lt_of_lt_of_le f209.lt gc23)
    have ne211 : ta12 ≠ m223 := Nat.ne_of_lt (Nat.lt_of_lt_of_le f209.lt gb23)
    have ne212 : ta12 ≠ m123 := Nat.ne_of_lt (Nat.lt_of_lt_of_le f209.lt ga23)
    have f213 := ((((f31.keep K32 (ninS ne210 nin0)).ext E33).ext E35).keep K74 (ninS ne212 (ninS ne211 nin0)))
    have ne214 : ta12 ≠ b75 := Nat.ne_of_lt (Nat.lt_of_lt_of_le f213.lt (Nat.le_of_eq g75.symm))
    have f215 := ((((((((f31.keep K32 (ninS ne210 nin0)).ext E33).ext E35).keep K74 (ninS ne212 (ninS ne211 nin0))).ext E75).ext E76).keep K85 (ninS ne214 nin0)).keep K192 (ninS ne214 nin0))
    refine Go.callVW (a := b75) (z := Y78) (ws' := [al85]) (W := 0) (y := Y78) (argsL := [(.ref sa12)]) (rest := []) (pc' := 149) (k' := 60) (n' := 1463) (hb hby at_146) (own_w hw 108 rfl) (own_w hw 109 rfl) (fun s' hZ => notFace_of_selects (args := #[]) (mvT hZ (own_w hw 111 rfl))) (own_w hw 111 rfl) (own_w hw 110 rfl) (by decide) (rmLI1 l Z a0 hw [] b75 al85 sa12 ta12 ka12 (p1 &&& (255 : Int32)) dE kD zS h192 n0 O193 (Nat.le_trans (Old.le O0) (Nat.le_trans KK77.1 gc85)) f194 J3192 D192 f195 f197 f198 f199 f200 f207 f208 f215 SD AD S0 P0) (own_w hw 112 rfl) (own_w hw 28 rfl) (by decide) (by decide) f194 hml.symm (lenOf pd_43 rfl) rfl (Nat.le_of_ble_eq_true rfl) rfl rfl rfl (by decide) (by decide) (allS (Or.inr (Nat.le_trans KK77.1 gc85)) all0) ?_
    rintro v216 h216 K216 ⟨st216, ts216, ks216, tb216, kq216, rfl, FE216, FS216, FM216, A216, E216, C216, V216, B216⟩
    refine Go.sp (g' := (mkF m 152 #[.val (.int p1), .val (.int p2), .val (.int (p1 &&& (255 : Int32))), .val (.int 1), .val (.ref sa12), .val (.ref b13), .val (.ref sa74), .val (.ref b75), .val (.int 1), .unset, .unset, .unset] [(.ref b75)])) (fun T A t r => XS.pop A hx rfl (hb hby at_149) rfl rfl (XS.aload A hx rfl (hb hby at_150) rfl rfl r)) ?_
    refine Go.ldc (vs := (own_B [112])) (z := (Int32.ofNat [112].length)) (nn := 4) (k' := 62) (n' := 1471) (pc' := 154) (hb hby at_152) (own_w hw 271 rfl) (own_strA hw) (by decide) (by decide +kernel) (by decide +kernel) (by decide +kernel) (by decide +kernel) (by decide) rfl rfl rfl (by decide) (by decide) ?_
    intro a217 h217 bb217 kb217 E217 A217 C217 V217 B217 ne217
    have nl218 := ne217 b75 (Or.inl (List.mem_of_getElem? (i := 0) rfl))
    have nl219 := ne217 b13 (Or.inl (List.mem_of_getElem? (i := 1) rfl))
    refine Go.ldc (vs := (own_B [115])) (z := (Int32.ofNat [115].length)) (nn := 4) (k' := 64) (n' := 1479) (pc' := 156) (hb hby at_154) (own_w hw 272 rfl) (own_strA hw) (by decide) (by decide +kernel) (by decide +kernel) (by decide +kernel) (by decide +kernel) (by decide) rfl rfl rfl (by decide) (by decide) ?_
    intro a220 h220 bb220 kb220 E220 A220 C220 V220 B220 ne220
    have nl221 := ne220 b75 (Or.inl (List.mem_of_getElem? (i := 0) rfl))
    have nl222 := ne220 b13 (Or.inl (List.mem_of_getElem? (i := 1) rfl))
    refine Go.old fun O223 => ?_
    have f224 := (((f194.keep K216).ext E217).ext E220)
    have f225 := (((J1192.keep K216 (ninS ne196 nin0)).ext E217).ext E220)
    have f226 := (((J2192.keep K216 (ninS ne196 nin0)).ext E217).ext E220)
    have f227 := (((J3192.keep K216 (ninS ne196 nin0)).ext E217).ext E220)
    have f228 := ((((X085.keep K192).keep K216).ext E217).ext E220)
    have ne229 : s185 ≠ b75 := ne_exa X085 f191 (by decide)
    have f231 := (X085.keep K192)
    have ne230 : s185 ≠ al85 := ne_exa f231 f195 (by decide)
    have f232 := ((((X185.keep K192 (ninS ne229 nin0)).keep K216 (ninS ne230 nin0)).ext E217).ext E220)
    have f233 := ((((X285.keep K192).keep K216).ext E217).ext E220)
    have ne234 : b75 ≠ m185 := Nat.ne_of_lt (Nat.lt_of_lt_of_le f79.lt ga85)
    have f236 := (X285.keep K192)
    have ne235 : m185 ≠ al85 := ne_exa f236 f195 (by decide)
    have f237 := ((((X385.keep K192 (ninS (Ne.symm ne234) nin0)).keep K216 (ninS ne235 nin0)).ext E217).ext E220)
    have f238 := ((((X485.keep K192 (ninS (Ne.symm ne234) nin0)).keep K216 (ninS ne235 nin0)).ext E217).ext E220)
    have f239 := ((((X585.keep K192 (ninS (Ne.symm ne234) nin0)).keep K216 (ninS ne235 nin0)).ext E217).ext E220)
    have f240 := ((((X685.keep K192 (ninS (Ne.symm ne234) nin0)).keep K216 (ninS ne235 nin0)).ext E217).ext E220)
    have f241 := ((((Y085.keep K192).keep K216).ext E217).ext E220)
    have ne242 : s285 ≠ b75 := ne_exa Y085 f191 (by decide)
    have f244 := (Y085.keep K192)
    have ne243 : s285 ≠ al85 := ne_exa f244 f195 (by decide)
    have f245 := ((((Y185.keep K192 (ninS ne242 nin0)).keep K216 (ninS ne243 nin0)).ext E217).ext E220)
    have f246 := ((((Y285.keep K192).keep K216).ext E217).ext E220)
    have ne247 : b75 ≠ m285 := Nat.ne_of_lt (Nat.lt_of_lt_of_le f79.lt gb85)
    have f249 := (Y285.keep K192)
    have ne248 : m285 ≠ al85 := ne_exa f249 f195 (by decide)
    have f250 := ((((Y385.keep K192 (ninS (Ne.symm ne247) nin0)).keep K216 (ninS ne248 nin0)).ext E217).ext E220)
    have f251 := ((((Y485.keep K192 (ninS (Ne.symm ne247) nin0)).keep K216 (ninS ne248 nin0)).ext E217).ext E220)
    have f252 := ((((Y585.keep K192 (ninS (Ne.symm ne247) nin0)).keep K216 (ninS ne248 nin0)).ext E217).ext E220)
    have f253 := ((((Y685.keep K192 (ninS (Ne.symm ne247) nin0)).keep K216 (ninS ne248 nin0)).ext E217).ext E220)
    have f254 := (((f195.keep K216).ext E217).ext E220)
    have f255 := ((FE216.ext E217).ext E220)
    have f256 := ((FS216.ext E217).ext E220)
    have f257 := ((FM216.ext E217).ext E220)
    have f258 := ((A216.ext E217).ext E220)
    have f259 := ((E216.ext E217).ext E220)
    have f260 := ((C216.ext E217).ext E220)
    have f261 := ((V216.ext E217).ext E220)
    have f262 := ((B216.ext E217).ext E220)
    have f263 := (A217.ext E220)
    have f264 := (C217.ext E220)
    have f265 := (V217.ext E220)
    have f266 := (B217.ext E220)
    refine Go.callVW (a := b75) (z := Y79) (ws' := [m185, m285]) (W := 0) (y := Y79) (argsL := [(.ref a217), (.ref a220)]) (rest := []) (pc' := 159) (k' := 84) (n' := 2393) (hb hby at_156) (own_w hw 273 rfl) (own_w hw 274 rfl) (fun s' hZ => notFace_of_selects (args := #[]) (mvT hZ (own_w hw 276 rfl))) (own_w hw 276 rfl) (own_w hw 275 rfl) (by decide) (rmTX l Z a0 hw [] b75 s185 m185 s285 m285 al85 tb216 kq216 st216 ts216 ks216 (own_D1 (p1 &&& (255 : Int32))) a217 bb217 kb217 a220 bb220 kb220 zS h220 n0 O223 (Nat.le_trans (Old.le O0) (Nat.le_trans KK77.1 ga85)) (Nat.le_trans (Old.le O0) (Nat.le_trans KK77.1 gb85)) f224 f225 f226 f227 f228 f232 f233 f237 f238 f239 f240 f241 f245 f246 f250 f251 f252 f253 ne85 f254 f255 f256 f257 f258 f259 f260 f261 f262 f263 f264 f265 f266 A220 C220 V220 B220 (Nat.le_of_ble_eq_true rfl) S0 P0) (own_w hw 277 rfl) (own_w hw 28 rfl) (by decide) (by decide) f224 hml.symm (lenOf pd_44 rfl) rfl (Nat.le_of_ble_eq_true rfl) rfl rfl rfl (by decide) (by decide) (allS (Or.inr (Nat.le_trans KK77.1 ga85)) (allS (Or.inr (Nat.le_trans KK77.1 gb85)) all0)) ?_
    rintro v267 h267 K267 ⟨sa267, ta267, ka267, rfl, E267, C267, V267, B267⟩
    refine Go.sp (g' := (mkF m 161 #[.val (.int p1), .val (.int p2), .val (.int (p1 &&& (255 : Int32))), .val (.int 1), .val (.ref sa12), .val (.ref b13), .val (.ref sa74), .val (.ref b75), .val (.int 1), .val (.ref sa267), .unset, .unset] [])) (fun T A t r => XS.astore A hx rfl (hb hby at_159) rfl rfl (l' := #[.val (.int p1), .val (.int p2), .val (.int (p1 &&& (255 : Int32))), .val (.int 1), .val (.ref sa12), .val (.ref b13), .val (.ref sa74), .val (.ref b75), .val (.int 1), .val (.ref sa267), .unset, .unset]) rfl r) ?_
    have f268 := ((((((((E74.ext E75).ext E76).keep K85).keep K192).keep K216).ext E217).ext E220).keep K267)
    have ne269 : sa74 ≠ b75 := Nat.ne_of_lt (Nat.lt_of_lt_of_le E74.lt (Nat.le_of_eq g75.symm))
    have f270 := ((E74.ext E75).ext E76)
    have ne271 : sa74 ≠ al85 := Nat.ne_of_lt (Nat.lt_of_lt_of_le f270.lt gc85)
    have ne272 : sa74 ≠ m285 := Nat.ne_of_lt (Nat.lt_of_lt_of_le f270.lt gb85)
    have ne273 : sa74 ≠ m185 := Nat.ne_of_lt (Nat.lt_of_lt_of_le f270.lt ga85)
    have f274 := ((((((((C74.ext E75).ext E76).keep K85 (ninS ne269 nin0)).keep K192 (ninS ne269 nin0)).keep K216 (ninS ne271 nin0)).ext E217).ext E220).keep K267 (ninS ne273 (ninS ne272 nin0)))
    have f275 := ((((((((V74.ext E75).ext E76).keep K85 (ninS ne269 nin0)).keep K192 (ninS ne269 nin0)).keep K216 (ninS ne271 nin0)).ext E217).ext E220).keep K267 (ninS ne273 (ninS ne272 nin0)))
    have ne276 : ta74 ≠ b75 := Nat.ne_of_lt (Nat.lt_of_lt_of_le B74.lt (Nat.le_of_eq g75.symm))
    have f277 := ((B74.ext E75).ext E76)
    have ne278 : ta74 ≠ al85 := Nat.ne_of_lt (Nat.lt_of_lt_of_le f277.lt gc85)
    have ne279 : ta74 ≠ m285 := Nat.ne_of_lt (Nat.lt_of_lt_of_le f277.lt gb85)
    have ne280 : ta74 ≠ m185 := Nat.ne_of_lt (Nat.lt_of_lt_of_le f277.lt ga85)
    have f281 := ((((((((B74.ext E75).ext E76).keep K85 (ninS ne276 nin0)).keep K192 (ninS ne276 nin0)).keep K216 (ninS ne278 nin0)).ext E217).ext E220).keep K267 (ninS ne280 (ninS ne279 nin0)))
    exact TL h267 (1 : Int32) 113 (own_D1 (p1 &&& (255 : Int32))) sa267 ta267 ka267 (by rw [own_Xl] <;> rfl) (by rw [own_Xl]; exact (Nat.le_of_ble_eq_true rfl)) (by decide) (by rw [own_Xl]; exact (Nat.le_of_ble_eq_true rfl)) (own_XD (ds := (own_D1 (p1 &&& (255 : Int32)))) 113 rfl (j := 4) (Nat.le_of_ble_eq_true rfl)) (own_XE (ds := (own_D1 (p1 &&& (255 : Int32)))) 114 rfl) (Or.inr ⟨by decide, (by rw [own_Xl]; exact (Nat.le_of_ble_eq_true rfl)), own_XD 109 rfl (j := 0) (Nat.le_of_ble_eq_true rfl)⟩) (Or.inr ⟨by decide, (by rw [own_Xl]; exact (Nat.le_of_ble_eq_true rfl)), own_XD 110 rfl (j := 1) (Nat.le_of_ble_eq_true rfl)⟩) (Or.inr ⟨by decide, (by rw [own_Xl]; exact (Nat.le_of_ble_eq_true rfl)), own_XD 111 rfl (j := 2) (Nat.le_of_ble_eq_true rfl)⟩) (Or.inr ⟨by decide, (by rw [own_Xl]; exact (Nat.le_of_ble_eq_true rfl)), own_XD 112 rfl (j := 3) (Nat.le_of_ble_eq_true rfl)⟩) (Or.inl (by decide)) (Or.inl (by decide)) (Or.inl (by decide)) (Or.inl (by decide)) (Or.inl (by decide)) (Or.inl (by decide)) (Or.inl (by decide)) (Or.inl (by decide)) f268 f274 f275 f281 E267 C267 V267 B267
  · skip
    refine Go.cast (g' := (mkF m 61 #[.val (.int p1), .val (.int p2), .val (.int (p1 &&& (255 : Int32))), .val (.int 2), .val (.ref sa12), .val (.ref b13), .val (.ref sa74), .val (.ref b75), .val (.int 1), .unset, .unset, .unset] [])) (by rw [hn] <;> rfl) ?_
    refine Go.sp (g' := (mkF m 73 #[.val (.int p1), .val (.int p2), .val (.int (p1 &&& (255 : Int32))), .val (.int 2), .val (.ref sa12), .val (.ref b13), .val (.ref sa74), .val (.ref b75), .val (.int 1), .unset, .unset, .unset] [(.ref b75)])) (fun T A t r => XS.iloadN A hx rfl (hb hby at_61) rfl (XS.iconst A hx rfl (hb hby at_62) (XS.icmpNo A hx rfl (hb hby at_63) rfl (flt (by decide : ¬ ((2 : Int32) < (1 : Int32)))).1 (XS.iload A hx rfl (hb hby at_66) rfl (XS.ifNo A hx rfl (hb hby at_68) rfl ((if0 _ _).trans (feq (by decide : ¬ ((1 : Int32) = (0 : Int32)))).1) (XS.aload A hx rfl (hb hby at_71) rfl rfl r)))))) ?_
    refine Go.old fun O282 => ?_
    have f283 := (f79.keep K85)
    refine OwnC.goW (k' := 51) (n' := 1235) (OwnC.callerV (y := Y81) (z := Y81) (a := b75) (W := 0) (argsL := []) (rest := []) (pc' := 76) (rc := 0) (rs := 0) (ws' := [b75]) hx (hb hby at_73) (own_w hw 459 rfl) (own_w hw 460 rfl) (fun s' hZ => OwnC.own_nf (a1 := #[]) (mvT hZ (own_w hw 111 rfl)) rfl) (own_w hw 462 rfl) (own_w hw 461 rfl) (by decide) (fun s' hZ => OwnN.Ct.bk (rmJI0 l Z a0 hw [] b75 (.ref s185) (.ref s285) (.ref al85) h85 n0 O282 (Nat.le_trans (Old.le O0) sz75) f283 D85 J185 J285 J385) hZ (own_w hw 463 rfl) (own_w hw 28 rfl) (by decide) (by decide)) f283 hml.symm (lenOf pd_46 rfl) rfl (Nat.le_of_ble_eq_true rfl) rfl (by decide) (by decide)) rfl rfl (allS (Or.inr sz75) all0) (allS (Or.inl (List.mem_of_getElem? (i := 0) rfl)) all0) ?_
    rintro v284 h284 K284 ⟨rfl, D284, J1284, J2284, J3284⟩
    refine ⟨[], all0, ?_⟩
    refine Go.sp (g' := (mkF m 78 #[.val (.int p1), .val (.int p2), .val (.int (p1 &&& (255 : Int32))), .val (.int 2), .val (.ref sa12), .val (.ref b13), .val (.ref sa74), .val (.ref b75), .val (.int 1), .unset, .unset, .unset] [(.ref b75), (.ref b75)])) (fun T A t r => XS.aload A hx rfl (hb hby at_76) rfl rfl r) ?_
    refine Go.r (g' := (mkF m 81 #[.val (.int p1), .val (.int p2), .val (.int (p1 &&& (255 : Int32))), .val (.int 2), .val (.ref sa12), .val (.ref b13), .val (.ref sa74), .val (.ref b75), .val (.int 1), .unset, .unset, .unset] [])) (fun s' T L_ X eT hZ t r => Jvm.RoadKit.acmp (g := (mkF m 78 #[.val (.int p1), .val (.int p2), .val (.int (p1 &&& (255 : Int32))), .val (.int 2), .val (.ref sa12), .val (.ref b13), .val (.ref sa74), .val (.ref b75), .val (.int 1), .unset, .unset, .unset] [(.ref b75), (.ref b75)])) X hx rfl rfl rfl (pc0 := 78) (pc' := 81) (same := true) rfl (hb hby at_78) rfl (decide_eq_true rfl) (by decide) (by decide) r) ?_
    refine Go.sp (g' := (mkF m 100 #[.val (.int p1), .val (.int p2), .val (.int (p1 &&& (255 : Int32))), .val (.int 2), .val (.ref sa12), .val (.ref b13), .val (.ref sa74), .val (.ref b75), .val (.int 1), .unset, .unset, .unset] [(.ref b75)])) (fun T A t r => XS.iconst A hx rfl (hb hby at_81) (XS.goto A hx rfl (pc0 := 82) (pc' := 86) rfl (hb hby at_82) (by decide) (by decide) (XS.istore A hx rfl (hb hby at_86) rfl (l' := #[.val (.int p1), .val (.int p2), .val (.int (p1 &&& (255 : Int32))), .val (.int 2), .val (.ref sa12), .val (.ref b13), .val (.ref sa74), .val (.ref b75), .val (.int 1), .unset, .unset, .unset]) rfl (XS.iloadN A hx rfl (hb hby at_88) rfl (XS.iconst A hx rfl (hb hby at_89) (XS.icmpNo A hx rfl (hb hby at_90) rfl (flt (by decide : ¬ ((2 : Int32) < (2 : Int32)))).1 (XS.iload A hx rfl (hb hby at_93) rfl (XS.ifNo A hx rfl (hb hby at_95) rfl ((if0 _ _).trans (feq (by decide : ¬ ((1 : Int32) = (0 : Int32)))).1) (XS.aload A hx rfl (hb hby at_98) rfl rfl r))))))))) ?_
    refine Go.old fun O285 => ?_
    have f286 := (f283.keep K284)
    refine OwnC.goW (k' := 51) (n' := 1235) (OwnC.callerV (y := Y81) (z := Y81) (a := b75) (W := 0) (argsL := []) (rest := []) (pc' := 103) (rc := 0) (rs := 0) (ws' := [b75]) hx (hb hby at_100) (own_w hw 459 rfl) (own_w hw 460 rfl) (fun s' hZ => OwnC.own_nf (a1 := #[]) (mvT hZ (own_w hw 111 rfl)) rfl) (own_w hw 462 rfl) (own_w hw 461 rfl) (by decide) (fun s' hZ => OwnN.Ct.bk (rmJI1 l Z a0 hw [] b75 (.ref s185) (.ref s285) (.ref al85) h284 n0 O285 (Nat.le_trans (Old.le O0) sz75) f286 D284 J1284 J2284 J3284) hZ (own_w hw 463 rfl) (own_w hw 28 rfl) (by decide) (by decide)) f286 hml.symm (lenOf pd_46 rfl) rfl (Nat.le_of_ble_eq_true rfl) rfl (by decide) (by decide)) rfl rfl (allS (Or.inr sz75) all0) (allS (Or.inl (List.mem_of_getElem? (i := 0) rfl)) all0) ?_
    rintro v287 h287 K287 ⟨rfl, D287, J1287, J2287, J3287⟩
    refine ⟨[], all0, ?_⟩
    refine Go.sp (g' := (mkF m 105 #[.val (.int p1), .val (.int p2), .val (.int (p1 &&& (255 : Int32))), .val (.int 2), .val (.ref sa12), .val (.ref b13), .val (.ref sa74), .val (.ref b75), .val (.int 1), .unset, .unset, .unset] [(.ref b75), (.ref b75)])) (fun T A t r => XS.aload A hx rfl (hb hby at_103) rfl rfl r) ?_
    refine Go.r (g' := (mkF m 108 #[.val (.int p1), .val (.int p2), .val (.int (p1 &&& (255 : Int32))), .val (.int 2), .val (.ref sa12), .val (.ref b13), .val (.ref sa74), .val (.ref b75), .val (.int 1), .unset, .unset, .unset] [])) (fun s' T L_ X eT hZ t r => Jvm.RoadKit.acmp (g := (mkF m 105 #[.val (.int p1), .val (.int p2), .val (.int (p1 &&& (255 : Int32))), .val (.int 2), .val (.ref sa12), .val (.ref b13), .val (.ref sa74), .val (.ref b75), .val (.int 1), .unset, .unset, .unset] [(.ref b75), (.ref b75)])) X hx rfl rfl rfl (pc0 := 105) (pc' := 108) (same := true) rfl (hb hby at_105) rfl (decide_eq_true rfl) (by decide) (by decide) r) ?_
    refine Go.sp (g' := (mkF m 146 #[.val (.int p1), .val (.int p2), .val (.int (p1 &&& (255 : Int32))), .val (.int 2), .val (.ref sa12), .val (.ref b13), .val (.ref sa74), .val (.ref b75), .val (.int 1), .unset, .unset, .unset] [(.ref sa12), (.ref b75)])) (fun T A t r => XS.iconst A hx rfl (hb hby at_108) (XS.goto A hx rfl (pc0 := 109) (pc' := 113) rfl (hb hby at_109) (by decide) (by decide) (XS.istore A hx rfl (hb hby at_113) rfl (l' := #[.val (.int p1), .val (.int p2), .val (.int (p1 &&& (255 : Int32))), .val (.int 2), .val (.ref sa12), .val (.ref b13), .val (.ref sa74), .val (.ref b75), .val (.int 1), .unset, .unset, .unset]) rfl (XS.iloadN A hx rfl (hb hby at_115) rfl (XS.iconst A hx rfl (hb hby at_116) (XS.icmpYes A hx rfl (pc0 := 117) (pc' := 142) rfl (hb hby at_117) rfl (tlt (by decide : ((2 : Int32) < (3 : Int32)))).1 (by decide) (by decide) (XS.aload A hx rfl (hb hby at_142) rfl rfl (XS.aload A hx rfl (hb hby at_144) rfl rfl r)))))))) ?_
    refine Go.old fun O288 => ?_
    have f289 := (f286.keep K287)
    have f290 := ((EL85.keep K284).keep K287)
    have ne291 : b75 ≠ al85 := Nat.ne_of_lt (Nat.lt_of_lt_of_le f79.lt gc85)
    have f292 := ((FE85.keep K284 (ninS (Ne.symm ne291) nin0)).keep K287 (ninS (Ne.symm ne291) nin0))
    have f293 := ((FS85.keep K284 (ninS (Ne.symm ne291) nin0)).keep K287 (ninS (Ne.symm ne291) nin0))
    have f294 := ((FM85.keep K284 (ninS (Ne.symm ne291) nin0)).keep K287 (ninS (Ne.symm ne291) nin0))
    have f295 := (((((((((f26.keep K32).ext E33).ext E35).keep K74).ext E75).ext E76).keep K85).keep K284).keep K287)
    have f296 := ((E12.ext E13).ext E14)
    have ne297 : sa12 ≠ al23 := Nat.ne_of_lt (Nat.lt_of_lt_of_le f296.lt gc23)
    have ne298 : sa12 ≠ m223 := Nat.ne_of_lt (Nat.lt_of_lt_of_le f296.lt gb23)
    have ne299 : sa12 ≠ m123 := Nat.ne_of_lt (Nat.lt_of_lt_of_le f296.lt ga23)
    have f300 := ((((f26.keep K32).ext E33).ext E35).keep K74)
    have ne301 : sa12 ≠ b75 := Nat.ne_of_lt (Nat.lt_of_lt_of_le f300.lt (Nat.le_of_eq g75.symm))
    have f302 := (((((((((f28.keep K32 (ninS ne297 nin0)).ext E33).ext E35).keep K74 (ninS ne299 (ninS ne298 nin0))).ext E75).ext E76).keep K85 (ninS ne301 nin0)).keep K284 (ninS ne301 nin0)).keep K287 (ninS ne301 nin0))
    have f303 := (((((((((f29.keep K32 (ninS ne297 nin0)).ext E33).ext E35).keep K74 (ninS ne299 (ninS ne298 nin0))).ext E75).ext E76).keep K85 (ninS ne301 nin0)).keep K284 (ninS ne301 nin0)).keep K287 (ninS ne301 nin0))
    have f304 := ((B12.ext E13).ext E14)
    have ne305 : ta12 ≠ al23 := Nat.ne_of_lt (Nat.lt_of_lt_of_le f304.lt gc23)
    have ne306 : ta12 ≠ m223 := Nat.ne_of_lt (Nat.lt_of_lt_of_le f304.lt gb23)
    have ne307 : ta12 ≠ m123 := Nat.ne_of_lt (Nat.lt_of_lt_of_le f304.lt ga23)
    have f308 := ((((f31.keep K32 (ninS ne305 nin0)).ext E33).ext E35).keep K74 (ninS ne307 (ninS ne306 nin0)))
    have ne309 : ta12 ≠ b75 := Nat.ne_of_lt (Nat.lt_of_lt_of_le f308.lt (Nat.le_of_eq g75.symm))
    have f310 := (((((((((f31.keep K32 (ninS ne305 nin0)).ext E33).ext E35).keep K74 (ninS ne307 (ninS ne306 nin0))).ext E75).ext E76).keep K85 (ninS ne309 nin0)).keep K284 (ninS ne309 nin0)).keep K287 (ninS ne309 nin0))
    refine Go.callVW (a := b75) (z := Y78) (ws' := [al85]) (W := 0) (y := Y78) (argsL := [(.ref sa12)]) (rest := []) (pc' := 149) (k' := 60) (n' := 1463) (hb hby at_146) (own_w hw 108 rfl) (own_w hw 109 rfl) (fun s' hZ => notFace_of_selects (args := #[]) (mvT hZ (own_w hw 111 rfl))) (own_w hw 111 rfl) (own_w hw 110 rfl) (by decide) (rmLI2 l Z a0 hw [] b75 al85 sa12 ta12 ka12 (p1 &&& (255 : Int32)) dE kD zS h287 n0 O288 (Nat.le_trans (Old.le O0) (Nat.le_trans KK77.1 gc85)) f289 J3287 D287 f290 f292 f293 f294 f295 f302 f303 f310 SD AD S0 P0) (own_w hw 112 rfl) (own_w hw 28 rfl) (by decide) (by decide) f289 hml.symm (lenOf pd_43 rfl) rfl (Nat.le_of_ble_eq_true rfl) rfl rfl rfl (by decide) (by decide) (allS (Or.inr (Nat.le_trans KK77.1 gc85)) all0) ?_
    rintro v311 h311 K311 ⟨st311, ts311, ks311, tb311, kq311, rfl, FE311, FS311, FM311, A311, E311, C311, V311, B311⟩
    refine Go.sp (g' := (mkF m 152 #[.val (.int p1), .val (.int p2), .val (.int (p1 &&& (255 : Int32))), .val (.int 2), .val (.ref sa12), .val (.ref b13), .val (.ref sa74), .val (.ref b75), .val (.int 1), .unset, .unset, .unset] [(.ref b75)])) (fun T A t r => XS.pop A hx rfl (hb hby at_149) rfl rfl (XS.aload A hx rfl (hb hby at_150) rfl rfl r)) ?_
    refine Go.ldc (vs := (own_B [112])) (z := (Int32.ofNat [112].length)) (nn := 4) (k' := 62) (n' := 1471) (pc' := 154) (hb hby at_152) (own_w hw 271 rfl) (own_strA hw) (by decide) (by decide +kernel) (by decide +kernel) (by decide +kernel) (by decide +kernel) (by decide) rfl rfl rfl (by decide) (by decide) ?_
    intro a312 h312 bb312 kb312 E312 A312 C312 V312 B312 ne312
    have nl313 := ne312 b75 (Or.inl (List.mem_of_getElem? (i := 0) rfl))
    have nl314 := ne312 b13 (Or.inl (List.mem_of_getElem? (i := 1) rfl))
    refine Go.ldc (vs := (own_B [115])) (z := (Int32.ofNat [115].length)) (nn := 4) (k' := 64) (n' := 1479) (pc' := 156) (hb hby at_154) (own_w hw 272 rfl) (own_strA hw) (by decide) (by decide +kernel) (by decide +kernel) (by decide +kernel) (by decide +kernel) (by decide) rfl rfl rfl (by decide) (by decide) ?_
    intro a315 h315 bb315 kb315 E315 A315 C315 V315 B315 ne315
    have nl316 := ne315 b75 (Or.inl (List.mem_of_getElem? (i := 0) rfl))
    have nl317 := ne315 b13 (Or.inl (List.mem_of_getElem? (i := 1) rfl))
    refine Go.old fun O318 => ?_
    have f319 := (((f289.keep K311).ext E312).ext E315)
    have f320 := (((J1287.keep K311 (ninS ne291 nin0)).ext E312).ext E315)
    have f321 := (((J2287.keep K311 (ninS ne291 nin0)).ext E312).ext E315)
    have f322 := (((J3287.keep K311 (ninS ne291 nin0)).ext E312).ext E315)
    have f323 := (((((X085.keep K284).keep K287).keep K311).ext E312).ext E315)
    have ne324 : s185 ≠ b75 := ne_exa X085 f283 (by decide)
    have f326 := ((X085.keep K284).keep K287)
    have ne325 : s185 ≠ al85 := ne_exa f326 f290 (by decide)
    have f327 := (((((X185.keep K284 (ninS ne324 nin0)).keep K287 (ninS ne324 nin0)).keep K311 (ninS ne325 nin0)).ext E312).ext E315)
    have f328 := (((((X285.keep K284).keep K287).keep K311).ext E312).ext E315)
    have ne329 : b75 ≠ m185 := Nat.ne_of_lt (Nat.lt_of_lt_of_le f79.lt ga85)
    have f331 := ((X285.keep K284).keep K287)
    have ne330 : m185 ≠ al85 := ne_exa f331 f290 (by decide)
    have f332 := (((((X385.keep K284 (ninS (Ne.symm ne329) nin0)).keep K287 (ninS (Ne.symm ne329) nin0)).keep K311 (ninS ne330 nin0)).ext E312).ext E315)
    have f333 := (((((X485.keep K284 (ninS (Ne.symm ne329) nin0)).keep K287 (ninS (Ne.symm ne329) nin0)).keep K311 (ninS ne330 nin0)).ext E312).ext E315)
    have f334 := (((((X585.keep K284 (ninS (Ne.symm ne329) nin0)).keep K287 (ninS (Ne.symm ne329) nin0)).keep K311 (ninS ne330 nin0)).ext E312).ext E315)
    have f335 := (((((X685.keep K284 (ninS (Ne.symm ne329) nin0)).keep K287 (ninS (Ne.symm ne329) nin0)).keep K311 (ninS ne330 nin0)).ext E312).ext E315)
    have f336 := (((((Y085.keep K284).keep K287).keep K311).ext E312).ext E315)
    have ne337 : s285 ≠ b75 := ne_exa Y085 f283 (by decide)
    have f339 := ((Y085.keep K284).keep K287)
    have ne338 : s285 ≠ al85 := ne_exa f339 f290 (by decide)
    have f340 := (((((Y185.keep K284 (ninS ne337 nin0)).keep K287 (ninS ne337 nin0)).keep K311 (ninS ne338 nin0)).ext E312).ext E315)
    have f341 := (((((Y285.keep K284).keep K287).keep K311).ext E312).ext E315)
    have ne342 : b75 ≠ m285 := Nat.ne_of_lt (Nat.lt_of_lt_of_le f79.lt gb85)
    have f344 := ((Y285.keep K284).keep K287)
    have ne343 : m285 ≠ al85 := ne_exa f344 f290 (by decide)
    have f345 := (((((Y385.keep K284 (ninS (Ne.symm ne342) nin0)).keep K287 (ninS (Ne.symm ne342) nin0)).keep K311 (ninS ne343 nin0)).ext E312).ext E315)
    have f346 := (((((Y485.keep K284 (ninS (Ne.symm ne342) nin0)).keep K287 (ninS (Ne.symm ne342) nin0)).keep K311 (ninS ne343 nin0)).ext E312).ext E315)
    have f347 := (((((Y585.keep K284 (ninS (Ne.symm ne342) nin0)).keep K287 (ninS (Ne.symm ne342) nin0)).keep K311 (ninS ne343 nin0)).ext E312).ext E315)
    have f348 := (((((Y685.keep K284 (ninS (Ne.symm ne342) nin0)).keep K287 (ninS (Ne.symm ne342) nin0)).keep K311 (ninS ne343 nin0)).ext E312).ext E315)
    have f349 := (((f290.keep K311).ext E312).ext E315)
    have f350 := ((FE311.ext E312).ext E315)
    have f351 := ((FS311.ext E312).ext E315)
    have f352 := ((FM311.ext E312).ext E315)
    have f353 := ((A311.ext E312).ext E315)
    have f354 := ((E311.ext E312).ext E315)
    have f355 := ((C311.ext E312).ext E315)
    have f356 := ((V311.ext E312).ext E315)
    have f357 := ((B311.ext E312).ext E315)
    have f358 := (A312.ext E315)
    have f359 := (C312.ext E315)
    have f360 := (V312.ext E315)
    have f361 := (B312.ext E315)
    refine Go.callVW (a := b75) (z := Y79) (ws' := [m185, m285]) (W := 0) (y := Y79) (argsL := [(.ref a312), (.ref a315)]) (rest := []) (pc' := 159) (k' := 84) (n' := 2393) (hb hby at_156) (own_w hw 273 rfl) (own_w hw 274 rfl) (fun s' hZ => notFace_of_selects (args := #[]) (mvT hZ (own_w hw 276 rfl))) (own_w hw 276 rfl) (own_w hw 275 rfl) (by decide) (rmTX l Z a0 hw [] b75 s185 m185 s285 m285 al85 tb311 kq311 st311 ts311 ks311 (own_D2 (p1 &&& (255 : Int32))) a312 bb312 kb312 a315 bb315 kb315 zS h315 n0 O318 (Nat.le_trans (Old.le O0) (Nat.le_trans KK77.1 ga85)) (Nat.le_trans (Old.le O0) (Nat.le_trans KK77.1 gb85)) f319 f320 f321 f322 f323 f327 f328 f332 f333 f334 f335 f336 f340 f341 f345 f346 f347 f348 ne85 f349 f350 f351 f352 f353 f354 f355 f356 f357 f358 f359 f360 f361 A315 C315 V315 B315 (Nat.le_of_ble_eq_true rfl) S0 P0) (own_w hw 277 rfl) (own_w hw 28 rfl) (by decide) (by decide) f319 hml.symm (lenOf pd_44 rfl) rfl (Nat.le_of_ble_eq_true rfl) rfl rfl rfl (by decide) (by decide) (allS (Or.inr (Nat.le_trans KK77.1 ga85)) (allS (Or.inr (Nat.le_trans KK77.1 gb85)) all0)) ?_
    rintro v362 h362 K362 ⟨sa362, ta362, ka362, rfl, E362, C362, V362, B362⟩
    refine Go.sp (g' := (mkF m 161 #[.val (.int p1), .val (.int p2), .val (.int (p1 &&& (255 : Int32))), .val (.int 2), .val (.ref sa12), .val (.ref b13), .val (.ref sa74), .val (.ref b75), .val (.int 1), .val (.ref sa362), .unset, .unset] [])) (fun T A t r => XS.astore A hx rfl (hb hby at_159) rfl rfl (l' := #[.val (.int p1), .val (.int p2), .val (.int (p1 &&& (255 : Int32))), .val (.int 2), .val (.ref sa12), .val (.ref b13), .val (.ref sa74), .val (.ref b75), .val (.int 1), .val (.ref sa362), .unset, .unset]) rfl r) ?_
    have f363 := (((((((((E74.ext E75).ext E76).keep K85).keep K284).keep K287).keep K311).ext E312).ext E315).keep K362)
    have ne364 : sa74 ≠ b75 := Nat.ne_of_lt (Nat.lt_of_lt_of_le E74.lt (Nat.le_of_eq g75.symm))
    have f365 := ((E74.ext E75).ext E76)
    have ne366 : sa74 ≠ al85 := Nat.ne_of_lt (Nat.lt_of_lt_of_le f365.lt gc85)
    have ne367 : sa74 ≠ m285 := Nat.ne_of_lt (Nat.lt_of_lt_of_le f365.lt gb85)
    have ne368 : sa74 ≠ m185 := Nat.ne_of_lt (Nat.lt_of_lt_of_le f365.lt ga85)
    have f369 := (((((((((C74.ext E75).ext E76).keep K85 (ninS ne364 nin0)).keep K284 (ninS ne364 nin0)).keep K287 (ninS ne364 nin0)).keep K311 (ninS ne366 nin0)).ext E312).ext E315).keep K362 (ninS ne368 (ninS ne367 nin0)))
    have f370 := (((((((((V74.ext E75).ext E76).keep K85 (ninS ne364 nin0)).keep K284 (ninS ne364 nin0)).keep K287 (ninS ne364 nin0)).keep K311 (ninS ne366 nin0)).ext E312).ext E315).keep K362 (ninS ne368 (ninS ne367 nin0)))
    have ne371 : ta74 ≠ b75 := Nat.ne_of_lt (Nat.lt_of_lt_of_le B74.lt (Nat.le_of_eq g75.symm))
    have f372 := ((B74.ext E75).ext E76)
    have ne373 : ta74 ≠ al85 := Nat.ne_of_lt (Nat.lt_of_lt_of_le f372.lt gc85)
    have ne374 : ta74 ≠ m285 := Nat.ne_of_lt (Nat.lt_of_lt_of_le f372.lt gb85)
    have ne375 : ta74 ≠ m185 := Nat.ne_of_lt (Nat.lt_of_lt_of_le f372.lt ga85)
    have f376 := (((((((((B74.ext E75).ext E76).keep K85 (ninS ne371 nin0)).keep K284 (ninS ne371 nin0)).keep K287 (ninS ne371 nin0)).keep K311 (ninS ne373 nin0)).ext E312).ext E315).keep K362 (ninS ne375 (ninS ne374 nin0)))
    exact TL h362 (2 : Int32) 117 (own_D2 (p1 &&& (255 : Int32))) sa362 ta362 ka362 (by rw [own_Xl] <;> rfl) (by rw [own_Xl]; exact (Nat.le_of_ble_eq_true rfl)) (by decide) (by rw [own_Xl]; exact (Nat.le_of_ble_eq_true rfl)) (own_XD (ds := (own_D2 (p1 &&& (255 : Int32)))) 117 rfl (j := 8) (Nat.le_of_ble_eq_true rfl)) (own_XE (ds := (own_D2 (p1 &&& (255 : Int32)))) 118 rfl) (Or.inr ⟨by decide, (by rw [own_Xl]; exact (Nat.le_of_ble_eq_true rfl)), own_XD 109 rfl (j := 0) (Nat.le_of_ble_eq_true rfl)⟩) (Or.inr ⟨by decide, (by rw [own_Xl]; exact (Nat.le_of_ble_eq_true rfl)), own_XD 110 rfl (j := 1) (Nat.le_of_ble_eq_true rfl)⟩) (Or.inr ⟨by decide, (by rw [own_Xl]; exact (Nat.le_of_ble_eq_true rfl)), own_XD 111 rfl (j := 2) (Nat.le_of_ble_eq_true rfl)⟩) (Or.inr ⟨by decide, (by rw [own_Xl]; exact (Nat.le_of_ble_eq_true rfl)), own_XD 112 rfl (j := 3) (Nat.le_of_ble_eq_true rfl)⟩) (Or.inr ⟨by decide, (by rw [own_Xl]; exact (Nat.le_of_ble_eq_true rfl)), own_XD 113 rfl (j := 4) (Nat.le_of_ble_eq_true rfl)⟩) (Or.inr ⟨by decide, (by rw [own_Xl]; exact (Nat.le_of_ble_eq_true rfl)), own_XD 114 rfl (j := 5) (Nat.le_of_ble_eq_true rfl)⟩) (Or.inr ⟨by decide, (by rw [own_Xl]; exact (Nat.le_of_ble_eq_true rfl)), own_XD 115 rfl (j := 6) (Nat.le_of_ble_eq_true rfl)⟩) (Or.inr ⟨by decide, (by rw [own_Xl]; exact (Nat.le_of_ble_eq_true rfl)), own_XD 116 rfl (j := 7) (Nat.le_of_ble_eq_true rfl)⟩) (Or.inl (by decide)) (Or.inl (by decide)) (Or.inl (by decide)) (Or.inl (by decide)) f363 f369 f370 f376 E362 C362 V362 B362
  · skip
    refine Go.cast (g' := (mkF m 61 #[.val (.int p1), .val (.int p2), .val (.int (p1 &&& (255 : Int32))), .val (.int 3), .val (.ref sa12), .val (.ref b13), .val (.ref sa74), .val (.ref b75), .val (.int 1), .unset, .unset, .unset] [])) (by rw [hn] <;> rfl) ?_
    refine Go.sp (g' := (mkF m 73 #[.val (.int p1), .val (.int p2), .val (.int (p1 &&& (255 : Int32))), .val (.int 3), .val (.ref sa12), .val (.ref b13), .val (.ref sa74), .val (.ref b75), .val (.int 1), .unset, .unset, .unset] [(.ref b75)])) (fun T A t r => XS.iloadN A hx rfl (hb hby at_61) rfl (XS.iconst A hx rfl (hb hby at_62) (XS.icmpNo A hx rfl (hb hby at_63) rfl (flt (by decide : ¬ ((3 : Int32) < (1 : Int32)))).1 (XS.iload A hx rfl (hb hby at_66) rfl (XS.ifNo A hx rfl (hb hby at_68) rfl ((if0 _ _).trans (feq (by decide : ¬ ((1 : Int32) = (0 : Int32)))).1) (XS.aload A hx rfl (hb hby at_71) rfl rfl r)))))) ?_
    refine Go.old fun O377 => ?_
    have f378 := (f79.keep K85)
    refine OwnC.goW (k' := 51) (n' := 1235) (OwnC.callerV (y := Y81) (z := Y81) (a := b75) (W := 0) (argsL := []) (rest := []) (pc' := 76) (rc := 0) (rs := 0) (ws' := [b75]) hx (hb hby at_73) (own_w hw 459 rfl) (own_w hw 460 rfl) (fun s' hZ => OwnC.own_nf (a1 := #[]) (mvT hZ (own_w hw 111 rfl)) rfl) (own_w hw 462 rfl) (own_w hw 461 rfl) (by decide) (fun s' hZ => OwnN.Ct.bk (rmJI0 l Z a0 hw [] b75 (.ref s185) (.ref s285) (.ref al85) h85 n0 O377 (Nat.le_trans (Old.le O0) sz75) f378 D85 J185 J285 J385) hZ (own_w hw 463 rfl) (own_w hw 28 rfl) (by decide) (by decide)) f378 hml.symm (lenOf pd_46 rfl) rfl (Nat.le_of_ble_eq_true rfl) rfl (by decide) (by decide)) rfl rfl (allS (Or.inr sz75) all0) (allS (Or.inl (List.mem_of_getElem? (i := 0) rfl)) all0) ?_
    rintro v379 h379 K379 ⟨rfl, D379, J1379, J2379, J3379⟩
    refine ⟨[], all0, ?_⟩
    refine Go.sp (g' := (mkF m 78 #[.val (.int p1), .val (.int p2), .val (.int (p1 &&& (255 : Int32))), .val (.int 3), .val (.ref sa12), .val (.ref b13), .val (.ref sa74), .val (.ref b75), .val (.int 1), .unset, .unset, .unset] [(.ref b75), (.ref b75)])) (fun T A t r => XS.aload A hx rfl (hb hby at_76) rfl rfl r) ?_
    refine Go.r (g' := (mkF m 81 #[.val (.int p1), .val (.int p2), .val (.int (p1 &&& (255 : Int32))), .val (.int 3), .val (.ref sa12), .val (.ref b13), .val (.ref sa74), .val (.ref b75), .val (.int 1), .unset, .unset, .unset] [])) (fun s' T L_ X eT hZ t r => Jvm.RoadKit.acmp (g := (mkF m 78 #[.val (.int p1), .val (.int p2), .val (.int (p1 &&& (255 : Int32))), .val (.int 3), .val (.ref sa12), .val (.ref b13), .val (.ref sa74), .val (.ref b75), .val (.int 1), .unset, .unset, .unset] [(.ref b75), (.ref b75)])) X hx rfl rfl rfl (pc0 := 78) (pc' := 81) (same := true) rfl (hb hby at_78) rfl (decide_eq_true rfl) (by decide) (by decide) r) ?_
    refine Go.sp (g' := (mkF m 100 #[.val (.int p1), .val (.int p2), .val (.int (p1 &&& (255 : Int32))), .val (.int 3), .val (.ref sa12), .val (.ref b13), .val (.ref sa74), .val (.ref b75), .val (.int 1), .unset, .unset, .unset] [(.ref b75)])) (fun T A t r => XS.iconst A hx rfl (hb hby at_81) (XS.goto A hx rfl (pc0 := 82) (pc' := 86) rfl (hb hby at_82) (by decide) (by decide) (XS.istore A hx rfl (hb hby at_86) rfl (l' := #[.val (.int p1), .val (.int p2), .val (.int (p1 &&& (255 : Int32))), .val (.int 3), .val (.ref sa12), .val (.ref b13), .val (.ref sa74), .val (.ref b75), .val (.int 1), .unset, .unset, .unset]) rfl (XS.iloadN A hx rfl (hb hby at_88) rfl (XS.iconst A hx rfl (hb hby at_89) (XS.icmpNo A hx rfl (hb hby at_90) rfl (flt (by decide : ¬ ((3 : Int32) < (2 : Int32)))).1 (XS.iload A hx rfl (hb hby at_93) rfl (XS.ifNo A hx rfl (hb hby at_95) rfl ((if0 _ _).trans (feq (by decide : ¬ ((1 : Int32) = (0 : Int32)))).1) (XS.aload A hx rfl (hb hby at_98) rfl rfl r))))))))) ?_
    refine Go.old fun O380 => ?_
    have f381 := (f378.keep K379)
    refine OwnC.goW (k' := 51) (n' := 1235) (OwnC.callerV (y := Y81) (z := Y81) (a := b75) (W := 0) (argsL := []) (rest := []) (pc' := 103) (rc := 0) (rs := 0) (ws' := [b75]) hx (hb hby at_100) (own_w hw 459 rfl) (own_w hw 460 rfl) (fun s' hZ => OwnC.own_nf (a1 := #[]) (mvT hZ (own_w hw 111 rfl)) rfl) (own_w hw 462 rfl) (own_w hw 461 rfl) (by decide) (fun s' hZ => OwnN.Ct.bk (rmJI1 l Z a0 hw [] b75 (.ref s185) (.ref s285) (.ref al85) h379 n0 O380 (Nat.le_trans (Old.le O0) sz75) f381 D379 J1379 J2379 J3379) hZ (own_w hw 463 rfl) (own_w hw 28 rfl) (by decide) (by decide)) f381 hml.symm (lenOf pd_46 rfl) rfl (Nat.le_of_ble_eq_true rfl) rfl (by decide) (by decide)) rfl rfl (allS (Or.inr sz75) all0) (allS (Or.inl (List.mem_of_getElem? (i := 0) rfl)) all0) ?_
    rintro v382 h382 K382 ⟨rfl, D382, J1382, J2382, J3382⟩
    refine ⟨[], all0, ?_⟩
    refine Go.sp (g' := (mkF m 105 #[.val (.int p1), .val (.int p2), .val (.int (p1 &&& (255 : Int32))), .val (.int 3), .val (.ref sa12), .val (.ref b13), .val (.ref sa74), .val (.ref b75), .val (.int 1), .unset, .unset, .unset] [(.ref b75), (.ref b75)])) (fun T A t r => XS.aload A hx rfl (hb hby at_103) rfl rfl r) ?_
    refine Go.r (g' := (mkF m 108 #[.val (.int p1), .val (.int p2), .val (.int (p1 &&& (255 : Int32))), .val (.int 3), .val (.ref sa12), .val (.ref b13), .val (.ref sa74), .val (.ref b75), .val (.int 1), .unset, .unset, .unset] [])) (fun s' T L_ X eT hZ t r => Jvm.RoadKit.acmp (g := (mkF m 105 #[.val (.int p1), .val (.int p2), .val (.int (p1 &&& (255 : Int32))), .val (.int 3), .val (.ref sa12), .val (.ref b13), .val (.ref sa74), .val (.ref b75), .val (.int 1), .unset, .unset, .unset] [(.ref b75), (.ref b75)])) X hx rfl rfl rfl (pc0 := 105) (pc' := 108) (same := true) rfl (hb hby at_105) rfl (decide_eq_true rfl) (by decide) (by decide) r) ?_
    refine Go.sp (g' := (mkF m 127 #[.val (.int p1), .val (.int p2), .val (.int (p1 &&& (255 : Int32))), .val (.int 3), .val (.ref sa12), .val (.ref b13), .val (.ref sa74), .val (.ref b75), .val (.int 1), .unset, .unset, .unset] [(.ref b75)])) (fun T A t r => XS.iconst A hx rfl (hb hby at_108) (XS.goto A hx rfl (pc0 := 109) (pc' := 113) rfl (hb hby at_109) (by decide) (by decide) (XS.istore A hx rfl (hb hby at_113) rfl (l' := #[.val (.int p1), .val (.int p2), .val (.int (p1 &&& (255 : Int32))), .val (.int 3), .val (.ref sa12), .val (.ref b13), .val (.ref sa74), .val (.ref b75), .val (.int 1), .unset, .unset, .unset]) rfl (XS.iloadN A hx rfl (hb hby at_115) rfl (XS.iconst A hx rfl (hb hby at_116) (XS.icmpNo A hx rfl (hb hby at_117) rfl (flt (by decide : ¬ ((3 : Int32) < (3 : Int32)))).1 (XS.iload A hx rfl (hb hby at_120) rfl (XS.ifNo A hx rfl (hb hby at_122) rfl ((if0 _ _).trans (feq (by decide : ¬ ((1 : Int32) = (0 : Int32)))).1) (XS.aload A hx rfl (hb hby at_125) rfl rfl r))))))))) ?_
    refine Go.old fun O383 => ?_
    have f384 := (f381.keep K382)
    refine OwnC.goW (k' := 51) (n' := 1235) (OwnC.callerV (y := Y81) (z := Y81) (a := b75) (W := 0) (argsL := []) (rest := []) (pc' := 130) (rc := 0) (rs := 0) (ws' := [b75]) hx (hb hby at_127) (own_w hw 459 rfl) (own_w hw 460 rfl) (fun s' hZ => OwnC.own_nf (a1 := #[]) (mvT hZ (own_w hw 111 rfl)) rfl) (own_w hw 462 rfl) (own_w hw 461 rfl) (by decide) (fun s' hZ => OwnN.Ct.bk (rmJI2 l Z a0 hw [] b75 (.ref s185) (.ref s285) (.ref al85) h382 n0 O383 (Nat.le_trans (Old.le O0) sz75) f384 D382 J1382 J2382 J3382) hZ (own_w hw 463 rfl) (own_w hw 28 rfl) (by decide) (by decide)) f384 hml.symm (lenOf pd_46 rfl) rfl (Nat.le_of_ble_eq_true rfl) rfl (by decide) (by decide)) rfl rfl (allS (Or.inr sz75) all0) (allS (Or.inl (List.mem_of_getElem? (i := 0) rfl)) all0) ?_
    rintro v385 h385 K385 ⟨rfl, D385, J1385, J2385, J3385⟩
    refine ⟨[], all0, ?_⟩
    refine Go.sp (g' := (mkF m 132 #[.val (.int p1), .val (.int p2), .val (.int (p1 &&& (255 : Int32))), .val (.int 3), .val (.ref sa12), .val (.ref b13), .val (.ref sa74), .val (.ref b75), .val (.int 1), .unset, .unset, .unset] [(.ref b75), (.ref b75)])) (fun T A t r => XS.aload A hx rfl (hb hby at_130) rfl rfl r) ?_
    refine Go.r (g' := (mkF m 135 #[.val (.int p1), .val (.int p2), .val (.int (p1 &&& (255 : Int32))), .val (.int 3), .val (.ref sa12), .val (.ref b13), .val (.ref sa74), .val (.ref b75), .val (.int 1), .unset, .unset, .unset] [])) (fun s' T L_ X eT hZ t r => Jvm.RoadKit.acmp (g := (mkF m 132 #[.val (.int p1), .val (.int p2), .val (.int (p1 &&& (255 : Int32))), .val (.int 3), .val (.ref sa12), .val (.ref b13), .val (.ref sa74), .val (.ref b75), .val (.int 1), .unset, .unset, .unset] [(.ref b75), (.ref b75)])) X hx rfl rfl rfl (pc0 := 132) (pc' := 135) (same := true) rfl (hb hby at_132) rfl (decide_eq_true rfl) (by decide) (by decide) r) ?_
    refine Go.sp (g' := (mkF m 146 #[.val (.int p1), .val (.int p2), .val (.int (p1 &&& (255 : Int32))), .val (.int 3), .val (.ref sa12), .val (.ref b13), .val (.ref sa74), .val (.ref b75), .val (.int 1), .unset, .unset, .unset] [(.ref sa12), (.ref b75)])) (fun T A t r => XS.iconst A hx rfl (hb hby at_135) (XS.goto A hx rfl (pc0 := 136) (pc' := 140) rfl (hb hby at_136) (by decide) (by decide) (XS.istore A hx rfl (hb hby at_140) rfl (l' := #[.val (.int p1), .val (.int p2), .val (.int (p1 &&& (255 : Int32))), .val (.int 3), .val (.ref sa12), .val (.ref b13), .val (.ref sa74), .val (.ref b75), .val (.int 1), .unset, .unset, .unset]) rfl (XS.aload A hx rfl (hb hby at_142) rfl rfl (XS.aload A hx rfl (hb hby at_144) rfl rfl r))))) ?_
    refine Go.old fun O386 => ?_
    have f387 := (f384.keep K385)
    have f388 := (((EL85.keep K379).keep K382).keep K385)
    have ne389 : b75 ≠ al85 := Nat.ne_of_lt (Nat.lt_of_lt_of_le f79.lt gc85)
    have f390 := (((FE85.keep K379 (ninS (Ne.symm ne389) nin0)).keep K382 (ninS (Ne.symm ne389) nin0)).keep K385 (ninS (Ne.symm ne389) nin0))
    have f391 := (((FS85.keep K379 (ninS (Ne.symm ne389) nin0)).keep K382 (ninS (Ne.symm ne389) nin0)).keep K385 (ninS (Ne.symm ne389) nin0))
    have f392 := (((FM85.keep K379 (ninS (Ne.symm ne389) nin0)).keep K382 (ninS (Ne.symm ne389) nin0)).keep K385 (ninS (Ne.symm ne389) nin0))
    have f393 := ((((((((((f26.keep K32).ext E33).ext E35).keep K74).ext E75).ext E76).keep K85).keep K379).keep K382).keep K385)
    have f394 := ((E12.ext E13).ext E14)
    have ne395 : sa12 ≠ al23 := Nat.ne_of_lt (Nat.lt_of_lt_of_le f394.lt gc23)
    have ne396 : sa12 ≠ m223 := Nat.ne_of_lt (Nat.lt_of_lt_of_le f394.lt gb23)
    have ne397 : sa12 ≠ m123 := Nat.ne_of_lt (Nat.lt_of_lt_of_le f394.lt ga23)
    have f398 := ((((f26.keep K32).ext E33).ext E35).keep K74)
    have ne399 : sa12 ≠ b75 := Nat.ne_of_lt (Nat.lt_of_lt_of_le f398.lt (Nat.le_of_eq g75.symm))
    have f400 := ((((((((((f28.keep K32 (ninS ne395 nin0)).ext E33).ext E35).keep K74 (ninS ne397 (ninS ne396 nin0))).ext E75).ext E76).keep K85 (ninS ne399 nin0)).keep K379 (ninS ne399 nin0)).keep K382 (ninS ne399 nin0)).keep K385 (ninS ne399 nin0))
    have f401 := ((((((((((f29.keep K32 (ninS ne395 nin0)).ext E33).ext E35).keep K74 (ninS ne397 (ninS ne396 nin0))).ext E75).ext E76).keep K85 (ninS ne399 nin0)).keep K379 (ninS ne399 nin0)).keep K382 (ninS ne399 nin0)).keep K385 (ninS ne399 nin0))
    have f402 := ((B12.ext E13).ext E14)
    have ne403 : ta12 ≠ al23 := Nat.ne_of_lt (Nat.lt_of_lt_of_le f402.lt gc23)
    have ne404 : ta12 ≠ m223 := Nat.ne_of_lt (Nat.lt_of_lt_of_le f402.lt gb23)
    have ne405 : ta12 ≠ m123 := Nat.ne_of_lt (Nat.lt_of_lt_of_le f402.lt ga23)
    have f406 := ((((f31.keep K32 (ninS ne403 nin0)).ext E33).ext E35).keep K74 (ninS ne405 (ninS ne404 nin0)))
    have ne407 : ta12 ≠ b75 := Nat.ne_of_lt (Nat.lt_of_lt_of_le f406.lt (Nat.le_of_eq g75.symm))
    have f408 := ((((((((((f31.keep K32 (ninS ne403 nin0)).ext E33).ext E35).keep K74 (ninS ne405 (ninS ne404 nin0))).ext E75).ext E76).keep K85 (ninS ne407 nin0)).keep K379 (ninS ne407 nin0)).keep K382 (ninS ne407 nin0)).keep K385 (ninS ne407 nin0))
    refine Go.callVW (a := b75) (z := Y78) (ws' := [al85]) (W := 0) (y := Y78) (argsL := [(.ref sa12)]) (rest := []) (pc' := 149) (k' := 60) (n' := 1463) (hb hby at_146) (own_w hw 108 rfl) (own_w hw 109 rfl) (fun s' hZ => notFace_of_selects (args := #[]) (mvT hZ (own_w hw 111 rfl))) (own_w hw 111 rfl) (own_w hw 110 rfl) (by decide) (rmLI3 l Z a0 hw [] b75 al85 sa12 ta12 ka12 (p1 &&& (255 : Int32)) dE kD zS h385 n0 O386 (Nat.le_trans (Old.le O0) (Nat.le_trans KK77.1 gc85)) f387 J3385 D385 f388 f390 f391 f392 f393 f400 f401 f408 SD AD S0 P0) (own_w hw 112 rfl) (own_w hw 28 rfl) (by decide) (by decide) f387 hml.symm (lenOf pd_43 rfl) rfl (Nat.le_of_ble_eq_true rfl) rfl rfl rfl (by decide) (by decide) (allS (Or.inr (Nat.le_trans KK77.1 gc85)) all0) ?_
    rintro v409 h409 K409 ⟨st409, ts409, ks409, tb409, kq409, rfl, FE409, FS409, FM409, A409, E409, C409, V409, B409⟩
    refine Go.sp (g' := (mkF m 152 #[.val (.int p1), .val (.int p2), .val (.int (p1 &&& (255 : Int32))), .val (.int 3), .val (.ref sa12), .val (.ref b13), .val (.ref sa74), .val (.ref b75), .val (.int 1), .unset, .unset, .unset] [(.ref b75)])) (fun T A t r => XS.pop A hx rfl (hb hby at_149) rfl rfl (XS.aload A hx rfl (hb hby at_150) rfl rfl r)) ?_
    refine Go.ldc (vs := (own_B [112])) (z := (Int32.ofNat [112].length)) (nn := 4) (k' := 62) (n' := 1471) (pc' := 154) (hb hby at_152) (own_w hw 271 rfl) (own_strA hw) (by decide) (by decide +kernel) (by decide +kernel) (by decide +kernel) (by decide +kernel) (by decide) rfl rfl rfl (by decide) (by decide) ?_
    intro a410 h410 bb410 kb410 E410 A410 C410 V410 B410 ne410
    have nl411 := ne410 b75 (Or.inl (List.mem_of_getElem? (i := 0) rfl))
    have nl412 := ne410 b13 (Or.inl (List.mem_of_getElem? (i := 1) rfl))
    refine Go.ldc (vs := (own_B [115])) (z := (Int32.ofNat [115].length)) (nn := 4) (k' := 64) (n' := 1479) (pc' := 156) (hb hby at_154) (own_w hw 272 rfl) (own_strA hw) (by decide) (by decide +kernel) (by decide +kernel) (by decide +kernel) (by decide +kernel) (by decide) rfl rfl rfl (by decide) (by decide) ?_
    intro a413 h413 bb413 kb413 E413 A413 C413 V413 B413 ne413
    have nl414 := ne413 b75 (Or.inl (List.mem_of_getElem? (i := 0) rfl))
    have nl415 := ne413 b13 (Or.inl (List.mem_of_getElem? (i := 1) rfl))
    refine Go.old fun O416 => ?_
    have f417 := (((f387.keep K409).ext E410).ext E413)
    have f418 := (((J1385.keep K409 (ninS ne389 nin0)).ext E410).ext E413)
    have f419 := (((J2385.keep K409 (ninS ne389 nin0)).ext E410).ext E413)
    have f420 := (((J3385.keep K409 (ninS ne389 nin0)).ext E410).ext E413)
    have f421 := ((((((X085.keep K379).keep K382).keep K385).keep K409).ext E410).ext E413)
    have ne422 : s185 ≠ b75 := ne_exa X085 f378 (by decide)
    have f424 := (((X085.keep K379).keep K382).keep K385)
    have ne423 : s185 ≠ al85 := ne_exa f424 f388 (by decide)
    have f425 := ((((((X185.keep K379 (ninS ne422 nin0)).keep K382 (ninS ne422 nin0)).keep K385 (ninS ne422 nin0)).keep K409 (ninS ne423 nin0)).ext E410).ext E413)
    have f426 := ((((((X285.keep K379).keep K382).keep K385).keep K409).ext E410).ext E413)
    have ne427 : b75 ≠ m185 := Nat.ne_of_lt (Nat.lt_of_lt_of_le f79.lt ga85)
    have f429 := (((X285.keep K379).keep K382).keep K385)
    have ne428 : m185 ≠ al85 := ne_exa f429 f388 (by decide)
    have f430 := ((((((X385.keep K379 (ninS (Ne.symm ne427) nin0)).keep K382 (ninS (Ne.symm ne427) nin0)).keep K385 (ninS (Ne.symm ne427) nin0)).keep K409 (ninS ne428 nin0)).ext E410).ext E413)
    have f431 := ((((((X485.keep K379 (ninS (Ne.symm ne427) nin0)).keep K382 (ninS (Ne.symm ne427) nin0)).keep K385 (ninS (Ne.symm ne427) nin0)).keep K409 (ninS ne428 nin0)).ext E410).ext E413)
    have f432 := ((((((X585.keep K379 (ninS (Ne.symm ne427) nin0)).keep K382 (ninS (Ne.symm ne427) nin0)).keep K385 (ninS (Ne.symm ne427) nin0)).keep K409 (ninS ne428 nin0)).ext E410).ext E413)
    have f433 := ((((((X685.keep K379 (ninS (Ne.symm ne427) nin0)).keep K382 (ninS (Ne.symm ne427) nin0)).keep K385 (ninS (Ne.symm ne427) nin0)).keep K409 (ninS ne428 nin0)).ext E410).ext E413)
    have f434 := ((((((Y085.keep K379).keep K382).keep K385).keep K409).ext E410).ext E413)
    have ne435 : s285 ≠ b75 := ne_exa Y085 f378 (by decide)
    have f437 := (((Y085.keep K379).keep K382).keep K385)
    have ne436 : s285 ≠ al85 := ne_exa f437 f388 (by decide)
    have f438 := ((((((Y185.keep K379 (ninS ne435 nin0)).keep K382 (ninS ne435 nin0)).keep K385 (ninS ne435 nin0)).keep K409 (ninS ne436 nin0)).ext E410).ext E413)
    have f439 := ((((((Y285.keep K379).keep K382).keep K385).keep K409).ext E410).ext E413)
    have ne440 : b75 ≠ m285 := Nat.ne_of_lt (Nat.lt_of_lt_of_le f79.lt gb85)
    have f442 := (((Y285.keep K379).keep K382).keep K385)
    have ne441 : m285 ≠ al85 := ne_exa f442 f388 (by decide)
    have f443 := ((((((Y385.keep K379 (ninS (Ne.symm ne440) nin0)).keep K382 (ninS (Ne.symm ne440) nin0)).keep K385 (ninS (Ne.symm ne440) nin0)).keep K409 (ninS ne441 nin0)).ext E410).ext E413)
    have f444 := ((((((Y485.keep K379 (ninS (Ne.symm ne440) nin0)).keep K382 (ninS (Ne.symm ne440) nin0)).keep K385 (ninS (Ne.symm ne440) nin0)).keep K409 (ninS ne441 nin0)).ext E410).ext E413)
    have f445 := ((((((Y585.keep K379 (ninS (Ne.symm ne440) nin0)).keep K382 (ninS (Ne.symm ne440) nin0)).keep K385 (ninS (Ne.symm ne440) nin0)).keep K409 (ninS ne441 nin0)).ext E410).ext E413)
    have f446 := ((((((Y685.keep K379 (ninS (Ne.symm ne440) nin0)).keep K382 (ninS (Ne.symm ne440) nin0)).keep K385 (ninS (Ne.symm ne440) nin0)).keep K409 (ninS ne441 nin0)).ext E410).ext E413)
    have f447 := (((f388.keep K409).ext E410).ext E413)
    have f448 := ((FE409.ext E410).ext E413)
    have f449 := ((FS409.ext E410).ext E413)
    have f450 := ((FM409.ext E410).ext E413)
    have f451 := ((A409.ext E410).ext E413)
    have f452 := ((E409.ext E410).ext E413)
    have f453 := ((C409.ext E410).ext E413)
    have f454 := ((V409.ext E410).ext E413)
    have f455 := ((B409.ext E410).ext E413)
    have f456 := (A410.ext E413)
    have f457 := (C410.ext E413)
    have f458 := (V410.ext E413)
    have f459 := (B410.ext E413)
    refine Go.callVW (a := b75) (z := Y79) (ws' := [m185, m285]) (W := 0) (y := Y79) (argsL := [(.ref a410), (.ref a413)]) (rest := []) (pc' := 159) (k' := 84) (n' := 2393) (hb hby at_156) (own_w hw 273 rfl) (own_w hw 274 rfl) (fun s' hZ => notFace_of_selects (args := #[]) (mvT hZ (own_w hw 276 rfl))) (own_w hw 276 rfl) (own_w hw 275 rfl) (by decide) (rmTX l Z a0 hw [] b75 s185 m185 s285 m285 al85 tb409 kq409 st409 ts409 ks409 (own_D3 (p1 &&& (255 : Int32))) a410 bb410 kb410 a413 bb413 kb413 zS h413 n0 O416 (Nat.le_trans (Old.le O0) (Nat.le_trans KK77.1 ga85)) (Nat.le_trans (Old.le O0) (Nat.le_trans KK77.1 gb85)) f417 f418 f419 f420 f421 f425 f426 f430 f431 f432 f433 f434 f438 f439 f443 f444 f445 f446 ne85 f447 f448 f449 f450 f451 f452 f453 f454 f455 f456 f457 f458 f459 A413 C413 V413 B413 (Nat.le_of_ble_eq_true rfl) S0 P0) (own_w hw 277 rfl) (own_w hw 28 rfl) (by decide) (by decide) f417 hml.symm (lenOf pd_44 rfl) rfl (Nat.le_of_ble_eq_true rfl) rfl rfl rfl (by decide) (by decide) (allS (Or.inr (Nat.le_trans KK77.1 ga85)) (allS (Or.inr (Nat.le_trans KK77.1 gb85)) all0)) ?_
    rintro v460 h460 K460 ⟨sa460, ta460, ka460, rfl, E460, C460, V460, B460⟩
    refine Go.sp (g' := (mkF m 161 #[.val (.int p1), .val (.int p2), .val (.int (p1 &&& (255 : Int32))), .val (.int 3), .val (.ref sa12), .val (.ref b13), .val (.ref sa74), .val (.ref b75), .val (.int 1), .val (.ref sa460), .unset, .unset] [])) (fun T A t r => XS.astore A hx rfl (hb hby at_159) rfl rfl (l' := #[.val (.int p1), .val (.int p2), .val (.int (p1 &&& (255 : Int32))), .val (.int 3), .val (.ref sa12), .val (.ref b13), .val (.ref sa74), .val (.ref b75), .val (.int 1), .val (.ref sa460), .unset, .unset]) rfl r) ?_
    have f461 := ((((((((((E74.ext E75).ext E76).keep K85).keep K379).keep K382).keep K385).keep K409).ext E410).ext E413).keep K460)
    have ne462 : sa74 ≠ b75 := Nat.ne_of_lt (Nat.lt_of_lt_of_le E74.lt (Nat.le_of_eq g75.symm))
    have f463 := ((E74.ext E75).ext E76)
    have ne464 : sa74 ≠ al85 := Nat.ne_of_lt (Nat.lt_of_lt_of_le f463.lt gc85)
    have ne465 : sa74 ≠ m285 := Nat.ne_of_lt (Nat.lt_of_lt_of_le f463.lt gb85)
    have ne466 : sa74 ≠ m185 := Nat.ne_of_lt (Nat.lt_of_lt_of_le f463.lt ga85)
    have f467 := ((((((((((C74.ext E75).ext E76).keep K85 (ninS ne462 nin0)).keep K379 (ninS ne462 nin0)).keep K382 (ninS ne462 nin0)).keep K385 (ninS ne462 nin0)).keep K409 (ninS ne464 nin0)).ext E410).ext E413).keep K460 (ninS ne466 (ninS ne465 nin0)))
    have f468 := ((((((((((V74.ext E75).ext E76).keep K85 (ninS ne462 nin0)).keep K379 (ninS ne462 nin0)).keep K382 (ninS ne462 nin0)).keep K385 (ninS ne462 nin0)).keep K409 (ninS ne464 nin0)).ext E410).ext E413).keep K460 (ninS ne466 (ninS ne465 nin0)))
    have ne469 : ta74 ≠ b75 := Nat.ne_of_lt (Nat.lt_of_lt_of_le B74.lt (Nat.le_of_eq g75.symm))
    have f470 := ((B74.ext E75).ext E76)
    have ne471 : ta74 ≠ al85 := Nat.ne_of_lt (Nat.lt_of_lt_of_le f470.lt gc85)
    have ne472 : ta74 ≠ m285 := Nat.ne_of_lt (Nat.lt_of_lt_of_le f470.lt gb85)
    have ne473 : ta74 ≠ m185 := Nat.ne_of_lt (Nat.lt_of_lt_of_le f470.lt ga85)
    have f474 := ((((((((((B74.ext E75).ext E76).keep K85 (ninS ne469 nin0)).keep K379 (ninS ne469 nin0)).keep K382 (ninS ne469 nin0)).keep K385 (ninS ne469 nin0)).keep K409 (ninS ne471 nin0)).ext E410).ext E413).keep K460 (ninS ne473 (ninS ne472 nin0)))
    exact TL h460 (3 : Int32) 121 (own_D3 (p1 &&& (255 : Int32))) sa460 ta460 ka460 (by rw [own_Xl] <;> rfl) (by rw [own_Xl]; exact (Nat.le_of_ble_eq_true rfl)) (by decide) (by rw [own_Xl]; exact (Nat.le_of_ble_eq_true rfl)) (own_XD (ds := (own_D3 (p1 &&& (255 : Int32)))) 121 rfl (j := 12) (Nat.le_of_ble_eq_true rfl)) (own_XE (ds := (own_D3 (p1 &&& (255 : Int32)))) 122 rfl) (Or.inr ⟨by decide, (by rw [own_Xl]; exact (Nat.le_of_ble_eq_true rfl)), own_XD 109 rfl (j := 0) (Nat.le_of_ble_eq_true rfl)⟩) (Or.inr ⟨by decide, (by rw [own_Xl]; exact (Nat.le_of_ble_eq_true rfl)), own_XD 110 rfl (j := 1) (Nat.le_of_ble_eq_true rfl)⟩) (Or.inr ⟨by decide, (by rw [own_Xl]; exact (Nat.le_of_ble_eq_true rfl)), own_XD 111 rfl (j := 2) (Nat.le_of_ble_eq_true rfl)⟩) (Or.inr ⟨by decide, (by rw [own_Xl]; exact (Nat.le_of_ble_eq_true rfl)), own_XD 112 rfl (j := 3) (Nat.le_of_ble_eq_true rfl)⟩) (Or.inr ⟨by decide, (by rw [own_Xl]; exact (Nat.le_of_ble_eq_true rfl)), own_XD 113 rfl (j := 4) (Nat.le_of_ble_eq_true rfl)⟩) (Or.inr ⟨by decide, (by rw [own_Xl]; exact (Nat.le_of_ble_eq_true rfl)), own_XD 114 rfl (j := 5) (Nat.le_of_ble_eq_true rfl)⟩) (Or.inr ⟨by decide, (by rw [own_Xl]; exact (Nat.le_of_ble_eq_true rfl)), own_XD 115 rfl (j := 6) (Nat.le_of_ble_eq_true rfl)⟩) (Or.inr ⟨by decide, (by rw [own_Xl]; exact (Nat.le_of_ble_eq_true rfl)), own_XD 116 rfl (j := 7) (Nat.le_of_ble_eq_true rfl)⟩) (Or.inr ⟨by decide, (by rw [own_Xl]; exact (Nat.le_of_ble_eq_true rfl)), own_XD 117 rfl (j := 8) (Nat.le_of_ble_eq_true rfl)⟩) (Or.inr ⟨by decide, (by rw [own_Xl]; exact (Nat.le_of_ble_eq_true rfl)), own_XD 118 rfl (j := 9) (Nat.le_of_ble_eq_true rfl)⟩) (Or.inr ⟨by decide, (by rw [own_Xl]; exact (Nat.le_of_ble_eq_true rfl)), own_XD 119 rfl (j := 10) (Nat.le_of_ble_eq_true rfl)⟩) (Or.inr ⟨by decide, (by rw [own_Xl]; exact (Nat.le_of_ble_eq_true rfl)), own_XD 120 rfl (j := 11) (Nat.le_of_ble_eq_true rfl)⟩) f461 f467 f468 f474 E460 C460 V460 B460
set_option maxRecDepth 65536 in
set_option maxHeartbeats 40000000 in
theorem comes_1 {Post : Tables → Env → Array Value → State → Outcome → State → Prop} (hpost : ∀ tb e args s v u, (limb_1_1.after args s (.returned v) u = true ∧ limb_1_2.after args s (.returned v) u = true ∧ True) → ReturnedEndW s (.returned v) u (Jvm.fieldLocs frame_1_writes args s ++ Jvm.arrayLocs frame_1_arrays args s ++ Jvm.staticLocs frame_1_statics s) 128 11392 → Post tb e args s (.returned v) u) :
    ArmFor flags0 classFile x code maxLocals ret World_1 tables_1 room_1 Calls_1 rest_1 Pre_1 Post := by
  intro l hfl _ _ p e ha hc hk s m args below hf hA hF happ hP
  obtain ⟨hcalls, hrest, hpre⟩ := hP
  obtain ⟨-, -, -, hnamed, -, -, -, hat⟩ := (Spec.applies_iff hf).mp happ
  obtain ⟨hg, hn⟩ := and_e (Cond.before_iff.mp (show (Jvm.Cond.and given_1 narrow_1).before args s = true from hpre))
  obtain ⟨gc, q0⟩ := and_e hg
  obtain ⟨ga0, q1⟩ := and_e q0
  obtain ⟨w0, w1, rfl⟩ : ∃ w0 w1 : Value, args = #[w0, w1] := by
    have hs : args.size = 2 := by simpa [Cond.value, given_1] using gc
    obtain ⟨L⟩ := args
    match L, hs with
    | [w0, w1], _ => exact ⟨w0, w1, rfl⟩
  have hw := fun d (hd : d ∈ tables_1) => atoms_spec (ws := Jvm.Cond.code x code maxLocals ret :: tables_1) hat d (List.mem_cons_of_mem _ hd)
  have hfit : Fit s := fun {y c} hc i hi => by
    obtain ⟨ha, rfl⟩ := Array.getElem?_eq_some_iff.mp hc
    have q := List.all_eq_true.mp ((Array.all_eq_true_iff_forall_mem.mp hF) _ (Array.getElem_mem ha)) i (List.mem_range.mpr hi)
    simpa [Array.getElem?_eq_getElem hi] using q
  obtain ⟨hsets, hown0⟩ := atoms_of _ (rest_1_c_eq ▸ (show rest_1_c.before _ s = true from hrest))
  have hr0 := Cond.before_iff.mp hown0
  obtain ⟨i0, ei0⟩ := is_v ga0
  obtain rfl : w0 = (.int i0) := Option.some.inj ei0
  obtain ⟨i1, ei1⟩ := is_v q1
  obtain rfl : w1 = (.int i1) := Option.some.inj ei1
  have nS := not_v (Cond.before_iff.mp (hsets _ (List.mem_of_getElem? (i := 2) rfl)))
  obtain ⟨zS, eS⟩ := is_v (Cond.before_iff.mp (hsets _ (List.mem_of_getElem? (i := 1) rfl)))
  have S0 : Sta s s.heap "java/lang/String" "COMPACT_STRINGS" "Z" (.int zS) := Sta.start eS (Or.inl (hsets _ (List.mem_of_getElem? (i := 0) rfl)))
  have P0 : ¬ (zS = (0 : Int32)) := gotF (Cond.eq_ints eS (Term.int_eval (0))) nS
  obtain ⟨fm, eF, RF⟩ := isR_v (Cond.before_iff.mp (hsets _ (List.mem_of_getElem? (i := 8) rfl)))
  have SF : Sta s s.heap "jdk/internal/util/Preconditions" "SIOOBE_FORMATTER" "Ljava/util/function/BiFunction;" fm := Sta.start eF (Or.inl (hsets _ (List.mem_of_getElem? (i := 7) rfl)))
  obtain ⟨dE, aD, eD, -⟩ := AList.arrayOf_ref (hsets _ (List.mem_of_getElem? (i := 15) rfl))
  obtain ⟨cD, AD0⟩ := Arr.start eD (Cond.before_iff.mp (hsets _ (List.mem_of_getElem? (i := 15) rfl)))
  have aaD : s.arrayAt? dE = some cD := AD0.fin (Vm.Alike.refl _)
  obtain ⟨lD1, lD2⟩ := own_len0 eD aaD (Cond.before_iff.mp (hsets _ (List.mem_of_getElem? (i := 17) rfl)))
  have AD : Arv s s.heap dE cD.cls (.object "java/lang/Object") (0 : Int32) [] .null := Arv.start hfit AD0 lD1 lD2 (by decide) rfl trivial
  have SD : Sta s s.heap "java/util/ArrayList" "DEFAULTCAPACITY_EMPTY_ELEMENTDATA" "[Ljava/lang/Object;" (.ref dE) := Sta.start eD (Or.inr ⟨(own_w hw 87 rfl), hsets _ (List.mem_of_getElem? (i := 11) rfl)⟩)
  have nS := not_v (Cond.before_iff.mp (hsets _ (List.mem_of_getElem? (i := 2) rfl)))
  obtain ⟨zS, eS⟩ := is_v (Cond.before_iff.mp (hsets _ (List.mem_of_getElem? (i := 1) rfl)))
  have S0 : Sta s s.heap "java/lang/String" "COMPACT_STRINGS" "Z" (.int zS) := Sta.start eS (Or.inl (hsets _ (List.mem_of_getElem? (i := 0) rfl)))
  have P0 : ¬ (zS = (0 : Int32)) := gotF (Cond.eq_ints eS (Term.int_eval (0))) nS
  have HC : CHv s own_EL s.vm s.heap := CHv.start (own_EW hw) (fun q hq => hcalls.1 q ((by decide : ∀ q ∈ own_EL, q ∈ consts_1) q hq)) (hsets _ (List.mem_of_getElem? (i := 2) rfl)) (own_w hw 14 rfl) (own_w hw 10 rfl)
  obtain ⟨n, o, h1, h2, h3, _, L, rfl, ⟨N, -, rfl⟩, -, hq⟩ := rm0 l s _ hw tables_1 i0 i1 dE cD.cls zS fm s.heap s.heap.size (Old.start s) SD AD S0 P0 SF RF p e ha hc hk s m _ below hf ((Spec.applies_iff_loose hf).mp happ).1 ⟨rfl, State.Warmed39.refl s, rfl, HC⟩ trivial
  refine ⟨n, _, h1, h2, h3, hpost _ _ _ _ _ _ ⟨Cond.after_iff.mpr rfl, Cond.after_iff.mpr (eq_i res_at (Term.int_eval (1)) rfl), trivial⟩ ⟨hq.1, hq.2.1, hq.2.2.1, (hq.2.2.2.sift fun y hy => Or.inr (N y hy)).mono (by decide) (by decide)⟩⟩
theorem main_1_1 : Claimed_1_1 := comes_1 fun _ _ _ _ _ _ h hF => ⟨h.1, hF⟩
theorem main_1_2 : Claimed_1_2 := comes_1 fun _ _ _ _ _ _ h hF => ⟨h.2.1, hF⟩
end Jvm.Pilot.@@N@@
namespace Jvm.Pilot.@@N@@
open Jvm Jvm.ClassFile Sem Op Lib Jvm.Free Jvm.Stand Jvm.Pilot.@@N@@.Jvm.D
/-! MADE BY PROGRAM (witnessworld.py) out of the Statement's table words and the real class files: 49 classes; the members and pool entries that the words name. The judged class is class 1, her method 1. -/
namespace start1
open Jvm.ClassFile
def u (s : String) : CpInfo := .utf8 (stringToUtf16 s)
/-- a pool by its gaps: so many unusable entries, then the entry; so many at the end -/
def gap : Nat → List CpInfo → List CpInfo
  | 0, r => r
  | n + 1, r => .unusable :: gap n r
def poolList (es : List (Nat × CpInfo)) (last : Nat) : List CpInfo := es.foldr (fun e r => gap e.1 (e.2 :: r)) (gap last [])
def pool (es : List (Nat × CpInfo)) (last : Nat) : Array CpInfo := ⟨poolList es last⟩
def fileOf (pool : Array CpInfo) (this : Nat) (attrs : Array Attribute := #[]) (ms : Array MethodInfo := #[]) (fl : Nat := 33) (sup : Nat := 0) (ifs : Array Nat := #[]) (fds : Array FieldInfo := #[]) : ClassFile where
  minorVersion := 0
  majorVersion := 65
  constantPool := pool
  accessFlags := fl
  thisClass := this
  superClass := sup
  interfaces := ifs
  fields := fds
  methods := ms
  attributes := attrs
def plain (name : String) (sup : Option ClassId) : Class where
  name := name
  kind := .ordinary
  loader := none
  accessFlags := 33
  super := sup
  interfaces := #[]
  cf := none
  fields := #[]
  methods := #[]
  instanceTypes := #[]
  staticTypes := #[]
  resolved := #[]
  callSites := []
  init := .initialized
  statics := none
  mirror := none

def pool0 : Array CpInfo := pool [(5, u "<init>"), (0, u "()V"), (1, .class_ 10), (1, u "java/lang/Object")] 113

def k0c0 : Code := { maxStack := 0, maxLocals := 1, code := object_method_1_code, exceptionTable := #[], attributes := #[] }
def k0m0 : Method := { name := "<init>", desc := "()V", sig := { parameters := [], returnType := none }, accessFlags := 1, code := some k0c0 }
/-- java/lang/Object -/
def k0 : Class := { plain "java/lang/Object" none with
  accessFlags := 33
  interfaces := #[]
  cf := some (fileOf pool0 8 #[] #[{ accessFlags := 1, nameIndex := 5, descriptorIndex := 6, attributes := #[] }] 33 0 #[] #[])
  fields := #[]
  methods := #[k0m0]
  instanceTypes := #[]
  staticTypes := #[]
  resolved := Array.replicate 124 none
  statics := none }

def pool1 : Array CpInfo := pool [(2, .class_ 4), (1, u "java/lang/Object"), (0, u "<init>"), (0, u "()V"), (0, .methodref 8 9), (0, .class_ 10), (0, .nameAndType 11 12), (0, u "java/lang/String"), (0, u "valueOf"), (0, u "(C)Ljava/lang/String;"), (0, .class_ 14), (0, u "com/example/typewire/typewire/codegen/JavaFile"), (0, .string 16), (0, u "C"), (0, .methodref 13 18), (0, .nameAndType 5 19), (0, u "(Ljava/lang/String;)V"), (0, .methodref 13 21), (0, .nameAndType 22 23), (0, u "line"), (0, u "(Ljava/lang/String;)Lcom/example/typewire/typewire/codegen/JavaFile;"), (0, .string 25), (0, u "p"), (0, .string 27), (0, u "s"), (0, .methodref 13 29), (0, .nameAndType 30 31), (0, u "text"), (0, u "(Ljava/lang/String;Ljava/lang/String;)Ljava/lang/String;"), (0, .methodref 13 33), (0, .nameAndType 34 35), (0, u "indent"), (0, u "()Lcom/example/typewire/typewire/codegen/JavaFile;"), (0, .methodref 8 37), (0, .nameAndType 38 39), (0, u "length"), (0, u "()I"), (0, .methodref 8 41), (0, .nameAndType 42 43), (0, u "charAt"), (0, u "(I)C"), (0, .methodref 45 46), (0, .class_ 47), (0, .nameAndType 48 49), (0, u "com/example/typewire/typewire/codegen/JavaFileIndentPinLaw"), (0, u "sp"), (0, u "(Ljava/lang/String;III)Z"), (2, u "law"), (0, u "(II)Z")] 3

def k1m0 : Method := { name := "<init>", desc := "()V", sig := { parameters := [], returnType := none }, accessFlags := 1, code := none }
def k1c1 : Code := { maxStack := 4, maxLocals := 12, code := code, exceptionTable := #[], attributes := #[] }
def k1m1 : Method := { name := "law", desc := "(II)Z", sig := { parameters := [.int, .int], returnType := some .boolean }, accessFlags := 9, code := some k1c1 }
def k1c2 : Code := { maxStack := 3, maxLocals := 4, code := method_3_code, exceptionTable := #[], attributes := #[] }
def k1m2 : Method := { name := "sp", desc := "(Ljava/lang/String;III)Z", sig := { parameters := [(.object "java/lang/String"), .int, .int, .int], returnType := some .boolean }, accessFlags := 10, code := some k1c2 }
/-- com/example/typewire/typewire/codegen/JavaFileIndentPinLaw -/
def k1 : Class := { plain "com/example/typewire/typewire/codegen/JavaFileIndentPinLaw" (some 0) with
  accessFlags := 49
  interfaces := #[]
  cf := some (fileOf pool1 45 #[] #[{ accessFlags := 1, nameIndex := 5, descriptorIndex := 6, attributes := #[] }, { accessFlags := 9, nameIndex := 52, descriptorIndex := 53, attributes := #[] }, { accessFlags := 10, nameIndex := 48, descriptorIndex := 49, attributes := #[] }] 49 2 #[] #[])
  fields := #[]
  methods := #[k1m0, k1m1, k1m2]
  instanceTypes := #[]
  staticTypes := #[]
  resolved := Array.replicate 57 none
  statics := none }

def pool2 : Array CpInfo := pool [(1, .class_ 2), (0, u "java/io/Serializable"), (0, .class_ 4), (0, u "java/lang/Object")] 2

/-- java/io/Serializable -/
def k2 : Class := { plain "java/io/Serializable" (some 0) with
  accessFlags := 1537
  interfaces := #[]
  cf := some (fileOf pool2 1 #[] #[] 1537 3 #[] #[])
  fields := #[]
  methods := #[]
  instanceTypes := #[]
  staticTypes := #[]
  resolved := Array.replicate 7 none
  statics := none }

def pool3 : Array CpInfo := pool [(1, .class_ 2), (0, u "java/lang/Comparable"), (0, .class_ 4), (0, u "java/lang/Object")] 7

/-- java/lang/Comparable -/
def k3 : Class := { plain "java/lang/Comparable" (some 0) with
  accessFlags := 1537
  interfaces := #[]
  cf := some (fileOf pool3 1 #[] #[] 1537 3 #[] #[])
  fields := #[]
  methods := #[]
  instanceTypes := #[]
  staticTypes := #[]
  resolved := Array.replicate 12 none
  statics := none }

def pool4 : Array CpInfo := pool [(2, .class_ 4), (1, u "java/lang/CharSequence"), (42, .class_ 48), (0, u "java/lang/CharSequence$1CodePointIterator"), (10, .class_ 60), (0, u "java/lang/CharSequence$1CharIterator"), (5, .class_ 67), (0, u "java/lang/Object")] 63

/-- java/lang/CharSequence -/
def k4 : Class := { plain "java/lang/CharSequence" (some 0) with
  accessFlags := 1537
  interfaces := #[]
  cf := some (fileOf pool4 2 #[.nestMembers #[47, 59]] #[] 1537 66 #[] #[])
  fields := #[]
  methods := #[]
  instanceTypes := #[]
  staticTypes := #[]
  resolved := Array.replicate 131 none
  statics := none }

def pool5 : Array CpInfo := pool [(1, .class_ 2), (0, u "java/lang/constant/Constable"), (0, .class_ 4), (0, u "java/lang/Object")] 6

/-- java/lang/constant/Constable -/
def k5 : Class := { plain "java/lang/constant/Constable" (some 0) with
  accessFlags := 1537
  interfaces := #[]
  cf := some (fileOf pool5 1 #[] #[] 1537 3 #[] #[])
  fields := #[]
  methods := #[]
  instanceTypes := #[]
  staticTypes := #[]
  resolved := Array.replicate 11 none
  statics := none }

def pool6 : Array CpInfo := pool [(1, .class_ 2), (0, u "java/lang/constant/ConstantDesc"), (0, .class_ 4), (0, u "java/lang/Object")] 32

/-- java/lang/constant/ConstantDesc -/
def k6 : Class := { plain "java/lang/constant/ConstantDesc" (some 0) with
  accessFlags := 1537
  interfaces := #[]
  cf := some (fileOf pool6 1 #[] #[] 1537 3 #[] #[])
  fields := #[]
  methods := #[]
  instanceTypes := #[]
  staticTypes := #[]
  resolved := Array.replicate 37 none
  statics := none }

def pool7 : Array CpInfo := pool [(1, .methodref 2 3), (0, .class_ 4), (0, .nameAndType 5 6), (0, u "java/lang/Object"), (0, u "<init>"), (0, u "()V"), (0, .string 8), (0, u ""), (0, .fieldref 10 11), (0, .class_ 12), (0, .nameAndType 13 14), (0, u "java/lang/String"), (0, u "value"), (0, u "[B"), (0, .fieldref 10 16), (0, .nameAndType 17 18), (0, u "coder"), (0, u "B"), (2, u "hash"), (0, u "I"), (2, u "hashIsZero"), (0, u "Z"), (11, .fieldref 10 39), (0, .nameAndType 40 26), (0, u "COMPACT_STRINGS"), (12, u "toBytes"), (0, .methodref 55 56), (0, .class_ 57), (0, .nameAndType 58 59), (0, u "java/util/Arrays"), (0, u "copyOfRange"), (0, u "([BII)[B"), (10, u "([BIII)V"), (36, .class_ 109), (1, u "java/lang/StringLatin1"), (32, u "()Z"), (50, .class_ 195), (1, u "java/lang/System"), (13, .methodref 10 210), (0, .nameAndType 5 211), (0, u "([BB)V"), (0, .methodref 193 213), (0, .nameAndType 214 215), (0, u "arraycopy"), (0, u "(Ljava/lang/Object;ILjava/lang/Object;II)V"), (118, u "()I"), (0, .methodref 10 336), (0, .nameAndType 17 337), (0, u "()B"), (2, u "()[B"), (22, u "([BI)C"), (5, u "(C)Z"), (21, u "(II)V"), (35, u "(I)C"), (61, .methodref 10 490), (0, .nameAndType 5 491), (0, u "(Ljava/lang/AbstractStringBuilder;Ljava/lang/Void;)V"), (0, .methodref 10 493), (0, .nameAndType 494 142), (0, u "isLatin1"), (0, .methodref 107 496), (0, .nameAndType 497 363), (0, u "charAt"), (3, u "checkIndex"), (4, .nameAndType 507 334), (0, u "length"), (24, u "getBytes"), (16, .methodref 550 506), (0, .class_ 551), (0, u "java/lang/AbstractStringBuilder"), (0, .methodref 550 553), (0, .nameAndType 554 340), (0, u "getValue"), (20, .class_ 576), (0, u "java/lang/CharSequence"), (22, u "CASE_INSENSITIVE_ORDER"), (0, u "Ljava/util/Comparator;"), (91, u "isEmpty"), (89, u "valueOf"), (0, u "(C)Ljava/lang/String;"), (37, u "([BIB)V"), (69, u "repeat"), (0, u "(I)Ljava/lang/String;"), (50, .integer 2147483647), (71, .methodref 107 1016), (0, .nameAndType 1017 369), (0, u "canEncode"), (0, .methodref 107 1019), (0, .nameAndType 53 1020), (0, u "(C)[B"), (23, .methodref 10 1045), (0, .nameAndType 1046 70), (0, u "repeatCopyRest"), (0, .methodref 550 493), (5, .fieldref 1054 1055), (0, .class_ 1056), (0, .nameAndType 1057 1058), (0, u "jdk/internal/util/Preconditions"), (0, u "SIOOBE_FORMATTER"), (0, u "Ljava/util/function/BiFunction;"), (0, .methodref 1054 1060), (0, .nameAndType 501 1061), (0, u "(IILjava/util/function/BiFunction;)I"), (39, u "serialPersistentFields"), (0, u "[Ljava/io/ObjectStreamField;"), (0, .class_ 1104), (0, u "java/lang/String$CaseInsensitiveComparator"), (1, .class_ 1107), (0, u "java/io/Serializable"), (0, .class_ 1109), (0, u "java/lang/Comparable"), (0, .class_ 1111), (0, u "java/lang/constant/Constable"), (0, .class_ 1113), (0, u "java/lang/constant/ConstantDesc"), (2, u "serialVersionUID"), (0, u "J"), (3, u "REPL"), (0, u "C"), (2, u "LATIN1"), (1, u "UTF16"), (105, u "(Ljava/lang/StringBuilder;)V")] 217

def k7m0 : Method := { name := "<init>", desc := "()V", sig := { parameters := [], returnType := none }, accessFlags := 1, code := none }
def k7c1 : Code := { maxStack := 3, maxLocals := 2, code := jdk_42_method_53_code, exceptionTable := #[], attributes := #[] }
def k7m1 : Method := { name := "<init>", desc := "(Ljava/lang/StringBuilder;)V", sig := { parameters := [(.object "java/lang/StringBuilder")], returnType := none }, accessFlags := 1, code := some k7c1 }
def k7c2 : Code := { maxStack := 2, maxLocals := 1, code := jdk_42_method_54_code, exceptionTable := #[], attributes := #[] }
def k7m2 : Method := { name := "length", desc := "()I", sig := { parameters := [], returnType := some .int }, accessFlags := 1, code := some k7c2 }
def k7c3 : Code := { maxStack := 1, maxLocals := 1, code := jdk_42_method_55_code, exceptionTable := #[], attributes := #[] }
def k7m3 : Method := { name := "isEmpty", desc := "()Z", sig := { parameters := [], returnType := some .boolean }, accessFlags := 1, code := some k7c3 }
def k7c4 : Code := { maxStack := 2, maxLocals := 2, code := jdk_42_method_56_code, exceptionTable := #[], attributes := #[] }
def k7m4 : Method := { name := "charAt", desc := "(I)C", sig := { parameters := [.int], returnType := some .char }, accessFlags := 1, code := some k7c4 }
def k7c5 : Code := { maxStack := 4, maxLocals := 1, code := jdk_42_method_139_code, exceptionTable := #[], attributes := #[] }
def k7m5 : Method := { name := "valueOf", desc := "(C)Ljava/lang/String;", sig := { parameters := [.char], returnType := some (.object "java/lang/String") }, accessFlags := 9, code := some k7c5 }
def k7c6 : Code := { maxStack := 5, maxLocals := 5, code := jdk_42_method_145_code, exceptionTable := #[], attributes := #[] }
def k7m6 : Method := { name := "repeat", desc := "(I)Ljava/lang/String;", sig := { parameters := [.int], returnType := some (.object "java/lang/String") }, accessFlags := 1, code := some k7c6 }
def k7c7 : Code := { maxStack := 6, maxLocals := 4, code := jdk_42_method_146_code, exceptionTable := #[], attributes := #[] }
def k7m7 : Method := { name := "repeatCopyRest", desc := "([BIII)V", sig := { parameters := [(.array .byte), .int, .int, .int], returnType := none }, accessFlags := 8, code := some k7c7 }
def k7c8 : Code := { maxStack := 5, maxLocals := 4, code := jdk_42_method_147_code, exceptionTable := #[], attributes := #[] }
def k7m8 : Method := { name := "getBytes", desc := "([BIB)V", sig := { parameters := [(.array .byte), .int, .byte], returnType := none }, accessFlags := 0, code := some k7c8 }
def k7c9 : Code := { maxStack := 5, maxLocals := 5, code := jdk_42_method_150_code, exceptionTable := #[], attributes := #[] }
def k7m9 : Method := { name := "<init>", desc := "(Ljava/lang/AbstractStringBuilder;Ljava/lang/Void;)V", sig := { parameters := [(.object "java/lang/AbstractStringBuilder"), (.object "java/lang/Void")], returnType := none }, accessFlags := 0, code := some k7c9 }
def k7c10 : Code := { maxStack := 2, maxLocals := 3, code := jdk_42_method_151_code, exceptionTable := #[], attributes := #[] }
def k7m10 : Method := { name := "<init>", desc := "([BB)V", sig := { parameters := [(.array .byte), .byte], returnType := none }, accessFlags := 0, code := some k7c10 }
def k7c11 : Code := { maxStack := 1, maxLocals := 1, code := jdk_42_method_152_code, exceptionTable := #[], attributes := #[] }
def k7m11 : Method := { name := "coder", desc := "()B", sig := { parameters := [], returnType := some .byte }, accessFlags := 0, code := some k7c11 }
def k7c12 : Code := { maxStack := 1, maxLocals := 1, code := jdk_42_method_154_code, exceptionTable := #[], attributes := #[] }
def k7m12 : Method := { name := "isLatin1", desc := "()Z", sig := { parameters := [], returnType := some .boolean }, accessFlags := 0, code := some k7c12 }
def k7c13 : Code := { maxStack := 3, maxLocals := 2, code := jdk_42_method_155_code, exceptionTable := #[], attributes := #[] }
def k7m13 : Method := { name := "checkIndex", desc := "(II)V", sig := { parameters := [.int, .int], returnType := none }, accessFlags := 8, code := some k7c13 }
/-- java/lang/String -/
def k7 : Class := { plain "java/lang/String" (some 0) with
  accessFlags := 49
  interfaces := #[2, 3, 4, 5, 6]
  cf := some (fileOf pool7 10 #[.nestMembers #[1103]] #[{ accessFlags := 1, nameIndex := 5, descriptorIndex := 6, attributes := #[] }, { accessFlags := 1, nameIndex := 5, descriptorIndex := 1233, attributes := #[] }, { accessFlags := 1, nameIndex := 507, descriptorIndex := 334, attributes := #[] }, { accessFlags := 1, nameIndex := 692, descriptorIndex := 142, attributes := #[] }, { accessFlags := 1, nameIndex := 497, descriptorIndex := 427, attributes := #[] }, { accessFlags := 9, nameIndex := 782, descriptorIndex := 783, attributes := #[] }, { accessFlags := 1, nameIndex := 891, descriptorIndex := 892, attributes := #[] }, { accessFlags := 8, nameIndex := 1046, descriptorIndex := 70, attributes := #[] }, { accessFlags := 0, nameIndex := 532, descriptorIndex := 821, attributes := #[] }, { accessFlags := 0, nameIndex := 5, descriptorIndex := 491, attributes := #[] }, { accessFlags := 0, nameIndex := 5, descriptorIndex := 211, attributes := #[] }, { accessFlags := 0, nameIndex := 17, descriptorIndex := 337, attributes := #[] }, { accessFlags := 0, nameIndex := 494, descriptorIndex := 142, attributes := #[] }, { accessFlags := 8, nameIndex := 501, descriptorIndex := 391, attributes := #[] }] 49 2 #[1106, 1108, 575, 1110, 1112] #[{ accessFlags := 18, nameIndex := 13, descriptorIndex := 14, attributes := #[] }, { accessFlags := 18, nameIndex := 17, descriptorIndex := 18, attributes := #[] }, { accessFlags := 2, nameIndex := 21, descriptorIndex := 22, attributes := #[] }, { accessFlags := 2, nameIndex := 25, descriptorIndex := 26, attributes := #[] }, { accessFlags := 26, nameIndex := 1116, descriptorIndex := 1117, attributes := #[] }, { accessFlags := 24, nameIndex := 40, descriptorIndex := 26, attributes := #[] }, { accessFlags := 26, nameIndex := 1101, descriptorIndex := 1102, attributes := #[] }, { accessFlags := 26, nameIndex := 1121, descriptorIndex := 1122, attributes := #[] }, { accessFlags := 25, nameIndex := 599, descriptorIndex := 600, attributes := #[] }, { accessFlags := 24, nameIndex := 1125, descriptorIndex := 18, attributes := #[] }, { accessFlags := 24, nameIndex := 1127, descriptorIndex := 18, attributes := #[] }])
  fields := #[{ name := "value", type := (.array .byte), accessFlags := 18, slot := 0, constantValue := 0 }, { name := "coder", type := .byte, accessFlags := 18, slot := 1, constantValue := 0 }, { name := "hash", type := .int, accessFlags := 2, slot := 2, constantValue := 0 }, { name := "hashIsZero", type := .boolean, accessFlags := 2, slot := 3, constantValue := 0 }, { name := "serialVersionUID", type := .long, accessFlags := 26, slot := 0, constantValue := 0 }, { name := "COMPACT_STRINGS", type := .boolean, accessFlags := 24, slot := 1, constantValue := 0 }, { name := "serialPersistentFields", type := (.array (.object "java/io/ObjectStreamField")), accessFlags := 26, slot := 2, constantValue := 0 }, { name := "REPL", type := .char, accessFlags := 26, slot := 3, constantValue := 0 }, { name := "CASE_INSENSITIVE_ORDER", type := (.object "java/util/Comparator"), accessFlags := 25, slot := 4, constantValue := 0 }, { name := "LATIN1", type := .byte, accessFlags := 24, slot := 5, constantValue := 0 }, { name := "UTF16", type := .byte, accessFlags := 24, slot := 6, constantValue := 0 }]
  methods := #[k7m0, k7m1, k7m2, k7m3, k7m4, k7m5, k7m6, k7m7, k7m8, k7m9, k7m10, k7m11, k7m12, k7m13]
  instanceTypes := #[(.array .byte), .byte, .int, .boolean]
  staticTypes := #[.long, .boolean, (.array (.object "java/io/ObjectStreamField")), .char, (.object "java/util/Comparator"), .byte, .byte]
  resolved := Array.replicate 1451 none
  statics := some 0 }

def pool8 : Array CpInfo := pool [(1, .class_ 2), (0, u "java/lang/String"), (1, .class_ 6), (1, u "java/lang/Object"), (0, u "<init>"), (0, u "()V"), (0, .methodref 1 10), (0, .nameAndType 11 12), (0, u "checkIndex"), (0, u "(II)V"), (1, .class_ 16), (1, u "java/lang/StringLatin1"), (36, u "([BI)C"), (36, u "canEncode"), (14, u "(C)Z"), (15, u "$assertionsDisabled"), (0, u "Z"), (98, .class_ 223), (1, u "java/lang/StringLatin1$LinesSpliterator"), (28, u "charAt"), (127, u "toBytes"), (1, u "(C)[B"), (7, .class_ 391), (0, u "java/lang/StringLatin1$CharsSpliterator")] 3

def k8m0 : Method := { name := "<init>", desc := "()V", sig := { parameters := [], returnType := none }, accessFlags := 0, code := none }
def k8c1 : Code := { maxStack := 2, maxLocals := 2, code := jdk_43_method_2_code, exceptionTable := #[], attributes := #[] }
def k8m1 : Method := { name := "charAt", desc := "([BI)C", sig := { parameters := [(.array .byte), .int], returnType := some .char }, accessFlags := 9, code := some k8c1 }
def k8c2 : Code := { maxStack := 2, maxLocals := 1, code := jdk_43_method_3_code, exceptionTable := #[], attributes := #[] }
def k8m2 : Method := { name := "canEncode", desc := "(C)Z", sig := { parameters := [.char], returnType := some .boolean }, accessFlags := 9, code := some k8c2 }
def k8c3 : Code := { maxStack := 4, maxLocals := 1, code := jdk_43_method_46_code, exceptionTable := #[], attributes := #[] }
def k8m3 : Method := { name := "toBytes", desc := "(C)[B", sig := { parameters := [.char], returnType := some (.array .byte) }, accessFlags := 9, code := some k8c3 }
/-- java/lang/StringLatin1 -/
def k8 : Class := { plain "java/lang/StringLatin1" (some 0) with
  accessFlags := 48
  interfaces := #[]
  cf := some (fileOf pool8 14 #[.nestMembers #[390, 221]] #[{ accessFlags := 0, nameIndex := 7, descriptorIndex := 8, attributes := #[] }, { accessFlags := 9, nameIndex := 252, descriptorIndex := 53, attributes := #[] }, { accessFlags := 9, nameIndex := 90, descriptorIndex := 105, attributes := #[] }, { accessFlags := 9, nameIndex := 380, descriptorIndex := 382, attributes := #[] }] 48 4 #[] #[{ accessFlags := 4120, nameIndex := 121, descriptorIndex := 122, attributes := #[] }])
  fields := #[{ name := "$assertionsDisabled", type := .boolean, accessFlags := 4120, slot := 0, constantValue := 0 }]
  methods := #[k8m0, k8m1, k8m2, k8m3]
  instanceTypes := #[]
  staticTypes := #[.boolean]
  resolved := Array.replicate 395 none
  statics := none }

def pool9 : Array CpInfo := pool [(1, .methodref 2 3), (0, .class_ 4), (0, .nameAndType 5 6), (0, u "java/lang/Object"), (0, u "<init>"), (0, u "()V"), (0, .class_ 8), (0, u "java/util/TreeSet"), (0, .methodref 7 3), (0, .fieldref 11 12), (0, .class_ 13), (0, .nameAndType 14 15), (0, u "com/example/typewire/typewire/codegen/JavaFile"), (0, u "javaImports"), (0, u "Ljava/util/TreeSet;"), (0, .fieldref 11 17), (0, .nameAndType 18 15), (0, u "otherImports"), (0, .class_ 20), (0, u "java/util/ArrayList"), (0, .methodref 19 3), (0, .fieldref 11 23), (0, .nameAndType 24 25), (0, u "lines"), (0, u "Ljava/util/List;"), (0, .fieldref 11 27), (0, .nameAndType 28 29), (0, u "className"), (0, u "Ljava/lang/String;"), (5, u "()Ljava/lang/String;"), (3, .class_ 41), (1, u "java/lang/String"), (3, .nameAndType 46 47), (0, u "add"), (0, u "(Ljava/lang/Object;)Z"), (0, .methodref 39 49), (0, .nameAndType 50 51), (0, u "isEmpty"), (0, u "()Z"), (2, .class_ 55), (0, u "java/lang/StringBuilder"), (0, .methodref 54 3), (0, .string 58), (0, u "    "), (0, .fieldref 11 60), (0, .nameAndType 61 62), (0, u "depth"), (0, u "I"), (0, .methodref 39 64), (0, .nameAndType 65 66), (0, u "repeat"), (0, u "(I)Ljava/lang/String;"), (0, .methodref 54 68), (0, .nameAndType 69 70), (0, u "append"), (0, u "(Ljava/lang/String;)Ljava/lang/StringBuilder;"), (0, .methodref 54 72), (0, .nameAndType 73 35), (0, u "toString"), (0, .interfaceMethodref 75 45), (0, .class_ 76), (0, u "java/util/List"), (13, u "line"), (0, u "(Ljava/lang/String;)Lcom/example/typewire/typewire/codegen/JavaFile;"), (29, u "indent"), (0, u "()Lcom/example/typewire/typewire/codegen/JavaFile;"), (4, .string 128), (0, u "// Generated by typewire compile from "), (0, .string 130), (0, u ". Do not edit: change the interface and compile it again.\n"), (0, .string 132), (0, u "package "), (0, .string 134), (0, u ";\n\n"), (0, .methodref 11 136), (0, .nameAndType 137 138), (0, u "appendImports"), (0, u "(Ljava/lang/StringBuilder;Ljava/util/TreeSet;)V"), (0, .interfaceMethodref 75 140), (0, .nameAndType 141 142), (0, u "iterator"), (0, u "()Ljava/util/Iterator;"), (0, .interfaceMethodref 144 145), (0, .class_ 146), (0, .nameAndType 147 51), (0, u "java/util/Iterator"), (0, u "hasNext"), (0, .interfaceMethodref 144 149), (0, .nameAndType 150 151), (0, u "next"), (0, u "()Ljava/lang/Object;"), (0, .methodref 54 153), (0, .nameAndType 69 154), (0, u "(C)Ljava/lang/StringBuilder;"), (0, .methodref 7 140), (4, .methodref 7 49), (0, u "MAX_WIDTH"), (5, u "(Ljava/lang/String;)V"), (14, u "text"), (0, u "(Ljava/lang/String;Ljava/lang/String;)Ljava/lang/String;")] 3

def k9c0 : Code := { maxStack := 3, maxLocals := 2, code := prog_4_method_1_code, exceptionTable := #[], attributes := #[] }
def k9m0 : Method := { name := "<init>", desc := "(Ljava/lang/String;)V", sig := { parameters := [(.object "java/lang/String")], returnType := none }, accessFlags := 0, code := some k9c0 }
def k9c1 : Code := { maxStack := 4, maxLocals := 2, code := prog_4_method_4_code, exceptionTable := #[], attributes := #[] }
def k9m1 : Method := { name := "line", desc := "(Ljava/lang/String;)Lcom/example/typewire/typewire/codegen/JavaFile;", sig := { parameters := [(.object "java/lang/String")], returnType := some (.object "com/example/typewire/typewire/codegen/JavaFile") }, accessFlags := 0, code := some k9c1 }
def k9c2 : Code := { maxStack := 3, maxLocals := 1, code := prog_4_method_10_code, exceptionTable := #[], attributes := #[] }
def k9m2 : Method := { name := "indent", desc := "()Lcom/example/typewire/typewire/codegen/JavaFile;", sig := { parameters := [], returnType := some (.object "com/example/typewire/typewire/codegen/JavaFile") }, accessFlags := 0, code := some k9c2 }
def k9c3 : Code := { maxStack := 2, maxLocals := 6, code := prog_4_method_13_code, exceptionTable := #[], attributes := #[] }
def k9m3 : Method := { name := "text", desc := "(Ljava/lang/String;Ljava/lang/String;)Ljava/lang/String;", sig := { parameters := [(.object "java/lang/String"), (.object "java/lang/String")], returnType := some (.object "java/lang/String") }, accessFlags := 0, code := some k9c3 }
def k9c4 : Code := { maxStack := 2, maxLocals := 4, code := prog_4_method_14_code, exceptionTable := #[], attributes := #[] }
def k9m4 : Method := { name := "appendImports", desc := "(Ljava/lang/StringBuilder;Ljava/util/TreeSet;)V", sig := { parameters := [(.object "java/lang/StringBuilder"), (.object "java/util/TreeSet")], returnType := none }, accessFlags := 10, code := some k9c4 }
/-- com/example/typewire/typewire/codegen/JavaFile -/
def k9 : Class := { plain "com/example/typewire/typewire/codegen/JavaFile" (some 0) with
  accessFlags := 48
  interfaces := #[]
  cf := some (fileOf pool9 11 #[] #[{ accessFlags := 0, nameIndex := 5, descriptorIndex := 167, attributes := #[] }, { accessFlags := 0, nameIndex := 90, descriptorIndex := 91, attributes := #[] }, { accessFlags := 0, nameIndex := 121, descriptorIndex := 122, attributes := #[] }, { accessFlags := 0, nameIndex := 182, descriptorIndex := 183, attributes := #[] }, { accessFlags := 10, nameIndex := 137, descriptorIndex := 138, attributes := #[] }] 48 2 #[] #[{ accessFlags := 26, nameIndex := 161, descriptorIndex := 62, attributes := #[] }, { accessFlags := 18, nameIndex := 28, descriptorIndex := 29, attributes := #[] }, { accessFlags := 18, nameIndex := 14, descriptorIndex := 15, attributes := #[] }, { accessFlags := 18, nameIndex := 18, descriptorIndex := 15, attributes := #[] }, { accessFlags := 18, nameIndex := 24, descriptorIndex := 25, attributes := #[] }, { accessFlags := 2, nameIndex := 61, descriptorIndex := 62, attributes := #[] }])
  fields := #[{ name := "MAX_WIDTH", type := .int, accessFlags := 26, slot := 0, constantValue := 0 }, { name := "className", type := (.object "java/lang/String"), accessFlags := 18, slot := 0, constantValue := 0 }, { name := "javaImports", type := (.object "java/util/TreeSet"), accessFlags := 18, slot := 1, constantValue := 0 }, { name := "otherImports", type := (.object "java/util/TreeSet"), accessFlags := 18, slot := 2, constantValue := 0 }, { name := "lines", type := (.object "java/util/List"), accessFlags := 18, slot := 3, constantValue := 0 }, { name := "depth", type := .int, accessFlags := 2, slot := 4, constantValue := 0 }]
  methods := #[k9m0, k9m1, k9m2, k9m3, k9m4]
  instanceTypes := #[(.object "java/lang/String"), (.object "java/util/TreeSet"), (.object "java/util/TreeSet"), (.object "java/util/List"), .int]
  staticTypes := #[.int]
  resolved := Array.replicate 187 none
  statics := none }

def pool10 : Array CpInfo := pool [(8, .class_ 10), (1, u "java/lang/Iterable"), (24, .class_ 36), (0, u "java/lang/Object")] 25

/-- java/lang/Iterable -/
def k10 : Class := { plain "java/lang/Iterable" (some 0) with
  accessFlags := 1537
  interfaces := #[]
  cf := some (fileOf pool10 8 #[] #[] 1537 35 #[] #[])
  fields := #[]
  methods := #[]
  instanceTypes := #[]
  staticTypes := #[]
  resolved := Array.replicate 62 none
  statics := none }

def pool11 : Array CpInfo := pool [(10, .class_ 12), (1, u "java/util/Collection"), (47, .class_ 61), (0, u "java/lang/Object"), (0, .class_ 63), (0, u "java/lang/Iterable")] 51

/-- java/util/Collection -/
def k11 : Class := { plain "java/util/Collection" (some 0) with
  accessFlags := 1537
  interfaces := #[10]
  cf := some (fileOf pool11 10 #[] #[] 1537 60 #[62] #[])
  fields := #[]
  methods := #[]
  instanceTypes := #[]
  staticTypes := #[]
  resolved := Array.replicate 115 none
  statics := none }

def pool12 : Array CpInfo := pool [(1, .methodref 2 3), (0, .class_ 4), (0, .nameAndType 5 6), (0, u "java/lang/Object"), (0, u "<init>"), (0, u "()V"), (1, .class_ 10), (1, u "java/util/AbstractCollection"), (66, .class_ 78), (0, u "java/util/Collection")] 81

def k12c0 : Code := { maxStack := 1, maxLocals := 1, code := jdk_22_method_1_code, exceptionTable := #[], attributes := #[] }
def k12m0 : Method := { name := "<init>", desc := "()V", sig := { parameters := [], returnType := none }, accessFlags := 4, code := some k12c0 }
/-- java/util/AbstractCollection -/
def k12 : Class := { plain "java/util/AbstractCollection" (some 0) with
  accessFlags := 1057
  interfaces := #[11]
  cf := some (fileOf pool12 8 #[] #[{ accessFlags := 4, nameIndex := 5, descriptorIndex := 6, attributes := #[] }] 1057 2 #[77] #[])
  fields := #[]
  methods := #[k12m0]
  instanceTypes := #[]
  staticTypes := #[]
  resolved := Array.replicate 160 none
  statics := none }

def pool13 : Array CpInfo := pool [(26, .class_ 27), (0, u "java/lang/Object"), (5, .class_ 34), (0, u "java/util/Set"), (1, .class_ 38), (1, u "java/util/Collection")] 105

/-- java/util/Set -/
def k13 : Class := { plain "java/util/Set" (some 0) with
  accessFlags := 1537
  interfaces := #[11]
  cf := some (fileOf pool13 33 #[] #[] 1537 26 #[36] #[])
  fields := #[]
  methods := #[]
  instanceTypes := #[]
  staticTypes := #[]
  resolved := Array.replicate 144 none
  statics := none }

def pool14 : Array CpInfo := pool [(1, .methodref 2 3), (0, .class_ 4), (0, .nameAndType 5 6), (0, u "java/util/AbstractCollection"), (0, u "<init>"), (0, u "()V"), (0, .class_ 8), (0, u "java/util/Set"), (7, .class_ 17), (0, u "java/util/AbstractSet")] 78

def k14c0 : Code := { maxStack := 1, maxLocals := 1, code := jdk_91_method_1_code, exceptionTable := #[], attributes := #[] }
def k14m0 : Method := { name := "<init>", desc := "()V", sig := { parameters := [], returnType := none }, accessFlags := 4, code := some k14c0 }
/-- java/util/AbstractSet -/
def k14 : Class := { plain "java/util/AbstractSet" (some 12) with
  accessFlags := 1057
  interfaces := #[13]
  cf := some (fileOf pool14 16 #[] #[{ accessFlags := 4, nameIndex := 5, descriptorIndex := 6, attributes := #[] }] 1057 2 #[7] #[])
  fields := #[]
  methods := #[k14m0]
  instanceTypes := #[]
  staticTypes := #[]
  resolved := Array.replicate 96 none
  statics := none }

def pool15 : Array CpInfo := pool [(8, .class_ 10), (1, u "java/util/SequencedCollection"), (15, .class_ 27), (0, u "java/lang/Object"), (0, .class_ 29), (0, u "java/util/Collection")] 27

/-- java/util/SequencedCollection -/
def k15 : Class := { plain "java/util/SequencedCollection" (some 0) with
  accessFlags := 1537
  interfaces := #[11]
  cf := some (fileOf pool15 8 #[] #[] 1537 26 #[28] #[])
  fields := #[]
  methods := #[]
  instanceTypes := #[]
  staticTypes := #[]
  resolved := Array.replicate 57 none
  statics := none }

def pool16 : Array CpInfo := pool [(2, .class_ 4), (1, u "java/util/SequencedSet"), (2, .class_ 8), (0, u "java/lang/Object"), (0, .class_ 10), (0, u "java/util/SequencedCollection"), (0, .class_ 12), (0, u "java/util/Set")] 13

/-- java/util/SequencedSet -/
def k16 : Class := { plain "java/util/SequencedSet" (some 0) with
  accessFlags := 1537
  interfaces := #[15, 13]
  cf := some (fileOf pool16 2 #[] #[] 1537 7 #[9, 11] #[])
  fields := #[]
  methods := #[]
  instanceTypes := #[]
  staticTypes := #[]
  resolved := Array.replicate 26 none
  statics := none }

def pool17 : Array CpInfo := pool [(1, .class_ 2), (0, u "java/util/SortedSet$1"), (12, .class_ 17), (1, u "java/util/SortedSet"), (19, .class_ 38), (0, u "java/lang/Object"), (0, .class_ 40), (0, u "java/util/Set"), (0, .class_ 42), (0, u "java/util/SequencedSet")] 41

/-- java/util/SortedSet -/
def k17 : Class := { plain "java/util/SortedSet" (some 0) with
  accessFlags := 1537
  interfaces := #[13, 16]
  cf := some (fileOf pool17 15 #[.nestMembers #[1]] #[] 1537 37 #[39, 41] #[])
  fields := #[]
  methods := #[]
  instanceTypes := #[]
  staticTypes := #[]
  resolved := Array.replicate 84 none
  statics := none }

def pool18 : Array CpInfo := pool [(2, .class_ 4), (1, u "java/util/NavigableSet"), (22, .class_ 28), (0, u "java/lang/Object"), (0, .class_ 30), (0, u "java/util/SortedSet"), (8, u "iterator"), (0, u "()Ljava/util/Iterator;")] 30

def k18m0 : Method := { name := "iterator", desc := "()Ljava/util/Iterator;", sig := { parameters := [], returnType := some (.object "java/util/Iterator") }, accessFlags := 1025, code := none }
/-- java/util/NavigableSet -/
def k18 : Class := { plain "java/util/NavigableSet" (some 0) with
  accessFlags := 1537
  interfaces := #[17]
  cf := some (fileOf pool18 2 #[] #[{ accessFlags := 1025, nameIndex := 39, descriptorIndex := 40, attributes := #[] }] 1537 27 #[29] #[])
  fields := #[]
  methods := #[k18m0]
  instanceTypes := #[]
  staticTypes := #[]
  resolved := Array.replicate 71 none
  statics := none }

def pool19 : Array CpInfo := pool [(1, .class_ 2), (0, u "java/lang/Cloneable"), (0, .class_ 4), (0, u "java/lang/Object")] 2

/-- java/lang/Cloneable -/
def k19 : Class := { plain "java/lang/Cloneable" (some 0) with
  accessFlags := 1537
  interfaces := #[]
  cf := some (fileOf pool19 1 #[] #[] 1537 3 #[] #[])
  fields := #[]
  methods := #[]
  instanceTypes := #[]
  staticTypes := #[]
  resolved := Array.replicate 7 none
  statics := none }

def pool20 : Array CpInfo := pool [(1, .methodref 2 3), (0, .class_ 4), (0, .nameAndType 5 6), (0, u "java/util/AbstractSet"), (0, u "<init>"), (0, u "()V"), (0, .fieldref 8 9), (0, .class_ 10), (0, .nameAndType 11 12), (0, u "java/util/TreeSet"), (0, u "m"), (0, u "Ljava/util/NavigableMap;"), (0, .class_ 14), (0, u "java/util/TreeMap"), (0, .methodref 13 3), (0, .methodref 8 17), (0, .nameAndType 5 18), (0, u "(Ljava/util/NavigableMap;)V"), (15, .interfaceMethodref 35 36), (0, .class_ 37), (0, .nameAndType 38 39), (0, u "java/util/NavigableMap"), (0, u "navigableKeySet"), (0, u "()Ljava/util/NavigableSet;"), (0, .interfaceMethodref 41 42), (0, .class_ 43), (0, .nameAndType 44 45), (0, u "java/util/NavigableSet"), (0, u "iterator"), (0, u "()Ljava/util/Iterator;"), (11, .interfaceMethodref 35 58), (0, .nameAndType 59 60), (0, u "isEmpty"), (0, u "()Z"), (6, u "PRESENT"), (0, u "Ljava/lang/Object;"), (148, .class_ 218), (0, u "java/lang/Cloneable"), (0, .class_ 220), (0, u "java/io/Serializable"), (2, u "serialVersionUID"), (0, u "J")] 92

def k20c0 : Code := { maxStack := 2, maxLocals := 2, code := jdk_2756_method_1_code, exceptionTable := #[], attributes := #[] }
def k20m0 : Method := { name := "<init>", desc := "(Ljava/util/NavigableMap;)V", sig := { parameters := [(.object "java/util/NavigableMap")], returnType := none }, accessFlags := 0, code := some k20c0 }
def k20c1 : Code := { maxStack := 3, maxLocals := 1, code := jdk_2756_method_2_code, exceptionTable := #[], attributes := #[] }
def k20m1 : Method := { name := "<init>", desc := "()V", sig := { parameters := [], returnType := none }, accessFlags := 1, code := some k20c1 }
def k20c2 : Code := { maxStack := 1, maxLocals := 1, code := jdk_2756_method_6_code, exceptionTable := #[], attributes := #[] }
def k20m2 : Method := { name := "iterator", desc := "()Ljava/util/Iterator;", sig := { parameters := [], returnType := some (.object "java/util/Iterator") }, accessFlags := 1, code := some k20c2 }
def k20c3 : Code := { maxStack := 1, maxLocals := 1, code := jdk_2756_method_10_code, exceptionTable := #[], attributes := #[] }
def k20m3 : Method := { name := "isEmpty", desc := "()Z", sig := { parameters := [], returnType := some .boolean }, accessFlags := 1, code := some k20c3 }
/-- java/util/TreeSet -/
def k20 : Class := { plain "java/util/TreeSet" (some 14) with
  accessFlags := 33
  interfaces := #[18, 19, 2]
  cf := some (fileOf pool20 8 #[] #[{ accessFlags := 0, nameIndex := 5, descriptorIndex := 18, attributes := #[] }, { accessFlags := 1, nameIndex := 5, descriptorIndex := 6, attributes := #[] }, { accessFlags := 1, nameIndex := 44, descriptorIndex := 45, attributes := #[] }, { accessFlags := 1, nameIndex := 59, descriptorIndex := 60, attributes := #[] }] 33 2 #[41, 217, 219] #[{ accessFlags := 130, nameIndex := 11, descriptorIndex := 12, attributes := #[] }, { accessFlags := 26, nameIndex := 67, descriptorIndex := 68, attributes := #[] }, { accessFlags := 26, nameIndex := 223, descriptorIndex := 224, attributes := #[] }])
  fields := #[{ name := "m", type := (.object "java/util/NavigableMap"), accessFlags := 130, slot := 0, constantValue := 0 }, { name := "PRESENT", type := (.object "java/lang/Object"), accessFlags := 26, slot := 0, constantValue := 0 }, { name := "serialVersionUID", type := .long, accessFlags := 26, slot := 1, constantValue := 0 }]
  methods := #[k20m0, k20m1, k20m2, k20m3]
  instanceTypes := #[(.object "java/util/NavigableMap")]
  staticTypes := #[(.object "java/lang/Object"), .long]
  resolved := Array.replicate 317 none
  statics := none }

def pool21 : Array CpInfo := pool [(2, .class_ 4), (1, u "java/util/Map"), (26, u "()Z"), (4, .class_ 37), (0, u "java/util/Map$Entry"), (55, .class_ 94), (0, u "java/lang/Object"), (10, u "isEmpty")] 157

def k21m0 : Method := { name := "isEmpty", desc := "()Z", sig := { parameters := [], returnType := some .boolean }, accessFlags := 1025, code := none }
/-- java/util/Map -/
def k21 : Class := { plain "java/util/Map" (some 0) with
  accessFlags := 1537
  interfaces := #[]
  cf := some (fileOf pool21 2 #[.nestMembers #[36]] #[{ accessFlags := 1025, nameIndex := 105, descriptorIndex := 31, attributes := #[] }] 1537 93 #[] #[])
  fields := #[]
  methods := #[k21m0]
  instanceTypes := #[]
  staticTypes := #[]
  resolved := Array.replicate 263 none
  statics := none }

def pool22 : Array CpInfo := pool [(1, .methodref 2 3), (0, .class_ 4), (0, .nameAndType 5 6), (0, u "java/lang/Object"), (0, u "<init>"), (0, u "()V"), (1, .class_ 10), (1, u "java/util/AbstractMap"), (4, .nameAndType 17 18), (1, u "size"), (0, u "()I"), (0, .methodref 8 15), (9, u "()Z"), (23, .class_ 54), (0, u "java/util/Map"), (9, u "keySet"), (0, u "Ljava/util/Set;"), (0, .class_ 67), (0, u "java/util/AbstractMap$1"), (5, u "values"), (0, u "Ljava/util/Collection;"), (0, .class_ 76), (0, u "java/util/AbstractMap$2"), (47, u "isEmpty"), (56, .class_ 182), (0, u "java/util/AbstractMap$ViewCollection"), (0, .class_ 184), (0, u "java/util/AbstractMap$SimpleImmutableEntry"), (0, .class_ 186), (0, u "java/util/AbstractMap$SimpleEntry"), (0, .class_ 188), (0, u "java/util/AbstractMap$2$1"), (0, .class_ 190), (0, u "java/util/AbstractMap$1$1")] 5

def k22c0 : Code := { maxStack := 1, maxLocals := 1, code := jdk_71_method_1_code, exceptionTable := #[], attributes := #[] }
def k22m0 : Method := { name := "<init>", desc := "()V", sig := { parameters := [], returnType := none }, accessFlags := 4, code := some k22c0 }
def k22c1 : Code := { maxStack := 1, maxLocals := 1, code := ⟨#[0x2a, 0xb6, 0x00, 0x07, 0xb9, 0x00, 0x0d, 0x01, 0x00, 0xac]⟩, exceptionTable := #[], attributes := #[] }
def k22m1 : Method := { name := "size", desc := "()I", sig := { parameters := [], returnType := some .int }, accessFlags := 1, code := some k22c1 }
def k22c2 : Code := { maxStack := 1, maxLocals := 1, code := jdk_71_method_3_code, exceptionTable := #[], attributes := #[] }
def k22m2 : Method := { name := "isEmpty", desc := "()Z", sig := { parameters := [], returnType := some .boolean }, accessFlags := 1, code := some k22c2 }
/-- java/util/AbstractMap -/
def k22 : Class := { plain "java/util/AbstractMap" (some 0) with
  accessFlags := 1057
  interfaces := #[21]
  cf := some (fileOf pool22 8 #[.nestMembers #[181, 183, 185, 75, 187, 66, 189]] #[{ accessFlags := 4, nameIndex := 5, descriptorIndex := 6, attributes := #[] }, { accessFlags := 1, nameIndex := 17, descriptorIndex := 18, attributes := #[] }, { accessFlags := 1, nameIndex := 124, descriptorIndex := 29, attributes := #[] }] 1057 2 #[53] #[{ accessFlags := 128, nameIndex := 64, descriptorIndex := 65, attributes := #[] }, { accessFlags := 128, nameIndex := 73, descriptorIndex := 74, attributes := #[] }])
  fields := #[{ name := "keySet", type := (.object "java/util/Set"), accessFlags := 128, slot := 0, constantValue := 0 }, { name := "values", type := (.object "java/util/Collection"), accessFlags := 128, slot := 1, constantValue := 0 }]
  methods := #[k22m0, k22m1, k22m2]
  instanceTypes := #[(.object "java/util/Set"), (.object "java/util/Collection")]
  staticTypes := #[]
  resolved := Array.replicate 196 none
  statics := none }

def pool23 : Array CpInfo := pool [(2, .class_ 4), (1, u "java/util/SequencedMap"), (38, .class_ 44), (0, u "java/util/SequencedMap$1SeqKeySet"), (3, .class_ 49), (0, u "java/util/SequencedMap$1SeqValues"), (1, .class_ 52), (0, u "java/util/SequencedMap$1SeqEntrySet"), (1, .class_ 55), (0, u "java/lang/Object"), (0, .class_ 57), (0, u "java/util/Map")] 48

/-- java/util/SequencedMap -/
def k23 : Class := { plain "java/util/SequencedMap" (some 0) with
  accessFlags := 1537
  interfaces := #[21]
  cf := some (fileOf pool23 2 #[.nestMembers #[51, 48, 43]] #[] 1537 54 #[56] #[])
  fields := #[]
  methods := #[]
  instanceTypes := #[]
  staticTypes := #[]
  resolved := Array.replicate 106 none
  statics := none }

def pool24 : Array CpInfo := pool [(14, .class_ 16), (1, u "java/util/SortedMap"), (2, .class_ 20), (0, u "java/lang/Object"), (0, .class_ 22), (0, u "java/util/SequencedMap")] 50

/-- java/util/SortedMap -/
def k24 : Class := { plain "java/util/SortedMap" (some 0) with
  accessFlags := 1537
  interfaces := #[23]
  cf := some (fileOf pool24 14 #[] #[] 1537 19 #[21] #[])
  fields := #[]
  methods := #[]
  instanceTypes := #[]
  staticTypes := #[]
  resolved := Array.replicate 73 none
  statics := none }

def pool25 : Array CpInfo := pool [(2, .class_ 4), (1, u "java/util/NavigableMap"), (5, .class_ 11), (0, u "java/lang/Object"), (0, .class_ 13), (0, u "java/util/SortedMap"), (20, u "navigableKeySet"), (0, u "()Ljava/util/NavigableSet;")] 31

def k25m0 : Method := { name := "navigableKeySet", desc := "()Ljava/util/NavigableSet;", sig := { parameters := [], returnType := some (.object "java/util/NavigableSet") }, accessFlags := 1025, code := none }
/-- java/util/NavigableMap -/
def k25 : Class := { plain "java/util/NavigableMap" (some 0) with
  accessFlags := 1537
  interfaces := #[24]
  cf := some (fileOf pool25 2 #[] #[{ accessFlags := 1025, nameIndex := 34, descriptorIndex := 35, attributes := #[] }] 1537 10 #[12] #[])
  fields := #[]
  methods := #[k25m0]
  instanceTypes := #[]
  staticTypes := #[]
  resolved := Array.replicate 67 none
  statics := none }

def pool26 : Array CpInfo := pool [(1, .methodref 2 3), (0, .class_ 4), (0, .nameAndType 5 6), (0, u "java/util/AbstractMap"), (0, u "<init>"), (0, u "()V"), (0, .fieldref 8 9), (0, .class_ 10), (0, .nameAndType 11 12), (0, u "java/util/TreeMap"), (0, u "size"), (0, u "I"), (0, .fieldref 8 14), (0, .nameAndType 15 12), (0, u "modCount"), (0, .fieldref 8 17), (0, .nameAndType 18 19), (0, u "comparator"), (0, u "Ljava/util/Comparator;"), (11, u "()I"), (2, u "entrySet"), (6, u "()Ljava/util/Iterator;"), (12, .methodref 8 55), (0, .nameAndType 56 57), (0, u "getFirstEntry"), (0, u "()Ljava/util/TreeMap$Entry;"), (1, .class_ 61), (1, u "java/util/TreeMap$Entry"), (1, u "Ljava/lang/Object;"), (37, .fieldref 8 102), (0, .nameAndType 103 104), (0, u "root"), (0, u "Ljava/util/TreeMap$Entry;"), (85, u "Ljava/util/TreeMap$EntrySet;"), (0, .fieldref 8 192), (0, .nameAndType 193 194), (0, u "navigableKeySet"), (0, u "Ljava/util/TreeMap$KeySet;"), (2, u "descendingMap"), (0, u "Ljava/util/NavigableMap;"), (22, u "()Ljava/util/NavigableSet;"), (0, .class_ 223), (0, u "java/util/TreeMap$KeySet"), (0, .methodref 222 225), (0, .nameAndType 5 226), (0, u "(Ljava/util/NavigableMap;)V"), (4, .class_ 232), (0, u "java/util/NavigableMap"), (4, .class_ 238), (0, u "java/util/TreeMap$Values"), (3, .class_ 243), (0, u "java/util/TreeMap$EntrySet"), (1, .class_ 246), (0, u "java/util/TreeMap$DescendingSubMap"), (3, .class_ 251), (0, u "java/util/TreeMap$AscendingSubMap"), (17, .class_ 270), (0, u "java/util/TreeMap$KeyIterator"), (0, .methodref 269 272), (0, .nameAndType 5 273), (0, u "(Ljava/util/TreeMap;Ljava/util/TreeMap$Entry;)V"), (0, .class_ 275), (0, u "java/util/TreeMap$DescendingKeyIterator"), (17, u "Z"), (94, .class_ 389), (0, u "java/util/TreeMap$NavigableSubMap"), (1, .class_ 392), (0, u "java/util/TreeMap$KeySpliterator"), (3, .class_ 397), (0, u "java/util/TreeMap$DescendingKeySpliterator"), (4, u "UNBOUNDED"), (0, .class_ 404), (0, u "java/lang/Cloneable"), (0, .class_ 406), (0, u "java/io/Serializable"), (6, u "RED"), (2, u "BLACK"), (1, u "serialVersionUID"), (0, u "J"), (141, u "keyIterator"), (72, .class_ 635), (0, u "java/util/TreeMap$EntrySpliterator"), (0, .class_ 637), (0, u "java/util/TreeMap$ValueSpliterator"), (0, .class_ 639), (0, u "java/util/TreeMap$TreeMapSpliterator"), (0, .class_ 641), (0, u "java/util/TreeMap$SubMap"), (0, .class_ 643), (0, u "java/util/TreeMap$DescendingSubMap$DescendingEntrySetView"), (0, .class_ 645), (0, u "java/util/TreeMap$AscendingSubMap$AscendingEntrySetView"), (0, .class_ 647), (0, u "java/util/TreeMap$NavigableSubMap$DescendingSubMapKeyIterator"), (0, .class_ 649), (0, u "java/util/TreeMap$NavigableSubMap$SubMapKeyIterator"), (0, .class_ 651), (0, u "java/util/TreeMap$NavigableSubMap$DescendingSubMapEntryIterator"), (0, .class_ 653), (0, u "java/util/TreeMap$NavigableSubMap$SubMapEntryIterator"), (0, .class_ 655), (0, u "java/util/TreeMap$NavigableSubMap$SubMapIterator"), (0, .class_ 657), (0, u "java/util/TreeMap$NavigableSubMap$EntrySetView"), (0, .class_ 659), (0, u "java/util/TreeMap$ValueIterator"), (0, .class_ 661), (0, u "java/util/TreeMap$EntryIterator"), (0, .class_ 663), (0, u "java/util/TreeMap$PrivateEntryIterator")] 28

def k26c0 : Code := { maxStack := 2, maxLocals := 1, code := jdk_2729_method_1_code, exceptionTable := #[], attributes := #[] }
def k26m0 : Method := { name := "<init>", desc := "()V", sig := { parameters := [], returnType := none }, accessFlags := 1, code := some k26c0 }
def k26c1 : Code := { maxStack := 1, maxLocals := 1, code := jdk_2729_method_5_code, exceptionTable := #[], attributes := #[] }
def k26m1 : Method := { name := "size", desc := "()I", sig := { parameters := [], returnType := some .int }, accessFlags := 1, code := some k26c1 }
def k26c2 : Code := { maxStack := 4, maxLocals := 2, code := jdk_2729_method_50_code, exceptionTable := #[], attributes := #[] }
def k26m2 : Method := { name := "navigableKeySet", desc := "()Ljava/util/NavigableSet;", sig := { parameters := [], returnType := some (.object "java/util/NavigableSet") }, accessFlags := 1, code := some k26c2 }
def k26c3 : Code := { maxStack := 4, maxLocals := 1, code := jdk_2729_method_65_code, exceptionTable := #[], attributes := #[] }
def k26m3 : Method := { name := "keyIterator", desc := "()Ljava/util/Iterator;", sig := { parameters := [], returnType := some (.object "java/util/Iterator") }, accessFlags := 0, code := some k26c3 }
def k26c4 : Code := { maxStack := 1, maxLocals := 2, code := jdk_2729_method_72_code, exceptionTable := #[], attributes := #[] }
def k26m4 : Method := { name := "getFirstEntry", desc := "()Ljava/util/TreeMap$Entry;", sig := { parameters := [], returnType := some (.object "java/util/TreeMap$Entry") }, accessFlags := 16, code := some k26c4 }
/-- java/util/TreeMap -/
def k26 : Class := { plain "java/util/TreeMap" (some 22) with
  accessFlags := 33
  interfaces := #[25, 19, 2]
  cf := some (fileOf pool26 8 #[.nestMembers #[634, 636, 396, 391, 638, 59, 640, 245, 642, 250, 644, 388, 646, 648, 650, 652, 654, 656, 274, 269, 658, 660, 662, 222, 242, 237]] #[{ accessFlags := 1, nameIndex := 5, descriptorIndex := 6, attributes := #[] }, { accessFlags := 1, nameIndex := 11, descriptorIndex := 31, attributes := #[] }, { accessFlags := 1, nameIndex := 193, descriptorIndex := 221, attributes := #[] }, { accessFlags := 0, nameIndex := 561, descriptorIndex := 41, attributes := #[] }, { accessFlags := 16, nameIndex := 56, descriptorIndex := 57, attributes := #[] }] 33 2 #[231, 403, 405] #[{ accessFlags := 18, nameIndex := 18, descriptorIndex := 19, attributes := #[] }, { accessFlags := 130, nameIndex := 103, descriptorIndex := 104, attributes := #[] }, { accessFlags := 130, nameIndex := 11, descriptorIndex := 12, attributes := #[] }, { accessFlags := 130, nameIndex := 15, descriptorIndex := 12, attributes := #[] }, { accessFlags := 130, nameIndex := 34, descriptorIndex := 190, attributes := #[] }, { accessFlags := 130, nameIndex := 193, descriptorIndex := 194, attributes := #[] }, { accessFlags := 130, nameIndex := 197, descriptorIndex := 198, attributes := #[] }, { accessFlags := 26, nameIndex := 402, descriptorIndex := 63, attributes := #[] }, { accessFlags := 26, nameIndex := 413, descriptorIndex := 293, attributes := #[] }, { accessFlags := 26, nameIndex := 416, descriptorIndex := 293, attributes := #[] }, { accessFlags := 26, nameIndex := 418, descriptorIndex := 419, attributes := #[] }])
  fields := #[{ name := "comparator", type := (.object "java/util/Comparator"), accessFlags := 18, slot := 2, constantValue := 0 }, { name := "root", type := (.object "java/util/TreeMap$Entry"), accessFlags := 130, slot := 3, constantValue := 0 }, { name := "size", type := .int, accessFlags := 130, slot := 4, constantValue := 0 }, { name := "modCount", type := .int, accessFlags := 130, slot := 5, constantValue := 0 }, { name := "entrySet", type := (.object "java/util/TreeMap$EntrySet"), accessFlags := 130, slot := 6, constantValue := 0 }, { name := "navigableKeySet", type := (.object "java/util/TreeMap$KeySet"), accessFlags := 130, slot := 7, constantValue := 0 }, { name := "descendingMap", type := (.object "java/util/NavigableMap"), accessFlags := 130, slot := 8, constantValue := 0 }, { name := "UNBOUNDED", type := (.object "java/lang/Object"), accessFlags := 26, slot := 0, constantValue := 0 }, { name := "RED", type := .boolean, accessFlags := 26, slot := 1, constantValue := 0 }, { name := "BLACK", type := .boolean, accessFlags := 26, slot := 2, constantValue := 0 }, { name := "serialVersionUID", type := .long, accessFlags := 26, slot := 3, constantValue := 0 }]
  methods := #[k26m0, k26m1, k26m2, k26m3, k26m4]
  instanceTypes := #[(.object "java/util/Set"), (.object "java/util/Collection"), (.object "java/util/Comparator"), (.object "java/util/TreeMap$Entry"), .int, .int, (.object "java/util/TreeMap$EntrySet"), (.object "java/util/TreeMap$KeySet"), (.object "java/util/NavigableMap")]
  staticTypes := #[(.object "java/lang/Object"), .boolean, .boolean, .long]
  resolved := Array.replicate 692 none
  statics := none }

def pool27 : Array CpInfo := pool [(8, .class_ 10), (1, u "java/util/List"), (49, u "add"), (3, u "(Ljava/lang/Object;)Z"), (38, .class_ 104), (0, u "java/lang/Object"), (15, .class_ 121), (0, u "java/util/SequencedCollection"), (1, u "iterator"), (0, u "()Ljava/util/Iterator;")] 126

def k27m0 : Method := { name := "iterator", desc := "()Ljava/util/Iterator;", sig := { parameters := [], returnType := some (.object "java/util/Iterator") }, accessFlags := 1025, code := none }
def k27m1 : Method := { name := "add", desc := "(Ljava/lang/Object;)Z", sig := { parameters := [(.object "java/lang/Object")], returnType := some .boolean }, accessFlags := 1025, code := none }
/-- java/util/List -/
def k27 : Class := { plain "java/util/List" (some 0) with
  accessFlags := 1537
  interfaces := #[15]
  cf := some (fileOf pool27 8 #[] #[{ accessFlags := 1025, nameIndex := 123, descriptorIndex := 124, attributes := #[] }, { accessFlags := 1025, nameIndex := 60, descriptorIndex := 64, attributes := #[] }] 1537 103 #[120] #[])
  fields := #[]
  methods := #[k27m0, k27m1]
  instanceTypes := #[]
  staticTypes := #[]
  resolved := Array.replicate 251 none
  statics := none }

def pool28 : Array CpInfo := pool [(1, .methodref 2 3), (0, .class_ 4), (0, .nameAndType 5 6), (0, u "java/util/AbstractCollection"), (0, u "<init>"), (0, u "()V"), (0, .fieldref 8 9), (0, .class_ 10), (0, .nameAndType 11 12), (0, u "java/util/AbstractList"), (0, u "modCount"), (0, u "I"), (64, .class_ 78), (0, u "java/util/AbstractList$Itr"), (3, .class_ 83), (0, u "java/util/AbstractList$ListItr"), (9, .class_ 94), (0, u "java/util/AbstractList$RandomAccessSubList"), (3, .class_ 99), (0, u "java/util/AbstractList$SubList"), (33, .class_ 134), (0, u "java/util/List"), (73, .class_ 209), (0, u "java/util/AbstractList$SubList$1"), (0, .class_ 211), (0, u "java/util/AbstractList$RandomAccessSpliterator")] 6

def k28c0 : Code := { maxStack := 2, maxLocals := 1, code := jdk_39_method_1_code, exceptionTable := #[], attributes := #[] }
def k28m0 : Method := { name := "<init>", desc := "()V", sig := { parameters := [], returnType := none }, accessFlags := 4, code := some k28c0 }
/-- java/util/AbstractList -/
def k28 : Class := { plain "java/util/AbstractList" (some 12) with
  accessFlags := 1057
  interfaces := #[27]
  cf := some (fileOf pool28 8 #[.nestMembers #[93, 98, 208, 210, 82, 77]] #[{ accessFlags := 4, nameIndex := 5, descriptorIndex := 6, attributes := #[] }] 1057 2 #[133] #[{ accessFlags := 132, nameIndex := 11, descriptorIndex := 12, attributes := #[] }])
  fields := #[{ name := "modCount", type := .int, accessFlags := 132, slot := 0, constantValue := 0 }]
  methods := #[k28m0]
  instanceTypes := #[.int]
  staticTypes := #[]
  resolved := Array.replicate 218 none
  statics := none }

def pool29 : Array CpInfo := pool [(1, .class_ 2), (0, u "java/util/RandomAccess"), (0, .class_ 4), (0, u "java/lang/Object")] 2

/-- java/util/RandomAccess -/
def k29 : Class := { plain "java/util/RandomAccess" (some 0) with
  accessFlags := 1537
  interfaces := #[]
  cf := some (fileOf pool29 1 #[] #[] 1537 3 #[] #[])
  fields := #[]
  methods := #[]
  instanceTypes := #[]
  staticTypes := #[]
  resolved := Array.replicate 7 none
  statics := none }

def pool30 : Array CpInfo := pool [(1, .methodref 2 3), (0, .class_ 4), (0, .nameAndType 5 6), (0, u "java/util/AbstractList"), (0, u "<init>"), (0, u "()V"), (0, .class_ 8), (0, u "java/lang/Object"), (0, .fieldref 10 11), (0, .class_ 12), (0, .nameAndType 13 14), (0, u "java/util/ArrayList"), (0, u "elementData"), (0, u "[Ljava/lang/Object;"), (2, u "EMPTY_ELEMENTDATA"), (21, .fieldref 10 40), (0, .nameAndType 41 14), (0, u "DEFAULTCAPACITY_EMPTY_ELEMENTDATA"), (5, u "()[Ljava/lang/Object;"), (0, .fieldref 10 49), (0, .nameAndType 50 51), (0, u "size"), (0, u "I"), (11, .fieldref 10 64), (0, .nameAndType 65 51), (0, u "modCount"), (3, .methodref 10 70), (0, .nameAndType 71 72), (0, u "grow"), (0, u "(I)[Ljava/lang/Object;"), (6, .methodref 80 81), (0, .class_ 82), (0, .nameAndType 83 84), (0, u "java/lang/Math"), (0, u "max"), (0, u "(II)I"), (11, u "(Ljava/lang/Object;)Z"), (32, .methodref 10 130), (0, .nameAndType 71 47), (0, .methodref 10 132), (0, .nameAndType 133 134), (0, u "add"), (0, u "(Ljava/lang/Object;[Ljava/lang/Object;I)V"), (13, .class_ 149), (0, u "java/util/List"), (16, u "iterator"), (0, u "()Ljava/util/Iterator;"), (94, .class_ 263), (0, u "java/util/ArrayList$ListItr"), (3, .class_ 268), (0, u "java/util/ArrayList$Itr"), (0, .methodref 267 270), (0, .nameAndType 5 271), (0, u "(Ljava/util/ArrayList;)V"), (4, .class_ 277), (0, u "java/util/ArrayList$SubList"), (12, .class_ 291), (0, u "java/util/ArrayList$ArrayListSpliterator"), (37, .class_ 330), (0, u "java/util/RandomAccess"), (0, .class_ 332), (0, u "java/lang/Cloneable"), (0, .class_ 334), (0, u "java/io/Serializable"), (0, u "serialVersionUID"), (0, u "J"), (3, u "DEFAULT_CAPACITY"), (159, .class_ 501), (0, u "java/util/ArrayList$SubList$2"), (0, .class_ 503), (0, u "java/util/ArrayList$SubList$1")] 5

def k30c0 : Code := { maxStack := 2, maxLocals := 1, code := jdk_38_method_2_code, exceptionTable := #[], attributes := #[] }
def k30m0 : Method := { name := "<init>", desc := "()V", sig := { parameters := [], returnType := none }, accessFlags := 1, code := some k30c0 }
def k30c1 : Code := { maxStack := 4, maxLocals := 4, code := jdk_38_method_6_code, exceptionTable := #[], attributes := #[] }
def k30m1 : Method := { name := "grow", desc := "(I)[Ljava/lang/Object;", sig := { parameters := [.int], returnType := some (.array (.object "java/lang/Object")) }, accessFlags := 2, code := some k30c1 }
def k30c2 : Code := { maxStack := 3, maxLocals := 1, code := jdk_38_method_7_code, exceptionTable := #[], attributes := #[] }
def k30m2 : Method := { name := "grow", desc := "()[Ljava/lang/Object;", sig := { parameters := [], returnType := some (.array (.object "java/lang/Object")) }, accessFlags := 2, code := some k30c2 }
def k30c3 : Code := { maxStack := 3, maxLocals := 4, code := jdk_38_method_24_code, exceptionTable := #[], attributes := #[] }
def k30m3 : Method := { name := "add", desc := "(Ljava/lang/Object;[Ljava/lang/Object;I)V", sig := { parameters := [(.object "java/lang/Object"), (.array (.object "java/lang/Object")), .int], returnType := none }, accessFlags := 2, code := some k30c3 }
def k30c4 : Code := { maxStack := 4, maxLocals := 2, code := jdk_38_method_25_code, exceptionTable := #[], attributes := #[] }
def k30m4 : Method := { name := "add", desc := "(Ljava/lang/Object;)Z", sig := { parameters := [(.object "java/lang/Object")], returnType := some .boolean }, accessFlags := 1, code := some k30c4 }
def k30c5 : Code := { maxStack := 3, maxLocals := 1, code := jdk_38_method_55_code, exceptionTable := #[], attributes := #[] }
def k30m5 : Method := { name := "iterator", desc := "()Ljava/util/Iterator;", sig := { parameters := [], returnType := some (.object "java/util/Iterator") }, accessFlags := 1, code := some k30c5 }
/-- java/util/ArrayList -/
def k30 : Class := { plain "java/util/ArrayList" (some 28) with
  accessFlags := 33
  interfaces := #[27, 29, 19, 2]
  cf := some (fileOf pool30 10 #[.nestMembers #[290, 276, 500, 502, 262, 267]] #[{ accessFlags := 1, nameIndex := 5, descriptorIndex := 6, attributes := #[] }, { accessFlags := 2, nameIndex := 71, descriptorIndex := 72, attributes := #[] }, { accessFlags := 2, nameIndex := 71, descriptorIndex := 47, attributes := #[] }, { accessFlags := 2, nameIndex := 133, descriptorIndex := 134, attributes := #[] }, { accessFlags := 1, nameIndex := 133, descriptorIndex := 96, attributes := #[] }, { accessFlags := 1, nameIndex := 166, descriptorIndex := 167, attributes := #[] }] 33 2 #[148, 329, 331, 333] #[{ accessFlags := 26, nameIndex := 335, descriptorIndex := 336, attributes := #[] }, { accessFlags := 26, nameIndex := 340, descriptorIndex := 51, attributes := #[] }, { accessFlags := 26, nameIndex := 17, descriptorIndex := 14, attributes := #[] }, { accessFlags := 26, nameIndex := 41, descriptorIndex := 14, attributes := #[] }, { accessFlags := 128, nameIndex := 13, descriptorIndex := 14, attributes := #[] }, { accessFlags := 2, nameIndex := 50, descriptorIndex := 51, attributes := #[] }])
  fields := #[{ name := "serialVersionUID", type := .long, accessFlags := 26, slot := 0, constantValue := 0 }, { name := "DEFAULT_CAPACITY", type := .int, accessFlags := 26, slot := 1, constantValue := 0 }, { name := "EMPTY_ELEMENTDATA", type := (.array (.object "java/lang/Object")), accessFlags := 26, slot := 2, constantValue := 0 }, { name := "DEFAULTCAPACITY_EMPTY_ELEMENTDATA", type := (.array (.object "java/lang/Object")), accessFlags := 26, slot := 3, constantValue := 0 }, { name := "elementData", type := (.array (.object "java/lang/Object")), accessFlags := 128, slot := 1, constantValue := 0 }, { name := "size", type := .int, accessFlags := 2, slot := 2, constantValue := 0 }]
  methods := #[k30m0, k30m1, k30m2, k30m3, k30m4, k30m5]
  instanceTypes := #[.int, (.array (.object "java/lang/Object")), .int]
  staticTypes := #[.long, .int, (.array (.object "java/lang/Object")), (.array (.object "java/lang/Object"))]
  resolved := Array.replicate 509 none
  statics := some 1 }

def pool31 : Array CpInfo := pool [(1, .class_ 2), (0, u "java/lang/Appendable"), (0, .class_ 4), (0, u "java/lang/Object")] 9

/-- java/lang/Appendable -/
def k31 : Class := { plain "java/lang/Appendable" (some 0) with
  accessFlags := 1537
  interfaces := #[]
  cf := some (fileOf pool31 1 #[] #[] 1537 3 #[] #[])
  fields := #[]
  methods := #[]
  instanceTypes := #[]
  staticTypes := #[]
  resolved := Array.replicate 14 none
  statics := none }

def pool32 : Array CpInfo := pool [(1, .class_ 2), (0, u "java/lang/String"), (0, .methodref 4 5), (0, .class_ 6), (0, .nameAndType 7 8), (0, u "java/lang/Object"), (0, u "<init>"), (0, u "()V"), (1, .class_ 12), (1, u "java/lang/AbstractStringBuilder"), (0, u "EMPTYVALUE"), (0, u "[B"), (0, .fieldref 10 16), (0, .nameAndType 17 14), (0, u "value"), (0, .fieldref 1 19), (0, .nameAndType 20 21), (0, u "COMPACT_STRINGS"), (0, u "Z"), (0, .fieldref 10 23), (0, .nameAndType 24 25), (0, u "coder"), (0, u "B"), (6, .methodref 1 33), (0, .nameAndType 34 35), (0, u "length"), (0, u "()I"), (3, .integer 2147483647), (0, .methodref 1 41), (0, .nameAndType 24 42), (0, u "()B"), (2, u "append"), (0, u "(Ljava/lang/String;)Ljava/lang/AbstractStringBuilder;"), (1, .class_ 49), (0, u "java/lang/CharSequence"), (19, u "(Ljava/lang/String;)V"), (5, u "maybeLatin1"), (3, .fieldref 10 80), (0, .nameAndType 81 82), (0, u "count"), (0, u "I"), (0, .methodref 10 84), (0, .nameAndType 85 86), (0, u "isLatin1"), (0, u "()Z"), (1, .class_ 90), (1, u "java/lang/StringLatin1"), (9, .methodref 10 101), (0, .nameAndType 102 103), (0, u "ensureCapacityInternal"), (0, u "(I)V"), (0, .methodref 10 105), (0, .nameAndType 106 107), (0, u "newCapacity"), (0, u "(I)I"), (0, .methodref 109 110), (0, .class_ 111), (0, .nameAndType 112 113), (0, u "java/util/Arrays"), (0, u "copyOf"), (0, u "([BI)[B"), (0, .methodref 115 116), (0, .class_ 117), (0, .nameAndType 118 119), (0, u "jdk/internal/util/ArraysSupport"), (0, u "newLength"), (0, u "(III)I"), (71, .methodref 88 192), (0, .nameAndType 193 194), (0, u "canEncode"), (0, u "(C)Z"), (13, .methodref 10 209), (0, .nameAndType 210 211), (0, u "putStringAt"), (0, u "(ILjava/lang/String;)V"), (5, u "inflateIfNeededFor"), (2, .nameAndType 221 222), (0, u "getBytes"), (0, u "([BIB)V"), (69, u "(C)Ljava/lang/AbstractStringBuilder;"), (104, .methodref 10 398), (0, .nameAndType 217 69), (0, .methodref 1 220), (3, u "()[B"), (40, .class_ 445), (0, u "java/lang/Appendable"), (106, u "getValue")] 56

def k32m0 : Method := { name := "<init>", desc := "()V", sig := { parameters := [], returnType := none }, accessFlags := 0, code := none }
def k32c1 : Code := { maxStack := 2, maxLocals := 2, code := jdk_68_method_2_code, exceptionTable := #[], attributes := #[] }
def k32m1 : Method := { name := "<init>", desc := "(I)V", sig := { parameters := [.int], returnType := none }, accessFlags := 0, code := some k32c1 }
def k32c2 : Code := { maxStack := 1, maxLocals := 1, code := jdk_68_method_6_code, exceptionTable := #[], attributes := #[] }
def k32m2 : Method := { name := "length", desc := "()I", sig := { parameters := [], returnType := some .int }, accessFlags := 1, code := some k32c2 }
def k32c3 : Code := { maxStack := 4, maxLocals := 3, code := jdk_68_method_9_code, exceptionTable := #[], attributes := #[] }
def k32m3 : Method := { name := "ensureCapacityInternal", desc := "(I)V", sig := { parameters := [.int], returnType := none }, accessFlags := 2, code := some k32c3 }
def k32c4 : Code := { maxStack := 5, maxLocals := 6, code := jdk_68_method_10_code, exceptionTable := #[], attributes := #[] }
def k32m4 : Method := { name := "newCapacity", desc := "(I)I", sig := { parameters := [.int], returnType := some .int }, accessFlags := 2, code := some k32c4 }
def k32c5 : Code := { maxStack := 3, maxLocals := 3, code := jdk_68_method_22_code, exceptionTable := #[], attributes := #[] }
def k32m5 : Method := { name := "append", desc := "(Ljava/lang/String;)Ljava/lang/AbstractStringBuilder;", sig := { parameters := [(.object "java/lang/String")], returnType := some (.object "java/lang/AbstractStringBuilder") }, accessFlags := 1, code := some k32c5 }
def k32c6 : Code := { maxStack := 5, maxLocals := 2, code := jdk_68_method_31_code, exceptionTable := #[], attributes := #[] }
def k32m6 : Method := { name := "append", desc := "(C)Ljava/lang/AbstractStringBuilder;", sig := { parameters := [.char], returnType := some (.object "java/lang/AbstractStringBuilder") }, accessFlags := 1, code := some k32c6 }
def k32c7 : Code := { maxStack := 1, maxLocals := 1, code := jdk_68_method_64_code, exceptionTable := #[], attributes := #[] }
def k32m7 : Method := { name := "getValue", desc := "()[B", sig := { parameters := [], returnType := some (.array .byte) }, accessFlags := 16, code := some k32c7 }
def k32c8 : Code := { maxStack := 1, maxLocals := 1, code := jdk_68_method_68_code, exceptionTable := #[], attributes := #[] }
def k32m8 : Method := { name := "isLatin1", desc := "()Z", sig := { parameters := [], returnType := some .boolean }, accessFlags := 16, code := some k32c8 }
def k32c9 : Code := { maxStack := 2, maxLocals := 2, code := jdk_68_method_71_code, exceptionTable := #[], attributes := #[] }
def k32m9 : Method := { name := "inflateIfNeededFor", desc := "(Ljava/lang/String;)V", sig := { parameters := [(.object "java/lang/String")], returnType := none }, accessFlags := 2, code := some k32c9 }
def k32c10 : Code := { maxStack := 4, maxLocals := 3, code := jdk_68_method_73_code, exceptionTable := #[], attributes := #[] }
def k32m10 : Method := { name := "putStringAt", desc := "(ILjava/lang/String;)V", sig := { parameters := [.int, (.object "java/lang/String")], returnType := none }, accessFlags := 2, code := some k32c10 }
/-- java/lang/AbstractStringBuilder -/
def k32 : Class := { plain "java/lang/AbstractStringBuilder" (some 0) with
  accessFlags := 1056
  interfaces := #[31, 4]
  cf := some (fileOf pool32 10 #[] #[{ accessFlags := 0, nameIndex := 7, descriptorIndex := 8, attributes := #[] }, { accessFlags := 0, nameIndex := 7, descriptorIndex := 103, attributes := #[] }, { accessFlags := 1, nameIndex := 34, descriptorIndex := 35, attributes := #[] }, { accessFlags := 2, nameIndex := 102, descriptorIndex := 103, attributes := #[] }, { accessFlags := 2, nameIndex := 106, descriptorIndex := 107, attributes := #[] }, { accessFlags := 1, nameIndex := 45, descriptorIndex := 46, attributes := #[] }, { accessFlags := 1, nameIndex := 45, descriptorIndex := 292, attributes := #[] }, { accessFlags := 16, nameIndex := 552, descriptorIndex := 403, attributes := #[] }, { accessFlags := 16, nameIndex := 85, descriptorIndex := 86, attributes := #[] }, { accessFlags := 2, nameIndex := 217, descriptorIndex := 69, attributes := #[] }, { accessFlags := 2, nameIndex := 210, descriptorIndex := 211, attributes := #[] }] 1056 4 #[444, 48] #[{ accessFlags := 0, nameIndex := 17, descriptorIndex := 14, attributes := #[] }, { accessFlags := 0, nameIndex := 24, descriptorIndex := 25, attributes := #[] }, { accessFlags := 0, nameIndex := 75, descriptorIndex := 21, attributes := #[] }, { accessFlags := 0, nameIndex := 81, descriptorIndex := 82, attributes := #[] }, { accessFlags := 26, nameIndex := 13, descriptorIndex := 14, attributes := #[] }])
  fields := #[{ name := "value", type := (.array .byte), accessFlags := 0, slot := 0, constantValue := 0 }, { name := "coder", type := .byte, accessFlags := 0, slot := 1, constantValue := 0 }, { name := "maybeLatin1", type := .boolean, accessFlags := 0, slot := 2, constantValue := 0 }, { name := "count", type := .int, accessFlags := 0, slot := 3, constantValue := 0 }, { name := "EMPTYVALUE", type := (.array .byte), accessFlags := 26, slot := 0, constantValue := 0 }]
  methods := #[k32m0, k32m1, k32m2, k32m3, k32m4, k32m5, k32m6, k32m7, k32m8, k32m9, k32m10]
  instanceTypes := #[(.array .byte), .byte, .boolean, .int]
  staticTypes := #[(.array .byte)]
  resolved := Array.replicate 609 none
  statics := none }

def pool33 : Array CpInfo := pool [(1, .methodref 2 3), (0, .class_ 4), (0, .nameAndType 5 6), (0, u "java/lang/AbstractStringBuilder"), (0, u "<init>"), (0, u "(I)V"), (11, .class_ 20), (1, u "java/lang/String"), (3, .class_ 26), (1, u "java/lang/StringBuilder"), (0, u "append"), (0, u "(Ljava/lang/String;)Ljava/lang/StringBuilder;"), (0, .methodref 2 30), (0, .nameAndType 27 31), (0, u "(Ljava/lang/String;)Ljava/lang/AbstractStringBuilder;"), (18, .methodref 2 51), (0, .nameAndType 27 52), (0, u "(C)Ljava/lang/AbstractStringBuilder;"), (84, .methodref 18 138), (0, .nameAndType 5 139), (0, u "(Ljava/lang/StringBuilder;)V"), (5, u "()V"), (10, u "()I"), (129, u "(C)Ljava/lang/StringBuilder;"), (56, .methodref 2 344), (0, .nameAndType 345 156), (0, u "length"), (3, .class_ 350), (0, u "java/lang/Appendable"), (0, .class_ 352), (0, u "java/io/Serializable"), (0, .class_ 354), (0, u "java/lang/Comparable"), (0, .class_ 356), (0, u "java/lang/CharSequence"), (0, u "serialVersionUID"), (0, u "J"), (40, u "toString"), (0, u "()Ljava/lang/String;")] 21

def k33c0 : Code := { maxStack := 2, maxLocals := 1, code := jdk_67_method_1_code, exceptionTable := #[], attributes := #[] }
def k33m0 : Method := { name := "<init>", desc := "()V", sig := { parameters := [], returnType := none }, accessFlags := 1, code := some k33c0 }
def k33c1 : Code := { maxStack := 2, maxLocals := 2, code := jdk_67_method_7_code, exceptionTable := #[], attributes := #[] }
def k33m1 : Method := { name := "append", desc := "(Ljava/lang/String;)Ljava/lang/StringBuilder;", sig := { parameters := [(.object "java/lang/String")], returnType := some (.object "java/lang/StringBuilder") }, accessFlags := 1, code := some k33c1 }
def k33c2 : Code := { maxStack := 2, maxLocals := 2, code := jdk_67_method_14_code, exceptionTable := #[], attributes := #[] }
def k33m2 : Method := { name := "append", desc := "(C)Ljava/lang/StringBuilder;", sig := { parameters := [.char], returnType := some (.object "java/lang/StringBuilder") }, accessFlags := 1, code := some k33c2 }
def k33c3 : Code := { maxStack := 3, maxLocals := 1, code := jdk_67_method_42_code, exceptionTable := #[], attributes := #[] }
def k33m3 : Method := { name := "toString", desc := "()Ljava/lang/String;", sig := { parameters := [], returnType := some (.object "java/lang/String") }, accessFlags := 1, code := some k33c3 }
def k33c4 : Code := { maxStack := 1, maxLocals := 1, code := jdk_67_method_93_code, exceptionTable := #[], attributes := #[] }
def k33m4 : Method := { name := "length", desc := "()I", sig := { parameters := [], returnType := some .int }, accessFlags := 4161, code := some k33c4 }
/-- java/lang/StringBuilder -/
def k33 : Class := { plain "java/lang/StringBuilder" (some 32) with
  accessFlags := 49
  interfaces := #[31, 2, 3, 4]
  cf := some (fileOf pool33 24 #[] #[{ accessFlags := 1, nameIndex := 5, descriptorIndex := 145, attributes := #[] }, { accessFlags := 1, nameIndex := 27, descriptorIndex := 28, attributes := #[] }, { accessFlags := 1, nameIndex := 27, descriptorIndex := 286, attributes := #[] }, { accessFlags := 1, nameIndex := 399, descriptorIndex := 400, attributes := #[] }, { accessFlags := 4161, nameIndex := 345, descriptorIndex := 156, attributes := #[] }] 49 2 #[349, 351, 353, 355] #[{ accessFlags := 24, nameIndex := 357, descriptorIndex := 358, attributes := #[] }])
  fields := #[{ name := "serialVersionUID", type := .long, accessFlags := 24, slot := 0, constantValue := 0 }]
  methods := #[k33m0, k33m1, k33m2, k33m3, k33m4]
  instanceTypes := #[(.array .byte), .byte, .boolean, .int]
  staticTypes := #[.long]
  resolved := Array.replicate 422 none
  statics := none }

def pool34 : Array CpInfo := pool [(2, .class_ 4), (1, u "java/lang/Object"), (0, u "<init>"), (0, u "()V"), (1, .class_ 10), (1, u "java/lang/System"), (0, u "allowSecurityManager"), (0, u "I"), (16, u "cons"), (0, u "Ljava/io/Console;"), (77, .class_ 110), (1, u "java/lang/System$CallersHolder"), (43, u "initialErrStream"), (0, u "Ljava/io/PrintStream;"), (19, u "security"), (0, u "Ljava/lang/SecurityManager;"), (31, .class_ 209), (0, u "java/lang/System$1"), (7, u "props"), (0, u "Ljava/util/Properties;"), (2, u "lineSeparator"), (0, u "Ljava/lang/String;"), (96, .class_ 321), (1, u "java/lang/System$LoggerFinder"), (5, .class_ 328), (0, u "java/lang/System$Logger"), (67, u "err"), (2, u "out"), (91, u "notSupportedJnuEncoding"), (15, u "in"), (17, u "initialIn"), (0, u "Ljava/io/InputStream;"), (35, u "bootLayer"), (0, u "Ljava/lang/ModuleLayer;"), (99, .class_ 664), (0, u "java/lang/System$2"), (9, u "NEVER"), (2, u "MAYBE"), (49, u "arraycopy"), (0, u "(Ljava/lang/Object;ILjava/lang/Object;II)V"), (72, .class_ 802), (0, u "java/lang/System$Logger$Level")] 31

def k34m0 : Method := { name := "<init>", desc := "()V", sig := { parameters := [], returnType := none }, accessFlags := 2, code := none }
def k34m1 : Method := { name := "arraycopy", desc := "(Ljava/lang/Object;ILjava/lang/Object;II)V", sig := { parameters := [(.object "java/lang/Object"), .int, (.object "java/lang/Object"), .int, .int], returnType := none }, accessFlags := 265, code := none }
/-- java/lang/System -/
def k34 : Class := { plain "java/lang/System" (some 0) with
  accessFlags := 49
  interfaces := #[]
  cf := some (fileOf pool34 8 #[.nestMembers #[319, 327, 801, 108, 663, 208]] #[{ accessFlags := 2, nameIndex := 5, descriptorIndex := 6, attributes := #[] }, { accessFlags := 265, nameIndex := 727, descriptorIndex := 728, attributes := #[] }] 49 2 #[] #[{ accessFlags := 25, nameIndex := 507, descriptorIndex := 526, attributes := #[] }, { accessFlags := 25, nameIndex := 399, descriptorIndex := 155, attributes := #[] }, { accessFlags := 25, nameIndex := 396, descriptorIndex := 155, attributes := #[] }, { accessFlags := 10, nameIndex := 525, descriptorIndex := 526, attributes := #[] }, { accessFlags := 26, nameIndex := 674, descriptorIndex := 12, attributes := #[] }, { accessFlags := 26, nameIndex := 677, descriptorIndex := 12, attributes := #[] }, { accessFlags := 10, nameIndex := 11, descriptorIndex := 12, attributes := #[] }, { accessFlags := 74, nameIndex := 175, descriptorIndex := 176, attributes := #[] }, { accessFlags := 10, nameIndex := 491, descriptorIndex := 222, attributes := #[] }, { accessFlags := 74, nameIndex := 29, descriptorIndex := 30, attributes := #[] }, { accessFlags := 74, nameIndex := 154, descriptorIndex := 155, attributes := #[] }, { accessFlags := 10, nameIndex := 217, descriptorIndex := 218, attributes := #[] }, { accessFlags := 10, nameIndex := 221, descriptorIndex := 222, attributes := #[] }, { accessFlags := 8, nameIndex := 562, descriptorIndex := 563, attributes := #[] }])
  fields := #[{ name := "in", type := (.object "java/io/InputStream"), accessFlags := 25, slot := 0, constantValue := 0 }, { name := "out", type := (.object "java/io/PrintStream"), accessFlags := 25, slot := 1, constantValue := 0 }, { name := "err", type := (.object "java/io/PrintStream"), accessFlags := 25, slot := 2, constantValue := 0 }, { name := "initialIn", type := (.object "java/io/InputStream"), accessFlags := 10, slot := 3, constantValue := 0 }, { name := "NEVER", type := .int, accessFlags := 26, slot := 4, constantValue := 0 }, { name := "MAYBE", type := .int, accessFlags := 26, slot := 5, constantValue := 0 }, { name := "allowSecurityManager", type := .int, accessFlags := 10, slot := 6, constantValue := 0 }, { name := "security", type := (.object "java/lang/SecurityManager"), accessFlags := 74, slot := 7, constantValue := 0 }, { name := "notSupportedJnuEncoding", type := (.object "java/lang/String"), accessFlags := 10, slot := 8, constantValue := 0 }, { name := "cons", type := (.object "java/io/Console"), accessFlags := 74, slot := 9, constantValue := 0 }, { name := "initialErrStream", type := (.object "java/io/PrintStream"), accessFlags := 74, slot := 10, constantValue := 0 }, { name := "props", type := (.object "java/util/Properties"), accessFlags := 10, slot := 11, constantValue := 0 }, { name := "lineSeparator", type := (.object "java/lang/String"), accessFlags := 10, slot := 12, constantValue := 0 }, { name := "bootLayer", type := (.object "java/lang/ModuleLayer"), accessFlags := 8, slot := 13, constantValue := 0 }]
  methods := #[k34m0, k34m1]
  instanceTypes := #[]
  staticTypes := #[(.object "java/io/InputStream"), (.object "java/io/PrintStream"), (.object "java/io/PrintStream"), (.object "java/io/InputStream"), .int, .int, .int, (.object "java/lang/SecurityManager"), (.object "java/lang/String"), (.object "java/io/Console"), (.object "java/io/PrintStream"), (.object "java/util/Properties"), (.object "java/lang/String"), (.object "java/lang/ModuleLayer")]
  resolved := Array.replicate 834 none
  statics := none }

def pool35 : Array CpInfo := pool [(2, .class_ 4), (1, u "java/lang/Object"), (0, u "<init>"), (0, u "()V"), (7, .class_ 16), (1, u "java/util/Arrays"), (57, .class_ 76), (1, u "java/util/Arrays$NaturalOrder"), (36, .class_ 115), (1, u "java/util/Arrays$LegacyMergeSort"), (1, u "Z"), (21, u "copyOfRange"), (10, .methodref 151 152), (0, .class_ 153), (0, .nameAndType 154 155), (0, u "java/lang/System"), (0, u "arraycopy"), (0, u "(Ljava/lang/Object;ILjava/lang/Object;II)V"), (146, u "copyOf"), (1, .methodref 305 306), (0, .class_ 307), (0, .nameAndType 308 309), (0, u "java/lang/Math"), (0, u "min"), (0, u "(II)I"), (29, .methodref 14 340), (0, .nameAndType 341 342), (0, u "copyOfRangeByte"), (0, u "([BII)[B"), (0, .methodref 14 344), (0, .nameAndType 345 346), (0, u "checkLength"), (0, u "(II)V"), (28, .class_ 376), (0, u "java/util/Arrays$ArrayList"), (68, u "$assertionsDisabled"), (269, u "MIN_ARRAY_SORT_GRAN"), (0, u "I"), (2, u "INSERTIONSORT_THRESHOLD"), (149, u "([BI)[B"), (105, .class_ 976), (0, u "java/util/Arrays$ArrayItr")] 52

def k35m0 : Method := { name := "<init>", desc := "()V", sig := { parameters := [], returnType := none }, accessFlags := 2, code := none }
def k35c1 : Code := { maxStack := 6, maxLocals := 3, code := jdk_65_method_121_code, exceptionTable := #[], attributes := #[] }
def k35m1 : Method := { name := "copyOf", desc := "([BI)[B", sig := { parameters := [(.array .byte), .int], returnType := some (.array .byte) }, accessFlags := 9, code := some k35c1 }
def k35c2 : Code := { maxStack := 4, maxLocals := 2, code := jdk_65_method_131_code, exceptionTable := #[], attributes := #[] }
def k35m2 : Method := { name := "checkLength", desc := "(II)V", sig := { parameters := [.int, .int], returnType := none }, accessFlags := 10, code := some k35c2 }
def k35c3 : Code := { maxStack := 3, maxLocals := 3, code := jdk_65_method_132_code, exceptionTable := #[], attributes := #[] }
def k35m3 : Method := { name := "copyOfRange", desc := "([BII)[B", sig := { parameters := [(.array .byte), .int, .int], returnType := some (.array .byte) }, accessFlags := 9, code := some k35c3 }
def k35c4 : Code := { maxStack := 6, maxLocals := 5, code := jdk_65_method_133_code, exceptionTable := #[], attributes := #[] }
def k35m4 : Method := { name := "copyOfRangeByte", desc := "([BII)[B", sig := { parameters := [(.array .byte), .int, .int], returnType := some (.array .byte) }, accessFlags := 10, code := some k35c4 }
/-- java/util/Arrays -/
def k35 : Class := { plain "java/util/Arrays" (some 0) with
  accessFlags := 49
  interfaces := #[]
  cf := some (fileOf pool35 14 #[.nestMembers #[975, 375, 113, 74]] #[{ accessFlags := 2, nameIndex := 5, descriptorIndex := 6, attributes := #[] }, { accessFlags := 9, nameIndex := 302, descriptorIndex := 869, attributes := #[] }, { accessFlags := 10, nameIndex := 345, descriptorIndex := 346, attributes := #[] }, { accessFlags := 9, nameIndex := 139, descriptorIndex := 342, attributes := #[] }, { accessFlags := 10, nameIndex := 341, descriptorIndex := 342, attributes := #[] }] 49 2 #[] #[{ accessFlags := 26, nameIndex := 715, descriptorIndex := 716, attributes := #[] }, { accessFlags := 26, nameIndex := 719, descriptorIndex := 716, attributes := #[] }, { accessFlags := 4120, nameIndex := 445, descriptorIndex := 117, attributes := #[] }])
  fields := #[{ name := "MIN_ARRAY_SORT_GRAN", type := .int, accessFlags := 26, slot := 0, constantValue := 0 }, { name := "INSERTIONSORT_THRESHOLD", type := .int, accessFlags := 26, slot := 1, constantValue := 0 }, { name := "$assertionsDisabled", type := .boolean, accessFlags := 4120, slot := 2, constantValue := 0 }]
  methods := #[k35m0, k35m1, k35m2, k35m3, k35m4]
  instanceTypes := #[]
  staticTypes := #[.int, .int, .boolean]
  resolved := Array.replicate 1029 none
  statics := none }

def pool36 : Array CpInfo := pool [(1, .class_ 2), (0, u "java/lang/Math"), (1, .class_ 6), (1, u "java/lang/Object"), (0, u "<init>"), (0, u "()V"), (89, .class_ 100), (1, u "java/lang/Math$RandomNumberGeneratorHolder"), (71, u "negativeZeroFloatBits"), (0, u "J"), (2, u "negativeZeroDoubleBits"), (21, u "max"), (2, u "min"), (43, u "$assertionsDisabled"), (0, u "Z"), (88, u "(II)I"), (2, u "twoToTheDoubleScaleDown"), (0, u "D"), (4, u "twoToTheDoubleScaleUp"), (9, u "E"), (3, u "PI"), (2, u "TAU"), (2, u "DEGREES_TO_RADIANS"), (0, u "RADIANS_TO_DEGREES")] 94

def k36m0 : Method := { name := "<init>", desc := "()V", sig := { parameters := [], returnType := none }, accessFlags := 2, code := none }
def k36c1 : Code := { maxStack := 2, maxLocals := 2, code := jdk_29_method_65_code, exceptionTable := #[], attributes := #[] }
def k36m1 : Method := { name := "max", desc := "(II)I", sig := { parameters := [.int, .int], returnType := some .int }, accessFlags := 9, code := some k36c1 }
def k36c2 : Code := { maxStack := 2, maxLocals := 2, code := jdk_29_method_69_code, exceptionTable := #[], attributes := #[] }
def k36m2 : Method := { name := "min", desc := "(II)I", sig := { parameters := [.int, .int], returnType := some .int }, accessFlags := 9, code := some k36c2 }
/-- java/lang/Math -/
def k36 : Class := { plain "java/lang/Math" (some 0) with
  accessFlags := 49
  interfaces := #[]
  cf := some (fileOf pool36 1 #[.nestMembers #[98]] #[{ accessFlags := 2, nameIndex := 7, descriptorIndex := 8, attributes := #[] }, { accessFlags := 9, nameIndex := 198, descriptorIndex := 335, attributes := #[] }, { accessFlags := 9, nameIndex := 201, descriptorIndex := 335, attributes := #[] }] 49 4 #[] #[{ accessFlags := 25, nameIndex := 354, descriptorIndex := 339, attributes := #[] }, { accessFlags := 25, nameIndex := 358, descriptorIndex := 339, attributes := #[] }, { accessFlags := 25, nameIndex := 361, descriptorIndex := 339, attributes := #[] }, { accessFlags := 26, nameIndex := 364, descriptorIndex := 339, attributes := #[] }, { accessFlags := 26, nameIndex := 365, descriptorIndex := 339, attributes := #[] }, { accessFlags := 26, nameIndex := 172, descriptorIndex := 173, attributes := #[] }, { accessFlags := 26, nameIndex := 176, descriptorIndex := 173, attributes := #[] }, { accessFlags := 8, nameIndex := 344, descriptorIndex := 339, attributes := #[] }, { accessFlags := 8, nameIndex := 338, descriptorIndex := 339, attributes := #[] }, { accessFlags := 4120, nameIndex := 245, descriptorIndex := 246, attributes := #[] }])
  fields := #[{ name := "E", type := .double, accessFlags := 25, slot := 0, constantValue := 0 }, { name := "PI", type := .double, accessFlags := 25, slot := 1, constantValue := 0 }, { name := "TAU", type := .double, accessFlags := 25, slot := 2, constantValue := 0 }, { name := "DEGREES_TO_RADIANS", type := .double, accessFlags := 26, slot := 3, constantValue := 0 }, { name := "RADIANS_TO_DEGREES", type := .double, accessFlags := 26, slot := 4, constantValue := 0 }, { name := "negativeZeroFloatBits", type := .long, accessFlags := 26, slot := 5, constantValue := 0 }, { name := "negativeZeroDoubleBits", type := .long, accessFlags := 26, slot := 6, constantValue := 0 }, { name := "twoToTheDoubleScaleUp", type := .double, accessFlags := 8, slot := 7, constantValue := 0 }, { name := "twoToTheDoubleScaleDown", type := .double, accessFlags := 8, slot := 8, constantValue := 0 }, { name := "$assertionsDisabled", type := .boolean, accessFlags := 4120, slot := 9, constantValue := 0 }]
  methods := #[k36m0, k36m1, k36m2]
  instanceTypes := #[]
  staticTypes := #[.double, .double, .double, .double, .double, .long, .long, .double, .double, .boolean]
  resolved := Array.replicate 460 none
  statics := none }

def pool37 : Array CpInfo := pool [(9, u "<init>"), (6, .class_ 18), (1, u "java/lang/Object"), (0, u "()V"), (1, .class_ 23), (1, u "jdk/internal/util/ArraysSupport"), (0, u "LOG2_ARRAY_LONG_INDEX_SCALE"), (0, u "I"), (2, u "U"), (0, u "Ljdk/internal/misc/Unsafe;"), (8, u "BIG_ENDIAN"), (0, u "Z"), (8, u "LOG2_BYTE_BIT_SIZE"), (4, u "LOG2_ARRAY_INT_INDEX_SCALE"), (54, u "JLA"), (0, u "Ljdk/internal/access/JavaLangAccess;"), (11, u "LOG2_ARRAY_BOOLEAN_INDEX_SCALE"), (9, u "LOG2_ARRAY_BYTE_INDEX_SCALE"), (5, u "LOG2_ARRAY_CHAR_INDEX_SCALE"), (5, u "LOG2_ARRAY_SHORT_INDEX_SCALE"), (18, u "LOG2_ARRAY_FLOAT_INDEX_SCALE"), (24, u "LOG2_ARRAY_DOUBLE_INDEX_SCALE"), (6, .methodref 195 196), (0, .class_ 197), (0, .nameAndType 198 199), (0, u "java/lang/Math"), (0, u "max"), (0, u "(II)I"), (0, .integer 2147483639), (76, u "T_BOOLEAN"), (2, u "T_CHAR"), (1, u "T_FLOAT"), (1, u "T_DOUBLE"), (1, u "T_BYTE"), (1, u "T_SHORT"), (1, u "T_INT"), (1, u "T_LONG"), (1, u "SOFT_MAX_ARRAY_LENGTH"), (56, u "newLength"), (0, u "(III)I")] 25

def k37m0 : Method := { name := "<init>", desc := "()V", sig := { parameters := [], returnType := none }, accessFlags := 2, code := none }
def k37c1 : Code := { maxStack := 3, maxLocals := 4, code := jdk_48_method_27_code, exceptionTable := #[], attributes := #[] }
def k37m1 : Method := { name := "newLength", desc := "(III)I", sig := { parameters := [.int, .int, .int], returnType := some .int }, accessFlags := 9, code := some k37c1 }
/-- jdk/internal/util/ArraysSupport -/
def k37 : Class := { plain "jdk/internal/util/ArraysSupport" (some 0) with
  accessFlags := 33
  interfaces := #[]
  cf := some (fileOf pool37 21 #[] #[{ accessFlags := 2, nameIndex := 9, descriptorIndex := 19, attributes := #[] }, { accessFlags := 9, nameIndex := 351, descriptorIndex := 352, attributes := #[] }] 33 16 #[] #[{ accessFlags := 24, nameIndex := 28, descriptorIndex := 29, attributes := #[] }, { accessFlags := 26, nameIndex := 38, descriptorIndex := 39, attributes := #[] }, { accessFlags := 25, nameIndex := 121, descriptorIndex := 25, attributes := #[] }, { accessFlags := 25, nameIndex := 131, descriptorIndex := 25, attributes := #[] }, { accessFlags := 25, nameIndex := 137, descriptorIndex := 25, attributes := #[] }, { accessFlags := 25, nameIndex := 143, descriptorIndex := 25, attributes := #[] }, { accessFlags := 25, nameIndex := 53, descriptorIndex := 25, attributes := #[] }, { accessFlags := 25, nameIndex := 24, descriptorIndex := 25, attributes := #[] }, { accessFlags := 25, nameIndex := 162, descriptorIndex := 25, attributes := #[] }, { accessFlags := 25, nameIndex := 187, descriptorIndex := 25, attributes := #[] }, { accessFlags := 26, nameIndex := 48, descriptorIndex := 25, attributes := #[] }, { accessFlags := 25, nameIndex := 277, descriptorIndex := 25, attributes := #[] }, { accessFlags := 25, nameIndex := 280, descriptorIndex := 25, attributes := #[] }, { accessFlags := 25, nameIndex := 282, descriptorIndex := 25, attributes := #[] }, { accessFlags := 25, nameIndex := 284, descriptorIndex := 25, attributes := #[] }, { accessFlags := 25, nameIndex := 286, descriptorIndex := 25, attributes := #[] }, { accessFlags := 25, nameIndex := 288, descriptorIndex := 25, attributes := #[] }, { accessFlags := 25, nameIndex := 290, descriptorIndex := 25, attributes := #[] }, { accessFlags := 25, nameIndex := 292, descriptorIndex := 25, attributes := #[] }, { accessFlags := 26, nameIndex := 108, descriptorIndex := 109, attributes := #[] }, { accessFlags := 25, nameIndex := 294, descriptorIndex := 25, attributes := #[] }])
  fields := #[{ name := "U", type := (.object "jdk/internal/misc/Unsafe"), accessFlags := 24, slot := 0, constantValue := 0 }, { name := "BIG_ENDIAN", type := .boolean, accessFlags := 26, slot := 1, constantValue := 0 }, { name := "LOG2_ARRAY_BOOLEAN_INDEX_SCALE", type := .int, accessFlags := 25, slot := 2, constantValue := 0 }, { name := "LOG2_ARRAY_BYTE_INDEX_SCALE", type := .int, accessFlags := 25, slot := 3, constantValue := 0 }, { name := "LOG2_ARRAY_CHAR_INDEX_SCALE", type := .int, accessFlags := 25, slot := 4, constantValue := 0 }, { name := "LOG2_ARRAY_SHORT_INDEX_SCALE", type := .int, accessFlags := 25, slot := 5, constantValue := 0 }, { name := "LOG2_ARRAY_INT_INDEX_SCALE", type := .int, accessFlags := 25, slot := 6, constantValue := 0 }, { name := "LOG2_ARRAY_LONG_INDEX_SCALE", type := .int, accessFlags := 25, slot := 7, constantValue := 0 }, { name := "LOG2_ARRAY_FLOAT_INDEX_SCALE", type := .int, accessFlags := 25, slot := 8, constantValue := 0 }, { name := "LOG2_ARRAY_DOUBLE_INDEX_SCALE", type := .int, accessFlags := 25, slot := 9, constantValue := 0 }, { name := "LOG2_BYTE_BIT_SIZE", type := .int, accessFlags := 26, slot := 10, constantValue := 0 }, { name := "T_BOOLEAN", type := .int, accessFlags := 25, slot := 11, constantValue := 0 }, { name := "T_CHAR", type := .int, accessFlags := 25, slot := 12, constantValue := 0 }, { name := "T_FLOAT", type := .int, accessFlags := 25, slot := 13, constantValue := 0 }, { name := "T_DOUBLE", type := .int, accessFlags := 25, slot := 14, constantValue := 0 }, { name := "T_BYTE", type := .int, accessFlags := 25, slot := 15, constantValue := 0 }, { name := "T_SHORT", type := .int, accessFlags := 25, slot := 16, constantValue := 0 }, { name := "T_INT", type := .int, accessFlags := 25, slot := 17, constantValue := 0 }, { name := "T_LONG", type := .int, accessFlags := 25, slot := 18, constantValue := 0 }, { name := "JLA", type := (.object "jdk/internal/access/JavaLangAccess"), accessFlags := 26, slot := 19, constantValue := 0 }, { name := "SOFT_MAX_ARRAY_LENGTH", type := .int, accessFlags := 25, slot := 20, constantValue := 0 }]
  methods := #[k37m0, k37m1]
  instanceTypes := #[]
  staticTypes := #[(.object "jdk/internal/misc/Unsafe"), .boolean, .int, .int, .int, .int, .int, .int, .int, .int, .int, .int, .int, .int, .int, .int, .int, .int, .int, (.object "jdk/internal/access/JavaLangAccess"), .int]
  resolved := Array.replicate 378 none
  statics := none }

def pool38 : Array CpInfo := pool [(1, .methodref 2 3), (0, .class_ 4), (0, .nameAndType 5 6), (0, u "java/util/AbstractSet"), (0, u "<init>"), (0, u "()V"), (0, .fieldref 8 9), (0, .class_ 10), (0, .nameAndType 11 12), (0, u "java/util/TreeMap$KeySet"), (0, u "m"), (0, u "Ljava/util/NavigableMap;"), (0, .class_ 14), (0, u "java/util/TreeMap"), (0, .methodref 13 16), (0, .nameAndType 17 18), (0, u "keyIterator"), (0, u "()Ljava/util/Iterator;"), (70, u "(Ljava/util/NavigableMap;)V"), (26, .class_ 117), (0, u "java/util/NavigableSet"), (11, u "iterator")] 53

def k38c0 : Code := { maxStack := 2, maxLocals := 2, code := jdk_2741_method_1_code, exceptionTable := #[], attributes := #[] }
def k38m0 : Method := { name := "<init>", desc := "(Ljava/util/NavigableMap;)V", sig := { parameters := [(.object "java/util/NavigableMap")], returnType := none }, accessFlags := 0, code := some k38c0 }
def k38c1 : Code := { maxStack := 1, maxLocals := 1, code := jdk_2741_method_2_code, exceptionTable := #[], attributes := #[] }
def k38m1 : Method := { name := "iterator", desc := "()Ljava/util/Iterator;", sig := { parameters := [], returnType := some (.object "java/util/Iterator") }, accessFlags := 1, code := some k38c1 }
/-- java/util/TreeMap$KeySet -/
def k38 : Class := { plain "java/util/TreeMap$KeySet" (some 14) with
  accessFlags := 48
  interfaces := #[18]
  cf := some (fileOf pool38 8 #[.nestHost 13] #[{ accessFlags := 0, nameIndex := 5, descriptorIndex := 89, attributes := #[] }, { accessFlags := 1, nameIndex := 129, descriptorIndex := 18, attributes := #[] }] 48 2 #[116] #[{ accessFlags := 18, nameIndex := 11, descriptorIndex := 12, attributes := #[] }])
  fields := #[{ name := "m", type := (.object "java/util/NavigableMap"), accessFlags := 18, slot := 0, constantValue := 0 }]
  methods := #[k38m0, k38m1]
  instanceTypes := #[(.object "java/util/NavigableMap")]
  staticTypes := #[]
  resolved := Array.replicate 183 none
  statics := none }

def pool39 : Array CpInfo := pool [(16, .class_ 18), (1, u "java/util/Iterator"), (0, u "hasNext"), (0, u "()Z"), (2, u "next"), (0, u "()Ljava/lang/Object;"), (6, .class_ 32), (0, u "java/lang/Object")] 20

def k39m0 : Method := { name := "hasNext", desc := "()Z", sig := { parameters := [], returnType := some .boolean }, accessFlags := 1025, code := none }
def k39m1 : Method := { name := "next", desc := "()Ljava/lang/Object;", sig := { parameters := [], returnType := some (.object "java/lang/Object") }, accessFlags := 1025, code := none }
/-- java/util/Iterator -/
def k39 : Class := { plain "java/util/Iterator" (some 0) with
  accessFlags := 1537
  interfaces := #[]
  cf := some (fileOf pool39 16 #[] #[{ accessFlags := 1025, nameIndex := 19, descriptorIndex := 20, attributes := #[] }, { accessFlags := 1025, nameIndex := 23, descriptorIndex := 24, attributes := #[] }] 1537 31 #[] #[])
  fields := #[]
  methods := #[k39m0, k39m1]
  instanceTypes := #[]
  staticTypes := #[]
  resolved := Array.replicate 53 none
  statics := none }

def pool40 : Array CpInfo := pool [(1, .fieldref 2 3), (0, .class_ 4), (0, .nameAndType 5 6), (0, u "java/util/TreeMap$PrivateEntryIterator"), (0, u "this$0"), (0, u "Ljava/util/TreeMap;"), (0, .methodref 8 9), (0, .class_ 10), (0, .nameAndType 11 12), (0, u "java/lang/Object"), (0, u "<init>"), (0, u "()V"), (0, .fieldref 14 15), (0, .class_ 16), (0, .nameAndType 17 18), (0, u "java/util/TreeMap"), (0, u "modCount"), (0, u "I"), (0, .fieldref 2 20), (0, .nameAndType 21 18), (0, u "expectedModCount"), (0, .fieldref 2 23), (0, .nameAndType 24 25), (0, u "lastReturned"), (0, u "Ljava/util/TreeMap$Entry;"), (0, .fieldref 2 27), (0, .nameAndType 28 25), (0, u "next"), (28, .class_ 58), (0, u "java/util/Iterator"), (2, u "(Ljava/util/TreeMap;Ljava/util/TreeMap$Entry;)V"), (10, u "hasNext"), (0, u "()Z")] 14

def k40c0 : Code := { maxStack := 2, maxLocals := 3, code := jdk_2750_method_1_code, exceptionTable := #[], attributes := #[] }
def k40m0 : Method := { name := "<init>", desc := "(Ljava/util/TreeMap;Ljava/util/TreeMap$Entry;)V", sig := { parameters := [(.object "java/util/TreeMap"), (.object "java/util/TreeMap$Entry")], returnType := none }, accessFlags := 0, code := some k40c0 }
def k40c1 : Code := { maxStack := 1, maxLocals := 1, code := jdk_2750_method_2_code, exceptionTable := #[], attributes := #[] }
def k40m1 : Method := { name := "hasNext", desc := "()Z", sig := { parameters := [], returnType := some .boolean }, accessFlags := 17, code := some k40c1 }
/-- java/util/TreeMap$PrivateEntryIterator -/
def k40 : Class := { plain "java/util/TreeMap$PrivateEntryIterator" (some 0) with
  accessFlags := 1056
  interfaces := #[39]
  cf := some (fileOf pool40 2 #[.nestHost 14] #[{ accessFlags := 0, nameIndex := 11, descriptorIndex := 61, attributes := #[] }, { accessFlags := 17, nameIndex := 72, descriptorIndex := 73, attributes := #[] }] 1056 8 #[57] #[{ accessFlags := 0, nameIndex := 28, descriptorIndex := 25, attributes := #[] }, { accessFlags := 0, nameIndex := 24, descriptorIndex := 25, attributes := #[] }, { accessFlags := 0, nameIndex := 21, descriptorIndex := 18, attributes := #[] }, { accessFlags := 4112, nameIndex := 5, descriptorIndex := 6, attributes := #[] }])
  fields := #[{ name := "next", type := (.object "java/util/TreeMap$Entry"), accessFlags := 0, slot := 0, constantValue := 0 }, { name := "lastReturned", type := (.object "java/util/TreeMap$Entry"), accessFlags := 0, slot := 1, constantValue := 0 }, { name := "expectedModCount", type := .int, accessFlags := 0, slot := 2, constantValue := 0 }, { name := "this$0", type := (.object "java/util/TreeMap"), accessFlags := 4112, slot := 3, constantValue := 0 }]
  methods := #[k40m0, k40m1]
  instanceTypes := #[(.object "java/util/TreeMap$Entry"), (.object "java/util/TreeMap$Entry"), .int, (.object "java/util/TreeMap")]
  staticTypes := #[]
  resolved := ((Array.replicate 88 none).set! 13 (some (.field 26 3))).set! 14 (some (.cls 26))
  statics := none }

def pool41 : Array CpInfo := pool [(1, .methodref 2 3), (0, .class_ 4), (0, .nameAndType 5 6), (0, u "java/util/TreeMap$PrivateEntryIterator"), (0, u "<init>"), (0, u "(Ljava/util/TreeMap;Ljava/util/TreeMap$Entry;)V"), (1, .class_ 10), (1, u "java/util/TreeMap$KeyIterator"), (30, .class_ 42), (0, u "java/util/TreeMap")] 4

def k41c0 : Code := { maxStack := 3, maxLocals := 3, code := jdk_2740_method_1_code, exceptionTable := #[], attributes := #[] }
def k41m0 : Method := { name := "<init>", desc := "(Ljava/util/TreeMap;Ljava/util/TreeMap$Entry;)V", sig := { parameters := [(.object "java/util/TreeMap"), (.object "java/util/TreeMap$Entry")], returnType := none }, accessFlags := 0, code := some k41c0 }
/-- java/util/TreeMap$KeyIterator -/
def k41 : Class := { plain "java/util/TreeMap$KeyIterator" (some 40) with
  accessFlags := 48
  interfaces := #[]
  cf := some (fileOf pool41 8 #[.nestHost 41] #[{ accessFlags := 0, nameIndex := 5, descriptorIndex := 6, attributes := #[] }] 48 2 #[] #[])
  fields := #[]
  methods := #[k41m0]
  instanceTypes := #[(.object "java/util/TreeMap$Entry"), (.object "java/util/TreeMap$Entry"), .int, (.object "java/util/TreeMap")]
  staticTypes := #[]
  resolved := Array.replicate 47 none
  statics := none }

def pool42 : Array CpInfo := pool [(1, .fieldref 2 3), (0, .class_ 4), (0, .nameAndType 5 6), (0, u "java/util/ArrayList$Itr"), (0, u "this$0"), (0, u "Ljava/util/ArrayList;"), (0, .methodref 8 9), (0, .class_ 10), (0, .nameAndType 11 12), (0, u "java/lang/Object"), (0, u "<init>"), (0, u "()V"), (0, .fieldref 2 14), (0, .nameAndType 15 16), (0, u "lastRet"), (0, u "I"), (0, .fieldref 18 19), (0, .class_ 20), (0, .nameAndType 21 16), (0, u "java/util/ArrayList"), (0, u "modCount"), (0, .fieldref 2 23), (0, .nameAndType 24 16), (0, u "expectedModCount"), (0, .fieldref 2 26), (0, .nameAndType 27 16), (0, u "cursor"), (0, .fieldref 18 29), (0, .nameAndType 30 16), (0, u "size"), (0, .methodref 2 32), (0, .nameAndType 33 12), (0, u "checkForComodification"), (3, .fieldref 18 38), (0, .nameAndType 39 40), (0, u "elementData"), (0, u "[Ljava/lang/Object;"), (28, .class_ 70), (0, u "java/util/Iterator"), (0, u "(Ljava/util/ArrayList;)V"), (8, u "hasNext"), (0, u "()Z"), (1, u "next"), (0, u "()Ljava/lang/Object;")] 19

def k42c0 : Code := { maxStack := 2, maxLocals := 2, code := jdk_49_method_1_code, exceptionTable := #[], attributes := #[] }
def k42m0 : Method := { name := "<init>", desc := "(Ljava/util/ArrayList;)V", sig := { parameters := [(.object "java/util/ArrayList")], returnType := none }, accessFlags := 0, code := some k42c0 }
def k42c1 : Code := { maxStack := 2, maxLocals := 1, code := jdk_49_method_2_code, exceptionTable := #[], attributes := #[] }
def k42m1 : Method := { name := "hasNext", desc := "()Z", sig := { parameters := [], returnType := some .boolean }, accessFlags := 1, code := some k42c1 }
def k42c2 : Code := { maxStack := 4, maxLocals := 3, code := jdk_49_method_3_code, exceptionTable := #[], attributes := #[] }
def k42m2 : Method := { name := "next", desc := "()Ljava/lang/Object;", sig := { parameters := [], returnType := some (.object "java/lang/Object") }, accessFlags := 1, code := some k42c2 }
def k42c3 : Code := { maxStack := 2, maxLocals := 1, code := jdk_49_method_6_code, exceptionTable := #[], attributes := #[] }
def k42m3 : Method := { name := "checkForComodification", desc := "()V", sig := { parameters := [], returnType := none }, accessFlags := 16, code := some k42c3 }
/-- java/util/ArrayList$Itr -/
def k42 : Class := { plain "java/util/ArrayList$Itr" (some 0) with
  accessFlags := 32
  interfaces := #[39]
  cf := some (fileOf pool42 2 #[.nestHost 18] #[{ accessFlags := 0, nameIndex := 11, descriptorIndex := 71, attributes := #[] }, { accessFlags := 1, nameIndex := 80, descriptorIndex := 81, attributes := #[] }, { accessFlags := 1, nameIndex := 83, descriptorIndex := 84, attributes := #[] }, { accessFlags := 16, nameIndex := 33, descriptorIndex := 12, attributes := #[] }] 32 8 #[69] #[{ accessFlags := 0, nameIndex := 27, descriptorIndex := 16, attributes := #[] }, { accessFlags := 0, nameIndex := 15, descriptorIndex := 16, attributes := #[] }, { accessFlags := 0, nameIndex := 24, descriptorIndex := 16, attributes := #[] }, { accessFlags := 4112, nameIndex := 5, descriptorIndex := 6, attributes := #[] }])
  fields := #[{ name := "cursor", type := .int, accessFlags := 0, slot := 0, constantValue := 0 }, { name := "lastRet", type := .int, accessFlags := 0, slot := 1, constantValue := 0 }, { name := "expectedModCount", type := .int, accessFlags := 0, slot := 2, constantValue := 0 }, { name := "this$0", type := (.object "java/util/ArrayList"), accessFlags := 4112, slot := 3, constantValue := 0 }]
  methods := #[k42m0, k42m1, k42m2, k42m3]
  instanceTypes := #[.int, .int, .int, (.object "java/util/ArrayList")]
  staticTypes := #[]
  resolved := Array.replicate 104 none
  statics := none }

def pool43 : Array CpInfo := pool [(2, .class_ 4), (1, u "java/lang/Object"), (0, u "<init>"), (0, u "()V"), (17, .class_ 26), (1, u "jdk/internal/util/Preconditions"), (6, u "checkIndex"), (21, .class_ 56), (0, u "jdk/internal/util/Preconditions$4"), (57, .class_ 115), (0, u "jdk/internal/util/Preconditions$1"), (7, u "SIOOBE_FORMATTER"), (0, u "Ljava/util/function/BiFunction;"), (0, .class_ 126), (0, u "jdk/internal/util/Preconditions$2"), (3, u "AIOOBE_FORMATTER"), (0, .class_ 132), (0, u "jdk/internal/util/Preconditions$3"), (3, u "IOOBE_FORMATTER"), (41, u "(IILjava/util/function/BiFunction;)I")] 15

def k43m0 : Method := { name := "<init>", desc := "()V", sig := { parameters := [], returnType := none }, accessFlags := 1, code := none }
def k43c1 : Code := { maxStack := 3, maxLocals := 3, code := jdk_41_method_11_code, exceptionTable := #[], attributes := #[] }
def k43m1 : Method := { name := "checkIndex", desc := "(IILjava/util/function/BiFunction;)I", sig := { parameters := [.int, .int, (.object "java/util/function/BiFunction")], returnType := some .int }, accessFlags := 9, code := some k43c1 }
/-- jdk/internal/util/Preconditions -/
def k43 : Class := { plain "jdk/internal/util/Preconditions" (some 0) with
  accessFlags := 33
  interfaces := #[]
  cf := some (fileOf pool43 24 #[.nestMembers #[55, 131, 125, 114]] #[{ accessFlags := 1, nameIndex := 5, descriptorIndex := 6, attributes := #[] }, { accessFlags := 9, nameIndex := 33, descriptorIndex := 178, attributes := #[] }] 33 2 #[] #[{ accessFlags := 25, nameIndex := 123, descriptorIndex := 124, attributes := #[] }, { accessFlags := 25, nameIndex := 130, descriptorIndex := 124, attributes := #[] }, { accessFlags := 25, nameIndex := 136, descriptorIndex := 124, attributes := #[] }])
  fields := #[{ name := "SIOOBE_FORMATTER", type := (.object "java/util/function/BiFunction"), accessFlags := 25, slot := 0, constantValue := 0 }, { name := "AIOOBE_FORMATTER", type := (.object "java/util/function/BiFunction"), accessFlags := 25, slot := 1, constantValue := 0 }, { name := "IOOBE_FORMATTER", type := (.object "java/util/function/BiFunction"), accessFlags := 25, slot := 2, constantValue := 0 }]
  methods := #[k43m0, k43m1]
  instanceTypes := #[]
  staticTypes := #[(.object "java/util/function/BiFunction"), (.object "java/util/function/BiFunction"), (.object "java/util/function/BiFunction")]
  resolved := Array.replicate 194 none
  statics := some 2 }

/-- the primitive byte -/
def k44 : Class := { plain "byte" none with kind := .primitive 'B', accessFlags := 0x411 }
/-- [B -/
def k45 : Class := { plain "[B" (some 0) with kind := .array 44 .byte, interfaces := #[19, 2], accessFlags := 1041 }

/-- the primitive int -/
def k46 : Class := { plain "int" none with kind := .primitive 'I', accessFlags := 0x411 }
/-- [I -/
def k47 : Class := { plain "[I" (some 0) with kind := .array 46 .int, interfaces := #[19, 2], accessFlags := 1041 }

/-- [Ljava/lang/Object; -/
def k48 : Class := { plain "[Ljava/lang/Object;" (some 0) with kind := .array 0 (.object "java/lang/Object"), interfaces := #[19, 2], accessFlags := 1041 }

def heap : Heap := #[{ cls := 7, slots := #[.long 0, .int 1, .null, .int 0, .null, .int 0, .int 0], vm := .statics 7 },
  { cls := 30, slots := #[.long 0, .int 0, .ref 3, .ref 4], vm := .statics 30 },
  { cls := 43, slots := #[.null, .null, .null], vm := .statics 43 },
  { cls := 48, slots := #[], vm := .none },
  { cls := 48, slots := #[], vm := .none }]
def classes : Array Class := #[k0, k1, k2, k3, k4, k5, k6, k7, k8, k9, k10, k11, k12, k13, k14, k15, k16, k17, k18, k19, k20, k21, k22, k23, k24, k25, k26, k27, k28, k29, k30, k31, k32, k33, k34, k35, k36, k37, k38, k39, k40, k41, k42, k43, k44, k45, k46, k47, k48]
def interned : List (Array UInt16 × Addr) := []
def slotsUsed : Nat := 14
def theMethod : MethodId := ⟨1, 1⟩
def args0 : Array Value := #[.int 3, .int 2]
def aboutOver (below : List Frame) : State where
  vm := { classes := classes, interned := interned.toArray }
  heap := heap
  slotsUsed := slotsUsed
  threads := #[{ frames := .invoking theMethod args0 :: below }]
def below0 : List Frame := [.native { method := ⟨0, 0⟩, args := #[] }]
def about1 : State := aboutOver below0
def p0 : Program := .bare "" "" ""
def e0 : Env := launch0.env 0 0 0
theorem w_frames : about1.frames = Frame.invoking theMethod args0 :: below0 := rfl
set_option maxRecDepth 65536 in
theorem w_args : argsFit about1.vm theMethod args0 = true := by decide +kernel
set_option maxRecDepth 65536 in
theorem w_heap : heapFits about1 = true := by decide +kernel
set_option maxRecDepth 65536 in
theorem w_runnable : about1.curStatus? = some .runnable := by decide +kernel
set_option maxRecDepth 65536 in
theorem w_alone : about1.alone = true := by decide +kernel
set_option maxRecDepth 65536 in
theorem w_named : about1.methodNamed? x = some theMethod := by decide +kernel
set_option maxRecDepth 65536 in
theorem w_hears : about1.hears theMethod below0 = true := by decide +kernel
set_option maxRecDepth 65536 in
theorem w_ripe : about1.ripe theMethod args0 below0 = true := by decide +kernel
theorem w_running : about1.status = .running := rfl
set_option maxRecDepth 65536 in
theorem w_room : about1.hasRoom e0.platform room_1 = true :=
  launch0.hasRoom_least _ room_1 (by decide +kernel) (by decide +kernel) (by decide +kernel) (by decide +kernel) (by decide +kernel) (by decide +kernel)
theorem allAtoms_all (ts : List Jvm.Cond) (a : Array Jvm.Value) (st : Jvm.State) : (allAtoms ts).before a st = ts.all (fun c => c.before a st) := by
  induction ts with
  | nil => rfl
  | cons c t ih =>
    show (Jvm.Cond.and c (allAtoms t)).before a st = _
    rw [Jvm.Cond.before_and, ih, List.all_cons]
def words1 : List Jvm.Cond := Jvm.Cond.code x code maxLocals ret :: tables_1
/-- a 'code' word, met by the world's own term for the bytes: nothing is compared byte by byte -/
theorem code_word {y : MethodName} {bytes : ByteArray} {mx : Nat} {rt : Option FieldType} {a : Array Value} {s : State} {m : MethodId} {meth : Method} {c : Code} (h1 : s.methodNamed? y = some m) (h2 : s.vm.method? m = some meth) (h3 : meth.code = some c) (h4 : c.code = bytes)
    (h5 : (c.maxLocals == mx && c.exceptionTable.isEmpty && decide (c.maxStack ≤ mostOperands) && decide (meth.sig.returnType = rt) && !meth.locks && decide (parseMethodDescriptor y.desc = some meth.sig)) = true) : (Jvm.Cond.code y bytes mx rt).before a s = true := by
  simp only [Bool.and_eq_true, beq_iff_eq, Bool.not_eq_true', decide_eq_true_eq] at h5
  obtain ⟨⟨⟨⟨⟨g1, g2⟩, g3⟩, g4⟩, g5⟩, g6⟩ := h5
  simp [Cond.before, Cond.holds, Cond.value, h1, h2, h3, h4, g1, g2, g3, g4, g5, g6]
def isCode : Jvm.Cond → Bool
  | .code _ _ _ _ => true
  | _ => false
theorem all_split {L : List Jvm.Cond} {P : Jvm.Cond → Bool} (h1 : L.all (fun c => isCode c || P c) = true) (h2 : ∀ c ∈ L.filter isCode, P c = true) : L.all P = true := by
  refine List.all_eq_true.mpr fun c hc => ?_
  have h := List.all_eq_true.mp h1 c hc
  rcases Bool.eq_false_or_eq_true (isCode c) with hi | hi
  · exact h2 c (List.mem_filter.mpr ⟨hc, hi⟩)
  · simpa [hi] using h
set_option maxRecDepth 65536 in
theorem w_c0 : (Jvm.Cond.code x code maxLocals ret).before args0 about1 = true := code_word (m := ⟨1, 1⟩) (meth := k1m1) (c := k1c1) (by decide +kernel) rfl rfl rfl (by decide +kernel)
set_option maxRecDepth 65536 in
theorem w_c1 : (Jvm.Cond.code ({ cls := "java/lang/String", name := "valueOf", desc := "(C)Ljava/lang/String;" } : Jvm.MethodName) jdk_42_method_139_code (1 : Nat) (Option.some (Jvm.ClassFile.FieldType.object "java/lang/String"))).before args0 about1 = true := code_word (m := ⟨7, 5⟩) (meth := k7m5) (c := k7c5) (by decide +kernel) rfl rfl rfl (by decide +kernel)
set_option maxRecDepth 65536 in
theorem w_c2 : (Jvm.Cond.code ({ cls := "java/lang/StringLatin1", name := "canEncode", desc := "(C)Z" } : Jvm.MethodName) jdk_43_method_3_code (1 : Nat) (Option.some Jvm.ClassFile.FieldType.boolean)).before args0 about1 = true := code_word (m := ⟨8, 2⟩) (meth := k8m2) (c := k8c2) (by decide +kernel) rfl rfl rfl (by decide +kernel)
set_option maxRecDepth 65536 in
theorem w_c3 : (Jvm.Cond.code ({ cls := "java/lang/StringLatin1", name := "toBytes", desc := "(C)[B" } : Jvm.MethodName) jdk_43_method_46_code (1 : Nat) (Option.some (Jvm.ClassFile.FieldType.array Jvm.ClassFile.FieldType.byte))).before args0 about1 = true := code_word (m := ⟨8, 3⟩) (meth := k8m3) (c := k8c3) (by decide +kernel) rfl rfl rfl (by decide +kernel)
set_option maxRecDepth 65536 in
theorem w_c4 : (Jvm.Cond.code ({ cls := "java/lang/String", name := "<init>", desc := "([BB)V" } : Jvm.MethodName) jdk_42_method_151_code (3 : Nat) (Option.none : Option Jvm.ClassFile.FieldType)).before args0 about1 = true := code_word (m := ⟨7, 10⟩) (meth := k7m10) (c := k7c10) (by decide +kernel) rfl rfl rfl (by decide +kernel)
set_option maxRecDepth 65536 in
theorem w_c5 : (Jvm.Cond.code ({ cls := "java/lang/Object", name := "<init>", desc := "()V" } : Jvm.MethodName) object_method_1_code (1 : Nat) (Option.none : Option Jvm.ClassFile.FieldType)).before args0 about1 = true := code_word (m := ⟨0, 0⟩) (meth := k0m0) (c := k0c0) (by decide +kernel) rfl rfl rfl (by decide +kernel)
set_option maxRecDepth 65536 in
theorem w_c6 : (Jvm.Cond.code ({ cls := "com/example/typewire/typewire/codegen/JavaFile", name := "<init>", desc := "(Ljava/lang/String;)V" } : Jvm.MethodName) prog_4_method_1_code (2 : Nat) (Option.none : Option Jvm.ClassFile.FieldType)).before args0 about1 = true := code_word (m := ⟨9, 0⟩) (meth := k9m0) (c := k9c0) (by decide +kernel) rfl rfl rfl (by decide +kernel)
set_option maxRecDepth 65536 in
theorem w_c7 : (Jvm.Cond.code ({ cls := "java/util/TreeSet", name := "<init>", desc := "()V" } : Jvm.MethodName) jdk_2756_method_2_code (1 : Nat) (Option.none : Option Jvm.ClassFile.FieldType)).before args0 about1 = true := code_word (m := ⟨20, 1⟩) (meth := k20m1) (c := k20c1) (by decide +kernel) rfl rfl rfl (by decide +kernel)
set_option maxRecDepth 65536 in
theorem w_c8 : (Jvm.Cond.code ({ cls := "java/util/TreeMap", name := "<init>", desc := "()V" } : Jvm.MethodName) jdk_2729_method_1_code (1 : Nat) (Option.none : Option Jvm.ClassFile.FieldType)).before args0 about1 = true := code_word (m := ⟨26, 0⟩) (meth := k26m0) (c := k26c0) (by decide +kernel) rfl rfl rfl (by decide +kernel)
set_option maxRecDepth 65536 in
theorem w_c9 : (Jvm.Cond.code ({ cls := "java/util/AbstractMap", name := "<init>", desc := "()V" } : Jvm.MethodName) jdk_71_method_1_code (1 : Nat) (Option.none : Option Jvm.ClassFile.FieldType)).before args0 about1 = true := code_word (m := ⟨22, 0⟩) (meth := k22m0) (c := k22c0) (by decide +kernel) rfl rfl rfl (by decide +kernel)
set_option maxRecDepth 65536 in
theorem w_c10 : (Jvm.Cond.code ({ cls := "java/util/TreeSet", name := "<init>", desc := "(Ljava/util/NavigableMap;)V" } : Jvm.MethodName) jdk_2756_method_1_code (2 : Nat) (Option.none : Option Jvm.ClassFile.FieldType)).before args0 about1 = true := code_word (m := ⟨20, 0⟩) (meth := k20m0) (c := k20c0) (by decide +kernel) rfl rfl rfl (by decide +kernel)
set_option maxRecDepth 65536 in
theorem w_c11 : (Jvm.Cond.code ({ cls := "java/util/AbstractSet", name := "<init>", desc := "()V" } : Jvm.MethodName) jdk_91_method_1_code (1 : Nat) (Option.none : Option Jvm.ClassFile.FieldType)).before args0 about1 = true := code_word (m := ⟨14, 0⟩) (meth := k14m0) (c := k14c0) (by decide +kernel) rfl rfl rfl (by decide +kernel)
set_option maxRecDepth 65536 in
theorem w_c12 : (Jvm.Cond.code ({ cls := "java/util/AbstractCollection", name := "<init>", desc := "()V" } : Jvm.MethodName) jdk_22_method_1_code (1 : Nat) (Option.none : Option Jvm.ClassFile.FieldType)).before args0 about1 = true := code_word (m := ⟨12, 0⟩) (meth := k12m0) (c := k12c0) (by decide +kernel) rfl rfl rfl (by decide +kernel)
set_option maxRecDepth 65536 in
theorem w_c13 : (Jvm.Cond.code ({ cls := "java/util/ArrayList", name := "<init>", desc := "()V" } : Jvm.MethodName) jdk_38_method_2_code (1 : Nat) (Option.none : Option Jvm.ClassFile.FieldType)).before args0 about1 = true := code_word (m := ⟨30, 0⟩) (meth := k30m0) (c := k30c0) (by decide +kernel) rfl rfl rfl (by decide +kernel)
set_option maxRecDepth 65536 in
theorem w_c14 : (Jvm.Cond.code ({ cls := "java/util/AbstractList", name := "<init>", desc := "()V" } : Jvm.MethodName) jdk_39_method_1_code (1 : Nat) (Option.none : Option Jvm.ClassFile.FieldType)).before args0 about1 = true := code_word (m := ⟨28, 0⟩) (meth := k28m0) (c := k28c0) (by decide +kernel) rfl rfl rfl (by decide +kernel)
set_option maxRecDepth 65536 in
theorem w_c15 : (Jvm.Cond.code ({ cls := "com/example/typewire/typewire/codegen/JavaFile", name := "line", desc := "(Ljava/lang/String;)Lcom/example/typewire/typewire/codegen/JavaFile;" } : Jvm.MethodName) prog_4_method_4_code (2 : Nat) (Option.some (Jvm.ClassFile.FieldType.object "com/example/typewire/typewire/codegen/JavaFile"))).before args0 about1 = true := code_word (m := ⟨9, 1⟩) (meth := k9m1) (c := k9c1) (by decide +kernel) rfl rfl rfl (by decide +kernel)
set_option maxRecDepth 65536 in
theorem w_c16 : (Jvm.Cond.code ({ cls := "java/lang/String", name := "isEmpty", desc := "()Z" } : Jvm.MethodName) jdk_42_method_55_code (1 : Nat) (Option.some Jvm.ClassFile.FieldType.boolean)).before args0 about1 = true := code_word (m := ⟨7, 3⟩) (meth := k7m3) (c := k7c3) (by decide +kernel) rfl rfl rfl (by decide +kernel)
set_option maxRecDepth 65536 in
theorem w_c17 : (Jvm.Cond.code ({ cls := "java/lang/StringBuilder", name := "<init>", desc := "()V" } : Jvm.MethodName) jdk_67_method_1_code (1 : Nat) (Option.none : Option Jvm.ClassFile.FieldType)).before args0 about1 = true := code_word (m := ⟨33, 0⟩) (meth := k33m0) (c := k33c0) (by decide +kernel) rfl rfl rfl (by decide +kernel)
set_option maxRecDepth 65536 in
theorem w_c18 : (Jvm.Cond.code ({ cls := "java/lang/AbstractStringBuilder", name := "<init>", desc := "(I)V" } : Jvm.MethodName) jdk_68_method_2_code (2 : Nat) (Option.none : Option Jvm.ClassFile.FieldType)).before args0 about1 = true := code_word (m := ⟨32, 1⟩) (meth := k32m1) (c := k32c1) (by decide +kernel) rfl rfl rfl (by decide +kernel)
set_option maxRecDepth 65536 in
theorem w_c19 : (Jvm.Cond.code ({ cls := "java/lang/String", name := "repeat", desc := "(I)Ljava/lang/String;" } : Jvm.MethodName) jdk_42_method_145_code (5 : Nat) (Option.some (Jvm.ClassFile.FieldType.object "java/lang/String"))).before args0 about1 = true := code_word (m := ⟨7, 6⟩) (meth := k7m6) (c := k7c6) (by decide +kernel) rfl rfl rfl (by decide +kernel)
set_option maxRecDepth 65536 in
theorem w_c20 : (Jvm.Cond.code ({ cls := "java/lang/StringBuilder", name := "append", desc := "(Ljava/lang/String;)Ljava/lang/StringBuilder;" } : Jvm.MethodName) jdk_67_method_7_code (2 : Nat) (Option.some (Jvm.ClassFile.FieldType.object "java/lang/StringBuilder"))).before args0 about1 = true := code_word (m := ⟨33, 1⟩) (meth := k33m1) (c := k33c1) (by decide +kernel) rfl rfl rfl (by decide +kernel)
set_option maxRecDepth 65536 in
theorem w_c21 : (Jvm.Cond.code ({ cls := "java/lang/AbstractStringBuilder", name := "append", desc := "(Ljava/lang/String;)Ljava/lang/AbstractStringBuilder;" } : Jvm.MethodName) jdk_68_method_22_code (3 : Nat) (Option.some (Jvm.ClassFile.FieldType.object "java/lang/AbstractStringBuilder"))).before args0 about1 = true := code_word (m := ⟨32, 5⟩) (meth := k32m5) (c := k32c5) (by decide +kernel) rfl rfl rfl (by decide +kernel)
set_option maxRecDepth 65536 in
theorem w_c22 : (Jvm.Cond.code ({ cls := "java/lang/String", name := "length", desc := "()I" } : Jvm.MethodName) jdk_42_method_54_code (1 : Nat) (Option.some Jvm.ClassFile.FieldType.int)).before args0 about1 = true := code_word (m := ⟨7, 2⟩) (meth := k7m2) (c := k7c2) (by decide +kernel) rfl rfl rfl (by decide +kernel)
set_option maxRecDepth 65536 in
theorem w_c23 : (Jvm.Cond.code ({ cls := "java/lang/String", name := "coder", desc := "()B" } : Jvm.MethodName) jdk_42_method_152_code (1 : Nat) (Option.some Jvm.ClassFile.FieldType.byte)).before args0 about1 = true := code_word (m := ⟨7, 11⟩) (meth := k7m11) (c := k7c11) (by decide +kernel) rfl rfl rfl (by decide +kernel)
set_option maxRecDepth 65536 in
theorem w_c24 : (Jvm.Cond.code ({ cls := "java/lang/AbstractStringBuilder", name := "ensureCapacityInternal", desc := "(I)V" } : Jvm.MethodName) jdk_68_method_9_code (3 : Nat) (Option.none : Option Jvm.ClassFile.FieldType)).before args0 about1 = true := code_word (m := ⟨32, 3⟩) (meth := k32m3) (c := k32c3) (by decide +kernel) rfl rfl rfl (by decide +kernel)
set_option maxRecDepth 65536 in
theorem w_c25 : (Jvm.Cond.code ({ cls := "java/lang/AbstractStringBuilder", name := "putStringAt", desc := "(ILjava/lang/String;)V" } : Jvm.MethodName) jdk_68_method_73_code (3 : Nat) (Option.none : Option Jvm.ClassFile.FieldType)).before args0 about1 = true := code_word (m := ⟨32, 10⟩) (meth := k32m10) (c := k32c10) (by decide +kernel) rfl rfl rfl (by decide +kernel)
set_option maxRecDepth 65536 in
theorem w_c26 : (Jvm.Cond.code ({ cls := "java/lang/AbstractStringBuilder", name := "inflateIfNeededFor", desc := "(Ljava/lang/String;)V" } : Jvm.MethodName) jdk_68_method_71_code (2 : Nat) (Option.none : Option Jvm.ClassFile.FieldType)).before args0 about1 = true := code_word (m := ⟨32, 9⟩) (meth := k32m9) (c := k32c9) (by decide +kernel) rfl rfl rfl (by decide +kernel)
set_option maxRecDepth 65536 in
theorem w_c27 : (Jvm.Cond.code ({ cls := "java/lang/String", name := "getBytes", desc := "([BIB)V" } : Jvm.MethodName) jdk_42_method_147_code (4 : Nat) (Option.none : Option Jvm.ClassFile.FieldType)).before args0 about1 = true := code_word (m := ⟨7, 8⟩) (meth := k7m8) (c := k7c8) (by decide +kernel) rfl rfl rfl (by decide +kernel)
set_option maxRecDepth 65536 in
theorem w_c28 : (Jvm.Cond.code ({ cls := "java/lang/StringBuilder", name := "toString", desc := "()Ljava/lang/String;" } : Jvm.MethodName) jdk_67_method_42_code (1 : Nat) (Option.some (Jvm.ClassFile.FieldType.object "java/lang/String"))).before args0 about1 = true := code_word (m := ⟨33, 3⟩) (meth := k33m3) (c := k33c3) (by decide +kernel) rfl rfl rfl (by decide +kernel)
set_option maxRecDepth 65536 in
theorem w_c29 : (Jvm.Cond.code ({ cls := "java/lang/String", name := "<init>", desc := "(Ljava/lang/StringBuilder;)V" } : Jvm.MethodName) jdk_42_method_53_code (2 : Nat) (Option.none : Option Jvm.ClassFile.FieldType)).before args0 about1 = true := code_word (m := ⟨7, 1⟩) (meth := k7m1) (c := k7c1) (by decide +kernel) rfl rfl rfl (by decide +kernel)
set_option maxRecDepth 65536 in
theorem w_c30 : (Jvm.Cond.code ({ cls := "java/lang/String", name := "<init>", desc := "(Ljava/lang/AbstractStringBuilder;Ljava/lang/Void;)V" } : Jvm.MethodName) jdk_42_method_150_code (5 : Nat) (Option.none : Option Jvm.ClassFile.FieldType)).before args0 about1 = true := code_word (m := ⟨7, 9⟩) (meth := k7m9) (c := k7c9) (by decide +kernel) rfl rfl rfl (by decide +kernel)
set_option maxRecDepth 65536 in
theorem w_c31 : (Jvm.Cond.code ({ cls := "java/lang/AbstractStringBuilder", name := "getValue", desc := "()[B" } : Jvm.MethodName) jdk_68_method_64_code (1 : Nat) (Option.some (Jvm.ClassFile.FieldType.array Jvm.ClassFile.FieldType.byte))).before args0 about1 = true := code_word (m := ⟨32, 7⟩) (meth := k32m7) (c := k32c7) (by decide +kernel) rfl rfl rfl (by decide +kernel)
set_option maxRecDepth 65536 in
theorem w_c32 : (Jvm.Cond.code ({ cls := "java/lang/StringBuilder", name := "length", desc := "()I" } : Jvm.MethodName) jdk_67_method_93_code (1 : Nat) (Option.some Jvm.ClassFile.FieldType.int)).before args0 about1 = true := code_word (m := ⟨33, 4⟩) (meth := k33m4) (c := k33c4) (by decide +kernel) rfl rfl rfl (by decide +kernel)
set_option maxRecDepth 65536 in
theorem w_c33 : (Jvm.Cond.code ({ cls := "java/lang/AbstractStringBuilder", name := "length", desc := "()I" } : Jvm.MethodName) jdk_68_method_6_code (1 : Nat) (Option.some Jvm.ClassFile.FieldType.int)).before args0 about1 = true := code_word (m := ⟨32, 2⟩) (meth := k32m2) (c := k32c2) (by decide +kernel) rfl rfl rfl (by decide +kernel)
set_option maxRecDepth 65536 in
theorem w_c34 : (Jvm.Cond.code ({ cls := "java/lang/AbstractStringBuilder", name := "isLatin1", desc := "()Z" } : Jvm.MethodName) jdk_68_method_68_code (1 : Nat) (Option.some Jvm.ClassFile.FieldType.boolean)).before args0 about1 = true := code_word (m := ⟨32, 8⟩) (meth := k32m8) (c := k32c8) (by decide +kernel) rfl rfl rfl (by decide +kernel)
set_option maxRecDepth 65536 in
theorem w_c35 : (Jvm.Cond.code ({ cls := "java/util/Arrays", name := "copyOfRange", desc := "([BII)[B" } : Jvm.MethodName) jdk_65_method_132_code (3 : Nat) (Option.some (Jvm.ClassFile.FieldType.array Jvm.ClassFile.FieldType.byte))).before args0 about1 = true := code_word (m := ⟨35, 3⟩) (meth := k35m3) (c := k35c3) (by decide +kernel) rfl rfl rfl (by decide +kernel)
set_option maxRecDepth 65536 in
theorem w_c36 : (Jvm.Cond.code ({ cls := "java/util/Arrays", name := "copyOfRangeByte", desc := "([BII)[B" } : Jvm.MethodName) jdk_65_method_133_code (5 : Nat) (Option.some (Jvm.ClassFile.FieldType.array Jvm.ClassFile.FieldType.byte))).before args0 about1 = true := code_word (m := ⟨35, 4⟩) (meth := k35m4) (c := k35c4) (by decide +kernel) rfl rfl rfl (by decide +kernel)
set_option maxRecDepth 65536 in
theorem w_c37 : (Jvm.Cond.code ({ cls := "java/util/Arrays", name := "checkLength", desc := "(II)V" } : Jvm.MethodName) jdk_65_method_131_code (2 : Nat) (Option.none : Option Jvm.ClassFile.FieldType)).before args0 about1 = true := code_word (m := ⟨35, 2⟩) (meth := k35m2) (c := k35c2) (by decide +kernel) rfl rfl rfl (by decide +kernel)
set_option maxRecDepth 65536 in
theorem w_c38 : (Jvm.Cond.code ({ cls := "java/lang/Math", name := "min", desc := "(II)I" } : Jvm.MethodName) jdk_29_method_69_code (2 : Nat) (Option.some Jvm.ClassFile.FieldType.int)).before args0 about1 = true := code_word (m := ⟨36, 2⟩) (meth := k36m2) (c := k36c2) (by decide +kernel) rfl rfl rfl (by decide +kernel)
set_option maxRecDepth 65536 in
theorem w_c39 : (Jvm.Cond.code ({ cls := "java/util/ArrayList", name := "add", desc := "(Ljava/lang/Object;)Z" } : Jvm.MethodName) jdk_38_method_25_code (2 : Nat) (Option.some Jvm.ClassFile.FieldType.boolean)).before args0 about1 = true := code_word (m := ⟨30, 4⟩) (meth := k30m4) (c := k30c4) (by decide +kernel) rfl rfl rfl (by decide +kernel)
set_option maxRecDepth 65536 in
theorem w_c40 : (Jvm.Cond.code ({ cls := "java/util/ArrayList", name := "add", desc := "(Ljava/lang/Object;[Ljava/lang/Object;I)V" } : Jvm.MethodName) jdk_38_method_24_code (4 : Nat) (Option.none : Option Jvm.ClassFile.FieldType)).before args0 about1 = true := code_word (m := ⟨30, 3⟩) (meth := k30m3) (c := k30c3) (by decide +kernel) rfl rfl rfl (by decide +kernel)
set_option maxRecDepth 65536 in
theorem w_c41 : (Jvm.Cond.code ({ cls := "java/util/ArrayList", name := "grow", desc := "()[Ljava/lang/Object;" } : Jvm.MethodName) jdk_38_method_7_code (1 : Nat) (Option.some (Jvm.ClassFile.FieldType.array (Jvm.ClassFile.FieldType.object "java/lang/Object")))).before args0 about1 = true := code_word (m := ⟨30, 2⟩) (meth := k30m2) (c := k30c2) (by decide +kernel) rfl rfl rfl (by decide +kernel)
set_option maxRecDepth 65536 in
theorem w_c42 : (Jvm.Cond.code ({ cls := "java/util/ArrayList", name := "grow", desc := "(I)[Ljava/lang/Object;" } : Jvm.MethodName) jdk_38_method_6_code (4 : Nat) (Option.some (Jvm.ClassFile.FieldType.array (Jvm.ClassFile.FieldType.object "java/lang/Object")))).before args0 about1 = true := code_word (m := ⟨30, 1⟩) (meth := k30m1) (c := k30c1) (by decide +kernel) rfl rfl rfl (by decide +kernel)
set_option maxRecDepth 65536 in
theorem w_c43 : (Jvm.Cond.code ({ cls := "java/lang/Math", name := "max", desc := "(II)I" } : Jvm.MethodName) jdk_29_method_65_code (2 : Nat) (Option.some Jvm.ClassFile.FieldType.int)).before args0 about1 = true := code_word (m := ⟨36, 1⟩) (meth := k36m1) (c := k36c1) (by decide +kernel) rfl rfl rfl (by decide +kernel)
set_option maxRecDepth 65536 in
theorem w_c44 : (Jvm.Cond.code ({ cls := "com/example/typewire/typewire/codegen/JavaFile", name := "text", desc := "(Ljava/lang/String;Ljava/lang/String;)Ljava/lang/String;" } : Jvm.MethodName) prog_4_method_13_code (6 : Nat) (Option.some (Jvm.ClassFile.FieldType.object "java/lang/String"))).before args0 about1 = true := code_word (m := ⟨9, 3⟩) (meth := k9m3) (c := k9c3) (by decide +kernel) rfl rfl rfl (by decide +kernel)
set_option maxRecDepth 65536 in
theorem w_c45 : (Jvm.Cond.code ({ cls := "java/lang/AbstractStringBuilder", name := "newCapacity", desc := "(I)I" } : Jvm.MethodName) jdk_68_method_10_code (6 : Nat) (Option.some Jvm.ClassFile.FieldType.int)).before args0 about1 = true := code_word (m := ⟨32, 4⟩) (meth := k32m4) (c := k32c4) (by decide +kernel) rfl rfl rfl (by decide +kernel)
set_option maxRecDepth 65536 in
theorem w_c46 : (Jvm.Cond.code ({ cls := "jdk/internal/util/ArraysSupport", name := "newLength", desc := "(III)I" } : Jvm.MethodName) jdk_48_method_27_code (4 : Nat) (Option.some Jvm.ClassFile.FieldType.int)).before args0 about1 = true := code_word (m := ⟨37, 1⟩) (meth := k37m1) (c := k37c1) (by decide +kernel) rfl rfl rfl (by decide +kernel)
set_option maxRecDepth 65536 in
theorem w_c47 : (Jvm.Cond.code ({ cls := "java/util/Arrays", name := "copyOf", desc := "([BI)[B" } : Jvm.MethodName) jdk_65_method_121_code (3 : Nat) (Option.some (Jvm.ClassFile.FieldType.array Jvm.ClassFile.FieldType.byte))).before args0 about1 = true := code_word (m := ⟨35, 1⟩) (meth := k35m1) (c := k35c1) (by decide +kernel) rfl rfl rfl (by decide +kernel)
set_option maxRecDepth 65536 in
theorem w_c48 : (Jvm.Cond.code ({ cls := "com/example/typewire/typewire/codegen/JavaFile", name := "appendImports", desc := "(Ljava/lang/StringBuilder;Ljava/util/TreeSet;)V" } : Jvm.MethodName) prog_4_method_14_code (4 : Nat) (Option.none : Option Jvm.ClassFile.FieldType)).before args0 about1 = true := code_word (m := ⟨9, 4⟩) (meth := k9m4) (c := k9c4) (by decide +kernel) rfl rfl rfl (by decide +kernel)
set_option maxRecDepth 65536 in
theorem w_c49 : (Jvm.Cond.code ({ cls := "java/util/TreeSet", name := "iterator", desc := "()Ljava/util/Iterator;" } : Jvm.MethodName) jdk_2756_method_6_code (1 : Nat) (Option.some (Jvm.ClassFile.FieldType.object "java/util/Iterator"))).before args0 about1 = true := code_word (m := ⟨20, 2⟩) (meth := k20m2) (c := k20c2) (by decide +kernel) rfl rfl rfl (by decide +kernel)
set_option maxRecDepth 65536 in
theorem w_c50 : (Jvm.Cond.code ({ cls := "java/util/TreeMap", name := "navigableKeySet", desc := "()Ljava/util/NavigableSet;" } : Jvm.MethodName) jdk_2729_method_50_code (2 : Nat) (Option.some (Jvm.ClassFile.FieldType.object "java/util/NavigableSet"))).before args0 about1 = true := code_word (m := ⟨26, 2⟩) (meth := k26m2) (c := k26c2) (by decide +kernel) rfl rfl rfl (by decide +kernel)
set_option maxRecDepth 65536 in
theorem w_c51 : (Jvm.Cond.code ({ cls := "java/util/TreeMap$KeySet", name := "<init>", desc := "(Ljava/util/NavigableMap;)V" } : Jvm.MethodName) jdk_2741_method_1_code (2 : Nat) (Option.none : Option Jvm.ClassFile.FieldType)).before args0 about1 = true := code_word (m := ⟨38, 0⟩) (meth := k38m0) (c := k38c0) (by decide +kernel) rfl rfl rfl (by decide +kernel)
set_option maxRecDepth 65536 in
theorem w_c52 : (Jvm.Cond.code ({ cls := "java/util/TreeMap$KeySet", name := "iterator", desc := "()Ljava/util/Iterator;" } : Jvm.MethodName) jdk_2741_method_2_code (1 : Nat) (Option.some (Jvm.ClassFile.FieldType.object "java/util/Iterator"))).before args0 about1 = true := code_word (m := ⟨38, 1⟩) (meth := k38m1) (c := k38c1) (by decide +kernel) rfl rfl rfl (by decide +kernel)
set_option maxRecDepth 65536 in
theorem w_c53 : (Jvm.Cond.code ({ cls := "java/util/TreeMap", name := "keyIterator", desc := "()Ljava/util/Iterator;" } : Jvm.MethodName) jdk_2729_method_65_code (1 : Nat) (Option.some (Jvm.ClassFile.FieldType.object "java/util/Iterator"))).before args0 about1 = true := code_word (m := ⟨26, 3⟩) (meth := k26m3) (c := k26c3) (by decide +kernel) rfl rfl rfl (by decide +kernel)
set_option maxRecDepth 65536 in
theorem w_c54 : (Jvm.Cond.code ({ cls := "java/util/TreeMap", name := "getFirstEntry", desc := "()Ljava/util/TreeMap$Entry;" } : Jvm.MethodName) jdk_2729_method_72_code (2 : Nat) (Option.some (Jvm.ClassFile.FieldType.object "java/util/TreeMap$Entry"))).before args0 about1 = true := code_word (m := ⟨26, 4⟩) (meth := k26m4) (c := k26c4) (by decide +kernel) rfl rfl rfl (by decide +kernel)
set_option maxRecDepth 65536 in
theorem w_c55 : (Jvm.Cond.code ({ cls := "java/util/TreeMap$KeyIterator", name := "<init>", desc := "(Ljava/util/TreeMap;Ljava/util/TreeMap$Entry;)V" } : Jvm.MethodName) jdk_2740_method_1_code (3 : Nat) (Option.none : Option Jvm.ClassFile.FieldType)).before args0 about1 = true := code_word (m := ⟨41, 0⟩) (meth := k41m0) (c := k41c0) (by decide +kernel) rfl rfl rfl (by decide +kernel)
set_option maxRecDepth 65536 in
theorem w_c56 : (Jvm.Cond.code ({ cls := "java/util/TreeMap$PrivateEntryIterator", name := "<init>", desc := "(Ljava/util/TreeMap;Ljava/util/TreeMap$Entry;)V" } : Jvm.MethodName) jdk_2750_method_1_code (3 : Nat) (Option.none : Option Jvm.ClassFile.FieldType)).before args0 about1 = true := code_word (m := ⟨40, 0⟩) (meth := k40m0) (c := k40c0) (by decide +kernel) rfl rfl rfl (by decide +kernel)
set_option maxRecDepth 65536 in
theorem w_c57 : (Jvm.Cond.code ({ cls := "java/util/TreeMap$PrivateEntryIterator", name := "hasNext", desc := "()Z" } : Jvm.MethodName) jdk_2750_method_2_code (1 : Nat) (Option.some Jvm.ClassFile.FieldType.boolean)).before args0 about1 = true := code_word (m := ⟨40, 1⟩) (meth := k40m1) (c := k40c1) (by decide +kernel) rfl rfl rfl (by decide +kernel)
set_option maxRecDepth 65536 in
theorem w_c58 : (Jvm.Cond.code ({ cls := "java/util/TreeSet", name := "isEmpty", desc := "()Z" } : Jvm.MethodName) jdk_2756_method_10_code (1 : Nat) (Option.some Jvm.ClassFile.FieldType.boolean)).before args0 about1 = true := code_word (m := ⟨20, 3⟩) (meth := k20m3) (c := k20c3) (by decide +kernel) rfl rfl rfl (by decide +kernel)
set_option maxRecDepth 65536 in
theorem w_c59 : (Jvm.Cond.code ({ cls := "java/util/AbstractMap", name := "isEmpty", desc := "()Z" } : Jvm.MethodName) jdk_71_method_3_code (1 : Nat) (Option.some Jvm.ClassFile.FieldType.boolean)).before args0 about1 = true := code_word (m := ⟨22, 2⟩) (meth := k22m2) (c := k22c2) (by decide +kernel) rfl rfl rfl (by decide +kernel)
set_option maxRecDepth 65536 in
theorem w_c60 : (Jvm.Cond.code ({ cls := "java/util/TreeMap", name := "size", desc := "()I" } : Jvm.MethodName) jdk_2729_method_5_code (1 : Nat) (Option.some Jvm.ClassFile.FieldType.int)).before args0 about1 = true := code_word (m := ⟨26, 1⟩) (meth := k26m1) (c := k26c1) (by decide +kernel) rfl rfl rfl (by decide +kernel)
set_option maxRecDepth 65536 in
theorem w_c61 : (Jvm.Cond.code ({ cls := "java/util/ArrayList", name := "iterator", desc := "()Ljava/util/Iterator;" } : Jvm.MethodName) jdk_38_method_55_code (1 : Nat) (Option.some (Jvm.ClassFile.FieldType.object "java/util/Iterator"))).before args0 about1 = true := code_word (m := ⟨30, 5⟩) (meth := k30m5) (c := k30c5) (by decide +kernel) rfl rfl rfl (by decide +kernel)
set_option maxRecDepth 65536 in
theorem w_c62 : (Jvm.Cond.code ({ cls := "java/util/ArrayList$Itr", name := "<init>", desc := "(Ljava/util/ArrayList;)V" } : Jvm.MethodName) jdk_49_method_1_code (2 : Nat) (Option.none : Option Jvm.ClassFile.FieldType)).before args0 about1 = true := code_word (m := ⟨42, 0⟩) (meth := k42m0) (c := k42c0) (by decide +kernel) rfl rfl rfl (by decide +kernel)
set_option maxRecDepth 65536 in
theorem w_c63 : (Jvm.Cond.code ({ cls := "java/util/ArrayList$Itr", name := "hasNext", desc := "()Z" } : Jvm.MethodName) jdk_49_method_2_code (1 : Nat) (Option.some Jvm.ClassFile.FieldType.boolean)).before args0 about1 = true := code_word (m := ⟨42, 1⟩) (meth := k42m1) (c := k42c1) (by decide +kernel) rfl rfl rfl (by decide +kernel)
set_option maxRecDepth 65536 in
theorem w_c64 : (Jvm.Cond.code ({ cls := "java/util/ArrayList$Itr", name := "next", desc := "()Ljava/lang/Object;" } : Jvm.MethodName) jdk_49_method_3_code (3 : Nat) (Option.some (Jvm.ClassFile.FieldType.object "java/lang/Object"))).before args0 about1 = true := code_word (m := ⟨42, 2⟩) (meth := k42m2) (c := k42c2) (by decide +kernel) rfl rfl rfl (by decide +kernel)
set_option maxRecDepth 65536 in
theorem w_c65 : (Jvm.Cond.code ({ cls := "java/util/ArrayList$Itr", name := "checkForComodification", desc := "()V" } : Jvm.MethodName) jdk_49_method_6_code (1 : Nat) (Option.none : Option Jvm.ClassFile.FieldType)).before args0 about1 = true := code_word (m := ⟨42, 3⟩) (meth := k42m3) (c := k42c3) (by decide +kernel) rfl rfl rfl (by decide +kernel)
set_option maxRecDepth 65536 in
theorem w_c66 : (Jvm.Cond.code ({ cls := "java/lang/StringBuilder", name := "append", desc := "(C)Ljava/lang/StringBuilder;" } : Jvm.MethodName) jdk_67_method_14_code (2 : Nat) (Option.some (Jvm.ClassFile.FieldType.object "java/lang/StringBuilder"))).before args0 about1 = true := code_word (m := ⟨33, 2⟩) (meth := k33m2) (c := k33c2) (by decide +kernel) rfl rfl rfl (by decide +kernel)
set_option maxRecDepth 65536 in
theorem w_c67 : (Jvm.Cond.code ({ cls := "java/lang/AbstractStringBuilder", name := "append", desc := "(C)Ljava/lang/AbstractStringBuilder;" } : Jvm.MethodName) jdk_68_method_31_code (2 : Nat) (Option.some (Jvm.ClassFile.FieldType.object "java/lang/AbstractStringBuilder"))).before args0 about1 = true := code_word (m := ⟨32, 6⟩) (meth := k32m6) (c := k32c6) (by decide +kernel) rfl rfl rfl (by decide +kernel)
set_option maxRecDepth 65536 in
theorem w_c68 : (Jvm.Cond.code ({ cls := "com/example/typewire/typewire/codegen/JavaFile", name := "indent", desc := "()Lcom/example/typewire/typewire/codegen/JavaFile;" } : Jvm.MethodName) prog_4_method_10_code (1 : Nat) (Option.some (Jvm.ClassFile.FieldType.object "com/example/typewire/typewire/codegen/JavaFile"))).before args0 about1 = true := code_word (m := ⟨9, 2⟩) (meth := k9m2) (c := k9c2) (by decide +kernel) rfl rfl rfl (by decide +kernel)
set_option maxRecDepth 65536 in
theorem w_c69 : (Jvm.Cond.code ({ cls := "java/lang/String", name := "repeatCopyRest", desc := "([BIII)V" } : Jvm.MethodName) jdk_42_method_146_code (4 : Nat) (Option.none : Option Jvm.ClassFile.FieldType)).before args0 about1 = true := code_word (m := ⟨7, 7⟩) (meth := k7m7) (c := k7c7) (by decide +kernel) rfl rfl rfl (by decide +kernel)
set_option maxRecDepth 65536 in
theorem w_c70 : (Jvm.Cond.code ({ cls := "java/lang/String", name := "charAt", desc := "(I)C" } : Jvm.MethodName) jdk_42_method_56_code (2 : Nat) (Option.some Jvm.ClassFile.FieldType.char)).before args0 about1 = true := code_word (m := ⟨7, 4⟩) (meth := k7m4) (c := k7c4) (by decide +kernel) rfl rfl rfl (by decide +kernel)
set_option maxRecDepth 65536 in
theorem w_c71 : (Jvm.Cond.code ({ cls := "java/lang/String", name := "isLatin1", desc := "()Z" } : Jvm.MethodName) jdk_42_method_154_code (1 : Nat) (Option.some Jvm.ClassFile.FieldType.boolean)).before args0 about1 = true := code_word (m := ⟨7, 12⟩) (meth := k7m12) (c := k7c12) (by decide +kernel) rfl rfl rfl (by decide +kernel)
set_option maxRecDepth 65536 in
theorem w_c72 : (Jvm.Cond.code ({ cls := "java/lang/StringLatin1", name := "charAt", desc := "([BI)C" } : Jvm.MethodName) jdk_43_method_2_code (2 : Nat) (Option.some Jvm.ClassFile.FieldType.char)).before args0 about1 = true := code_word (m := ⟨8, 1⟩) (meth := k8m1) (c := k8c1) (by decide +kernel) rfl rfl rfl (by decide +kernel)
set_option maxRecDepth 65536 in
theorem w_c73 : (Jvm.Cond.code ({ cls := "java/lang/String", name := "checkIndex", desc := "(II)V" } : Jvm.MethodName) jdk_42_method_155_code (2 : Nat) (Option.none : Option Jvm.ClassFile.FieldType)).before args0 about1 = true := code_word (m := ⟨7, 13⟩) (meth := k7m13) (c := k7c13) (by decide +kernel) rfl rfl rfl (by decide +kernel)
set_option maxRecDepth 65536 in
theorem w_c74 : (Jvm.Cond.code ({ cls := "jdk/internal/util/Preconditions", name := "checkIndex", desc := "(IILjava/util/function/BiFunction;)I" } : Jvm.MethodName) jdk_41_method_11_code (3 : Nat) (Option.some Jvm.ClassFile.FieldType.int)).before args0 about1 = true := code_word (m := ⟨43, 1⟩) (meth := k43m1) (c := k43c1) (by decide +kernel) rfl rfl rfl (by decide +kernel)
set_option maxRecDepth 65536 in
theorem w_c75 : (Jvm.Cond.code ({ cls := "com/example/typewire/typewire/codegen/JavaFileIndentPinLaw", name := "sp", desc := "(Ljava/lang/String;III)Z" } : Jvm.MethodName) method_3_code (4 : Nat) (Option.some Jvm.ClassFile.FieldType.boolean)).before args0 about1 = true := code_word (m := ⟨1, 2⟩) (meth := k1m2) (c := k1c2) (by decide +kernel) rfl rfl rfl (by decide +kernel)
def codes1 : List Jvm.Cond := [Jvm.Cond.code x code maxLocals ret, Jvm.Cond.code ({ cls := "java/lang/String", name := "valueOf", desc := "(C)Ljava/lang/String;" } : Jvm.MethodName) jdk_42_method_139_code (1 : Nat) (Option.some (Jvm.ClassFile.FieldType.object "java/lang/String")), Jvm.Cond.code ({ cls := "java/lang/StringLatin1", name := "canEncode", desc := "(C)Z" } : Jvm.MethodName) jdk_43_method_3_code (1 : Nat) (Option.some Jvm.ClassFile.FieldType.boolean), Jvm.Cond.code ({ cls := "java/lang/StringLatin1", name := "toBytes", desc := "(C)[B" } : Jvm.MethodName) jdk_43_method_46_code (1 : Nat) (Option.some (Jvm.ClassFile.FieldType.array Jvm.ClassFile.FieldType.byte)), Jvm.Cond.code ({ cls := "java/lang/String", name := "<init>", desc := "([BB)V" } : Jvm.MethodName) jdk_42_method_151_code (3 : Nat) (Option.none : Option Jvm.ClassFile.FieldType), Jvm.Cond.code ({ cls := "java/lang/Object", name := "<init>", desc := "()V" } : Jvm.MethodName) object_method_1_code (1 : Nat) (Option.none : Option Jvm.ClassFile.FieldType), Jvm.Cond.code ({ cls := "com/example/typewire/typewire/codegen/JavaFile", name := "<init>", desc := "(Ljava/lang/String;)V" } : Jvm.MethodName) prog_4_method_1_code (2 : Nat) (Option.none : Option Jvm.ClassFile.FieldType), Jvm.Cond.code ({ cls := "java/util/TreeSet", name := "<init>", desc := "()V" } : Jvm.MethodName) jdk_2756_method_2_code (1 : Nat) (Option.none : Option Jvm.ClassFile.FieldType), Jvm.Cond.code ({ cls := "java/util/TreeMap", name := "<init>", desc := "()V" } : Jvm.MethodName) jdk_2729_method_1_code (1 : Nat) (Option.none : Option Jvm.ClassFile.FieldType), Jvm.Cond.code ({ cls := "java/util/AbstractMap", name := "<init>", desc := "()V" } : Jvm.MethodName) jdk_71_method_1_code (1 : Nat) (Option.none : Option Jvm.ClassFile.FieldType), Jvm.Cond.code ({ cls := "java/util/TreeSet", name := "<init>", desc := "(Ljava/util/NavigableMap;)V" } : Jvm.MethodName) jdk_2756_method_1_code (2 : Nat) (Option.none : Option Jvm.ClassFile.FieldType), Jvm.Cond.code ({ cls := "java/util/AbstractSet", name := "<init>", desc := "()V" } : Jvm.MethodName) jdk_91_method_1_code (1 : Nat) (Option.none : Option Jvm.ClassFile.FieldType), Jvm.Cond.code ({ cls := "java/util/AbstractCollection", name := "<init>", desc := "()V" } : Jvm.MethodName) jdk_22_method_1_code (1 : Nat) (Option.none : Option Jvm.ClassFile.FieldType), Jvm.Cond.code ({ cls := "java/util/ArrayList", name := "<init>", desc := "()V" } : Jvm.MethodName) jdk_38_method_2_code (1 : Nat) (Option.none : Option Jvm.ClassFile.FieldType), Jvm.Cond.code ({ cls := "java/util/AbstractList", name := "<init>", desc := "()V" } : Jvm.MethodName) jdk_39_method_1_code (1 : Nat) (Option.none : Option Jvm.ClassFile.FieldType), Jvm.Cond.code ({ cls := "com/example/typewire/typewire/codegen/JavaFile", name := "line", desc := "(Ljava/lang/String;)Lcom/example/typewire/typewire/codegen/JavaFile;" } : Jvm.MethodName) prog_4_method_4_code (2 : Nat) (Option.some (Jvm.ClassFile.FieldType.object "com/example/typewire/typewire/codegen/JavaFile")), Jvm.Cond.code ({ cls := "java/lang/String", name := "isEmpty", desc := "()Z" } : Jvm.MethodName) jdk_42_method_55_code (1 : Nat) (Option.some Jvm.ClassFile.FieldType.boolean), Jvm.Cond.code ({ cls := "java/lang/StringBuilder", name := "<init>", desc := "()V" } : Jvm.MethodName) jdk_67_method_1_code (1 : Nat) (Option.none : Option Jvm.ClassFile.FieldType), Jvm.Cond.code ({ cls := "java/lang/AbstractStringBuilder", name := "<init>", desc := "(I)V" } : Jvm.MethodName) jdk_68_method_2_code (2 : Nat) (Option.none : Option Jvm.ClassFile.FieldType), Jvm.Cond.code ({ cls := "java/lang/String", name := "repeat", desc := "(I)Ljava/lang/String;" } : Jvm.MethodName) jdk_42_method_145_code (5 : Nat) (Option.some (Jvm.ClassFile.FieldType.object "java/lang/String")), Jvm.Cond.code ({ cls := "java/lang/StringBuilder", name := "append", desc := "(Ljava/lang/String;)Ljava/lang/StringBuilder;" } : Jvm.MethodName) jdk_67_method_7_code (2 : Nat) (Option.some (Jvm.ClassFile.FieldType.object "java/lang/StringBuilder")), Jvm.Cond.code ({ cls := "java/lang/AbstractStringBuilder", name := "append", desc := "(Ljava/lang/String;)Ljava/lang/AbstractStringBuilder;" } : Jvm.MethodName) jdk_68_method_22_code (3 : Nat) (Option.some (Jvm.ClassFile.FieldType.object "java/lang/AbstractStringBuilder")), Jvm.Cond.code ({ cls := "java/lang/String", name := "length", desc := "()I" } : Jvm.MethodName) jdk_42_method_54_code (1 : Nat) (Option.some Jvm.ClassFile.FieldType.int), Jvm.Cond.code ({ cls := "java/lang/String", name := "coder", desc := "()B" } : Jvm.MethodName) jdk_42_method_152_code (1 : Nat) (Option.some Jvm.ClassFile.FieldType.byte), Jvm.Cond.code ({ cls := "java/lang/AbstractStringBuilder", name := "ensureCapacityInternal", desc := "(I)V" } : Jvm.MethodName) jdk_68_method_9_code (3 : Nat) (Option.none : Option Jvm.ClassFile.FieldType), Jvm.Cond.code ({ cls := "java/lang/AbstractStringBuilder", name := "putStringAt", desc := "(ILjava/lang/String;)V" } : Jvm.MethodName) jdk_68_method_73_code (3 : Nat) (Option.none : Option Jvm.ClassFile.FieldType), Jvm.Cond.code ({ cls := "java/lang/AbstractStringBuilder", name := "inflateIfNeededFor", desc := "(Ljava/lang/String;)V" } : Jvm.MethodName) jdk_68_method_71_code (2 : Nat) (Option.none : Option Jvm.ClassFile.FieldType), Jvm.Cond.code ({ cls := "java/lang/String", name := "getBytes", desc := "([BIB)V" } : Jvm.MethodName) jdk_42_method_147_code (4 : Nat) (Option.none : Option Jvm.ClassFile.FieldType), Jvm.Cond.code ({ cls := "java/lang/StringBuilder", name := "toString", desc := "()Ljava/lang/String;" } : Jvm.MethodName) jdk_67_method_42_code (1 : Nat) (Option.some (Jvm.ClassFile.FieldType.object "java/lang/String")), Jvm.Cond.code ({ cls := "java/lang/String", name := "<init>", desc := "(Ljava/lang/StringBuilder;)V" } : Jvm.MethodName) jdk_42_method_53_code (2 : Nat) (Option.none : Option Jvm.ClassFile.FieldType), Jvm.Cond.code ({ cls := "java/lang/String", name := "<init>", desc := "(Ljava/lang/AbstractStringBuilder;Ljava/lang/Void;)V" } : Jvm.MethodName) jdk_42_method_150_code (5 : Nat) (Option.none : Option Jvm.ClassFile.FieldType), Jvm.Cond.code ({ cls := "java/lang/AbstractStringBuilder", name := "getValue", desc := "()[B" } : Jvm.MethodName) jdk_68_method_64_code (1 : Nat) (Option.some (Jvm.ClassFile.FieldType.array Jvm.ClassFile.FieldType.byte)), Jvm.Cond.code ({ cls := "java/lang/StringBuilder", name := "length", desc := "()I" } : Jvm.MethodName) jdk_67_method_93_code (1 : Nat) (Option.some Jvm.ClassFile.FieldType.int), Jvm.Cond.code ({ cls := "java/lang/AbstractStringBuilder", name := "length", desc := "()I" } : Jvm.MethodName) jdk_68_method_6_code (1 : Nat) (Option.some Jvm.ClassFile.FieldType.int), Jvm.Cond.code ({ cls := "java/lang/AbstractStringBuilder", name := "isLatin1", desc := "()Z" } : Jvm.MethodName) jdk_68_method_68_code (1 : Nat) (Option.some Jvm.ClassFile.FieldType.boolean), Jvm.Cond.code ({ cls := "java/util/Arrays", name := "copyOfRange", desc := "([BII)[B" } : Jvm.MethodName) jdk_65_method_132_code (3 : Nat) (Option.some (Jvm.ClassFile.FieldType.array Jvm.ClassFile.FieldType.byte)), Jvm.Cond.code ({ cls := "java/util/Arrays", name := "copyOfRangeByte", desc := "([BII)[B" } : Jvm.MethodName) jdk_65_method_133_code (5 : Nat) (Option.some (Jvm.ClassFile.FieldType.array Jvm.ClassFile.FieldType.byte)), Jvm.Cond.code ({ cls := "java/util/Arrays", name := "checkLength", desc := "(II)V" } : Jvm.MethodName) jdk_65_method_131_code (2 : Nat) (Option.none : Option Jvm.ClassFile.FieldType), Jvm.Cond.code ({ cls := "java/lang/Math", name := "min", desc := "(II)I" } : Jvm.MethodName) jdk_29_method_69_code (2 : Nat) (Option.some Jvm.ClassFile.FieldType.int), Jvm.Cond.code ({ cls := "java/util/ArrayList", name := "add", desc := "(Ljava/lang/Object;)Z" } : Jvm.MethodName) jdk_38_method_25_code (2 : Nat) (Option.some Jvm.ClassFile.FieldType.boolean), Jvm.Cond.code ({ cls := "java/util/ArrayList", name := "add", desc := "(Ljava/lang/Object;[Ljava/lang/Object;I)V" } : Jvm.MethodName) jdk_38_method_24_code (4 : Nat) (Option.none : Option Jvm.ClassFile.FieldType), Jvm.Cond.code ({ cls := "java/util/ArrayList", name := "grow", desc := "()[Ljava/lang/Object;" } : Jvm.MethodName) jdk_38_method_7_code (1 : Nat) (Option.some (Jvm.ClassFile.FieldType.array (Jvm.ClassFile.FieldType.object "java/lang/Object"))), Jvm.Cond.code ({ cls := "java/util/ArrayList", name := "grow", desc := "(I)[Ljava/lang/Object;" } : Jvm.MethodName) jdk_38_method_6_code (4 : Nat) (Option.some (Jvm.ClassFile.FieldType.array (Jvm.ClassFile.FieldType.object "java/lang/Object"))), Jvm.Cond.code ({ cls := "java/lang/Math", name := "max", desc := "(II)I" } : Jvm.MethodName) jdk_29_method_65_code (2 : Nat) (Option.some Jvm.ClassFile.FieldType.int), Jvm.Cond.code ({ cls := "com/example/typewire/typewire/codegen/JavaFile", name := "text", desc := "(Ljava/lang/String;Ljava/lang/String;)Ljava/lang/String;" } : Jvm.MethodName) prog_4_method_13_code (6 : Nat) (Option.some (Jvm.ClassFile.FieldType.object "java/lang/String")), Jvm.Cond.code ({ cls := "java/lang/AbstractStringBuilder", name := "newCapacity", desc := "(I)I" } : Jvm.MethodName) jdk_68_method_10_code (6 : Nat) (Option.some Jvm.ClassFile.FieldType.int), Jvm.Cond.code ({ cls := "jdk/internal/util/ArraysSupport", name := "newLength", desc := "(III)I" } : Jvm.MethodName) jdk_48_method_27_code (4 : Nat) (Option.some Jvm.ClassFile.FieldType.int), Jvm.Cond.code ({ cls := "java/util/Arrays", name := "copyOf", desc := "([BI)[B" } : Jvm.MethodName) jdk_65_method_121_code (3 : Nat) (Option.some (Jvm.ClassFile.FieldType.array Jvm.ClassFile.FieldType.byte)), Jvm.Cond.code ({ cls := "com/example/typewire/typewire/codegen/JavaFile", name := "appendImports", desc := "(Ljava/lang/StringBuilder;Ljava/util/TreeSet;)V" } : Jvm.MethodName) prog_4_method_14_code (4 : Nat) (Option.none : Option Jvm.ClassFile.FieldType), Jvm.Cond.code ({ cls := "java/util/TreeSet", name := "iterator", desc := "()Ljava/util/Iterator;" } : Jvm.MethodName) jdk_2756_method_6_code (1 : Nat) (Option.some (Jvm.ClassFile.FieldType.object "java/util/Iterator")), Jvm.Cond.code ({ cls := "java/util/TreeMap", name := "navigableKeySet", desc := "()Ljava/util/NavigableSet;" } : Jvm.MethodName) jdk_2729_method_50_code (2 : Nat) (Option.some (Jvm.ClassFile.FieldType.object "java/util/NavigableSet")), Jvm.Cond.code ({ cls := "java/util/TreeMap$KeySet", name := "<init>", desc := "(Ljava/util/NavigableMap;)V" } : Jvm.MethodName) jdk_2741_method_1_code (2 : Nat) (Option.none : Option Jvm.ClassFile.FieldType), Jvm.Cond.code ({ cls := "java/util/TreeMap$KeySet", name := "iterator", desc := "()Ljava/util/Iterator;" } : Jvm.MethodName) jdk_2741_method_2_code (1 : Nat) (Option.some (Jvm.ClassFile.FieldType.object "java/util/Iterator")), Jvm.Cond.code ({ cls := "java/util/TreeMap", name := "keyIterator", desc := "()Ljava/util/Iterator;" } : Jvm.MethodName) jdk_2729_method_65_code (1 : Nat) (Option.some (Jvm.ClassFile.FieldType.object "java/util/Iterator")), Jvm.Cond.code ({ cls := "java/util/TreeMap", name := "getFirstEntry", desc := "()Ljava/util/TreeMap$Entry;" } : Jvm.MethodName) jdk_2729_method_72_code (2 : Nat) (Option.some (Jvm.ClassFile.FieldType.object "java/util/TreeMap$Entry")), Jvm.Cond.code ({ cls := "java/util/TreeMap$KeyIterator", name := "<init>", desc := "(Ljava/util/TreeMap;Ljava/util/TreeMap$Entry;)V" } : Jvm.MethodName) jdk_2740_method_1_code (3 : Nat) (Option.none : Option Jvm.ClassFile.FieldType), Jvm.Cond.code ({ cls := "java/util/TreeMap$PrivateEntryIterator", name := "<init>", desc := "(Ljava/util/TreeMap;Ljava/util/TreeMap$Entry;)V" } : Jvm.MethodName) jdk_2750_method_1_code (3 : Nat) (Option.none : Option Jvm.ClassFile.FieldType), Jvm.Cond.code ({ cls := "java/util/TreeMap$PrivateEntryIterator", name := "hasNext", desc := "()Z" } : Jvm.MethodName) jdk_2750_method_2_code (1 : Nat) (Option.some Jvm.ClassFile.FieldType.boolean), Jvm.Cond.code ({ cls := "java/util/TreeSet", name := "isEmpty", desc := "()Z" } : Jvm.MethodName) jdk_2756_method_10_code (1 : Nat) (Option.some Jvm.ClassFile.FieldType.boolean), Jvm.Cond.code ({ cls := "java/util/AbstractMap", name := "isEmpty", desc := "()Z" } : Jvm.MethodName) jdk_71_method_3_code (1 : Nat) (Option.some Jvm.ClassFile.FieldType.boolean), Jvm.Cond.code ({ cls := "java/util/TreeMap", name := "size", desc := "()I" } : Jvm.MethodName) jdk_2729_method_5_code (1 : Nat) (Option.some Jvm.ClassFile.FieldType.int), Jvm.Cond.code ({ cls := "java/util/ArrayList", name := "iterator", desc := "()Ljava/util/Iterator;" } : Jvm.MethodName) jdk_38_method_55_code (1 : Nat) (Option.some (Jvm.ClassFile.FieldType.object "java/util/Iterator")), Jvm.Cond.code ({ cls := "java/util/ArrayList$Itr", name := "<init>", desc := "(Ljava/util/ArrayList;)V" } : Jvm.MethodName) jdk_49_method_1_code (2 : Nat) (Option.none : Option Jvm.ClassFile.FieldType), Jvm.Cond.code ({ cls := "java/util/ArrayList$Itr", name := "hasNext", desc := "()Z" } : Jvm.MethodName) jdk_49_method_2_code (1 : Nat) (Option.some Jvm.ClassFile.FieldType.boolean), Jvm.Cond.code ({ cls := "java/util/ArrayList$Itr", name := "next", desc := "()Ljava/lang/Object;" } : Jvm.MethodName) jdk_49_method_3_code (3 : Nat) (Option.some (Jvm.ClassFile.FieldType.object "java/lang/Object")), Jvm.Cond.code ({ cls := "java/util/ArrayList$Itr", name := "checkForComodification", desc := "()V" } : Jvm.MethodName) jdk_49_method_6_code (1 : Nat) (Option.none : Option Jvm.ClassFile.FieldType), Jvm.Cond.code ({ cls := "java/lang/StringBuilder", name := "append", desc := "(C)Ljava/lang/StringBuilder;" } : Jvm.MethodName) jdk_67_method_14_code (2 : Nat) (Option.some (Jvm.ClassFile.FieldType.object "java/lang/StringBuilder")), Jvm.Cond.code ({ cls := "java/lang/AbstractStringBuilder", name := "append", desc := "(C)Ljava/lang/AbstractStringBuilder;" } : Jvm.MethodName) jdk_68_method_31_code (2 : Nat) (Option.some (Jvm.ClassFile.FieldType.object "java/lang/AbstractStringBuilder")), Jvm.Cond.code ({ cls := "com/example/typewire/typewire/codegen/JavaFile", name := "indent", desc := "()Lcom/example/typewire/typewire/codegen/JavaFile;" } : Jvm.MethodName) prog_4_method_10_code (1 : Nat) (Option.some (Jvm.ClassFile.FieldType.object "com/example/typewire/typewire/codegen/JavaFile")), Jvm.Cond.code ({ cls := "java/lang/String", name := "repeatCopyRest", desc := "([BIII)V" } : Jvm.MethodName) jdk_42_method_146_code (4 : Nat) (Option.none : Option Jvm.ClassFile.FieldType), Jvm.Cond.code ({ cls := "java/lang/String", name := "charAt", desc := "(I)C" } : Jvm.MethodName) jdk_42_method_56_code (2 : Nat) (Option.some Jvm.ClassFile.FieldType.char), Jvm.Cond.code ({ cls := "java/lang/String", name := "isLatin1", desc := "()Z" } : Jvm.MethodName) jdk_42_method_154_code (1 : Nat) (Option.some Jvm.ClassFile.FieldType.boolean), Jvm.Cond.code ({ cls := "java/lang/StringLatin1", name := "charAt", desc := "([BI)C" } : Jvm.MethodName) jdk_43_method_2_code (2 : Nat) (Option.some Jvm.ClassFile.FieldType.char), Jvm.Cond.code ({ cls := "java/lang/String", name := "checkIndex", desc := "(II)V" } : Jvm.MethodName) jdk_42_method_155_code (2 : Nat) (Option.none : Option Jvm.ClassFile.FieldType), Jvm.Cond.code ({ cls := "jdk/internal/util/Preconditions", name := "checkIndex", desc := "(IILjava/util/function/BiFunction;)I" } : Jvm.MethodName) jdk_41_method_11_code (3 : Nat) (Option.some Jvm.ClassFile.FieldType.int), Jvm.Cond.code ({ cls := "com/example/typewire/typewire/codegen/JavaFileIndentPinLaw", name := "sp", desc := "(Ljava/lang/String;III)Z" } : Jvm.MethodName) method_3_code (4 : Nat) (Option.some Jvm.ClassFile.FieldType.boolean)]
set_option maxRecDepth 65536 in
theorem codes_eq : words1.filter isCode = codes1 := rfl
theorem w_codes : ∀ c ∈ words1.filter isCode, c.before args0 about1 = true := by
  rw [codes_eq]
  intro c hc
  simp only [codes1, List.mem_cons, List.not_mem_nil, or_false] at hc
  rcases hc with rfl | rfl | rfl | rfl | rfl | rfl | rfl | rfl | rfl | rfl | rfl | rfl | rfl | rfl | rfl | rfl | rfl | rfl | rfl | rfl | rfl | rfl | rfl | rfl | rfl | rfl | rfl | rfl | rfl | rfl | rfl | rfl | rfl | rfl | rfl | rfl | rfl | rfl | rfl | rfl | rfl | rfl | rfl | rfl | rfl | rfl | rfl | rfl | rfl | rfl | rfl | rfl | rfl | rfl | rfl | rfl | rfl | rfl | rfl | rfl | rfl | rfl | rfl | rfl | rfl | rfl | rfl | rfl | rfl | rfl | rfl | rfl | rfl | rfl | rfl | rfl
  · exact w_c0
  · exact w_c1
  · exact w_c2
  · exact w_c3
  · exact w_c4
  · exact w_c5
  · exact w_c6
  · exact w_c7
  · exact w_c8
  · exact w_c9
  · exact w_c10
  · exact w_c11
  · exact w_c12
  · exact w_c13
  · exact w_c14
  · exact w_c15
  · exact w_c16
  · exact w_c17
  · exact w_c18
  · exact w_c19
  · exact w_c20
  · exact w_c21
  · exact w_c22
  · exact w_c23
  · exact w_c24
  · exact w_c25
  · exact w_c26
  · exact w_c27
  · exact w_c28
  · exact w_c29
  · exact w_c30
  · exact w_c31
  · exact w_c32
  · exact w_c33
  · exact w_c34
  · exact w_c35
  · exact w_c36
  · exact w_c37
  · exact w_c38
  · exact w_c39
  · exact w_c40
  · exact w_c41
  · exact w_c42
  · exact w_c43
  · exact w_c44
  · exact w_c45
  · exact w_c46
  · exact w_c47
  · exact w_c48
  · exact w_c49
  · exact w_c50
  · exact w_c51
  · exact w_c52
  · exact w_c53
  · exact w_c54
  · exact w_c55
  · exact w_c56
  · exact w_c57
  · exact w_c58
  · exact w_c59
  · exact w_c60
  · exact w_c61
  · exact w_c62
  · exact w_c63
  · exact w_c64
  · exact w_c65
  · exact w_c66
  · exact w_c67
  · exact w_c68
  · exact w_c69
  · exact w_c70
  · exact w_c71
  · exact w_c72
  · exact w_c73
  · exact w_c74
  · exact w_c75
set_option maxRecDepth 65536 in
theorem w_t1 : (words1.take 24).all (fun c => isCode c || c.before args0 about1) = true := by decide +kernel
set_option maxRecDepth 65536 in
theorem w_t2 : ((words1.drop 24).take 24).all (fun c => isCode c || c.before args0 about1) = true := by decide +kernel
set_option maxRecDepth 65536 in
theorem w_t3 : (((words1.drop 24).drop 24).take 24).all (fun c => isCode c || c.before args0 about1) = true := by decide +kernel
set_option maxRecDepth 65536 in
theorem w_t4 : ((((words1.drop 24).drop 24).drop 24).take 24).all (fun c => isCode c || c.before args0 about1) = true := by decide +kernel
set_option maxRecDepth 65536 in
theorem w_t5 : (((((words1.drop 24).drop 24).drop 24).drop 24).take 24).all (fun c => isCode c || c.before args0 about1) = true := by decide +kernel
set_option maxRecDepth 65536 in
theorem w_t6 : ((((((words1.drop 24).drop 24).drop 24).drop 24).drop 24).take 24).all (fun c => isCode c || c.before args0 about1) = true := by decide +kernel
set_option maxRecDepth 65536 in
theorem w_t7 : (((((((words1.drop 24).drop 24).drop 24).drop 24).drop 24).drop 24).take 24).all (fun c => isCode c || c.before args0 about1) = true := by decide +kernel
set_option maxRecDepth 65536 in
theorem w_t8 : ((((((((words1.drop 24).drop 24).drop 24).drop 24).drop 24).drop 24).drop 24).take 24).all (fun c => isCode c || c.before args0 about1) = true := by decide +kernel
set_option maxRecDepth 65536 in
theorem w_t9 : (((((((((words1.drop 24).drop 24).drop 24).drop 24).drop 24).drop 24).drop 24).drop 24).take 24).all (fun c => isCode c || c.before args0 about1) = true := by decide +kernel
set_option maxRecDepth 65536 in
theorem w_t10 : ((((((((((words1.drop 24).drop 24).drop 24).drop 24).drop 24).drop 24).drop 24).drop 24).drop 24).take 24).all (fun c => isCode c || c.before args0 about1) = true := by decide +kernel
set_option maxRecDepth 65536 in
theorem w_t11 : (((((((((((words1.drop 24).drop 24).drop 24).drop 24).drop 24).drop 24).drop 24).drop 24).drop 24).drop 24).take 24).all (fun c => isCode c || c.before args0 about1) = true := by decide +kernel
set_option maxRecDepth 65536 in
theorem w_t12 : ((((((((((((words1.drop 24).drop 24).drop 24).drop 24).drop 24).drop 24).drop 24).drop 24).drop 24).drop 24).drop 24).take 24).all (fun c => isCode c || c.before args0 about1) = true := by decide +kernel
set_option maxRecDepth 65536 in
theorem w_t13 : (((((((((((((words1.drop 24).drop 24).drop 24).drop 24).drop 24).drop 24).drop 24).drop 24).drop 24).drop 24).drop 24).drop 24).take 24).all (fun c => isCode c || c.before args0 about1) = true := by decide +kernel
set_option maxRecDepth 65536 in
theorem w_t14 : ((((((((((((((words1.drop 24).drop 24).drop 24).drop 24).drop 24).drop 24).drop 24).drop 24).drop 24).drop 24).drop 24).drop 24).drop 24).take 24).all (fun c => isCode c || c.before args0 about1) = true := by decide +kernel
set_option maxRecDepth 65536 in
theorem w_t15 : (((((((((((((((words1.drop 24).drop 24).drop 24).drop 24).drop 24).drop 24).drop 24).drop 24).drop 24).drop 24).drop 24).drop 24).drop 24).drop 24).take 24).all (fun c => isCode c || c.before args0 about1) = true := by decide +kernel
set_option maxRecDepth 65536 in
theorem w_t16 : ((((((((((((((((words1.drop 24).drop 24).drop 24).drop 24).drop 24).drop 24).drop 24).drop 24).drop 24).drop 24).drop 24).drop 24).drop 24).drop 24).drop 24).take 24).all (fun c => isCode c || c.before args0 about1) = true := by decide +kernel
set_option maxRecDepth 65536 in
theorem w_t17 : (((((((((((((((((words1.drop 24).drop 24).drop 24).drop 24).drop 24).drop 24).drop 24).drop 24).drop 24).drop 24).drop 24).drop 24).drop 24).drop 24).drop 24).drop 24).take 24).all (fun c => isCode c || c.before args0 about1) = true := by decide +kernel
set_option maxRecDepth 65536 in
theorem w_t18 : ((((((((((((((((((words1.drop 24).drop 24).drop 24).drop 24).drop 24).drop 24).drop 24).drop 24).drop 24).drop 24).drop 24).drop 24).drop 24).drop 24).drop 24).drop 24).drop 24).take 24).all (fun c => isCode c || c.before args0 about1) = true := by decide +kernel
set_option maxRecDepth 65536 in
theorem w_t19 : (((((((((((((((((((words1.drop 24).drop 24).drop 24).drop 24).drop 24).drop 24).drop 24).drop 24).drop 24).drop 24).drop 24).drop 24).drop 24).drop 24).drop 24).drop 24).drop 24).drop 24).take 24).all (fun c => isCode c || c.before args0 about1) = true := by decide +kernel
set_option maxRecDepth 65536 in
theorem w_t20 : ((((((((((((((((((((words1.drop 24).drop 24).drop 24).drop 24).drop 24).drop 24).drop 24).drop 24).drop 24).drop 24).drop 24).drop 24).drop 24).drop 24).drop 24).drop 24).drop 24).drop 24).drop 24).take 24).all (fun c => isCode c || c.before args0 about1) = true := by decide +kernel
set_option maxRecDepth 65536 in
theorem w_t21 : ((((((((((((((((((((words1.drop 24).drop 24).drop 24).drop 24).drop 24).drop 24).drop 24).drop 24).drop 24).drop 24).drop 24).drop 24).drop 24).drop 24).drop 24).drop 24).drop 24).drop 24).drop 24).drop 24).all (fun c => isCode c || c.before args0 about1) = true := by decide +kernel
theorem w_tables : (allAtoms (Jvm.Cond.code x code maxLocals ret :: tables_1)).before args0 about1 = true := by
  rw [allAtoms_all]
  show words1.all (fun c => c.before args0 about1) = true
  refine all_split ?_ w_codes
  rw [← List.take_append_drop 24 words1, List.all_append, w_t1, ← List.take_append_drop 24 (words1.drop 24), List.all_append, w_t2, ← List.take_append_drop 24 ((words1.drop 24).drop 24), List.all_append, w_t3, ← List.take_append_drop 24 (((words1.drop 24).drop 24).drop 24), List.all_append, w_t4, ← List.take_append_drop 24 ((((words1.drop 24).drop 24).drop 24).drop 24), List.all_append, w_t5, ← List.take_append_drop 24 (((((words1.drop 24).drop 24).drop 24).drop 24).drop 24), List.all_append, w_t6, ← List.take_append_drop 24 ((((((words1.drop 24).drop 24).drop 24).drop 24).drop 24).drop 24), List.all_append, w_t7, ← List.take_append_drop 24 (((((((words1.drop 24).drop 24).drop 24).drop 24).drop 24).drop 24).drop 24), List.all_append, w_t8, ← List.take_append_drop 24 ((((((((words1.drop 24).drop 24).drop 24).drop 24).drop 24).drop 24).drop 24).drop 24), List.all_append, w_t9, ← List.take_append_drop 24 (((((((((words1.drop 24).drop 24).drop 24).drop 24).drop 24).drop 24).drop 24).drop 24).drop 24), List.all_append, w_t10, ← List.take_append_drop 24 ((((((((((words1.drop 24).drop 24).drop 24).drop 24).drop 24).drop 24).drop 24).drop 24).drop 24).drop 24), List.all_append, w_t11, ← List.take_append_drop 24 (((((((((((words1.drop 24).drop 24).drop 24).drop 24).drop 24).drop 24).drop 24).drop 24).drop 24).drop 24).drop 24), List.all_append, w_t12, ← List.take_append_drop 24 ((((((((((((words1.drop 24).drop 24).drop 24).drop 24).drop 24).drop 24).drop 24).drop 24).drop 24).drop 24).drop 24).drop 24), List.all_append, w_t13, ← List.take_append_drop 24 (((((((((((((words1.drop 24).drop 24).drop 24).drop 24).drop 24).drop 24).drop 24).drop 24).drop 24).drop 24).drop 24).drop 24).drop 24), List.all_append, w_t14, ← List.take_append_drop 24 ((((((((((((((words1.drop 24).drop 24).drop 24).drop 24).drop 24).drop 24).drop 24).drop 24).drop 24).drop 24).drop 24).drop 24).drop 24).drop 24), List.all_append, w_t15, ← List.take_append_drop 24 (((((((((((((((words1.drop 24).drop 24).drop 24).drop 24).drop 24).drop 24).drop 24).drop 24).drop 24).drop 24).drop 24).drop 24).drop 24).drop 24).drop 24), List.all_append, w_t16, ← List.take_append_drop 24 ((((((((((((((((words1.drop 24).drop 24).drop 24).drop 24).drop 24).drop 24).drop 24).drop 24).drop 24).drop 24).drop 24).drop 24).drop 24).drop 24).drop 24).drop 24), List.all_append, w_t17, ← List.take_append_drop 24 (((((((((((((((((words1.drop 24).drop 24).drop 24).drop 24).drop 24).drop 24).drop 24).drop 24).drop 24).drop 24).drop 24).drop 24).drop 24).drop 24).drop 24).drop 24).drop 24), List.all_append, w_t18, ← List.take_append_drop 24 ((((((((((((((((((words1.drop 24).drop 24).drop 24).drop 24).drop 24).drop 24).drop 24).drop 24).drop 24).drop 24).drop 24).drop 24).drop 24).drop 24).drop 24).drop 24).drop 24).drop 24), List.all_append, w_t19, ← List.take_append_drop 24 (((((((((((((((((((words1.drop 24).drop 24).drop 24).drop 24).drop 24).drop 24).drop 24).drop 24).drop 24).drop 24).drop 24).drop 24).drop 24).drop 24).drop 24).drop 24).drop 24).drop 24).drop 24), List.all_append, w_t20, w_t21]
  rfl
set_option maxRecDepth 65536 in
theorem w_rest : rest_1_c.before args0 about1 = true := by decide +kernel
set_option maxRecDepth 65536 in
theorem w_case : (Jvm.Cond.and given_1 narrow_1).before args0 about1 = true := by decide +kernel
set_option maxRecDepth 65536 in
theorem w_consts : constsHeld consts_1 about1 := Jvm.Lit.constsHeldB_iff.mp (by decide +kernel)
theorem w_applies : (headSpec (Jvm.Cond.code x code maxLocals ret :: tables_1) room_1).applies x e0.platform about1 = true :=
  (Spec.applies_iff w_frames).mpr ⟨w_running, w_runnable, w_alone, w_named, w_hears, w_ripe, w_room, w_tables⟩
theorem atStart : AtStart classFile x code maxLocals ret World_1 tables_1 room_1 Calls_1 rest_1 Pre_1 launch0 p0 e0 about1 theMethod args0 below0 :=
  ⟨lists_1, trivial, launch0.admits_env _ _ _, launch0.least_env, fairChoices_fair.cas, fairChoices_fair.clock, w_frames, w_args, w_heap, w_applies, ⟨w_consts, trivial⟩, w_rest, w_case⟩
end start1
theorem witness_1 : WitnessClaimed_1 := ⟨start1.p0, start1.e0, start1.about1, start1.theMethod, start1.args0, start1.below0, start1.atStart⟩
end Jvm.Pilot.@@N@@
