import JvmDerived
import JvmDerived.Pilot.@@N@@Statement
import JvmDerived.Pilot.@@N@@Code
set_option linter.unusedVariables false
set_option linter.unusedSimpArgs false
namespace Jvm.RoadKit
open Sem ClassFile Op Lib Bundle Jvm.Stand Jvm.Free Jvm.LawKit
section OwnKit
variable {p : Program} {l : Launch} {e : Env} {R : Room} {s : State} {m : MethodId} {args : Array Value} {below : List Frame} {meth : Method} {c : Code} {T : State} {Z : State} {a0 : Array Value} {EL : List (String × Nat)} {own nm : String} {bytes : ByteArray} {maxL : Nat} {ret : Option FieldType} {wl sf : List Addr} {h0 h : Heap} {k n : Nat} {F : Outcome → State → Prop} {Ls : Array Slot} {S : List Value} {pc : Nat}
def Go (tb : Tables) (e : Env) (below : List Frame) (F : Outcome → State → Prop) (A : State) : Prop := ∃ (t : State) (o : Outcome), Steps tb e below A t ∧ t.status = .running ∧ Ended t below o ∧ F o t
theorem goS {tb : Tables} {A B : State} (q : ∀ t, Steps tb e below B t → Steps tb e below A t) (g : Go tb e below F B) : Go tb e below F A := by
  obtain ⟨t, o, h1, h2⟩ := g
  exact ⟨t, o, q t h1, h2⟩
def Cx (p : Program) (meth : Method) (c : Code) (Z : State) (a0 : Array Value) (EL : List (String × Nat)) (nm : String) (bytes : ByteArray) (maxL : Nat) (ret : Option FieldType) (wl : List Addr) (h0 : Heap) : Prop :=
  p.tables.exec = Jvm.exec ∧ c.code = bytes ∧ c.maxLocals = maxL ∧ meth.sig.returnType = ret ∧ meth.locks = false ∧ meth.name = nm ∧ EW Z a0 EL ∧ Z.heap.size ≤ h0.size ∧ ∀ x ∈ wl, Z.heap.size ≤ x
theorem Cx.ew (w : Cx p meth c Z a0 EL nm bytes maxL ret wl h0) : EW Z a0 EL := w.2.2.2.2.2.2.1
theorem Cx.le (w : Cx p meth c Z a0 EL nm bytes maxL ret wl h0) : Z.heap.size ≤ h0.size := w.2.2.2.2.2.2.2.1
theorem Cx.ge (w : Cx p meth c Z a0 EL nm bytes maxL ret wl h0) {a : Addr} (h : a ∈ wl ∨ h0.size ≤ a) : Z.heap.size ≤ a := h.elim (w.2.2.2.2.2.2.2.2 a) (Nat.le_trans w.le)
theorem extKeep {A h h' : Heap} {ws : List Addr} (E : Ext A h) (K : Keep h h' ws) (q : ∀ x ∈ ws, A.size ≤ x) : Ext A h' := ⟨Nat.le_trans E.1 K.1, fun a c r => K.2.1 a c (E.2 a c r) fun z => absurd (Array.getElem?_eq_some_iff.mp r).1 (Nat.not_lt.mpr (q a z))⟩
theorem extExt {A h h' : Heap} (E : Ext A h) (K : Ext h h') : Ext A h' := ⟨Nat.le_trans E.1 K.1, fun a c r => K.2 a c (E.2 a c r)⟩
/-- where a walk stands: the heap h, what it has written and made, that the literals of EL are as they should be, what is none of their cells -/
def OW (p : Program) (l : Launch) (e : Env) (R : Room) (s : State) (m : MethodId) (args : Array Value) (below : List Frame) (meth : Method) (c : Code) (Z : State) (a0 : Array Value) (EL : List (String × Nat)) (own nm : String) (bytes : ByteArray) (maxL : Nat) (ret : Option FieldType) (wl : List Addr) (h0 : Heap) (sf : List Addr) (T : State) (h : Heap) (k n : Nat) : Prop :=
  Cx p meth c Z a0 EL nm bytes maxL ret wl h0 ∧
  ∃ (vm0 : Vm) (k0 : Nat) (L : List Loc), Stand p l e R (s.setVm vm0) m args below meth c T L k n ∧ T.heap = h ∧ s.Since vm0 k0 ∧ k0 ≤ h.size ∧ Z.Warmed39 vm0 ∧ vm0.findClass own = some m.cls ∧
    (∀ y ∈ L, y.base ∈ wl ∨ h0.size ≤ y.base) ∧ Keep h0 h wl ∧ CHr Z EL s.vm h0 vm0 h ∧ Ext Z.heap h ∧ ∀ x ∈ sf, x < h.size ∧ Safe Z EL vm0 h x
/-- what a body leaves behind -/
def Fin' (s : State) (Z : State) (EL : List (String × Nat)) (wl : List Addr) (h0 : Heap) (R : Room) (Q : Option Value → Heap → List Addr → Prop) (o : Outcome) (t : State) : Prop :=
  ∃ (v : Option Value) (L : List Loc) (ns : List Addr), o = .returned v ∧ Q v t.heap ns ∧ Keep h0 t.heap wl ∧ (∀ y ∈ L, y.base ∈ wl ∨ h0.size ≤ y.base) ∧ CHr Z EL s.vm h0 t.vm t.heap ∧ (∀ x ∈ ns, x < t.heap.size ∧ Safe Z EL t.vm t.heap x) ∧ ReturnedEndW s o t L R.cells R.slots
/-- the contract of a body -/
def Con (l : Launch) (Z : State) (a0 : Array Value) (EL : List (String × Nat)) (y : MethodName) (bytes : ByteArray) (maxL : Nat) (ret : Option FieldType) (rm : Room) (as' : Array Value) (h0 : Heap) (sf wl : List Addr) (Q : Option Value → Heap → List Addr → Prop) : Prop :=
  MetFree l y (head1 [Cond.code y bytes maxL ret] rm) (fun a U => a = as' ∧ Z.Warmed39 U.vm ∧ U.heap = h0 ∧ CHv Z EL U.vm h0 ∧ EW Z a0 EL ∧ Ext Z.heap h0 ∧ (∀ x ∈ wl, Z.heap.size ≤ x) ∧ ∀ x ∈ sf, x < h0.size ∧ Safe Z EL U.vm h0 x) (fun _ _ _ _ _ => True)
    (fun _ U o U' => Fin' U Z EL wl h0 rm Q o U')
theorem OW.start {y : MethodName} {as' : Array Value} {s₁ : State} {rm : Room} {ws : List Cond} (B : BodyLoose p l y (head1 (Cond.code y bytes maxL ret :: ws) rm) bytes maxL ret e s m as' below meth c s₁) (hml : c.maxLocals = maxL) (hZ : Z.Warmed39 s.vm) (hh : s.heap = h0) (H : CHv Z EL s.vm h0) (hE : EW Z a0 EL) (hX : Ext Z.heap h0) (hwl : ∀ x ∈ wl, Z.heap.size ≤ x) (hs : ∀ x ∈ sf, x < h0.size ∧ Safe Z EL s.vm h0 x) :
    OW p l e rm s m as' below meth c Z a0 EL y.cls y.name bytes maxL ret wl h0 sf s₁ h0 0 0 :=
  ⟨⟨B.exec, B.bytes, hml, B.returns, B.notSynchronized, (name_of_methodNamed B.named B.method).1, hE, hX.1, hwl⟩, s.vm, 0, [], Stand.of_body B, by rw [← hh, B.state]; rfl, State.WarmedH.since (State.WarmedH.refl s) 0, Nat.zero_le _, hZ, findClass_of_methodNamed B.named,
    (fun _ q => nomatch q), Keep.refl _ _, CHr.refl H, hX, hs⟩
theorem Con.of {y : MethodName} {rm : Room} {as' : Array Value} {Q : Option Value → Heap → List Addr → Prop} {L0 : Array Slot} (hp : plainFor y = true) (hef : ∀ m, entryFrame m as' maxL = mkF m 0 L0 [])
    (body : ∀ (p : Program) (e : Env) (s : State) (m : MethodId) (below : List Frame) (meth : Method) (c : Code) (T : State), OW p l e rm s m as' below meth c Z a0 EL y.cls y.name bytes maxL ret wl h0 sf T h0 0 0 → Go p.tables e below (Fin' s Z EL wl h0 rm Q) (T.setTop (mkF m 0 L0 []))) :
    Con l Z a0 EL y bytes maxL ret rm as' h0 sf wl Q := by
  refine MetFree.of_bodySF hp hisR ?_
  intro p e s m args below meth c s₁ Bd hml hP hK
  obtain ⟨rfl, hZ, hh, H, hE, hX, hwl, hs⟩ := hP
  obtain ⟨t, o, g1, g2, g3, g4⟩ := body p e s m below meth c s₁ (OW.start Bd hml hZ hh H hE hX hwl hs)
  exact ⟨t, o, castTop (hef m) g1, g2, g3, g4⟩
theorem OW.here (w : OW p l e R s m args below meth c Z a0 EL own nm bytes maxL ret wl h0 sf T h k n) : At T m c below := by obtain ⟨-, vm0, k0, L, X, -⟩ := w; exact X.here
theorem OW.exec (w : OW p l e R s m args below meth c Z a0 EL own nm bytes maxL ret wl h0 sf T h k n) : p.tables.exec = Jvm.exec := w.1.1
theorem OW.bt (w : OW p l e R s m args below meth c Z a0 EL own nm bytes maxL ret wl h0 sf T h k n) {pc : Nat} {r : Except DecodeError (Instr × Nat)} (hd : decode bytes pc = r) : decode c.code pc = r := hb w.1.2.1 hd
theorem OW.keep (w : OW p l e R s m args below meth c Z a0 EL own nm bytes maxL ret wl h0 sf T h k n) : Keep h0 h wl := by obtain ⟨-, vm0, k0, L, X, -, -, -, -, -, -, K, -⟩ := w; exact K
theorem OW.more {k' n' : Nat} (w : OW p l e R s m args below meth c Z a0 EL own nm bytes maxL ret wl h0 sf T h k n) (h1 : k ≤ k') (h2 : n ≤ n') : OW p l e R s m args below meth c Z a0 EL own nm bytes maxL ret wl h0 sf T h k' n' := by
  obtain ⟨w0, vm0, k0, L, X, r⟩ := w
  exact ⟨w0, vm0, k0, L, X.more h1 h2, r⟩
theorem OW.sub {sf' : List Addr} (w : OW p l e R s m args below meth c Z a0 EL own nm bytes maxL ret wl h0 sf T h k n) (q : ∀ x ∈ sf', x ∈ sf) : OW p l e R s m args below meth c Z a0 EL own nm bytes maxL ret wl h0 sf' T h k n := by
  obtain ⟨w0, vm0, k0, L, X, g1, g2, g3, g4, g5, g6, g7, g8, gE, g9⟩ := w
  exact ⟨w0, vm0, k0, L, X, g1, g2, g3, g4, g5, g6, g7, g8, gE, fun x hx => g9 x (q x hx)⟩
/-! plain steps -/

theorem g_iload (w : OW p l e R s m args below meth c Z a0 EL own nm bytes maxL ret wl h0 sf T h k n) {i : Nat} {v : Int32} (hd : decode bytes pc = .ok (.iload i, 2)) (hl : Ls[i]? = some (.val (.int v))) (nx : Go p.tables e below F (T.setTop (mkF m (pc + 2) Ls (.int v :: S)))) : Go p.tables e below F (T.setTop (mkF m pc Ls S)) := goS (fun t q => XS.iload w.here w.exec rfl (w.bt hd) hl q) nx
theorem g_iloadN (w : OW p l e R s m args below meth c Z a0 EL own nm bytes maxL ret wl h0 sf T h k n) {i : Fin 4} {v : Int32} (hd : decode bytes pc = .ok (.iload_n i, 1)) (hl : Ls[i.val]? = some (.val (.int v))) (nx : Go p.tables e below F (T.setTop (mkF m (pc + 1) Ls (.int v :: S)))) : Go p.tables e below F (T.setTop (mkF m pc Ls S)) := goS (fun t q => XS.iloadN w.here w.exec rfl (w.bt hd) hl q) nx
theorem g_aload (w : OW p l e R s m args below meth c Z a0 EL own nm bytes maxL ret wl h0 sf T h k n) {i : Nat} {v : Value} (hd : decode bytes pc = .ok (.aload i, 2)) (hl : Ls[i]? = some (.val v)) (hv : v.isRef = true) (nx : Go p.tables e below F (T.setTop (mkF m (pc + 2) Ls (v :: S)))) : Go p.tables e below F (T.setTop (mkF m pc Ls S)) := goS (fun t q => XS.aload w.here w.exec rfl (w.bt hd) hl hv q) nx
theorem g_aloadN (w : OW p l e R s m args below meth c Z a0 EL own nm bytes maxL ret wl h0 sf T h k n) {i : Fin 4} {v : Value} (hd : decode bytes pc = .ok (.aload_n i, 1)) (hl : Ls[i.val]? = some (.val v)) (hv : v.isRef = true) (nx : Go p.tables e below F (T.setTop (mkF m (pc + 1) Ls (v :: S)))) : Go p.tables e below F (T.setTop (mkF m pc Ls S)) := goS (fun t q => XS.aloadN w.here w.exec rfl (w.bt hd) hl hv q) nx
theorem g_lload (w : OW p l e R s m args below meth c Z a0 EL own nm bytes maxL ret wl h0 sf T h k n) {i : Nat} {v : Int64} (hd : decode bytes pc = .ok (.lload i, 2)) (hl : Ls[i]? = some (.val (.long v))) (nx : Go p.tables e below F (T.setTop (mkF m (pc + 2) Ls (.long v :: S)))) : Go p.tables e below F (T.setTop (mkF m pc Ls S)) := goS (fun t q => XS.lload w.here w.exec rfl (w.bt hd) hl q) nx
theorem g_lloadN (w : OW p l e R s m args below meth c Z a0 EL own nm bytes maxL ret wl h0 sf T h k n) {i : Fin 4} {v : Int64} (hd : decode bytes pc = .ok (.lload_n i, 1)) (hl : Ls[i.val]? = some (.val (.long v))) (nx : Go p.tables e below F (T.setTop (mkF m (pc + 1) Ls (.long v :: S)))) : Go p.tables e below F (T.setTop (mkF m pc Ls S)) := goS (fun t q => XS.lloadN w.here w.exec rfl (w.bt hd) hl q) nx
theorem g_istore (w : OW p l e R s m args below meth c Z a0 EL own nm bytes maxL ret wl h0 sf T h k n) {i : Nat} {x : Int32} {l' : Array Slot} (hd : decode bytes pc = .ok (.istore i, 2)) (hl : storeLocals Ls i (.int x) = some l') (nx : Go p.tables e below F (T.setTop (mkF m (pc + 2) l' S))) : Go p.tables e below F (T.setTop (mkF m pc Ls (.int x :: S))) := goS (fun t q => XS.istore w.here w.exec rfl (w.bt hd) rfl hl q) nx
theorem g_istoreN (w : OW p l e R s m args below meth c Z a0 EL own nm bytes maxL ret wl h0 sf T h k n) {i : Fin 4} {x : Int32} {l' : Array Slot} (hd : decode bytes pc = .ok (.istore_n i, 1)) (hl : storeLocals Ls i.val (.int x) = some l') (nx : Go p.tables e below F (T.setTop (mkF m (pc + 1) l' S))) : Go p.tables e below F (T.setTop (mkF m pc Ls (.int x :: S))) := goS (fun t q => XS.istoreN w.here w.exec rfl (w.bt hd) rfl hl q) nx
theorem g_astore (w : OW p l e R s m args below meth c Z a0 EL own nm bytes maxL ret wl h0 sf T h k n) {i : Nat} {x : Value} {l' : Array Slot} (hd : decode bytes pc = .ok (.astore i, 2)) (hv : x.isRef = true) (hl : storeLocals Ls i x = some l') (nx : Go p.tables e below F (T.setTop (mkF m (pc + 2) l' S))) : Go p.tables e below F (T.setTop (mkF m pc Ls (x :: S))) := goS (fun t q => XS.astore w.here w.exec rfl (w.bt hd) rfl hv hl q) nx
theorem g_astoreN (w : OW p l e R s m args below meth c Z a0 EL own nm bytes maxL ret wl h0 sf T h k n) {i : Fin 4} {x : Value} {l' : Array Slot} (hd : decode bytes pc = .ok (.astore_n i, 1)) (hv : x.isRef = true) (hl : storeLocals Ls i.val x = some l') (nx : Go p.tables e below F (T.setTop (mkF m (pc + 1) l' S))) : Go p.tables e below F (T.setTop (mkF m pc Ls (x :: S))) := goS (fun t q => XS.astoreN w.here w.exec rfl (w.bt hd) rfl hv hl q) nx
theorem g_lstore (w : OW p l e R s m args below meth c Z a0 EL own nm bytes maxL ret wl h0 sf T h k n) {i : Nat} {x : Int64} {l' : Array Slot} (hd : decode bytes pc = .ok (.lstore i, 2)) (hl : storeLocals Ls i (.long x) = some l') (nx : Go p.tables e below F (T.setTop (mkF m (pc + 2) l' S))) : Go p.tables e below F (T.setTop (mkF m pc Ls (.long x :: S))) := goS (fun t q => XS.lstore w.here w.exec rfl (w.bt hd) rfl hl q) nx
theorem g_lstoreN (w : OW p l e R s m args below meth c Z a0 EL own nm bytes maxL ret wl h0 sf T h k n) {i : Fin 4} {x : Int64} {l' : Array Slot} (hd : decode bytes pc = .ok (.lstore_n i, 1)) (hl : storeLocals Ls i.val (.long x) = some l') (nx : Go p.tables e below F (T.setTop (mkF m (pc + 1) l' S))) : Go p.tables e below F (T.setTop (mkF m pc Ls (.long x :: S))) := goS (fun t q => XS.lstoreN w.here w.exec rfl (w.bt hd) rfl hl q) nx
theorem g_iconst (w : OW p l e R s m args below meth c Z a0 EL own nm bytes maxL ret wl h0 sf T h k n) {i : Int} {z : Int32} (hd : decode bytes pc = .ok (.iconst i, 1)) (hz : Int32.ofInt i = z) (nx : Go p.tables e below F (T.setTop (mkF m (pc + 1) Ls (.int z :: S)))) : Go p.tables e below F (T.setTop (mkF m pc Ls S)) := goS (fun t q => XS.iconst w.here w.exec rfl (w.bt hd) (by rw [hz]; exact q)) nx
theorem g_bipush (w : OW p l e R s m args below meth c Z a0 EL own nm bytes maxL ret wl h0 sf T h k n) {i : Int} {z : Int32} (hd : decode bytes pc = .ok (.bipush i, 2)) (hz : (Int8.ofInt i).toInt32 = z) (nx : Go p.tables e below F (T.setTop (mkF m (pc + 2) Ls (.int z :: S)))) : Go p.tables e below F (T.setTop (mkF m pc Ls S)) := goS (fun t q => XS.bipush w.here w.exec rfl (w.bt hd) (by rw [hz]; exact q)) nx
theorem g_sipush (w : OW p l e R s m args below meth c Z a0 EL own nm bytes maxL ret wl h0 sf T h k n) {i : Int} {z : Int32} (hd : decode bytes pc = .ok (.sipush i, 3)) (hz : (Int16.ofInt i).toInt32 = z) (nx : Go p.tables e below F (T.setTop (mkF m (pc + 3) Ls (.int z :: S)))) : Go p.tables e below F (T.setTop (mkF m pc Ls S)) := goS (fun t q => XS.sipush w.here w.exec rfl (w.bt hd) (by rw [hz]; exact q)) nx
theorem g_lconst (w : OW p l e R s m args below meth c Z a0 EL own nm bytes maxL ret wl h0 sf T h k n) {i : Fin 2} {z : Int64} (hd : decode bytes pc = .ok (.lconst i, 1)) (hz : Int64.ofNat i = z) (nx : Go p.tables e below F (T.setTop (mkF m (pc + 1) Ls (.long z :: S)))) : Go p.tables e below F (T.setTop (mkF m pc Ls S)) := goS (fun t q => XS.lconst w.here w.exec rfl (w.bt hd) (by rw [hz]; exact q)) nx
theorem g_aconstNull (w : OW p l e R s m args below meth c Z a0 EL own nm bytes maxL ret wl h0 sf T h k n)  (hd : decode bytes pc = .ok (.aconst_null, 1))  (nx : Go p.tables e below F (T.setTop (mkF m (pc + 1) Ls (.null :: S)))) : Go p.tables e below F (T.setTop (mkF m pc Ls S)) := goS (fun t q => XS.aconstNull w.here w.exec rfl (w.bt hd) q) nx
theorem g_iadd (w : OW p l e R s m args below meth c Z a0 EL own nm bytes maxL ret wl h0 sf T h k n) {x y : Int32} (hd : decode bytes pc = .ok (.iadd, 1))  (nx : Go p.tables e below F (T.setTop (mkF m (pc + 1) Ls (.int (x + y) :: S)))) : Go p.tables e below F (T.setTop (mkF m pc Ls (.int y :: .int x :: S))) := goS (fun t q => XS.iadd w.here w.exec rfl (w.bt hd) rfl q) nx
theorem g_isub (w : OW p l e R s m args below meth c Z a0 EL own nm bytes maxL ret wl h0 sf T h k n) {x y : Int32} (hd : decode bytes pc = .ok (.isub, 1))  (nx : Go p.tables e below F (T.setTop (mkF m (pc + 1) Ls (.int (x - y) :: S)))) : Go p.tables e below F (T.setTop (mkF m pc Ls (.int y :: .int x :: S))) := goS (fun t q => XS.isub w.here w.exec rfl (w.bt hd) rfl q) nx
theorem g_imul (w : OW p l e R s m args below meth c Z a0 EL own nm bytes maxL ret wl h0 sf T h k n) {x y : Int32} (hd : decode bytes pc = .ok (.imul, 1))  (nx : Go p.tables e below F (T.setTop (mkF m (pc + 1) Ls (.int (x * y) :: S)))) : Go p.tables e below F (T.setTop (mkF m pc Ls (.int y :: .int x :: S))) := goS (fun t q => XS.imul w.here w.exec rfl (w.bt hd) rfl q) nx
theorem g_iand (w : OW p l e R s m args below meth c Z a0 EL own nm bytes maxL ret wl h0 sf T h k n) {x y : Int32} (hd : decode bytes pc = .ok (.iand, 1))  (nx : Go p.tables e below F (T.setTop (mkF m (pc + 1) Ls (.int (x &&& y) :: S)))) : Go p.tables e below F (T.setTop (mkF m pc Ls (.int y :: .int x :: S))) := goS (fun t q => XS.iand w.here w.exec rfl (w.bt hd) rfl q) nx
theorem g_ior (w : OW p l e R s m args below meth c Z a0 EL own nm bytes maxL ret wl h0 sf T h k n) {x y : Int32} (hd : decode bytes pc = .ok (.ior, 1))  (nx : Go p.tables e below F (T.setTop (mkF m (pc + 1) Ls (.int (x ||| y) :: S)))) : Go p.tables e below F (T.setTop (mkF m pc Ls (.int y :: .int x :: S))) := goS (fun t q => XS.ior w.here w.exec rfl (w.bt hd) rfl q) nx
theorem g_ixor (w : OW p l e R s m args below meth c Z a0 EL own nm bytes maxL ret wl h0 sf T h k n) {x y : Int32} (hd : decode bytes pc = .ok (.ixor, 1))  (nx : Go p.tables e below F (T.setTop (mkF m (pc + 1) Ls (.int (x ^^^ y) :: S)))) : Go p.tables e below F (T.setTop (mkF m pc Ls (.int y :: .int x :: S))) := goS (fun t q => XS.ixor w.here w.exec rfl (w.bt hd) rfl q) nx
theorem g_ishl (w : OW p l e R s m args below meth c Z a0 EL own nm bytes maxL ret wl h0 sf T h k n) {x y : Int32} (hd : decode bytes pc = .ok (.ishl, 1))  (nx : Go p.tables e below F (T.setTop (mkF m (pc + 1) Ls (.int (x <<< (y &&& 31)) :: S)))) : Go p.tables e below F (T.setTop (mkF m pc Ls (.int y :: .int x :: S))) := goS (fun t q => XS.ishl w.here w.exec rfl (w.bt hd) rfl q) nx
theorem g_ishr (w : OW p l e R s m args below meth c Z a0 EL own nm bytes maxL ret wl h0 sf T h k n) {x y : Int32} (hd : decode bytes pc = .ok (.ishr, 1))  (nx : Go p.tables e below F (T.setTop (mkF m (pc + 1) Ls (.int (x >>> (y &&& 31)) :: S)))) : Go p.tables e below F (T.setTop (mkF m pc Ls (.int y :: .int x :: S))) := goS (fun t q => XS.ishr w.here w.exec rfl (w.bt hd) rfl q) nx
theorem g_iushr (w : OW p l e R s m args below meth c Z a0 EL own nm bytes maxL ret wl h0 sf T h k n) {x y : Int32} (hd : decode bytes pc = .ok (.iushr, 1))  (nx : Go p.tables e below F (T.setTop (mkF m (pc + 1) Ls (.int ((x.toUInt32 >>> (y &&& 31).toUInt32).toInt32) :: S)))) : Go p.tables e below F (T.setTop (mkF m pc Ls (.int y :: .int x :: S))) := goS (fun t q => XS.iushr w.here w.exec rfl (w.bt hd) rfl q) nx
theorem g_ladd (w : OW p l e R s m args below meth c Z a0 EL own nm bytes maxL ret wl h0 sf T h k n) {x y : Int64} (hd : decode bytes pc = .ok (.ladd, 1))  (nx : Go p.tables e below F (T.setTop (mkF m (pc + 1) Ls (.long (x + y) :: S)))) : Go p.tables e below F (T.setTop (mkF m pc Ls (.long y :: .long x :: S))) := goS (fun t q => XS.ladd w.here w.exec rfl (w.bt hd) rfl q) nx
theorem g_lsub (w : OW p l e R s m args below meth c Z a0 EL own nm bytes maxL ret wl h0 sf T h k n) {x y : Int64} (hd : decode bytes pc = .ok (.lsub, 1))  (nx : Go p.tables e below F (T.setTop (mkF m (pc + 1) Ls (.long (x - y) :: S)))) : Go p.tables e below F (T.setTop (mkF m pc Ls (.long y :: .long x :: S))) := goS (fun t q => XS.lsub w.here w.exec rfl (w.bt hd) rfl q) nx
theorem g_lmul (w : OW p l e R s m args below meth c Z a0 EL own nm bytes maxL ret wl h0 sf T h k n) {x y : Int64} (hd : decode bytes pc = .ok (.lmul, 1))  (nx : Go p.tables e below F (T.setTop (mkF m (pc + 1) Ls (.long (x * y) :: S)))) : Go p.tables e below F (T.setTop (mkF m pc Ls (.long y :: .long x :: S))) := goS (fun t q => XS.lmul w.here w.exec rfl (w.bt hd) rfl q) nx
theorem g_land (w : OW p l e R s m args below meth c Z a0 EL own nm bytes maxL ret wl h0 sf T h k n) {x y : Int64} (hd : decode bytes pc = .ok (.land, 1))  (nx : Go p.tables e below F (T.setTop (mkF m (pc + 1) Ls (.long (x &&& y) :: S)))) : Go p.tables e below F (T.setTop (mkF m pc Ls (.long y :: .long x :: S))) := goS (fun t q => XS.land w.here w.exec rfl (w.bt hd) rfl q) nx
theorem g_lor (w : OW p l e R s m args below meth c Z a0 EL own nm bytes maxL ret wl h0 sf T h k n) {x y : Int64} (hd : decode bytes pc = .ok (.lor, 1))  (nx : Go p.tables e below F (T.setTop (mkF m (pc + 1) Ls (.long (x ||| y) :: S)))) : Go p.tables e below F (T.setTop (mkF m pc Ls (.long y :: .long x :: S))) := goS (fun t q => XS.lor w.here w.exec rfl (w.bt hd) rfl q) nx
theorem g_lxor (w : OW p l e R s m args below meth c Z a0 EL own nm bytes maxL ret wl h0 sf T h k n) {x y : Int64} (hd : decode bytes pc = .ok (.lxor, 1))  (nx : Go p.tables e below F (T.setTop (mkF m (pc + 1) Ls (.long (x ^^^ y) :: S)))) : Go p.tables e below F (T.setTop (mkF m pc Ls (.long y :: .long x :: S))) := goS (fun t q => XS.lxor w.here w.exec rfl (w.bt hd) rfl q) nx
theorem g_lshl (w : OW p l e R s m args below meth c Z a0 EL own nm bytes maxL ret wl h0 sf T h k n) {x : Int64} {y : Int32} (hd : decode bytes pc = .ok (.lshl, 1))  (nx : Go p.tables e below F (T.setTop (mkF m (pc + 1) Ls (.long (x <<< (y &&& 0x3f).toInt64) :: S)))) : Go p.tables e below F (T.setTop (mkF m pc Ls (.int y :: .long x :: S))) := goS (fun t q => XS.lshl w.here w.exec rfl (w.bt hd) rfl q) nx
theorem g_lshr (w : OW p l e R s m args below meth c Z a0 EL own nm bytes maxL ret wl h0 sf T h k n) {x : Int64} {y : Int32} (hd : decode bytes pc = .ok (.lshr, 1))  (nx : Go p.tables e below F (T.setTop (mkF m (pc + 1) Ls (.long (x >>> (y &&& 0x3f).toInt64) :: S)))) : Go p.tables e below F (T.setTop (mkF m pc Ls (.int y :: .long x :: S))) := goS (fun t q => XS.lshr w.here w.exec rfl (w.bt hd) rfl q) nx
theorem g_lushr (w : OW p l e R s m args below meth c Z a0 EL own nm bytes maxL ret wl h0 sf T h k n) {x : Int64} {y : Int32} (hd : decode bytes pc = .ok (.lushr, 1))  (nx : Go p.tables e below F (T.setTop (mkF m (pc + 1) Ls (.long ((x.toUInt64 >>> (y &&& 0x3f).toInt64.toUInt64).toInt64) :: S)))) : Go p.tables e below F (T.setTop (mkF m pc Ls (.int y :: .long x :: S))) := goS (fun t q => XS.lushr w.here w.exec rfl (w.bt hd) rfl q) nx
theorem g_lcmp (w : OW p l e R s m args below meth c Z a0 EL own nm bytes maxL ret wl h0 sf T h k n) {x y : Int64} (hd : decode bytes pc = .ok (.lcmp, 1))  (nx : Go p.tables e below F (T.setTop (mkF m (pc + 1) Ls (.int (lcmpW x y) :: S)))) : Go p.tables e below F (T.setTop (mkF m pc Ls (.long y :: .long x :: S))) := goS (fun t q => XS.lcmp w.here w.exec rfl (w.bt hd) rfl q) nx
theorem g_idiv (w : OW p l e R s m args below meth c Z a0 EL own nm bytes maxL ret wl h0 sf T h k n) {x y : Int32} (hd : decode bytes pc = .ok (.idiv, 1)) (hy : y ≠ 0) (nx : Go p.tables e below F (T.setTop (mkF m (pc + 1) Ls (.int (x / y) :: S)))) : Go p.tables e below F (T.setTop (mkF m pc Ls (.int y :: .int x :: S))) := goS (fun t q => XS.idiv w.here w.exec rfl (w.bt hd) rfl hy q) nx
theorem g_ldiv (w : OW p l e R s m args below meth c Z a0 EL own nm bytes maxL ret wl h0 sf T h k n) {x y : Int64} (hd : decode bytes pc = .ok (.ldiv, 1)) (hy : y ≠ 0) (nx : Go p.tables e below F (T.setTop (mkF m (pc + 1) Ls (.long (x / y) :: S)))) : Go p.tables e below F (T.setTop (mkF m pc Ls (.long y :: .long x :: S))) := goS (fun t q => XS.ldiv w.here w.exec rfl (w.bt hd) rfl hy q) nx
theorem g_lrem (w : OW p l e R s m args below meth c Z a0 EL own nm bytes maxL ret wl h0 sf T h k n) {x y : Int64} (hd : decode bytes pc = .ok (.lrem, 1)) (hy : y ≠ 0) (nx : Go p.tables e below F (T.setTop (mkF m (pc + 1) Ls (.long (x - (x / y) * y) :: S)))) : Go p.tables e below F (T.setTop (mkF m pc Ls (.long y :: .long x :: S))) := goS (fun t q => XS.lrem w.here w.exec rfl (w.bt hd) rfl hy q) nx
theorem g_irem (w : OW p l e R s m args below meth c Z a0 EL own nm bytes maxL ret wl h0 sf T h k n) {x y : Int32} (hd : decode bytes pc = .ok (.irem, 1)) (hy : y ≠ 0) (nx : Go p.tables e below F (T.setTop (mkF m (pc + 1) Ls (.int (x % y) :: S)))) : Go p.tables e below F (T.setTop (mkF m pc Ls (.int y :: .int x :: S))) := by
  have hx := w.exec
  have hd' := w.bt hd
  obtain ⟨-, vm0, k0, L, X, -⟩ := w
  exact goS (fun t q => iremM X hx rfl hd' rfl hy q) nx
theorem g_ineg (w : OW p l e R s m args below meth c Z a0 EL own nm bytes maxL ret wl h0 sf T h k n) {x : Int32} (hd : decode bytes pc = .ok (.ineg, 1))  (nx : Go p.tables e below F (T.setTop (mkF m (pc + 1) Ls (.int (-x) :: S)))) : Go p.tables e below F (T.setTop (mkF m pc Ls (.int x :: S))) := goS (fun t q => XS.ineg w.here w.exec rfl (w.bt hd) rfl q) nx
theorem g_lneg (w : OW p l e R s m args below meth c Z a0 EL own nm bytes maxL ret wl h0 sf T h k n) {x : Int64} (hd : decode bytes pc = .ok (.lneg, 1))  (nx : Go p.tables e below F (T.setTop (mkF m (pc + 1) Ls (.long (-x) :: S)))) : Go p.tables e below F (T.setTop (mkF m pc Ls (.long x :: S))) := goS (fun t q => XS.lneg w.here w.exec rfl (w.bt hd) rfl q) nx
theorem g_i2l (w : OW p l e R s m args below meth c Z a0 EL own nm bytes maxL ret wl h0 sf T h k n) {x : Int32} (hd : decode bytes pc = .ok (.i2l, 1))  (nx : Go p.tables e below F (T.setTop (mkF m (pc + 1) Ls (.long (x.toInt64) :: S)))) : Go p.tables e below F (T.setTop (mkF m pc Ls (.int x :: S))) := goS (fun t q => XS.i2l w.here w.exec rfl (w.bt hd) rfl q) nx
theorem g_l2i (w : OW p l e R s m args below meth c Z a0 EL own nm bytes maxL ret wl h0 sf T h k n) {x : Int64} (hd : decode bytes pc = .ok (.l2i, 1))  (nx : Go p.tables e below F (T.setTop (mkF m (pc + 1) Ls (.int (x.toInt32) :: S)))) : Go p.tables e below F (T.setTop (mkF m pc Ls (.long x :: S))) := goS (fun t q => XS.l2i w.here w.exec rfl (w.bt hd) rfl q) nx
theorem g_i2b (w : OW p l e R s m args below meth c Z a0 EL own nm bytes maxL ret wl h0 sf T h k n) {x : Int32} (hd : decode bytes pc = .ok (.i2b, 1))  (nx : Go p.tables e below F (T.setTop (mkF m (pc + 1) Ls (.int (x.toInt8.toInt32) :: S)))) : Go p.tables e below F (T.setTop (mkF m pc Ls (.int x :: S))) := goS (fun t q => XS.i2b w.here w.exec rfl (w.bt hd) rfl q) nx
theorem g_i2c (w : OW p l e R s m args below meth c Z a0 EL own nm bytes maxL ret wl h0 sf T h k n) {x : Int32} (hd : decode bytes pc = .ok (.i2c, 1))  (nx : Go p.tables e below F (T.setTop (mkF m (pc + 1) Ls (.int (x.toUInt32.toUInt16.toUInt32.toInt32) :: S)))) : Go p.tables e below F (T.setTop (mkF m pc Ls (.int x :: S))) := goS (fun t q => XS.i2c w.here w.exec rfl (w.bt hd) rfl q) nx
theorem g_i2s (w : OW p l e R s m args below meth c Z a0 EL own nm bytes maxL ret wl h0 sf T h k n) {x : Int32} (hd : decode bytes pc = .ok (.i2s, 1))  (nx : Go p.tables e below F (T.setTop (mkF m (pc + 1) Ls (.int (x.toInt16.toInt32) :: S)))) : Go p.tables e below F (T.setTop (mkF m pc Ls (.int x :: S))) := goS (fun t q => XS.i2s w.here w.exec rfl (w.bt hd) rfl q) nx
theorem g_iinc (w : OW p l e R s m args below meth c Z a0 EL own nm bytes maxL ret wl h0 sf T h k n) {i : Nat} {cst : Int} {x z : Int32} {l' : Array Slot} (hd : decode bytes pc = .ok (.iinc i cst, 3)) (hl : Ls[i]? = some (.val (.int x))) (hz : x + Int32.ofInt cst = z) (hl' : storeLocals Ls i (.int z) = some l') (nx : Go p.tables e below F (T.setTop (mkF m (pc + 3) l' S))) : Go p.tables e below F (T.setTop (mkF m pc Ls S)) := goS (fun t q => XS.iinc w.here w.exec rfl (w.bt hd) hl (by rw [hz]; exact hl') q) nx
theorem g_pop (w : OW p l e R s m args below meth c Z a0 EL own nm bytes maxL ret wl h0 sf T h k n) {x : Value} (hd : decode bytes pc = .ok (.pop, 1)) (hc : x.category = 1) (nx : Go p.tables e below F (T.setTop (mkF m (pc + 1) Ls S))) : Go p.tables e below F (T.setTop (mkF m pc Ls (x :: S))) := goS (fun t q => XS.pop w.here w.exec rfl (w.bt hd) rfl hc q) nx
theorem g_dup (w : OW p l e R s m args below meth c Z a0 EL own nm bytes maxL ret wl h0 sf T h k n) {x : Value} (hd : decode bytes pc = .ok (.dup, 1)) (hc : x.category = 1) (nx : Go p.tables e below F (T.setTop (mkF m (pc + 1) Ls (x :: x :: S)))) : Go p.tables e below F (T.setTop (mkF m pc Ls (x :: S))) := goS (fun t q => XS.dup w.here w.exec rfl (w.bt hd) rfl hc q) nx
theorem g_dupX1 (w : OW p l e R s m args below meth c Z a0 EL own nm bytes maxL ret wl h0 sf T h k n) {x y : Value} (hd : decode bytes pc = .ok (.dup_x1, 1)) (hc : x.category = 1) (hc' : y.category = 1) (nx : Go p.tables e below F (T.setTop (mkF m (pc + 1) Ls (x :: y :: x :: S)))) : Go p.tables e below F (T.setTop (mkF m pc Ls (x :: y :: S))) := goS (fun t q => XS.dupX1 w.here w.exec rfl (w.bt hd) rfl hc hc' q) nx
theorem g_dup2 (w : OW p l e R s m args below meth c Z a0 EL own nm bytes maxL ret wl h0 sf T h k n) {x y : Value} (hd : decode bytes pc = .ok (.dup2, 1)) (hc : x.category = 1) (hc' : y.category = 1) (nx : Go p.tables e below F (T.setTop (mkF m (pc + 1) Ls (x :: y :: x :: y :: S)))) : Go p.tables e below F (T.setTop (mkF m pc Ls (x :: y :: S))) := goS (fun t q => Jvm.Free.XT.dup2 w.here w.exec rfl (w.bt hd) rfl hc hc' q) nx
theorem g_dup2L (w : OW p l e R s m args below meth c Z a0 EL own nm bytes maxL ret wl h0 sf T h k n) {x : Int64} (hd : decode bytes pc = .ok (.dup2, 1))  (nx : Go p.tables e below F (T.setTop (mkF m (pc + 1) Ls (.long x :: .long x :: S)))) : Go p.tables e below F (T.setTop (mkF m pc Ls (.long x :: S))) := goS (fun t q => Jvm.Free.XT.dup2L w.here w.exec rfl (w.bt hd) rfl q) nx
theorem g_goto (w : OW p l e R s m args below meth c Z a0 EL own nm bytes maxL ret wl h0 sf T h k n)  {o : Int} {pc' : Nat} (hd : decode bytes pc = .ok (.goto o, 3))  (ho : 0 ≤ (pc : Int) + o) (hp : ((pc : Int) + o).toNat = pc') (nx : Go p.tables e below F (T.setTop (mkF m pc' Ls S))) : Go p.tables e below F (T.setTop (mkF m pc Ls S)) := goS (fun t q => XS.goto w.here w.exec rfl rfl (w.bt hd) ho hp q) nx
theorem g_ifYes (w : OW p l e R s m args below meth c Z a0 EL own nm bytes maxL ret wl h0 sf T h k n) {cd : ClassFile.Cond} {x : Int32} {o : Int} {pc' : Nat} (hd : decode bytes pc = .ok (.ifCond cd o, 3)) (hc : ifCond.holds cd x = true) (ho : 0 ≤ (pc : Int) + o) (hp : ((pc : Int) + o).toNat = pc') (nx : Go p.tables e below F (T.setTop (mkF m pc' Ls S))) : Go p.tables e below F (T.setTop (mkF m pc Ls (.int x :: S))) := goS (fun t q => XS.ifYes w.here w.exec rfl rfl (w.bt hd) rfl hc ho hp q) nx
theorem g_ifNo (w : OW p l e R s m args below meth c Z a0 EL own nm bytes maxL ret wl h0 sf T h k n) {cd : ClassFile.Cond} {x : Int32} {o : Int} (hd : decode bytes pc = .ok (.ifCond cd o, 3)) (hc : ifCond.holds cd x = false) (nx : Go p.tables e below F (T.setTop (mkF m (pc + 3) Ls S))) : Go p.tables e below F (T.setTop (mkF m pc Ls (.int x :: S))) := goS (fun t q => XS.ifNo w.here w.exec rfl (w.bt hd) rfl hc q) nx
theorem g_icmpYes (w : OW p l e R s m args below meth c Z a0 EL own nm bytes maxL ret wl h0 sf T h k n) {cd : ClassFile.Cond} {x y : Int32} {o : Int} {pc' : Nat} (hd : decode bytes pc = .ok (.if_icmp cd o, 3)) (hc : if_icmp.holds cd x y = true) (ho : 0 ≤ (pc : Int) + o) (hp : ((pc : Int) + o).toNat = pc') (nx : Go p.tables e below F (T.setTop (mkF m pc' Ls S))) : Go p.tables e below F (T.setTop (mkF m pc Ls (.int y :: .int x :: S))) := goS (fun t q => XS.icmpYes w.here w.exec rfl rfl (w.bt hd) rfl hc ho hp q) nx
theorem g_icmpNo (w : OW p l e R s m args below meth c Z a0 EL own nm bytes maxL ret wl h0 sf T h k n) {cd : ClassFile.Cond} {x y : Int32} {o : Int} (hd : decode bytes pc = .ok (.if_icmp cd o, 3)) (hc : if_icmp.holds cd x y = false) (nx : Go p.tables e below F (T.setTop (mkF m (pc + 3) Ls S))) : Go p.tables e below F (T.setTop (mkF m pc Ls (.int y :: .int x :: S))) := goS (fun t q => XS.icmpNo w.here w.exec rfl (w.bt hd) rfl hc q) nx
theorem g_ifnullYes (w : OW p l e R s m args below meth c Z a0 EL own nm bytes maxL ret wl h0 sf T h k n)  {o : Int} {pc' : Nat} (hd : decode bytes pc = .ok (.ifnull o, 3))  (ho : 0 ≤ (pc : Int) + o) (hp : ((pc : Int) + o).toNat = pc') (nx : Go p.tables e below F (T.setTop (mkF m pc' Ls S))) : Go p.tables e below F (T.setTop (mkF m pc Ls (.null :: S))) := goS (fun t q => XS.ifnullYes w.here w.exec rfl rfl (w.bt hd) rfl ho hp q) nx
theorem g_ifnullNo (w : OW p l e R s m args below meth c Z a0 EL own nm bytes maxL ret wl h0 sf T h k n) {b : Addr} {o : Int} (hd : decode bytes pc = .ok (.ifnull o, 3))  (nx : Go p.tables e below F (T.setTop (mkF m (pc + 3) Ls S))) : Go p.tables e below F (T.setTop (mkF m pc Ls (.ref b :: S))) := goS (fun t q => XS.ifnullNo w.here w.exec rfl (w.bt hd) rfl q) nx
theorem g_ifnonnullYes (w : OW p l e R s m args below meth c Z a0 EL own nm bytes maxL ret wl h0 sf T h k n) {b : Addr} {o : Int} {pc' : Nat} (hd : decode bytes pc = .ok (.ifnonnull o, 3))  (ho : 0 ≤ (pc : Int) + o) (hp : ((pc : Int) + o).toNat = pc') (nx : Go p.tables e below F (T.setTop (mkF m pc' Ls S))) : Go p.tables e below F (T.setTop (mkF m pc Ls (.ref b :: S))) := goS (fun t q => XS.ifnonnullYes w.here w.exec rfl rfl (w.bt hd) rfl ho hp q) nx
theorem g_ifnonnullNo (w : OW p l e R s m args below meth c Z a0 EL own nm bytes maxL ret wl h0 sf T h k n) {o : Int} (hd : decode bytes pc = .ok (.ifnonnull o, 3))  (nx : Go p.tables e below F (T.setTop (mkF m (pc + 3) Ls S))) : Go p.tables e below F (T.setTop (mkF m pc Ls (.null :: S))) := goS (fun t q => XS.ifnonnullNo w.here w.exec rfl (w.bt hd) rfl q) nx
theorem g_acmp (w : OW p l e R s m args below meth c Z a0 EL own nm bytes maxL ret wl h0 sf T h k n) {cd : ACond} {o : Int} {x y : Value} {pc' : Nat} {same : Bool} (hd : decode bytes pc = .ok (.if_acmp cd o, 3)) (h1 : x.isRef = true) (h2 : y.isRef = true) (hq : decide (x = y) = same) (ho : 0 ≤ (pc : Int) + o) (hp : pc' = if acV cd same = true then ((pc : Int) + o).toNat else pc + 3) (nx : Go p.tables e below F (T.setTop (mkF m pc' Ls S))) : Go p.tables e below F (T.setTop (mkF m pc Ls (y :: x :: S))) := by
  have hx := w.exec
  have hd' := w.bt hd
  obtain ⟨-, vm0, k0, L, X, -⟩ := w
  exact goS (fun t q => acmp X hx rfl h1 h2 rfl hd' rfl hq ho hp q) nx

theorem narrow_refv {t : FieldType} {v : Value} (ht : t.isReference = true) (hv : v.isRef = true) : narrow t v = v := by cases t <;> first | (cases ht; done) | (cases v <;> first | rfl | (cases hv; done))
theorem fits_refv {t : FieldType} {v : Value} (ht : t.isReference = true) (hv : v.isRef = true) : fits t v = true := by cases t <;> first | (cases ht; done) | (cases v <;> first | rfl | (cases hv; done))
/-! arrays, whole -/
def AR (Z : State) (h : Heap) (a : Addr) (ty : FieldType) (vs : List Value) : Prop := ∃ c : Cell, Arr Z h a c ty ∧ c.slots.toList = vs ∧ vs.length < 2147483648 ∧ ∀ v ∈ vs, fits ty v = true
abbrev AI (Z : State) (h : Heap) (a : Addr) (ty : FieldType) (xs : List Int32) : Prop := AR Z h a ty (xs.map Value.int)
theorem AR.ext {a : Addr} {ty : FieldType} {vs : List Value} {h' : Heap} (A : AR Z h a ty vs) (E : Ext h h') : AR Z h' a ty vs := by obtain ⟨c, A, r⟩ := A; exact ⟨c, A.ext E, r⟩
theorem AR.keep {a : Addr} {ty : FieldType} {vs : List Value} {h' : Heap} {ws : List Addr} (A : AR Z h a ty vs) (K : Keep h h' ws) (q : a ∉ ws) : AR Z h' a ty vs := by obtain ⟨c, A, r⟩ := A; exact ⟨c, ⟨K.2.1 a c A.1 q, A.2⟩, r⟩
theorem AR.other {a b : Addr} {ty : FieldType} {vs : List Value} {h' : Heap} {sl : Nat} {v : Value} (A : AR Z h b ty vs) (W : Wr h h' a sl v) (q : b ≠ a) : AR Z h' b ty vs := by obtain ⟨c, A, r⟩ := A; exact ⟨c, A.other W q, r⟩
theorem AR.lt {a : Addr} {ty : FieldType} {vs : List Value} (A : AR Z h a ty vs) : a < h.size := by obtain ⟨c, A, -⟩ := A; exact A.lt
theorem AR.len {a : Addr} {ty : FieldType} {vs : List Value} (A : AR Z h a ty vs) : vs.length < 2147483648 := by obtain ⟨c, -, -, r, -⟩ := A; exact r
theorem AR.fit {a : Addr} {ty : FieldType} {vs : List Value} (A : AR Z h a ty vs) : ∀ v ∈ vs, fits ty v = true := by obtain ⟨c, -, -, -, r⟩ := A; exact r
theorem AR.of_new {a : Addr} {ty : FieldType} {cA : ClassId} {z : Int32} (A : Arr Z h a (newA cA ty z) ty) (hz : ¬ z < 0) (hf : fits ty (defaultValue ty) = true) : AR Z h a ty (List.replicate z.toNatClampNeg (defaultValue ty)) := by
  refine ⟨_, A, ?_, ?_, ?_⟩
  · simp [newA]
  · have := (back32 hz).2; simp; omega
  · intro v hv; rw [List.eq_of_mem_replicate hv]; exact hf
theorem AR.of_arv {a : Addr} {ty : FieldType} {kk : ClassId} {z : Int32} {vs : List Value} {d : Value} (A : Arv Z h a kk ty z vs d) (hl : z.toNatClampNeg = vs.length) : AR Z h a ty vs := by
  obtain ⟨c, A, -, S, N, H, G⟩ := A
  have hs : c.slots.toList = vs := by
    apply List.ext_getElem?
    intro i
    rw [Array.getElem?_toList]
    by_cases hi : i < c.slots.size
    · rw [H i hi]
      have : i < vs.length := by omega
      simp [List.getD_eq_getElem?_getD, List.getElem?_eq_getElem this]
    · rw [Array.getElem?_eq_none (by omega), List.getElem?_eq_none (by omega)]
  refine ⟨c, A, hs, ?_, ?_⟩
  · have := (back32 N).2; omega
  · intro v hv
    obtain ⟨i, hi, rfl⟩ := List.mem_iff_getElem.mp hv
    have q := G i (by omega)
    rwa [List.getD_eq_getElem?_getD, List.getElem?_eq_getElem hi, Option.getD_some] at q
/-- an index inside -/
theorem idx_ok {j : Int32} {N : Nat} {c : Cell} {vs : List Value} (hc : c.slots.toList = vs) (h1 : ¬ j < 0) (h2 : j.toNatClampNeg < vs.length) : ¬ (j < 0 ∨ c.slots.size ≤ j.toNatClampNeg) := by
  have : c.slots.size = vs.length := by rw [← hc]; simp
  rintro (q | q)
  · exact h1 q
  · omega
theorem AR.set {a : Addr} {ty : FieldType} {vs : List Value} {h' : Heap} {i : Nat} {v : Value} (A : AR Z h a ty vs) (W : Wr h h' a i v) (hv : fits ty v = true) : AR Z h' a ty (vs.set i v) := by
  obtain ⟨c, A, hc, hl, hf⟩ := A
  refine ⟨_, A.same W, ?_, by simpa using hl, fun u hu => ?_⟩
  · subst hc; simp [Cell.setSlot]
  · rcases List.mem_or_eq_of_mem_set hu with q | q
    · exact hf u q
    · rw [q]; exact hv
/-! heap steps -/
theorem g_getF (w : OW p l e R s m args below meth c Z a0 EL own nm bytes maxL ret wl h0 sf T h k n) {R0 O f d host : String} {index : Nat} {a : Addr} {v : Value} (lk : (Cond.fieldLink own index R0 f d).before a0 Z = true ∨ (Cond.fieldLinkNest own index R0 f d host).before a0 Z = true) (via : Via Z R0 O f d) (FF : Fld Z h a O f d v)
    (hd : decode bytes pc = .ok (.getfield index, 3)) (nx : ∀ T' : State, OW p l e R s m args below meth c Z a0 EL own nm bytes maxL ret wl h0 sf T' h k n → Go p.tables e below F (T'.setTop (mkF m (pc + 3) Ls (v :: S)))) : Go p.tables e below F (T.setTop (mkF m pc Ls (.ref a :: S))) := by
  obtain ⟨w0, vm0, k0, L, X, g1, g2, g3, g4, g5, g6⟩ := w
  obtain ⟨T', X', e', st⟩ := getF X w0.1 g4 g5 lk via g1 FF (g := mkF m pc Ls (.ref a :: S)) rfl rfl (hb w0.2.1 hd)
  exact goS st (nx T' ⟨w0, vm0, k0, L, X', e', g2, g3, g4, g5, g6⟩)
theorem g_getS (w : OW p l e R s m args below meth c Z a0 EL own nm bytes maxL ret wl h0 sf T h k n) {R0 O f d host : String} {index : Nat} {v : Value} (lk : (Cond.fieldLink own index R0 f d).before a0 Z = true ∨ (Cond.fieldLinkNest own index R0 f d host).before a0 Z = true) (via : Via Z R0 O f d) (FF : Sta Z Z.heap O f d v)
    (hd : decode bytes pc = .ok (.getstatic index, 3)) (nx : ∀ T' : State, OW p l e R s m args below meth c Z a0 EL own nm bytes maxL ret wl h0 sf T' h k n → Go p.tables e below F (T'.setTop (mkF m (pc + 3) Ls (v :: S)))) : Go p.tables e below F (T.setTop (mkF m pc Ls S)) := by
  obtain ⟨w0, vm0, k0, L, X, g1, g2, g3, g4, g5, g6⟩ := w
  obtain ⟨T', X', e', st⟩ := getS2 X w0.1 g4 g5 lk via g1 (FF.ext g6.2.2.2.1) (g := mkF m pc Ls S) rfl (hb w0.2.1 hd)
  exact goS st (nx T' ⟨w0, vm0, k0, L, X', e', g2, g3, g4, g5, g6⟩)
theorem OW.wrote {T' : State} {h' : Heap} {a : Addr} {sl : Nat} {v : Value} (w0 : Cx p meth c Z a0 EL nm bytes maxL ret wl h0) {vm0 : Vm} {k0 : Nat} {L : List Loc} (X : Stand p l e R (s.setVm vm0) m args below meth c T' (L ++ [⟨a, sl⟩]) k n) (e1 : T'.heap = h') (W : Wr h h' a sl v)
    (g2 : s.Since vm0 k0) (g3 : k0 ≤ h.size) (g4 : Z.Warmed39 vm0) (g5 : vm0.findClass own = some m.cls) (g6 : ∀ y ∈ L, y.base ∈ wl ∨ h0.size ≤ y.base) (g7 : Keep h0 h wl) (g8 : CHr Z EL s.vm h0 vm0 h) (gE : Ext Z.heap h) (g9 : ∀ x ∈ sf, x < h.size ∧ Safe Z EL vm0 h x) (ha : a ∈ wl ∨ h0.size ≤ a) (hs : a ∈ sf) :
    OW p l e R s m args below meth c Z a0 EL own nm bytes maxL ret wl h0 sf T' h' k n := by
  have hw := W.size
  refine ⟨w0, vm0, k0, _, X, e1, g2, by rw [hw]; exact g3, g4, g5, ?_, g7.wr W ha, g8.trans (CHr.wr W (g9 a hs).2 g8.1), extKeep gE (Keep.of_wr W) (allS (w0.ge ha) all0), fun x hx => ⟨by rw [hw]; exact (g9 x hx).1, Safe.wr W (g9 a hs).2 g8.1 (g9 x hx).2⟩⟩
  intro y hy
  rcases List.mem_append.mp hy with q | q
  · exact g6 y q
  · cases List.mem_singleton.mp q; exact ha
theorem g_putF (w : OW p l e R s m args below meth c Z a0 EL own nm bytes maxL ret wl h0 sf T h k n) {R0 O f d host C : String} {index kk : Nat} {ty : FieldType} {a : Addr} {v old : Value} (lk : (Cond.fieldLink own index R0 f d).before a0 Z = true ∨ (Cond.fieldLinkNest own index R0 f d host).before a0 Z = true) (via : Via Z R0 O f d) (FF : Fld Z h a O f d old) (E : Exa Z h a C)
    (La : (Cond.lays C O f d).before a0 Z = true ∨ ((Cond.laysFinal C O f d).before a0 Z = true ∧ own = O ∧ nm = "<init>")) (wi : (Cond.instantiable C kk).before a0 Z = true) (hty : parseFieldDescriptor d = some ty) (hn : narrow ty v = v) (hf : fits ty v = true) (ha : a ∈ wl ∨ h0.size ≤ a) (hs : a ∈ sf)
    (hd : decode bytes pc = .ok (.putfield index, 3)) (nx : ∀ (T' : State) (h' : Heap), OW p l e R s m args below meth c Z a0 EL own nm bytes maxL ret wl h0 sf T' h' k n → Wr h h' a (slotOf Z O f d) v → Go p.tables e below F (T'.setTop (mkF m (pc + 3) Ls S))) : Go p.tables e below F (T.setTop (mkF m pc Ls (v :: .ref a :: S))) := by
  obtain ⟨w0, vm0, k0, L, X, g1, g2, g3, g4, g5, g6, g7, g8, gE, g9⟩ := w
  obtain ⟨T', h', X', e', W, st⟩ := putF X w0.1 g4 g5 lk via g1 FF E (La.imp id fun q => ⟨q.1, q.2.1, w0.2.2.2.2.2.1.trans q.2.2⟩) wi hty hn hf (g := mkF m pc Ls (v :: .ref a :: S)) rfl rfl (hb w0.2.1 hd)
  exact goS st (nx T' h' (OW.wrote w0 X' e' W g2 g3 g4 g5 g6 g7 g8 gE g9 ha hs) W)
theorem g_new (w : OW p l e R s m args below meth c Z a0 EL own nm bytes maxL ret wl h0 sf T h k n) {C : String} {index sz : Nat} (w1 : (Cond.classLink own index C).before a0 Z = true) (wi : (Cond.instantiable C sz).before a0 Z = true) (wz : (Cond.initialized C).before a0 Z = true) (hc : k + 1 ≤ R.cells) (hl : n + sz ≤ R.slots)
    (hd : decode bytes pc = .ok (.new index, 3)) (nx : ∀ (T' : State) (h' : Heap) (b : Addr), OW p l e R s m args below meth c Z a0 EL own nm bytes maxL ret wl h0 (b :: sf) T' h' (k + 1) (n + sz) → b = h.size → h0.size ≤ b → Ext h h' → Exa Z h' b C → (∀ {O f d : String} {ty : FieldType}, Laid Z a0 C O f d → parseFieldDescriptor d = some ty → Fld Z h' b O f d (defaultValue ty)) → Go p.tables e below F (T'.setTop (mkF m (pc + 3) Ls (.ref b :: S)))) : Go p.tables e below F (T.setTop (mkF m pc Ls S)) := by
  obtain ⟨w0, vm0, k0, L, X, g1, g2, g3, g4, g5, g6, g7, g8, gE, g9⟩ := w
  obtain ⟨T', h', X', e', E, A, D, ⟨cell, hcell, -⟩, st⟩ := newO X w0.1 g4 g5 w1 wi wz g1 (g := mkF m pc Ls S) rfl (hb w0.2.1 hd) hc hl
  refine goS st (nx T' h' h.size ⟨w0, vm0, k0, L, X', e', g2, Nat.le_trans g3 E.1, g4, g5, g6, g7.ext E, g8.trans (CHr.ext E g8.1), extExt gE E, fun x hx => ?_⟩ rfl g7.1 E A D)
  rcases List.mem_cons.mp hx with rfl | hx
  · exact ⟨(Array.getElem?_eq_some_iff.mp hcell).1, (Safe.new (Nat.le_refl _)).ext E g8.1⟩
  · exact ⟨Nat.lt_of_lt_of_le (g9 x hx).1 E.1, (g9 x hx).2.ext E g8.1⟩
theorem g_newP (w : OW p l e R s m args below meth c Z a0 EL own nm bytes maxL ret wl h0 sf T h k n) {aty : ArrayType} {z : Int32} {cap : Nat} (w1 : (Cond.arrayClass (newarray.typeOf aty)).before a0 Z = true) (hz : ¬ z < 0) (hcap : z.toNatClampNeg ≤ cap) (hcb : cap * 8 ≤ 536870912) (hc : k + 1 ≤ R.cells) (hl : n + cap ≤ R.slots)
    (hd : decode bytes pc = .ok (.newarray aty, 2)) (nx : ∀ (T' : State) (h' : Heap) (b : Addr), OW p l e R s m args below meth c Z a0 EL own nm bytes maxL ret wl h0 (b :: sf) T' h' (k + 1) (n + cap) → b = h.size → h0.size ≤ b → Ext h h' → AR Z h' b (newarray.typeOf aty) (List.replicate z.toNatClampNeg (defaultValue (newarray.typeOf aty))) → Go p.tables e below F (T'.setTop (mkF m (pc + 2) Ls (.ref b :: S)))) : Go p.tables e below F (T.setTop (mkF m pc Ls (.int z :: S))) := by
  obtain ⟨w0, vm0, k0, L, X, g1, g2, g3, g4, g5, g6, g7, g8, gE, g9⟩ := w
  obtain ⟨T', h', cA, X', e', E, A, st⟩ := newP X w0.1 g4 w1 g1 (g := mkF m pc Ls (.int z :: S)) rfl (hb w0.2.1 hd) rfl hz hcap hcb hc hl
  refine goS st (nx T' h' h.size ⟨w0, vm0, k0, L, X', e', g2, Nat.le_trans g3 E.1, g4, g5, g6, g7.ext E, g8.trans (CHr.ext E g8.1), extExt gE E, fun x hx => ?_⟩ rfl g7.1 E (AR.of_new A hz (by cases aty <;> rfl)))
  rcases List.mem_cons.mp hx with rfl | hx
  · exact ⟨A.lt, (Safe.new (Nat.le_refl _)).ext E g8.1⟩
  · exact ⟨Nat.lt_of_lt_of_le (g9 x hx).1 E.1, (g9 x hx).2.ext E g8.1⟩
theorem g_alen (w : OW p l e R s m args below meth c Z a0 EL own nm bytes maxL ret wl h0 sf T h k n) {a : Addr} {ty : FieldType} {vs : List Value} (A : AR Z h a ty vs) (hd : decode bytes pc = .ok (.arraylength, 1)) (nx : Go p.tables e below F (T.setTop (mkF m (pc + 1) Ls (.int vs.length.toInt32 :: S)))) : Go p.tables e below F (T.setTop (mkF m pc Ls (.ref a :: S))) := by
  obtain ⟨w0, vm0, k0, L, X, g1, g2, g3, g4, g5, g6⟩ := w
  obtain ⟨c', A, hc, -⟩ := A
  have hl : c'.slots.size = vs.length := by rw [← hc]; simp
  refine goS (fun t q => X.arraylength w0.1 (by rw [g1]; exact A.1) (State.isArrayOf_alike (T := s.setVm vm0) g4.alike A.2.1) (g := mkF m pc Ls (.ref a :: S)) rfl rfl (hb w0.2.1 hd) t q) ?_
  show Go p.tables e below F (T.setTop (mkF m (pc + 1) Ls (.int c'.slots.size.toInt32 :: S)))
  rw [hl]; exact nx
theorem g_caload (w : OW p l e R s m args below meth c Z a0 EL own nm bytes maxL ret wl h0 sf T h k n) {a : Addr} {vs : List Value} {j : Int32} {v : Value} (A : AR Z h a .char vs) (hj : ¬ j < 0) (hv : vs[j.toNatClampNeg]? = some v) (hd : decode bytes pc = .ok (.caload, 1)) (nx : Go p.tables e below F (T.setTop (mkF m (pc + 1) Ls (v :: S)))) : Go p.tables e below F (T.setTop (mkF m pc Ls (.int j :: .ref a :: S))) := by
  obtain ⟨w0, vm0, k0, L, X, g1, g2, g3, g4, g5, g6⟩ := w
  obtain ⟨c', A, hc, -⟩ := A
  exact goS (fun t q => X.caload w0.1 (by rw [g1]; exact A.1) (State.isArrayOf_alike (T := s.setVm vm0) g4.alike A.2.1) A.2.2 (idx_ok (N := 0) hc hj (List.getElem?_eq_some_iff.mp hv).1) (by rw [← Array.getElem?_toList, hc]; exact hv) (g := mkF m pc Ls (.int j :: .ref a :: S)) rfl rfl (hb w0.2.1 hd) t q) nx
theorem g_baload (w : OW p l e R s m args below meth c Z a0 EL own nm bytes maxL ret wl h0 sf T h k n) {a : Addr} {vs : List Value} {j : Int32} {v : Value} (A : AR Z h a .byte vs) (hj : ¬ j < 0) (hv : vs[j.toNatClampNeg]? = some v) (hd : decode bytes pc = .ok (.baload, 1)) (nx : Go p.tables e below F (T.setTop (mkF m (pc + 1) Ls (v :: S)))) : Go p.tables e below F (T.setTop (mkF m pc Ls (.int j :: .ref a :: S))) := by
  obtain ⟨w0, vm0, k0, L, X, g1, g2, g3, g4, g5, g6⟩ := w
  obtain ⟨c', A, hc, -⟩ := A
  exact goS (fun t q => X.baloadBytes w0.1 (by rw [g1]; exact A.1) (State.isArrayOf_alike (T := s.setVm vm0) g4.alike A.2.1) A.2.2 (idx_ok (N := 0) hc hj (List.getElem?_eq_some_iff.mp hv).1) (by rw [← Array.getElem?_toList, hc]; exact hv) (g := mkF m pc Ls (.int j :: .ref a :: S)) rfl rfl (hb w0.2.1 hd) t q) nx
theorem g_castore (w : OW p l e R s m args below meth c Z a0 EL own nm bytes maxL ret wl h0 sf T h k n) {a : Addr} {vs : List Value} {j x : Int32} (A : AR Z h a .char vs) (hj : ¬ j < 0) (hi : j.toNatClampNeg < vs.length) (ha : a ∈ wl ∨ h0.size ≤ a) (hs : a ∈ sf) (hd : decode bytes pc = .ok (.castore, 1))
    (nx : ∀ (T' : State) (h' : Heap), OW p l e R s m args below meth c Z a0 EL own nm bytes maxL ret wl h0 sf T' h' k n → Wr h h' a j.toNatClampNeg (.int (nar .char x)) → AR Z h' a .char (vs.set j.toNatClampNeg (.int (nar .char x))) → Go p.tables e below F (T'.setTop (mkF m (pc + 1) Ls S))) : Go p.tables e below F (T.setTop (mkF m pc Ls (.int x :: .int j :: .ref a :: S))) := by
  obtain ⟨w0, vm0, k0, L, X, g1, g2, g3, g4, g5, g6, g7, g8, gE, g9⟩ := w
  have A0 := A
  obtain ⟨c', A, hc, -⟩ := A
  obtain ⟨T', h', X', e', W, st⟩ := stC X w0.1 g4 g1 A (idx_ok (N := 0) hc hj hi) (g := mkF m pc Ls (.int x :: .int j :: .ref a :: S)) rfl rfl (hb w0.2.1 hd)
  exact goS st (nx T' h' (OW.wrote w0 X' e' W g2 g3 g4 g5 g6 g7 g8 gE g9 ha hs) W (A0.set W (fits_nar_char _)))
theorem g_bastore (w : OW p l e R s m args below meth c Z a0 EL own nm bytes maxL ret wl h0 sf T h k n) {a : Addr} {vs : List Value} {j x : Int32} (A : AR Z h a .byte vs) (hj : ¬ j < 0) (hi : j.toNatClampNeg < vs.length) (ha : a ∈ wl ∨ h0.size ≤ a) (hs : a ∈ sf) (hd : decode bytes pc = .ok (.bastore, 1))
    (nx : ∀ (T' : State) (h' : Heap), OW p l e R s m args below meth c Z a0 EL own nm bytes maxL ret wl h0 sf T' h' k n → Wr h h' a j.toNatClampNeg (.int x.toInt8.toInt32) → AR Z h' a .byte (vs.set j.toNatClampNeg (.int x.toInt8.toInt32)) → Go p.tables e below F (T'.setTop (mkF m (pc + 1) Ls S))) : Go p.tables e below F (T.setTop (mkF m pc Ls (.int x :: .int j :: .ref a :: S))) := by
  obtain ⟨w0, vm0, k0, L, X, g1, g2, g3, g4, g5, g6, g7, g8, gE, g9⟩ := w
  have A0 := A
  obtain ⟨c', A, hc, -⟩ := A
  obtain ⟨T', h', X', e', W, st⟩ := stB X w0.1 g4 g1 A (idx_ok (N := 0) hc hj hi) (g := mkF m pc Ls (.int x :: .int j :: .ref a :: S)) rfl rfl (hb w0.2.1 hd)
  exact goS st (nx T' h' (OW.wrote w0 X' e' W g2 g3 g4 g5 g6 g7 g8 gE g9 ha hs) W (A0.set W (fits_nar_byte _)))
theorem g_ldcO (w : OW p l e R s m args below meth c Z a0 EL own nm bytes maxL ret wl h0 sf T h k n) {text : String} {index sz : Nat} (w1 : (Cond.stringLink own index text).before a0 Z = true) (wS : ∀ a ∈ Bundle.stringAtoms, a.before a0 Z = true) (hn : 4 * text.toList.length ≤ sz) (hbig : sz ≤ 536870912) (hc : k + 2 ≤ R.cells) (hl : n + (sz + 4) ≤ R.slots)
    (hd : decode bytes pc = .ok (.ldc index, 2)) (nx : ∀ (T' : State) (h' : Heap) (b : Addr), OW p l e R s m args below meth c Z a0 EL own nm bytes maxL ret wl h0 sf T' h' (k + 2) (n + (sz + 4)) → Ext h h' → Go p.tables e below F (T'.setTop (mkF m (pc + 2) Ls (.ref b :: S)))) : Go p.tables e below F (T.setTop (mkF m pc Ls S)) := by
  obtain ⟨w0, vm0, k0, L, X, g1, g2, g3, g4, g5, g6, g7, g8, gE, g9⟩ := w
  obtain ⟨b, T', h', k1, X', e', E, hS, hk, hZ, ho, hC, -, st⟩ := ldcOH X w0.1 g4 g5 w1 wS g1 g2 g3 w0.ew g8.1 (g := mkF m pc Ls S) rfl (hb w0.2.1 hd) hn hbig hc hl
  exact goS st (nx T' h' b ⟨w0, T'.vm, k1, L, X', e', hS, hk, hZ, ho, g6, g7.ext E, g8.trans hC, extExt gE E, fun x hx => ⟨Nat.lt_of_lt_of_le (g9 x hx).1 E.1, hC.safe (g9 x hx).1 (g9 x hx).2⟩⟩ E)
/-- a literal of EL, its text read -/
theorem g_ldcR (w : OW p l e R s m args below meth c Z a0 EL own nm bytes maxL ret wl h0 sf T h k n) {text : String} {index sz : Nat} {vs : List Value} {z : Int32} (w1 : (Cond.stringLink own index text).before a0 Z = true) (wS : ∀ a ∈ Bundle.stringAtoms, a.before a0 Z = true) (hm : (own, index) ∈ EL) (ht : (∀ c ∈ text.toList, c.toNat < 256) ∧ text.toList.map (fun c => Value.int (Jvm.Lit.byteI c.toNat.toUInt16)) = vs) (hz : ¬ z < 0) (hzl : z.toNatClampNeg = vs.length)
    (hn : 4 * text.toList.length ≤ sz) (hbig : sz ≤ 536870912) (hc : k + 2 ≤ R.cells) (hl : n + (sz + 4) ≤ R.slots)
    (hd : decode bytes pc = .ok (.ldc index, 2)) (nx : ∀ (T' : State) (h' : Heap) (b t : Addr), OW p l e R s m args below meth c Z a0 EL own nm bytes maxL ret wl h0 sf T' h' (k + 2) (n + (sz + 4)) → Ext h h' → Exa Z h' b "java/lang/String" → Fld Z h' b "java/lang/String" "coder" "B" (.int 0) → Fld Z h' b "java/lang/String" "value" "[B" (.ref t) → AR Z h' t .byte vs → (∀ x ∈ sf, x ≠ b ∧ x ≠ t) → Go p.tables e below F (T'.setTop (mkF m (pc + 2) Ls (.ref b :: S)))) : Go p.tables e below F (T.setTop (mkF m pc Ls S)) := by
  obtain ⟨w0, vm0, k0, L, X, g1, g2, g3, g4, g5, g6, g7, g8, gE, g9⟩ := w
  obtain ⟨b, T', h', k1, t, kc, X', e', E, hS, hk, hZ, ho, q1, q2, q3, q4, -, -, hC, -, hne, st⟩ := ldcCH X w0.1 g4 g5 w1 wS g1 g2 g3 w0.ew hm g8.1 ht hz hzl (g := mkF m pc Ls S) rfl (hb w0.2.1 hd) hn hbig hc hl
  have hs' : ∀ x ∈ sf, x < h'.size ∧ Safe Z EL T'.vm h' x := fun x hx => ⟨Nat.lt_of_lt_of_le (g9 x hx).1 E.1, hC.safe (g9 x hx).1 (g9 x hx).2⟩
  exact goS st (nx T' h' b t ⟨w0, T'.vm, k1, L, X', e', hS, hk, hZ, ho, g6, g7.ext E, g8.trans hC, extExt gE E, hs'⟩ E q1 q2 q3 (AR.of_arv q4 hzl) fun x hx => hne x (hs' x hx).2)
theorem g_initO (w : OW p l e R s m args below meth c Z a0 EL own nm bytes maxL ret wl h0 sf T h k n) {idx : Nat} {a : Addr} (w1 : (Cond.methodLink own idx Lib.objectInit).before a0 Z = true) (w2 : (Cond.instanceMethod Lib.objectInit).before a0 Z = true) (w3 : (Cond.code Lib.objectInit ⟨#[0xb1]⟩ 1 none).before a0 Z = true) (hsz : Ls.size = maxL) (hf : 1 ≤ R.frames) {W : Nat} (hW : (S.map fun v => v.category).sum ≤ W) (hlo : W + 12 ≤ R.locals)
    (hd : decode bytes pc = .ok (.invokespecial idx, 3)) (nx : ∀ T' : State, OW p l e R s m args below meth c Z a0 EL own nm bytes maxL ret wl h0 sf T' h k n → Go p.tables e below F (T'.setTop (mkF m (pc + 3) Ls S))) : Go p.tables e below F (T.setTop (mkF m pc Ls (.ref a :: S))) := by
  obtain ⟨w0, vm0, k0, L, X, g1, g2, g3, g4, g5, g6⟩ := w
  obtain ⟨T', X', e', st⟩ := initO X w0.1 g4 g5 w1 w2 w3 g1 (g := mkF m pc Ls (.ref a :: S)) rfl (by rw [w0.2.2.1]; exact hsz) rfl (hb w0.2.1 hd) hf (W := W) (by show 2 * 0 + _ ≤ _; omega) hlo
  exact goS st (nx T' ⟨w0, vm0, k0, L, X', e', g2, g3, g4, g5, g6⟩)
theorem g_ldcI (w : OW p l e R s m args below meth c Z a0 EL own nm bytes maxL ret wl h0 sf T h k n) {index : Nat} {v : Int32} (w1 : (Cond.constant own index v).before a0 Z = true) (hd : decode bytes pc = .ok (.ldc index, 2)) (nx : Go p.tables e below F (T.setTop (mkF m (pc + 2) Ls (.int v :: S)))) : Go p.tables e below F (T.setTop (mkF m pc Ls S)) := by
  obtain ⟨w0, vm0, k0, L, X, g1, g2, g3, g4, g5, g6⟩ := w
  exact goS (fun t q => X.ldcInt w0.1 (own := own) g5 (mvT g4 w1) (g := mkF m pc Ls S) rfl (hb w0.2.1 hd) t q) nx
theorem g_ldcwI (w : OW p l e R s m args below meth c Z a0 EL own nm bytes maxL ret wl h0 sf T h k n) {index : Nat} {v : Int32} (w1 : (Cond.constant own index v).before a0 Z = true) (hd : decode bytes pc = .ok (.ldc_w index, 3)) (nx : Go p.tables e below F (T.setTop (mkF m (pc + 3) Ls (.int v :: S)))) : Go p.tables e below F (T.setTop (mkF m pc Ls S)) := by
  obtain ⟨w0, vm0, k0, L, X, g1, g2, g3, g4, g5, g6⟩ := w
  exact goS (fun t q => X.ldcwInt w0.1 (own := own) g5 (mvT g4 w1) (g := mkF m pc Ls S) rfl (hb w0.2.1 hd) t q) nx
theorem g_ldc2L (w : OW p l e R s m args below meth c Z a0 EL own nm bytes maxL ret wl h0 sf T h k n) {index : Nat} {v : Int64} (w1 : (Cond.constantLong own index v).before a0 Z = true) (hd : decode bytes pc = .ok (.ldc2_w index, 3)) (nx : Go p.tables e below F (T.setTop (mkF m (pc + 3) Ls (.long v :: S)))) : Go p.tables e below F (T.setTop (mkF m pc Ls S)) := by
  obtain ⟨w0, vm0, k0, L, X, g1, g2, g3, g4, g5, g6⟩ := w
  exact goS (fun t q => X.ldc2Long w0.1 (own := own) g5 (mvT g4 w1) (g := mkF m pc Ls S) rfl (hb w0.2.1 hd) t q) nx
theorem g_castY (w : OW p l e R s m args below meth c Z a0 EL own nm bytes maxL ret wl h0 sf T h k n) {K : String} {index : Nat} {a : Addr} (w1 : (Cond.classLink own index K).before a0 Z = true) (I : Ins Z h a K true) (hd : decode bytes pc = .ok (.checkcast index, 3)) (nx : ∀ T' : State, OW p l e R s m args below meth c Z a0 EL own nm bytes maxL ret wl h0 sf T' h k n → Go p.tables e below F (T'.setTop (mkF m (pc + 3) Ls (.ref a :: S)))) : Go p.tables e below F (T.setTop (mkF m pc Ls (.ref a :: S))) := by
  obtain ⟨w0, vm0, k0, L, X, g1, g2, g3, g4, g5, g6⟩ := w
  obtain ⟨T', X', e', st⟩ := castY X w0.1 g4 g5 w1 g1 I (g := mkF m pc Ls (.ref a :: S)) rfl rfl (hb w0.2.1 hd)
  exact goS st (nx T' ⟨w0, vm0, k0, L, X', e', g2, g3, g4, g5, g6⟩)
theorem g_instY (w : OW p l e R s m args below meth c Z a0 EL own nm bytes maxL ret wl h0 sf T h k n) {K : String} {index : Nat} {a : Addr} (w1 : (Cond.classLink own index K).before a0 Z = true) (I : Ins Z h a K true) (hd : decode bytes pc = .ok (.instanceof index, 3)) (nx : ∀ T' : State, OW p l e R s m args below meth c Z a0 EL own nm bytes maxL ret wl h0 sf T' h k n → Go p.tables e below F (T'.setTop (mkF m (pc + 3) Ls (.int 1 :: S)))) : Go p.tables e below F (T.setTop (mkF m pc Ls (.ref a :: S))) := by
  obtain ⟨w0, vm0, k0, L, X, g1, g2, g3, g4, g5, g6⟩ := w
  obtain ⟨T', X', e', st⟩ := instY X w0.1 g4 g5 w1 g1 I (g := mkF m pc Ls (.ref a :: S)) rfl rfl (hb w0.2.1 hd)
  exact goS st (nx T' ⟨w0, vm0, k0, L, X', e', g2, g3, g4, g5, g6⟩)
theorem g_instNo (w : OW p l e R s m args below meth c Z a0 EL own nm bytes maxL ret wl h0 sf T h k n) {K C : String} {index : Nat} {a : Addr} (w1 : (Cond.classLink own index K).before a0 Z = true) (E : Exa Z h a C) (N : ∃ c t, Z.vm.findClass C = some c ∧ Z.vm.findClass K = some t ∧ Z.vm.assignable c t = false) (hd : decode bytes pc = .ok (.instanceof index, 3)) (nx : ∀ T' : State, OW p l e R s m args below meth c Z a0 EL own nm bytes maxL ret wl h0 sf T' h k n → Go p.tables e below F (T'.setTop (mkF m (pc + 3) Ls (.int 0 :: S)))) : Go p.tables e below F (T.setTop (mkF m pc Ls (.ref a :: S))) := by
  obtain ⟨w0, vm0, k0, L, X, g1, g2, g3, g4, g5, g6⟩ := w
  obtain ⟨T', X', e', st⟩ := instNo X w0.1 g4 g5 w1 g1 E N (g := mkF m pc Ls (.ref a :: S)) rfl rfl (hb w0.2.1 hd)
  exact goS st (nx T' ⟨w0, vm0, k0, L, X', e', g2, g3, g4, g5, g6⟩)
/-! calls -/
theorem Con.back {y : MethodName} {by' : ByteArray} {mx : Nat} {rt : Option FieldType} {rm : Room} {len W : Nat} {as' : Array Value} {Q : Option Value → Heap → List Addr → Prop} {vm0 : Vm} {sf' wl' : List Addr}
    (hM : Con l Z a0 EL y by' mx rt rm as' h sf' wl' Q) (hZ : Z.Warmed39 vm0) (wc : (Cond.code y by' mx rt).before a0 Z = true) (wz : (Cond.initialized y.cls).before a0 Z = true) (hf : rm.frames + 1 ≤ R.frames) (hl : W + (mx + 11) + rm.locals ≤ R.locals) (hEL : EW Z a0 EL) (H : CHv Z EL vm0 h) (hX : Ext Z.heap h) (hwl : ∀ x ∈ wl', Z.heap.size ≤ x) (hs : ∀ x ∈ sf', x < h.size ∧ Safe Z EL vm0 h x) :
    BackS l R p e below (s.setVm vm0) args y len W (fun A a => a = as' ∧ A.U.heap = h ∧ A.cells + rm.cells ≤ R.cells ∧ A.slots + rm.slots ≤ R.slots)
      (fun A _ v B => ∃ (L : List Loc) (ns : List Addr), Q v B.U.heap ns ∧ Keep h B.U.heap wl' ∧ (∀ y ∈ L, y.base ∈ wl' ∨ h.size ≤ y.base) ∧ B.locs = A.locs ++ L ∧ B.cells = A.cells + rm.cells ∧ B.slots = A.slots + rm.slots ∧ CHr Z EL vm0 h B.U.vm B.U.heap ∧ ∀ x ∈ ns, x < B.U.heap.size ∧ Safe Z EL B.U.vm B.U.heap x) :=
  BackS.of_freeW (bytes := by') (maxL := mx) (ret := rt) (E := fun _ first o t L k n => k = rm.cells ∧ n = rm.slots ∧ ∃ (v : Option Value) (ns : List Addr), o = .returned v ∧ Q v t.heap ns ∧ Keep h t.heap wl' ∧ (∀ y ∈ L, y.base ∈ wl' ∨ h.size ≤ y.base) ∧ CHr Z EL first.vm h t.vm t.heap ∧ ∀ x ∈ ns, x < t.heap.size ∧ Safe Z EL t.vm t.heap x) hM hf hl
    (fun m meth c A a Y hp => have hU : Z.Warmed39 A.U.vm := wtrans (s := s.setVm vm0) hZ Y.warmed
      ⟨by show (Cond.and _ .tt).before a A.U = true; rw [Cond.before_and, mv hU wc]; rfl, mv hU wc, mv hU wz, hp.2.2.1, hp.2.2.2⟩)
    (fun m meth c A a g mk Y hp => have q := CHv.at Y hZ hEL H
      ⟨hp.1, wtrans (s := s.setVm vm0) hZ Y.warmed, hp.2.1, q.1, hEL, hX, hwl, fun x hx => ⟨(hs x hx).1, q.safe (hs x hx).1 (hs x hx).2⟩⟩) (fun _ _ _ _ _ _ _ _ _ => trivial)
    (fun _ _ _ _ ⟨v, L, ns, z1, z2, z3, z4, z5, z6, z7⟩ => ⟨L, _, _, z7, rfl, rfl, v, ns, z1, z2, z3, z4, z5, z6⟩)
    (fun m meth c A a g mk v t L k n Y hp _ _ ⟨e1, e2, v', ns, e3, z2, z3, z4, z5, z6⟩ => by
      cases e3; subst e1 e2
      exact ⟨L, ns, z2, z3, z4, rfl, rfl, rfl, (CHv.at Y hZ hEL H).trans z5, z6⟩)
theorem OW.called {Q : Option Value → Heap → List Addr → Prop} {v : Option Value} {rm : Room} {B : Pt} {vm0 : Vm} {k0 : Nat} {L : List Loc} {wl' : List Addr} (w0 : Cx p meth c Z a0 EL nm bytes maxL ret wl h0) (g2 : s.Since vm0 k0) (g3 : k0 ≤ h.size) (g4 : Z.Warmed39 vm0) (g5 : vm0.findClass own = some m.cls) (g6 : ∀ y ∈ L, y.base ∈ wl ∨ h0.size ≤ y.base) (g7 : Keep h0 h wl) (g8 : CHr Z EL s.vm h0 vm0 h) (gE : Ext Z.heap h) (g9 : ∀ x ∈ sf, x < h.size ∧ Safe Z EL vm0 h x)
    (hwl : ∀ x ∈ wl', x ∈ wl ∨ h0.size ≤ x) (X : Stand p l e R ((s.setVm vm0).setVm B.U.vm) m args below meth c B.U B.locs B.cells B.slots) (hS : (s.setVm vm0).Since B.U.vm B.U.heap.size) (hg : h.size ≤ B.U.heap.size)
    (hP : ∃ (L' : List Loc) (ns : List Addr), Q v B.U.heap ns ∧ Keep h B.U.heap wl' ∧ (∀ y ∈ L', y.base ∈ wl' ∨ h.size ≤ y.base) ∧ B.locs = L ++ L' ∧ B.cells = k + rm.cells ∧ B.slots = n + rm.slots ∧ CHr Z EL vm0 h B.U.vm B.U.heap ∧ ∀ x ∈ ns, x < B.U.heap.size ∧ Safe Z EL B.U.vm B.U.heap x) :
    ∃ ns, Q v B.U.heap ns ∧ Keep h B.U.heap wl' ∧ OW p l e R s m args below meth c Z a0 EL own nm bytes maxL ret wl h0 (ns ++ sf) B.U B.U.heap (k + rm.cells) (n + rm.slots) := by
  obtain ⟨L', ns, q1, q2, q3, q4, q5, q6, q7, q8⟩ := hP
  rw [q4, q5, q6] at X
  refine ⟨ns, q1, q2, w0, B.U.vm, B.U.heap.size, _, X, rfl, g2.trans hS (Nat.le_trans g3 hg), Nat.le_refl _, State.Warmed39.trans (t := s.setVm vm0) g4 hS.1, (hS.1.alike.findClass _ _).trans g5, ?_, g7.trans q2 hwl, g8.trans q7, extKeep gE q2 (fun x hx => w0.ge (hwl x hx)), ?_⟩
  · intro y hy
    rcases List.mem_append.mp hy with z | z
    · exact g6 y z
    · rcases q3 y z with z | z
      · exact hwl _ z
      · exact Or.inr (Nat.le_trans g7.1 z)
  · intro x hx
    rcases List.mem_append.mp hx with z | z
    · exact q8 x z
    · exact ⟨Nat.lt_of_lt_of_le (g9 x z).1 hg, q7.safe (g9 x z).1 (g9 x z).2⟩
theorem g_static (w : OW p l e R s m args below meth c Z a0 EL own nm bytes maxL ret wl h0 sf T h k n) {y : MethodName} {by' : ByteArray} {mx : Nat} {rt : Option FieldType} {rm : Room} {Q : Option Value → Heap → List Addr → Prop} {sf' wl' : List Addr} {argsL rest : List Value} {index : Nat} {W : Nat}  (w1 : (Cond.methodLink own index y).before a0 Z = true) (w2 : (Cond.static y).before a0 Z = true) (wz : (Cond.initialized y.cls).before a0 Z = true) (wc : (Cond.code y by' mx rt).before a0 Z = true) (hy : y.cls ≠ "java/lang/invoke/MethodHandle" ∧ y.cls ≠ "java/lang/invoke/VarHandle") (hM : Con l Z a0 EL y by' mx rt rm argsL.toArray h sf' wl' Q) (hsf : ∀ x ∈ sf', x ∈ sf) (hwl : ∀ x ∈ wl', x ∈ wl ∨ h0.size ≤ x) (hsz : Ls.size = maxL) (hlen : ∀ sig, parseMethodDescriptor y.desc = some sig → argsL.length = sig.parameters.length) (hst : S = argsL.reverse ++ rest)
    (hfr : rm.frames + 1 ≤ R.frames) (hW : (rest.map fun v => v.category).sum ≤ W) (hlo : W + (mx + 11) + rm.locals ≤ R.locals) (hce : k + rm.cells ≤ R.cells) (hsl : n + rm.slots ≤ R.slots) (hd : decode bytes pc = .ok (.invokestatic index, 3))
    (nx : ∀ (v : Option Value) (T' : State) (h' : Heap) (ns : List Addr), Q v h' ns → Keep h h' wl' → OW p l e R s m args below meth c Z a0 EL own nm bytes maxL ret wl h0 (ns ++ sf) T' h' (k + rm.cells) (n + rm.slots) → Go p.tables e below F (T'.setTop (mkF m (pc + 3) Ls (v.toList ++ rest)))) : Go p.tables e below F (T.setTop (mkF m pc Ls S)) := by
  subst hst
  obtain ⟨w0, vm0, k0, L, X, g1, g2, g3, g4, g5, g6, g7, g8, gE, g9⟩ := w
  have hK := fun (pp : Program) (ee : Env) (bl : List Frame) (ss : State) (aa : Array Value) => Con.back (p := pp) (e := ee) (below := bl) (s := ss) (args := aa) (R := R) (len := 3) (W := W) hM g4 wc wz hfr hlo w0.ew g8.1 gE (fun x hx => w0.ge (hwl x hx)) (fun x hx => g9 x (hsf x hx))
  obtain ⟨v, vm₁, B, -, X', hS, hgr, hpo, st⟩ := callSS X w0.1 (own := own) g5 (mvT g4 w1) (mvT g4 w2) (mvT g4 wz) (mvT g4 wc) hy (hK p e below s args) (g := mkF m pc Ls (argsL.reverse ++ rest)) rfl (by rw [w0.2.2.1]; exact hsz) (argsL := argsL) (rest := rest) hlen rfl (by show 2 * 0 + _ ≤ _; omega) (hb w0.2.1 hd) (fun vm₁ _ => ⟨rfl, g1, hce, hsl⟩)
  have hg' : h.size ≤ B.U.heap.size := by rw [← g1]; exact hgr
  obtain ⟨ns, q1, q2, q3⟩ := OW.called w0 g2 g3 g4 g5 g6 g7 g8 gE g9 hwl X' hS hg' hpo
  exact goS (fun t q => st.trans q) (nx v B.U B.U.heap ns q1 q2 q3)
theorem g_special (w : OW p l e R s m args below meth c Z a0 EL own nm bytes maxL ret wl h0 sf T h k n) {y : MethodName} {by' : ByteArray} {mx : Nat} {rt : Option FieldType} {rm : Room} {Q : Option Value → Heap → List Addr → Prop} {sf' wl' : List Addr} {argsL rest : List Value} {index : Nat} {W : Nat} {a : Addr} (hy1 : y.name = "<init>") (hrt : rt = none) (w1 : (Cond.methodLink own index y).before a0 Z = true) (w2 : (Cond.instanceMethod y).before a0 Z = true) (wz : (Cond.initialized y.cls).before a0 Z = true) (wc : (Cond.code y by' mx rt).before a0 Z = true) (hy : y.cls ≠ "java/lang/invoke/MethodHandle" ∧ y.cls ≠ "java/lang/invoke/VarHandle") (hM : Con l Z a0 EL y by' mx rt rm (.ref a :: argsL).toArray h sf' wl' Q) (hsf : ∀ x ∈ sf', x ∈ sf) (hwl : ∀ x ∈ wl', x ∈ wl ∨ h0.size ≤ x) (hsz : Ls.size = maxL) (hlen : ∀ sig, parseMethodDescriptor y.desc = some sig → argsL.length = sig.parameters.length) (hst : S = argsL.reverse ++ .ref a :: rest)
    (hfr : rm.frames + 1 ≤ R.frames) (hW : (rest.map fun v => v.category).sum ≤ W) (hlo : W + (mx + 11) + rm.locals ≤ R.locals) (hce : k + rm.cells ≤ R.cells) (hsl : n + rm.slots ≤ R.slots) (hd : decode bytes pc = .ok (.invokespecial index, 3))
    (nx : ∀ (v : Option Value) (T' : State) (h' : Heap) (ns : List Addr), Q v h' ns → Keep h h' wl' → OW p l e R s m args below meth c Z a0 EL own nm bytes maxL ret wl h0 (ns ++ sf) T' h' (k + rm.cells) (n + rm.slots) → Go p.tables e below F (T'.setTop (mkF m (pc + 3) Ls (v.toList ++ rest)))) : Go p.tables e below F (T.setTop (mkF m pc Ls S)) := by
  subst hst
  obtain ⟨w0, vm0, k0, L, X, g1, g2, g3, g4, g5, g6, g7, g8, gE, g9⟩ := w
  have hK := fun (pp : Program) (ee : Env) (bl : List Frame) (ss : State) (aa : Array Value) => Con.back (p := pp) (e := ee) (below := bl) (s := ss) (args := aa) (R := R) (len := 3) (W := W) hM g4 wc wz hfr hlo w0.ew g8.1 gE (fun x hx => w0.ge (hwl x hx)) (fun x hx => g9 x (hsf x hx))
  subst hrt
  obtain ⟨v, vm₁, B, -, X', hS, hgr, hpo, st⟩ := X.specialBackS w0.1 hy1 (own := own) g5 (mvT g4 w1) (mvT g4 w2) (mvT g4 wc) hy (hK p e below s args) (g := mkF m pc Ls (argsL.reverse ++ .ref a :: rest)) rfl (by rw [w0.2.2.1]; exact hsz) (Steps.refl _) (a := a) (argsL := argsL) (rest := rest) hlen rfl (by show 2 * 0 + _ ≤ _; omega) (hb w0.2.1 hd) (fun vm₁ _ => ⟨rfl, g1, hce, hsl⟩)
  have hg' : h.size ≤ B.U.heap.size := by rw [← g1]; exact hgr
  obtain ⟨ns, q1, q2, q3⟩ := OW.called w0 g2 g3 g4 g5 g6 g7 g8 gE g9 hwl X' hS hg' hpo
  exact goS (fun t q => st.trans q) (nx v B.U B.U.heap ns q1 q2 q3)
theorem g_virtual (w : OW p l e R s m args below meth c Z a0 EL own nm bytes maxL ret wl h0 sf T h k n) {y : MethodName} {by' : ByteArray} {mx : Nat} {rt : Option FieldType} {rm : Room} {Q : Option Value → Heap → List Addr → Prop} {sf' wl' : List Addr} {argsL rest : List Value} {index : Nat} {W : Nat} {x' : MethodName} {C : String} {a : Addr} (w1 : (Cond.methodLink own index x').before a0 Z = true) (w2 : (Cond.declares x').before a0 Z = true) (nf : ∀ (t : State), Z.Warmed39 t.vm → NotFace t x') (w3 : (Cond.selects C x' y).before a0 Z = true) (w4 : (Cond.instanceMethod y).before a0 Z = true) (wz : (Cond.initialized y.cls).before a0 Z = true) (wc : (Cond.code y by' mx rt).before a0 Z = true) (hy : x'.cls ≠ "java/lang/invoke/MethodHandle" ∧ x'.cls ≠ "java/lang/invoke/VarHandle") (E : Exa Z h a C) (hM : Con l Z a0 EL y by' mx rt rm (.ref a :: argsL).toArray h sf' wl' Q) (hsf : ∀ x ∈ sf', x ∈ sf) (hwl : ∀ x ∈ wl', x ∈ wl ∨ h0.size ≤ x) (hsz : Ls.size = maxL) (hlen : ∀ sig, parseMethodDescriptor x'.desc = some sig → argsL.length = sig.parameters.length) (hst : S = argsL.reverse ++ .ref a :: rest)
    (hfr : rm.frames + 1 ≤ R.frames) (hW : (rest.map fun v => v.category).sum ≤ W) (hlo : W + (mx + 11) + rm.locals ≤ R.locals) (hce : k + rm.cells ≤ R.cells) (hsl : n + rm.slots ≤ R.slots) (hd : decode bytes pc = .ok (.invokevirtual index, 3))
    (nx : ∀ (v : Option Value) (T' : State) (h' : Heap) (ns : List Addr), Q v h' ns → Keep h h' wl' → OW p l e R s m args below meth c Z a0 EL own nm bytes maxL ret wl h0 (ns ++ sf) T' h' (k + rm.cells) (n + rm.slots) → Go p.tables e below F (T'.setTop (mkF m (pc + 3) Ls (v.toList ++ rest)))) : Go p.tables e below F (T.setTop (mkF m pc Ls S)) := by
  subst hst
  obtain ⟨w0, vm0, k0, L, X, g1, g2, g3, g4, g5, g6, g7, g8, gE, g9⟩ := w
  have hK := fun (pp : Program) (ee : Env) (bl : List Frame) (ss : State) (aa : Array Value) => Con.back (p := pp) (e := ee) (below := bl) (s := ss) (args := aa) (R := R) (len := 3) (W := W) hM g4 wc wz hfr hlo w0.ew g8.1 gE (fun x hx => w0.ge (hwl x hx)) (fun x hx => g9 x (hsf x hx))
  obtain ⟨cB, kB, i1, i2, i3⟩ := isOf (s := s.setVm vm0) g4 g1 E
  obtain ⟨v, vm₁, B, -, X', hS, hgr, hpo, st⟩ := X.virtualBackS w0.1 (own := own) g5 (mvT g4 w1) (mvT g4 w2) (nf _ g4) (mvT g4 w3) (mvT g4 w4) hy (hK p e below s args) i1 i3 (g := mkF m pc Ls (argsL.reverse ++ .ref a :: rest)) rfl (by rw [w0.2.2.1]; exact hsz) (Steps.refl _) (argsL := argsL) (rest := rest) hlen rfl (by show 2 * 0 + _ ≤ _; omega) (hb w0.2.1 hd) (fun vm₁ _ => ⟨rfl, g1, hce, hsl⟩)
  have hg' : h.size ≤ B.U.heap.size := by rw [← g1]; exact hgr
  obtain ⟨ns, q1, q2, q3⟩ := OW.called w0 g2 g3 g4 g5 g6 g7 g8 gE g9 hwl X' hS hg' hpo
  exact goS (fun t q => st.trans q) (nx v B.U B.U.heap ns q1 q2 q3)
theorem g_face (w : OW p l e R s m args below meth c Z a0 EL own nm bytes maxL ret wl h0 sf T h k n) {y : MethodName} {by' : ByteArray} {mx : Nat} {rt : Option FieldType} {rm : Room} {Q : Option Value → Heap → List Addr → Prop} {sf' wl' : List Addr} {argsL rest : List Value} {index : Nat} {W : Nat} {x' : MethodName} {C : String} {a : Addr} {cnt : Nat} (w1 : (Cond.methodLink own index x').before a0 Z = true) (w2 : (Cond.declares x').before a0 Z = true) (w3 : ∀ (t : State) (aa : Array Value), Z.Warmed39 t.vm → (Cond.interfaceMethod x'.cls x'.cls x'.name x'.desc).before aa t = true) (w4 : (Cond.selects C x' y).before a0 Z = true) (w5 : (Cond.instanceMethod y).before a0 Z = true) (w6 : (Cond.publicMethod y).before a0 Z = true) (w7 : ∀ (t : State) (aa : Array Value), Z.Warmed39 t.vm → (Cond.unhidden C x'.name x'.desc).before aa t = true) (w8 : ∀ (t : State) (aa : Array Value), Z.Warmed39 t.vm → (Cond.castable C x'.cls).before aa t = true) (wz : (Cond.initialized y.cls).before a0 Z = true) (wc : (Cond.code y by' mx rt).before a0 Z = true) (hy : x'.cls ≠ "java/lang/invoke/MethodHandle" ∧ x'.cls ≠ "java/lang/invoke/VarHandle") (E : Exa Z h a C) (hM : Con l Z a0 EL y by' mx rt rm (.ref a :: argsL).toArray h sf' wl' Q) (hsf : ∀ x ∈ sf', x ∈ sf) (hwl : ∀ x ∈ wl', x ∈ wl ∨ h0.size ≤ x) (hsz : Ls.size = maxL) (hlen : ∀ sig, parseMethodDescriptor x'.desc = some sig → argsL.length = sig.parameters.length) (hst : S = argsL.reverse ++ .ref a :: rest)
    (hfr : rm.frames + 1 ≤ R.frames) (hW : (rest.map fun v => v.category).sum ≤ W) (hlo : W + (mx + 11) + rm.locals ≤ R.locals) (hce : k + rm.cells ≤ R.cells) (hsl : n + rm.slots ≤ R.slots) (hd : decode bytes pc = .ok (.invokeinterface index cnt, 5))
    (nx : ∀ (v : Option Value) (T' : State) (h' : Heap) (ns : List Addr), Q v h' ns → Keep h h' wl' → OW p l e R s m args below meth c Z a0 EL own nm bytes maxL ret wl h0 (ns ++ sf) T' h' (k + rm.cells) (n + rm.slots) → Go p.tables e below F (T'.setTop (mkF m (pc + 5) Ls (v.toList ++ rest)))) : Go p.tables e below F (T.setTop (mkF m pc Ls S)) := by
  subst hst
  obtain ⟨w0, vm0, k0, L, X, g1, g2, g3, g4, g5, g6, g7, g8, gE, g9⟩ := w
  have hK := fun (pp : Program) (ee : Env) (bl : List Frame) (ss : State) (aa : Array Value) => Con.back (p := pp) (e := ee) (below := bl) (s := ss) (args := aa) (R := R) (len := 5) (W := W) hM g4 wc wz hfr hlo w0.ew g8.1 gE (fun x hx => w0.ge (hwl x hx)) (fun x hx => g9 x (hsf x hx))
  obtain ⟨cB, kB, i1, i2, i3⟩ := isOf (s := s.setVm vm0) g4 g1 E
  obtain ⟨v, vm₁, B, -, X', hS, hgr, hpo, st⟩ := X.interfaceBackS w0.1 (own := own) g5 (mvT g4 w1) (mvT g4 w2) (w3 (s.setVm vm0) args g4) (mvT g4 w4) (mvT g4 w5) (mvT g4 w6) (w7 (s.setVm vm0) args g4) (w8 (s.setVm vm0) args g4) hy (hK p e below s args) i1 i2 i3 (g := mkF m pc Ls (argsL.reverse ++ .ref a :: rest)) rfl (by rw [w0.2.2.1]; exact hsz) (Steps.refl _) (argsL := argsL) (rest := rest) hlen rfl (by show 2 * 0 + _ ≤ _; omega) (hb w0.2.1 hd) (fun vm₁ _ => ⟨rfl, g1, hce, hsl⟩)
  have hg' : h.size ≤ B.U.heap.size := by rw [← g1]; exact hgr
  obtain ⟨ns, q1, q2, q3⟩ := OW.called w0 g2 g3 g4 g5 g6 g7 g8 gE g9 hwl X' hS hg' hpo
  exact goS (fun t q => st.trans q) (nx v B.U B.U.heap ns q1 q2 q3)
/-! the end -/
theorem OW.fin {Q : Option Value → Heap → List Addr → Prop} (w : OW p l e R s m args below meth c Z a0 EL own nm bytes maxL ret wl h0 sf T h k n) {v : Option Value} (hv : ret = none → v = none) (hk : k ≤ R.cells) (hn : n ≤ R.slots) {ns : List Addr} (hq : Q v h ns) (hns : ∀ x ∈ ns, x ∈ sf) :
    ∃ fs, (∀ (f : JFrame) (acts : List Action), f.method = m → f.locked = none → f.entered = [] → (doReturn e (T.setTop f) acts v).1 = T.setFrames fs) ∧ (T.setFrames fs).status = .running ∧ Ended (T.setFrames fs) below (.returned v) ∧ Fin' s Z EL wl h0 R Q (.returned v) (T.setFrames fs) := by
  obtain ⟨w0, vm0, k0, L, X, g1, g2, g3, g4, g5, g6, g7, g8, gE, g9⟩ := w
  subst g1
  obtain ⟨fs, h1, h2, h3, h4⟩ := (X.more hk hn).leaveW g2 g3 (v := v) (fun q => hv (w0.2.2.2.1 ▸ q)) (hlocks := w0.2.2.2.2.1)
  have q := CHv.at X g4 w0.ew g8.1
  exact ⟨fs, h1, h2, h3, v, L, ns, rfl, hq, g7, g6, g8.trans q, fun x hx => ⟨(g9 x (hns x hx)).1, q.safe (g9 x (hns x hx)).1 (g9 x (hns x hx)).2⟩, h4⟩
theorem g_ret0 {Q : Option Value → Heap → List Addr → Prop} (w : OW p l e R s m args below meth c Z a0 EL own nm bytes maxL ret wl h0 sf T h k n) (hr : ret = none) (hk : k ≤ R.cells) (hn : n ≤ R.slots) {ns : List Addr} (hns : ∀ x ∈ ns, x ∈ sf) (hd : decode bytes pc = .ok (.return_, 1)) (hq : Q none h ns) : Go p.tables e below (Fin' s Z EL wl h0 R Q) (T.setTop (mkF m pc Ls [])) := by
  obtain ⟨fs, h1, h2, h3, h4⟩ := w.fin (Q := Q) (v := none) (fun _ => rfl) hk hn hq hns
  obtain ⟨w0, vm0, k0, L, X, -⟩ := w
  exact ⟨_, _, X.returnOut w0.1 (w0.2.2.2.1.trans hr) (hb w0.2.1 hd) h1, h2, h3, h4⟩
theorem g_ret {Q : Option Value → Heap → List Addr → Prop} (w : OW p l e R s m args below meth c Z a0 EL own nm bytes maxL ret wl h0 sf T h k n) {t : FieldType} {v : Value} {i : Instr} (hr : ret = some t) (hnw : narrow t v = v)
    (hi : (i = .ireturn ∧ (t = .int ∨ t = .boolean ∨ t = .byte ∨ t = .char ∨ t = .short) ∧ ∃ z, v = .int z) ∨ (i = .lreturn ∧ t = .long ∧ ∃ z, v = .long z) ∨ (i = .dreturn ∧ t = .double ∧ ∃ z, v = .double z) ∨ (i = .freturn ∧ t = .float ∧ ∃ z, v = .float z) ∨ (i = .areturn ∧ t.isReference = true ∧ v.isRef = true))
    (hk : k ≤ R.cells) (hn : n ≤ R.slots) {ns : List Addr} (hns : ∀ x ∈ ns, x ∈ sf) (hd : decode bytes pc = .ok (i, 1)) (hq : Q (some v) h ns) : Go p.tables e below (Fin' s Z EL wl h0 R Q) (T.setTop (mkF m pc Ls (v :: S))) := by
  obtain ⟨fs, h1, h2, h3, h4⟩ := w.fin (Q := Q) (v := some v) (fun q => by rw [hr] at q; cases q) hk hn hq hns
  obtain ⟨w0, vm0, k0, L, X, -⟩ := w
  exact ⟨_, _, retOut X w0.1 (w0.2.2.2.1.trans hr) hnw hi (hb w0.2.1 hd) h1, h2, h3, h4⟩
theorem g_retI {Q : Option Value → Heap → List Addr → Prop} (w : OW p l e R s m args below meth c Z a0 EL own nm bytes maxL ret wl h0 sf T h k n) {z : Int32} (hr : ret = some .int) (hk : k ≤ R.cells) (hn : n ≤ R.slots) {ns : List Addr} (hns : ∀ x ∈ ns, x ∈ sf) (hd : decode bytes pc = .ok (.ireturn, 1)) (hq : Q (some (.int z)) h ns) : Go p.tables e below (Fin' s Z EL wl h0 R Q) (T.setTop (mkF m pc Ls (.int z :: S))) :=
  g_ret w hr rfl (Or.inl ⟨rfl, Or.inl rfl, z, rfl⟩) hk hn hns hd hq
theorem g_retJ {Q : Option Value → Heap → List Addr → Prop} (w : OW p l e R s m args below meth c Z a0 EL own nm bytes maxL ret wl h0 sf T h k n) {z : Int64} (hr : ret = some .long) (hk : k ≤ R.cells) (hn : n ≤ R.slots) {ns : List Addr} (hns : ∀ x ∈ ns, x ∈ sf) (hd : decode bytes pc = .ok (.lreturn, 1)) (hq : Q (some (.long z)) h ns) : Go p.tables e below (Fin' s Z EL wl h0 R Q) (T.setTop (mkF m pc Ls (.long z :: S))) :=
  g_ret w hr rfl (Or.inr (Or.inl ⟨rfl, rfl, z, rfl⟩)) hk hn hns hd hq
theorem g_retN {Q : Option Value → Heap → List Addr → Prop} (w : OW p l e R s m args below meth c Z a0 EL own nm bytes maxL ret wl h0 sf T h k n) {z : Int32} {t : FieldType} (hr : ret = some t) (ht : t = .boolean ∨ t = .byte ∨ t = .char ∨ t = .short) (hnw : narrow t (.int z) = .int z) (hk : k ≤ R.cells) (hn : n ≤ R.slots) {ns : List Addr} (hns : ∀ x ∈ ns, x ∈ sf) (hd : decode bytes pc = .ok (.ireturn, 1)) (hq : Q (some (.int z)) h ns) : Go p.tables e below (Fin' s Z EL wl h0 R Q) (T.setTop (mkF m pc Ls (.int z :: S))) :=
  g_ret w hr hnw (Or.inl ⟨rfl, Or.inr ht, z, rfl⟩) hk hn hns hd hq
theorem g_retA {Q : Option Value → Heap → List Addr → Prop} (w : OW p l e R s m args below meth c Z a0 EL own nm bytes maxL ret wl h0 sf T h k n) {v : Value} {t : FieldType} (hr : ret = some t) (ht : t.isReference = true) (hv : v.isRef = true) (hk : k ≤ R.cells) (hn : n ≤ R.slots) {ns : List Addr} (hns : ∀ x ∈ ns, x ∈ sf) (hd : decode bytes pc = .ok (.areturn, 1)) (hq : Q (some v) h ns) : Go p.tables e below (Fin' s Z EL wl h0 R Q) (T.setTop (mkF m pc Ls (v :: S))) :=
  g_ret w hr (narrow_refv ht hv) (Or.inr (Or.inr (Or.inr (Or.inr ⟨rfl, ht, hv⟩)))) hk hn hns hd hq
end OwnKit
end Jvm.RoadKit


namespace Jvm.RoadKit
open Sem ClassFile Op Lib Bundle Jvm.Stand Jvm.Free Jvm.LawKit
section OwnStr
theorem t32_int {i : Nat} (h : i < 2147483648) : i.toInt32.toInt = i := Int32.toInt_ofNat_of_lt h
theorem t32_nneg {i : Nat} (h : i < 2147483648) : ¬ i.toInt32 < 0 := by
  rw [Int32.lt_iff_toInt_lt, t32_int h]; have : (0 : Int32).toInt = 0 := rfl; omega
theorem t32_nat {i : Nat} (h : i < 2147483648) : i.toInt32.toNatClampNeg = i := by
  have := t32_int h
  show i.toInt32.toInt.toNat = i
  omega
theorem t32_lt {i j : Nat} (hi : i < 2147483648) (hj : j < 2147483648) : i.toInt32 < j.toInt32 ↔ i < j := by
  rw [Int32.lt_iff_toInt_lt, t32_int hi, t32_int hj]; omega
theorem t32_eq {i j : Nat} (hi : i < 2147483648) (hj : j < 2147483648) : i.toInt32 = j.toInt32 ↔ i = j := by
  rw [← Int32.toInt_inj, t32_int hi, t32_int hj]; omega
theorem t32_add (i j : Nat) : i.toInt32 + j.toInt32 = (i + j).toInt32 := (Int32.ofNat_add i j).symm
theorem t32_succ (i : Nat) : i.toInt32 + 1 = (i + 1).toInt32 := t32_add i 1
abbrev b8 (c : Int32) : Int32 := c.toInt8.toInt32
abbrev bv (c : Int32) : Value := .int (b8 c)
/-- how many chars stand ahead of the first above 255 -/
def lat (cs : List Int32) : Nat := (cs.takeWhile (fun c => !decide ((255 : Int32) < c))).length
theorem lat_le (cs : List Int32) : lat cs ≤ cs.length := by
  unfold lat; exact (List.takeWhile_prefix _).length_le
theorem lat_cons (c : Int32) (cs : List Int32) : lat (c :: cs) = if (255 : Int32) < c then 0 else lat cs + 1 := by
  unfold lat
  by_cases h : (255 : Int32) < c <;> simp [h]
theorem lat_all : ∀ {cs : List Int32}, (∀ c ∈ cs, ¬ (255 : Int32) < c) → lat cs = cs.length
  | [], _ => rfl
  | c :: cs, h => by
    rw [lat_cons, if_neg (h c (List.mem_cons_self ..)), lat_all fun d hd => h d (List.mem_cons_of_mem _ hd)]; rfl
theorem lat_go : ∀ {cs : List Int32} {i : Nat} {c : Int32}, i ≤ lat cs → cs[i]? = some c → ¬ (255 : Int32) < c → i + 1 ≤ lat cs
  | [], i, c, _, h, _ => by simp at h
  | d :: cs, 0, c, _, h, hc => by
    simp at h; subst h; rw [lat_cons, if_neg hc]; omega
  | d :: cs, i + 1, c, hi, h, hc => by
    rw [lat_cons] at hi ⊢
    split at hi
    · omega
    · rename_i hd
      rw [if_neg hd]
      have := lat_go (cs := cs) (i := i) (by omega) (by simpa using h) hc
      omega
theorem lat_stop : ∀ {cs : List Int32} {i : Nat} {c : Int32}, i ≤ lat cs → cs[i]? = some c → (255 : Int32) < c → lat cs = i
  | [], i, c, _, h, _ => by simp at h
  | d :: cs, 0, c, _, h, hc => by
    simp at h; subst h; rw [lat_cons, if_pos hc]
  | d :: cs, i + 1, c, hi, h, hc => by
    rw [lat_cons] at hi ⊢
    split at hi
    · omega
    · rename_i hd
      rw [if_neg hd]
      have := lat_stop (cs := cs) (i := i) (by omega) (by simpa using h) hc
      omega
theorem b8_b8 (c : Int32) : (b8 c).toInt8.toInt32 = b8 c := by simp [b8]
theorem put_next {A : Type} {xs : List Int32} {ds : List A} {f : Int32 → A} {i : Nat} {c : Int32} (hl : ds.length = xs.length) (hc : xs[i]? = some c) : ((xs.take i).map f ++ ds.drop i).set i (f c) = (xs.take (i + 1)).map f ++ ds.drop (i + 1) := by
  have hi : i < xs.length := (List.getElem?_eq_some_iff.mp hc).1
  have hL : ((xs.take i).map f).length = i := by simp; omega
  rw [List.set_append_right _ _ (by omega), hL, Nat.sub_self]
  have hd : ds.drop i = ds[i]'(by omega) :: ds.drop (i + 1) := List.drop_eq_getElem_cons (by omega)
  rw [hd, List.set_cons_zero]
  have ht : xs.take (i + 1) = xs.take i ++ [c] := by rw [List.take_add_one, hc]; rfl
  rw [ht]; simp
theorem get_map_int {xs : List Int32} {i : Nat} {c : Int32} (h : xs[i]? = some c) : (xs.map Value.int)[i]? = some (.int c) := by simp [h]
theorem all32n {P : Int32 → Prop} : ∀ x ∈ ([] : List Int32), P x := fun _ q => nomatch q
theorem all32 {P : Int32 → Prop} {y : Int32} {L : List Int32} (q : P y) (r : ∀ x ∈ L, P x) : ∀ x ∈ y :: L, P x := fun x z => (List.mem_cons.mp z).elim (fun u => u ▸ q) (r x)
theorem and255 (a : Int32) : 0 ≤ (a &&& 255).toInt ∧ (a &&& 255).toInt ≤ 255 := c_and a 255 (by decide)
theorem lat8 (a : Int32) : ¬ (255 : Int32) < (a &&& 255).toUInt32.toUInt16.toUInt32.toInt32 := by
  rw [i2c_mask, Int32.lt_iff_toInt_lt]; have := and255 a; have : (255 : Int32).toInt = 255 := rfl; omega
theorem lat8n (a : Int32) : ¬ (255 : Int32) < nar .char ((a &&& 255).toUInt32.toUInt16.toUInt32.toInt32) := by
  have e : nar .char ((a &&& 255).toUInt32.toUInt16.toUInt32.toInt32) = (a &&& 255) := by
    show ((a &&& 255).toUInt32.toUInt16.toUInt32.toInt32).toUInt32.toUInt16.toUInt32.toInt32 = _
    rw [i2c_mask, i2c_mask]
  rw [e, Int32.lt_iff_toInt_lt]; have := and255 a; have : (255 : Int32).toInt = 255 := rfl; omega
theorem shr0 (x : Int32) : x >>> ((0 : Int32) &&& 31) = x := by simp
end OwnStr
end Jvm.RoadKit

namespace Jvm.RoadKit
open Sem ClassFile Op Lib Bundle Jvm.Stand Jvm.Free Jvm.LawKit
section OwnU16
/-- a char's two bytes, low byte first -/
abbrev hi8 (c : Int32) : Int32 := b8 (c >>> ((8 : Int32) &&& 31))
def u16s (cs : List Int32) : List Int32 := cs.flatMap fun c => [b8 c, hi8 c]
theorem u16s_nil : u16s [] = [] := rfl
theorem u16s_cons (c : Int32) (cs : List Int32) : u16s (c :: cs) = b8 c :: hi8 c :: u16s cs := rfl
theorem u16_len : ∀ cs : List Int32, (u16s cs).length = 2 * cs.length
  | [] => rfl
  | c :: cs => by rw [u16s_cons]; simp [u16_len cs]; omega
theorem u16_app (a b : List Int32) : u16s (a ++ b) = u16s a ++ u16s b := by simp [u16s]
theorem u16_get0 : ∀ {cs : List Int32} {i : Nat} {c : Int32}, cs[i]? = some c → (u16s cs)[2 * i]? = some (b8 c)
  | [], i, c, h => by simp at h
  | d :: cs, 0, c, h => by simp at h; subst h; rfl
  | d :: cs, i + 1, c, h => by
    rw [u16s_cons, show 2 * (i + 1) = 2 * i + 1 + 1 by omega]
    simpa using u16_get0 (cs := cs) (i := i) (by simpa using h)
theorem u16_get1 : ∀ {cs : List Int32} {i : Nat} {c : Int32}, cs[i]? = some c → (u16s cs)[2 * i + 1]? = some (hi8 c)
  | [], i, c, h => by simp at h
  | d :: cs, 0, c, h => by simp at h; subst h; rfl
  | d :: cs, i + 1, c, h => by
    rw [u16s_cons, show 2 * (i + 1) + 1 = 2 * i + 1 + 1 + 1 by omega]
    simpa using u16_get1 (cs := cs) (i := i) (by simpa using h)
theorem u16_put {ds cs : List Int32} {i : Nat} {c : Int32} (hl : ds.length = 2 * cs.length) (hc : cs[i]? = some c) : ((u16s (cs.take i) ++ ds.drop (2 * i)).set (2 * i) (b8 c)).set (2 * i + 1) (hi8 c) = u16s (cs.take (i + 1)) ++ ds.drop (2 * (i + 1)) := by
  have hi : i < cs.length := (List.getElem?_eq_some_iff.mp hc).1
  have hL : (u16s (cs.take i)).length = 2 * i := by rw [u16_len]; simp; omega
  have hd : ds.drop (2 * i) = ds[2 * i]'(by omega) :: ds[2 * i + 1]'(by omega) :: ds.drop (2 * (i + 1)) := by
    rw [List.drop_eq_getElem_cons (by omega), List.drop_eq_getElem_cons (i := 2 * i + 1) (by omega)]
    rfl
  have ht : cs.take (i + 1) = cs.take i ++ [c] := by rw [List.take_add_one, hc]; rfl
  rw [ht, u16_app, hd, List.set_append_right _ _ (by omega), hL, Nat.sub_self, List.set_cons_zero, List.set_append_right _ _ (by omega), hL, show 2 * i + 1 - 2 * i = 1 by omega]
  simp [u16s]
theorem u16_back {c : Int32} (h0 : 0 ≤ c.toInt) (h1 : c.toInt < 65536) : (((b8 c &&& 255) <<< ((0 : Int32) &&& 31)) ||| ((hi8 c &&& 255) <<< ((8 : Int32) &&& 31))).toUInt32.toUInt16.toUInt32.toInt32 = c := by
  apply Int32.toInt_inj.mp
  have a1 := c_i2b c
  have a2 := c_mask (b8 c) 255 8 (by decide) (by decide)
  have a3 := c_ishl (b8 c &&& 255) 0 0 (by decide)
  have b0 := c_ishr c 8 8 (by decide)
  have b1 := c_i2b (c >>> ((8 : Int32) &&& 31))
  have b2 := c_mask (hi8 c) 255 8 (by decide) (by decide)
  have b3 := c_ishl (hi8 c &&& 255) 8 8 (by decide)
  have r1 := rng32 ((b8 c &&& 255) <<< ((0 : Int32) &&& 31))
  have r2 := rng32 ((hi8 c &&& 255) <<< ((8 : Int32) &&& 31))
  simp only [b8, hi8] at *
  generalize ((c.toInt8.toInt32 &&& 255) <<< ((0 : Int32) &&& 31)) = X at *
  generalize (((c >>> ((8 : Int32) &&& 31)).toInt8.toInt32 &&& 255) <<< ((8 : Int32) &&& 31)) = Y at *
  have o := c_or' X Y 8 (by decide) 256 (by decide) (by omega) (by omega) (by omega)
  have z := c_i2c (X ||| Y)
  omega
theorem t32_shl1 {n : Nat} (h : n < 1073741824) : n.toInt32 <<< ((1 : Int32) &&& 31) = (2 * n).toInt32 := by
  apply Int32.toInt_inj.mp
  have a := c_ishl n.toInt32 1 1 (by decide)
  rw [t32_int (by omega : n < 2147483648)] at a
  rw [t32_int (by omega : 2 * n < 2147483648)]
  have r := rng32 (n.toInt32 <<< ((1 : Int32) &&& 31))
  omega
theorem t32_shr1 {n : Nat} (h : n < 1073741824) : (2 * n).toInt32 >>> ((1 : Int32) &&& 31) = n.toInt32 := by
  apply Int32.toInt_inj.mp
  have a := c_ishr (2 * n).toInt32 1 1 (by decide)
  rw [t32_int (by omega : 2 * n < 2147483648)] at a
  rw [t32_int (by omega : n < 2147483648)]
  omega
/-- a String's bytes and coder, out of its chars -/
def sbytes (cs : List Int32) : List Int32 := if lat cs = cs.length then cs.map b8 else u16s cs
def scoder (cs : List Int32) : Int32 := if lat cs = cs.length then 0 else 1
abbrev Ch (c : Int32) : Prop := ¬ c < (0 : Int32) ∧ ¬ (65535 : Int32) < c
theorem Ch.int {c : Int32} (h : Ch c) : 0 ≤ c.toInt ∧ c.toInt < 65536 := by
  have h1 := h.1; have h2 := h.2
  rw [Int32.lt_iff_toInt_lt] at h1 h2
  have e1 : (65535 : Int32).toInt = 65535 := rfl
  have e2 : (0 : Int32).toInt = 0 := rfl
  omega
theorem ch_nar (x : Int32) : Ch (x.toUInt32.toUInt16.toUInt32.toInt32) := by
  have := c_i2c x
  constructor <;> rw [Int32.lt_iff_toInt_lt]
  · have e2 : (0 : Int32).toInt = 0 := rfl
    omega
  · have e1 : (65535 : Int32).toInt = 65535 := rfl
    omega
theorem nar_ch {c : Int32} (h : Ch c) : c.toUInt32.toUInt16.toUInt32.toInt32 = c := by
  apply Int32.toInt_inj.mp
  have := c_i2c c
  have := h.int
  omega
theorem lat_back {c : Int32} (h : Ch c) (hl : ¬ (255 : Int32) < c) : (b8 c &&& 255).toUInt32.toUInt16.toUInt32.toInt32 = c := by
  rw [i2c_mask]
  apply Int32.toInt_inj.mp
  have a1 := c_i2b c
  have a2 := c_mask (b8 c) 255 8 (by decide) (by decide)
  have := h.int
  rw [Int32.lt_iff_toInt_lt] at hl
  have e1 : (255 : Int32).toInt = 255 := rfl
  simp only [b8] at *
  omega
theorem lat_mem {cs : List Int32} (h : lat cs = cs.length) : ∀ c ∈ cs, ¬ (255 : Int32) < c := by
  intro c hc
  obtain ⟨i, hi, rfl⟩ := List.mem_iff_getElem.mp hc
  intro q
  have := lat_stop (cs := cs) (i := i) (by omega) (List.getElem?_eq_getElem hi) q
  omega
theorem sb_lat {cs : List Int32} (h : lat cs = cs.length) : sbytes cs = cs.map b8 ∧ scoder cs = 0 := ⟨if_pos h, if_pos h⟩
theorem sb_u16 {cs : List Int32} (h : ¬ lat cs = cs.length) : sbytes cs = u16s cs ∧ scoder cs = 1 := ⟨if_neg h, if_neg h⟩
theorem narrow_ch {c : Int32} (h : Ch c) : narrow .char (.int c) = .int c := congrArg Value.int (nar_ch h)
theorem scoder_nar (cs : List Int32) : narrow .byte (.int (scoder cs)) = .int (scoder cs) := by unfold scoder; split <;> rfl
theorem scoder_fit (cs : List Int32) : fits .byte (.int (scoder cs)) = true := by unfold scoder; split <;> rfl
theorem coder_of {cs : List Int32} {N : Nat} (h1 : ¬ cs.length = 0) (hN : cs.length ≤ N) (hb : N ≤ 1000000 := by decide) : (((cs.length.toInt32 - (sbytes cs).length.toInt32).toUInt32 >>> ((31 : Int32) &&& 31).toUInt32).toInt32).toInt8.toInt32 = scoder cs := by
  by_cases hl : lat cs = cs.length
  · rw [(sb_lat hl).1, (sb_lat hl).2, List.length_map, Int32.sub_self]; decide
  · rw [(sb_u16 hl).1, (sb_u16 hl).2, u16_len]
    have e := c_isub cs.length.toInt32 (2 * cs.length).toInt32
    rw [t32_int (by omega), t32_int (by omega)] at e
    have r := rng32 (cs.length.toInt32 - (2 * cs.length).toInt32)
    have u := c_iushr (cs.length.toInt32 - (2 * cs.length).toInt32) 31 31 (by decide) (by decide)
    generalize ((cs.length.toInt32 - (2 * cs.length).toInt32).toUInt32 >>> ((31 : Int32) &&& 31).toUInt32).toInt32 = X at u
    have : X = 1 := Int32.toInt_inj.mp (by rw [u]; show _ = (1 : Int); omega)
    rw [this]; decide
theorem sta_eq {s : State} {args : Array Value} {C n d : String} {ty : FieldType} {x : Int32} (hf : Fit s) (w : (Cond.laysStatic C n d).before args s = true) (ht : parseFieldDescriptor d = some ty) (hk : ty = .int ∨ ty = .boolean ∨ ty = .byte ∨ ty = .char ∨ ty = .short) (wi : (Cond.initializedFor C n d).before args s = true) (we : (Cond.eq (.static C n d) (.int x)).before args s = true) : Sta s s.heap C n d (.int x) := by
  obtain ⟨v, ev, hv⟩ := static_fit hf w ht
  obtain ⟨z, rfl⟩ := fit_I hv hk
  have q := gotT (Cond.eq_ints ev (Term.int_eval x)) (Cond.before_iff.mp we)
  subst q
  exact Sta.start ev (Or.inl wi)
theorem get_b8 {cs : List Int32} {i : Nat} {c : Int32} (h : cs[i]? = some c) : (cs.map b8)[i]? = some (b8 c) := by simp [h]
theorem sb_ne {cs : List Int32} {N : Nat} (h1 : ¬ cs.length = 0) (hN : cs.length ≤ N) (hb : N ≤ 1000000 := by decide) : ¬ (sbytes cs).length.toInt32 = (0 : Int32) := fun q => by
  have e : (sbytes cs).length = cs.length ∨ (sbytes cs).length = 2 * cs.length := by
    by_cases hl : lat cs = cs.length
    · rw [(sb_lat hl).1]; simp
    · rw [(sb_u16 hl).1, u16_len]; simp
  have := (t32_eq (i := (sbytes cs).length) (j := 0) (by omega) (by omega)).mp q
  omega
theorem b8_ne {c kc : Int32} (h : Ch c) (hl : ¬ (255 : Int32) < c) (hk : kc = 123 ∨ kc = 125) (hne : ¬ c = kc) : ¬ b8 c = kc.toInt8.toInt32 := fun q => hne (by
  apply Int32.toInt_inj.mp
  have a := c_i2b c
  have b := h.int
  rw [Int32.lt_iff_toInt_lt] at hl
  have e1 : (255 : Int32).toInt = 255 := rfl
  have e2 : (123 : Int32).toInt = 123 := rfl
  have e3 : (125 : Int32).toInt = 125 := rfl
  have q' := congrArg Int32.toInt q
  simp only [b8] at *
  rcases hk with rfl | rfl
  · have e4 : ((123 : Int32).toInt8.toInt32).toInt = 123 := rfl
    omega
  · have e4 : ((125 : Int32).toInt8.toInt32).toInt = 125 := rfl
    omega)
end OwnU16
end Jvm.RoadKit

namespace Jvm.Pilot.@@N@@
open Jvm Jvm.ClassFile Sem Op Lib Jvm.Free Jvm.Stand Jvm.LawKit Jvm.RoadKit Bundle Jvm.Pilot.@@N@@.Jvm.D
theorem tw0 {a0 : Array Value} {Z : State} (hw : ∀ d ∈ tables_1, d.before a0 Z = true) : (Jvm.Cond.constant "com/example/cross_lock/crosslock/LimitsCheckNamePinLaw" (7 : Nat) (2147483647 : Int32)).before a0 Z = true := hw _ (List.mem_of_getElem? (i := 0) rfl)
theorem tw1 {a0 : Array Value} {Z : State} (hw : ∀ d ∈ tables_1, d.before a0 Z = true) : (Jvm.Cond.arrayClass Jvm.ClassFile.FieldType.char).before a0 Z = true := hw _ (List.mem_of_getElem? (i := 1) rfl)
theorem tw2 {a0 : Array Value} {Z : State} (hw : ∀ d ∈ tables_1, d.before a0 Z = true) : (Jvm.Cond.classLink "com/example/cross_lock/crosslock/LimitsCheckNamePinLaw" (10 : Nat) "java/lang/String").before a0 Z = true := hw _ (List.mem_of_getElem? (i := 2) rfl)
theorem tw3 {a0 : Array Value} {Z : State} (hw : ∀ d ∈ tables_1, d.before a0 Z = true) : (Jvm.Cond.instantiable "java/lang/String" (4 : Nat)).before a0 Z = true := hw _ (List.mem_of_getElem? (i := 3) rfl)
theorem tw4 {a0 : Array Value} {Z : State} (hw : ∀ d ∈ tables_1, d.before a0 Z = true) : (Jvm.Cond.initialized "java/lang/String").before a0 Z = true := hw _ (List.mem_of_getElem? (i := 4) rfl)
theorem tw5 {a0 : Array Value} {Z : State} (hw : ∀ d ∈ tables_1, d.before a0 Z = true) : (Jvm.Cond.methodLink "com/example/cross_lock/crosslock/LimitsCheckNamePinLaw" (12 : Nat) ({ cls := "java/lang/String", name := "<init>", desc := "([C)V" } : Jvm.MethodName)).before a0 Z = true := hw _ (List.mem_of_getElem? (i := 5) rfl)
theorem tw6 {a0 : Array Value} {Z : State} (hw : ∀ d ∈ tables_1, d.before a0 Z = true) : (Jvm.Cond.instanceMethod ({ cls := "java/lang/String", name := "<init>", desc := "([C)V" } : Jvm.MethodName)).before a0 Z = true := hw _ (List.mem_of_getElem? (i := 6) rfl)
theorem tw7 {a0 : Array Value} {Z : State} (hw : ∀ d ∈ tables_1, d.before a0 Z = true) : (Jvm.Cond.code ({ cls := "java/lang/String", name := "<init>", desc := "([C)V" } : Jvm.MethodName) jdk_42_method_3_code (2 : Nat) (Option.none : Option Jvm.ClassFile.FieldType)).before a0 Z = true := hw _ (List.mem_of_getElem? (i := 7) rfl)
theorem tw8 {a0 : Array Value} {Z : State} (hw : ∀ d ∈ tables_1, d.before a0 Z = true) : (Jvm.Cond.methodLink "java/lang/String" (27 : Nat) ({ cls := "java/lang/String", name := "<init>", desc := "([CIILjava/lang/Void;)V" } : Jvm.MethodName)).before a0 Z = true := hw _ (List.mem_of_getElem? (i := 8) rfl)
theorem tw9 {a0 : Array Value} {Z : State} (hw : ∀ d ∈ tables_1, d.before a0 Z = true) : (Jvm.Cond.instanceMethod ({ cls := "java/lang/String", name := "<init>", desc := "([CIILjava/lang/Void;)V" } : Jvm.MethodName)).before a0 Z = true := hw _ (List.mem_of_getElem? (i := 9) rfl)
theorem tw11 {a0 : Array Value} {Z : State} (hw : ∀ d ∈ tables_1, d.before a0 Z = true) : (Jvm.Cond.code ({ cls := "java/lang/String", name := "<init>", desc := "([CIILjava/lang/Void;)V" } : Jvm.MethodName) jdk_42_method_149_code (6 : Nat) (Option.none : Option Jvm.ClassFile.FieldType)).before a0 Z = true := hw _ (List.mem_of_getElem? (i := 11) rfl)
theorem tw12 {a0 : Array Value} {Z : State} (hw : ∀ d ∈ tables_1, d.before a0 Z = true) : (Jvm.Cond.methodLink "java/lang/String" (1 : Nat) ({ cls := "java/lang/Object", name := "<init>", desc := "()V" } : Jvm.MethodName)).before a0 Z = true := hw _ (List.mem_of_getElem? (i := 12) rfl)
theorem tw13 {a0 : Array Value} {Z : State} (hw : ∀ d ∈ tables_1, d.before a0 Z = true) : (Jvm.Cond.instanceMethod ({ cls := "java/lang/Object", name := "<init>", desc := "()V" } : Jvm.MethodName)).before a0 Z = true := hw _ (List.mem_of_getElem? (i := 13) rfl)
theorem tw14 {a0 : Array Value} {Z : State} (hw : ∀ d ∈ tables_1, d.before a0 Z = true) : (Jvm.Cond.code ({ cls := "java/lang/Object", name := "<init>", desc := "()V" } : Jvm.MethodName) object_method_1_code (1 : Nat) (Option.none : Option Jvm.ClassFile.FieldType)).before a0 Z = true := hw _ (List.mem_of_getElem? (i := 14) rfl)
theorem tw15 {a0 : Array Value} {Z : State} (hw : ∀ d ∈ tables_1, d.before a0 Z = true) : (Jvm.Cond.fieldLink "java/lang/String" (38 : Nat) "java/lang/String" "COMPACT_STRINGS" "Z").before a0 Z = true := hw _ (List.mem_of_getElem? (i := 15) rfl)
theorem tw16 {a0 : Array Value} {Z : State} (hw : ∀ d ∈ tables_1, d.before a0 Z = true) : (Jvm.Cond.methodLink "java/lang/String" (177 : Nat) ({ cls := "java/lang/StringUTF16", name := "compress", desc := "([CII)[B" } : Jvm.MethodName)).before a0 Z = true := hw _ (List.mem_of_getElem? (i := 16) rfl)
theorem tw17 {a0 : Array Value} {Z : State} (hw : ∀ d ∈ tables_1, d.before a0 Z = true) : (Jvm.Cond.static ({ cls := "java/lang/StringUTF16", name := "compress", desc := "([CII)[B" } : Jvm.MethodName)).before a0 Z = true := hw _ (List.mem_of_getElem? (i := 17) rfl)
theorem tw18 {a0 : Array Value} {Z : State} (hw : ∀ d ∈ tables_1, d.before a0 Z = true) : (Jvm.Cond.initialized "java/lang/StringUTF16").before a0 Z = true := hw _ (List.mem_of_getElem? (i := 18) rfl)
theorem tw19 {a0 : Array Value} {Z : State} (hw : ∀ d ∈ tables_1, d.before a0 Z = true) : (Jvm.Cond.code ({ cls := "java/lang/StringUTF16", name := "compress", desc := "([CII)[B" } : Jvm.MethodName) jdk_52_method_16_code (6 : Nat) (Option.some (Jvm.ClassFile.FieldType.array Jvm.ClassFile.FieldType.byte))).before a0 Z = true := hw _ (List.mem_of_getElem? (i := 19) rfl)
theorem tw20 {a0 : Array Value} {Z : State} (hw : ∀ d ∈ tables_1, d.before a0 Z = true) : (Jvm.Cond.arrayClass Jvm.ClassFile.FieldType.byte).before a0 Z = true := hw _ (List.mem_of_getElem? (i := 20) rfl)
theorem tw21 {a0 : Array Value} {Z : State} (hw : ∀ d ∈ tables_1, d.before a0 Z = true) : (Jvm.Cond.methodLink "java/lang/StringUTF16" (115 : Nat) ({ cls := "java/lang/StringUTF16", name := "compress", desc := "([CI[BII)I" } : Jvm.MethodName)).before a0 Z = true := hw _ (List.mem_of_getElem? (i := 21) rfl)
theorem tw22 {a0 : Array Value} {Z : State} (hw : ∀ d ∈ tables_1, d.before a0 Z = true) : (Jvm.Cond.static ({ cls := "java/lang/StringUTF16", name := "compress", desc := "([CI[BII)I" } : Jvm.MethodName)).before a0 Z = true := hw _ (List.mem_of_getElem? (i := 22) rfl)
theorem tw23 {a0 : Array Value} {Z : State} (hw : ∀ d ∈ tables_1, d.before a0 Z = true) : (Jvm.Cond.code ({ cls := "java/lang/StringUTF16", name := "compress", desc := "([CI[BII)I" } : Jvm.MethodName) jdk_52_method_21_code (7 : Nat) (Option.some Jvm.ClassFile.FieldType.int)).before a0 Z = true := hw _ (List.mem_of_getElem? (i := 23) rfl)
theorem tw24 {a0 : Array Value} {Z : State} (hw : ∀ d ∈ tables_1, d.before a0 Z = true) : (Jvm.Cond.methodLink "java/lang/String" (47 : Nat) ({ cls := "java/lang/StringUTF16", name := "coderFromArrayLen", desc := "([BI)B" } : Jvm.MethodName)).before a0 Z = true := hw _ (List.mem_of_getElem? (i := 24) rfl)
theorem tw25 {a0 : Array Value} {Z : State} (hw : ∀ d ∈ tables_1, d.before a0 Z = true) : (Jvm.Cond.static ({ cls := "java/lang/StringUTF16", name := "coderFromArrayLen", desc := "([BI)B" } : Jvm.MethodName)).before a0 Z = true := hw _ (List.mem_of_getElem? (i := 25) rfl)
theorem tw26 {a0 : Array Value} {Z : State} (hw : ∀ d ∈ tables_1, d.before a0 Z = true) : (Jvm.Cond.code ({ cls := "java/lang/StringUTF16", name := "coderFromArrayLen", desc := "([BI)B" } : Jvm.MethodName) jdk_52_method_15_code (2 : Nat) (Option.some Jvm.ClassFile.FieldType.byte)).before a0 Z = true := hw _ (List.mem_of_getElem? (i := 26) rfl)
theorem tw27 {a0 : Array Value} {Z : State} (hw : ∀ d ∈ tables_1, d.before a0 Z = true) : (Jvm.Cond.fieldLink "java/lang/String" (15 : Nat) "java/lang/String" "coder" "B").before a0 Z = true := hw _ (List.mem_of_getElem? (i := 27) rfl)
theorem tw28 {a0 : Array Value} {Z : State} (hw : ∀ d ∈ tables_1, d.before a0 Z = true) : (Jvm.Cond.laysFinal "java/lang/String" "java/lang/String" "coder" "B").before a0 Z = true := hw _ (List.mem_of_getElem? (i := 28) rfl)
theorem tw29 {a0 : Array Value} {Z : State} (hw : ∀ d ∈ tables_1, d.before a0 Z = true) : (Jvm.Cond.fieldLink "java/lang/String" (9 : Nat) "java/lang/String" "value" "[B").before a0 Z = true := hw _ (List.mem_of_getElem? (i := 29) rfl)
theorem tw30 {a0 : Array Value} {Z : State} (hw : ∀ d ∈ tables_1, d.before a0 Z = true) : (Jvm.Cond.laysFinal "java/lang/String" "java/lang/String" "value" "[B").before a0 Z = true := hw _ (List.mem_of_getElem? (i := 30) rfl)
theorem tw31 {a0 : Array Value} {Z : State} (hw : ∀ d ∈ tables_1, d.before a0 Z = true) : (Jvm.Cond.methodLink "com/example/cross_lock/crosslock/LimitsCheckNamePinLaw" (15 : Nat) ({ cls := "com/example/cross_lock/crosslock/Limits", name := "checkName", desc := "(Ljava/lang/String;)Ljava/lang/String;" } : Jvm.MethodName)).before a0 Z = true := hw _ (List.mem_of_getElem? (i := 31) rfl)
theorem tw32 {a0 : Array Value} {Z : State} (hw : ∀ d ∈ tables_1, d.before a0 Z = true) : (Jvm.Cond.static ({ cls := "com/example/cross_lock/crosslock/Limits", name := "checkName", desc := "(Ljava/lang/String;)Ljava/lang/String;" } : Jvm.MethodName)).before a0 Z = true := hw _ (List.mem_of_getElem? (i := 32) rfl)
theorem tw33 {a0 : Array Value} {Z : State} (hw : ∀ d ∈ tables_1, d.before a0 Z = true) : (Jvm.Cond.initialized "com/example/cross_lock/crosslock/Limits").before a0 Z = true := hw _ (List.mem_of_getElem? (i := 33) rfl)
theorem tw34 {a0 : Array Value} {Z : State} (hw : ∀ d ∈ tables_1, d.before a0 Z = true) : (Jvm.Cond.code ({ cls := "com/example/cross_lock/crosslock/Limits", name := "checkName", desc := "(Ljava/lang/String;)Ljava/lang/String;" } : Jvm.MethodName) prog_8_method_2_code (2 : Nat) (Option.some (Jvm.ClassFile.FieldType.object "java/lang/String"))).before a0 Z = true := hw _ (List.mem_of_getElem? (i := 34) rfl)
theorem tw35 {a0 : Array Value} {Z : State} (hw : ∀ d ∈ tables_1, d.before a0 Z = true) : (Jvm.Cond.stringLink "com/example/cross_lock/crosslock/Limits" (7 : Nat) "name").before a0 Z = true := hw _ (List.mem_of_getElem? (i := 35) rfl)
theorem tw36 {a0 : Array Value} {Z : State} (hw : ∀ d ∈ tables_1, d.before a0 Z = true) : (Jvm.Cond.soleField "java/lang/String" "value").before a0 Z = true := hw _ (List.mem_of_getElem? (i := 36) rfl)
theorem tw37 {a0 : Array Value} {Z : State} (hw : ∀ d ∈ tables_1, d.before a0 Z = true) : (Jvm.Cond.soleField "java/lang/String" "coder").before a0 Z = true := hw _ (List.mem_of_getElem? (i := 37) rfl)
theorem tw38 {a0 : Array Value} {Z : State} (hw : ∀ d ∈ tables_1, d.before a0 Z = true) : (Jvm.Cond.methodLink "com/example/cross_lock/crosslock/Limits" (9 : Nat) ({ cls := "java/util/Objects", name := "requireNonNull", desc := "(Ljava/lang/Object;Ljava/lang/String;)Ljava/lang/Object;" } : Jvm.MethodName)).before a0 Z = true := hw _ (List.mem_of_getElem? (i := 38) rfl)
theorem tw39 {a0 : Array Value} {Z : State} (hw : ∀ d ∈ tables_1, d.before a0 Z = true) : (Jvm.Cond.static ({ cls := "java/util/Objects", name := "requireNonNull", desc := "(Ljava/lang/Object;Ljava/lang/String;)Ljava/lang/Object;" } : Jvm.MethodName)).before a0 Z = true := hw _ (List.mem_of_getElem? (i := 39) rfl)
theorem tw40 {a0 : Array Value} {Z : State} (hw : ∀ d ∈ tables_1, d.before a0 Z = true) : (Jvm.Cond.initialized "java/util/Objects").before a0 Z = true := hw _ (List.mem_of_getElem? (i := 40) rfl)
theorem tw41 {a0 : Array Value} {Z : State} (hw : ∀ d ∈ tables_1, d.before a0 Z = true) : (Jvm.Cond.code ({ cls := "java/util/Objects", name := "requireNonNull", desc := "(Ljava/lang/Object;Ljava/lang/String;)Ljava/lang/Object;" } : Jvm.MethodName) jdk_31_method_11_code (2 : Nat) (Option.some (Jvm.ClassFile.FieldType.object "java/lang/Object"))).before a0 Z = true := hw _ (List.mem_of_getElem? (i := 41) rfl)
theorem tw42 {a0 : Array Value} {Z : State} (hw : ∀ d ∈ tables_1, d.before a0 Z = true) : (Jvm.Cond.methodLink "com/example/cross_lock/crosslock/Limits" (15 : Nat) ({ cls := "java/lang/String", name := "length", desc := "()I" } : Jvm.MethodName)).before a0 Z = true := hw _ (List.mem_of_getElem? (i := 42) rfl)
theorem tw43 {a0 : Array Value} {Z : State} (hw : ∀ d ∈ tables_1, d.before a0 Z = true) : (Jvm.Cond.declares ({ cls := "java/lang/String", name := "length", desc := "()I" } : Jvm.MethodName)).before a0 Z = true := hw _ (List.mem_of_getElem? (i := 43) rfl)
theorem tw44 {a0 : Array Value} {Z : State} (hw : ∀ d ∈ tables_1, d.before a0 Z = true) : (Jvm.Cond.instanceMethod ({ cls := "java/lang/String", name := "length", desc := "()I" } : Jvm.MethodName)).before a0 Z = true := hw _ (List.mem_of_getElem? (i := 44) rfl)
theorem tw45 {a0 : Array Value} {Z : State} (hw : ∀ d ∈ tables_1, d.before a0 Z = true) : (Jvm.Cond.selects "java/lang/String" ({ cls := "java/lang/String", name := "length", desc := "()I" } : Jvm.MethodName) ({ cls := "java/lang/String", name := "length", desc := "()I" } : Jvm.MethodName)).before a0 Z = true := hw _ (List.mem_of_getElem? (i := 45) rfl)
theorem tw46 {a0 : Array Value} {Z : State} (hw : ∀ d ∈ tables_1, d.before a0 Z = true) : (Jvm.Cond.code ({ cls := "java/lang/String", name := "length", desc := "()I" } : Jvm.MethodName) jdk_42_method_54_code (1 : Nat) (Option.some Jvm.ClassFile.FieldType.int)).before a0 Z = true := hw _ (List.mem_of_getElem? (i := 46) rfl)
theorem tw47 {a0 : Array Value} {Z : State} (hw : ∀ d ∈ tables_1, d.before a0 Z = true) : (Jvm.Cond.methodLink "java/lang/String" (335 : Nat) ({ cls := "java/lang/String", name := "coder", desc := "()B" } : Jvm.MethodName)).before a0 Z = true := hw _ (List.mem_of_getElem? (i := 47) rfl)
theorem tw48 {a0 : Array Value} {Z : State} (hw : ∀ d ∈ tables_1, d.before a0 Z = true) : (Jvm.Cond.declares ({ cls := "java/lang/String", name := "coder", desc := "()B" } : Jvm.MethodName)).before a0 Z = true := hw _ (List.mem_of_getElem? (i := 48) rfl)
theorem tw49 {a0 : Array Value} {Z : State} (hw : ∀ d ∈ tables_1, d.before a0 Z = true) : (Jvm.Cond.instanceMethod ({ cls := "java/lang/String", name := "coder", desc := "()B" } : Jvm.MethodName)).before a0 Z = true := hw _ (List.mem_of_getElem? (i := 49) rfl)
theorem tw50 {a0 : Array Value} {Z : State} (hw : ∀ d ∈ tables_1, d.before a0 Z = true) : (Jvm.Cond.selects "java/lang/String" ({ cls := "java/lang/String", name := "coder", desc := "()B" } : Jvm.MethodName) ({ cls := "java/lang/String", name := "coder", desc := "()B" } : Jvm.MethodName)).before a0 Z = true := hw _ (List.mem_of_getElem? (i := 50) rfl)
theorem tw51 {a0 : Array Value} {Z : State} (hw : ∀ d ∈ tables_1, d.before a0 Z = true) : (Jvm.Cond.code ({ cls := "java/lang/String", name := "coder", desc := "()B" } : Jvm.MethodName) jdk_42_method_152_code (1 : Nat) (Option.some Jvm.ClassFile.FieldType.byte)).before a0 Z = true := hw _ (List.mem_of_getElem? (i := 51) rfl)
theorem tw52 {a0 : Array Value} {Z : State} (hw : ∀ d ∈ tables_1, d.before a0 Z = true) : (Jvm.Cond.methodLink "com/example/cross_lock/crosslock/Limits" (21 : Nat) ({ cls := "java/lang/String", name := "codePointCount", desc := "(II)I" } : Jvm.MethodName)).before a0 Z = true := hw _ (List.mem_of_getElem? (i := 52) rfl)
theorem tw53 {a0 : Array Value} {Z : State} (hw : ∀ d ∈ tables_1, d.before a0 Z = true) : (Jvm.Cond.declares ({ cls := "java/lang/String", name := "codePointCount", desc := "(II)I" } : Jvm.MethodName)).before a0 Z = true := hw _ (List.mem_of_getElem? (i := 53) rfl)
theorem tw54 {a0 : Array Value} {Z : State} (hw : ∀ d ∈ tables_1, d.before a0 Z = true) : (Jvm.Cond.instanceMethod ({ cls := "java/lang/String", name := "codePointCount", desc := "(II)I" } : Jvm.MethodName)).before a0 Z = true := hw _ (List.mem_of_getElem? (i := 54) rfl)
theorem tw55 {a0 : Array Value} {Z : State} (hw : ∀ d ∈ tables_1, d.before a0 Z = true) : (Jvm.Cond.selects "java/lang/String" ({ cls := "java/lang/String", name := "codePointCount", desc := "(II)I" } : Jvm.MethodName) ({ cls := "java/lang/String", name := "codePointCount", desc := "(II)I" } : Jvm.MethodName)).before a0 Z = true := hw _ (List.mem_of_getElem? (i := 55) rfl)
theorem tw56 {a0 : Array Value} {Z : State} (hw : ∀ d ∈ tables_1, d.before a0 Z = true) : (Jvm.Cond.code ({ cls := "java/lang/String", name := "codePointCount", desc := "(II)I" } : Jvm.MethodName) jdk_42_method_59_code (3 : Nat) (Option.some Jvm.ClassFile.FieldType.int)).before a0 Z = true := hw _ (List.mem_of_getElem? (i := 56) rfl)
theorem tw57 {a0 : Array Value} {Z : State} (hw : ∀ d ∈ tables_1, d.before a0 Z = true) : (Jvm.Cond.methodLink "java/lang/String" (505 : Nat) ({ cls := "java/lang/String", name := "length", desc := "()I" } : Jvm.MethodName)).before a0 Z = true := hw _ (List.mem_of_getElem? (i := 57) rfl)
theorem tw58 {a0 : Array Value} {Z : State} (hw : ∀ d ∈ tables_1, d.before a0 Z = true) : (Jvm.Cond.methodLink "java/lang/String" (511 : Nat) ({ cls := "java/util/Objects", name := "checkFromToIndex", desc := "(III)I" } : Jvm.MethodName)).before a0 Z = true := hw _ (List.mem_of_getElem? (i := 58) rfl)
theorem tw59 {a0 : Array Value} {Z : State} (hw : ∀ d ∈ tables_1, d.before a0 Z = true) : (Jvm.Cond.static ({ cls := "java/util/Objects", name := "checkFromToIndex", desc := "(III)I" } : Jvm.MethodName)).before a0 Z = true := hw _ (List.mem_of_getElem? (i := 59) rfl)
theorem tw60 {a0 : Array Value} {Z : State} (hw : ∀ d ∈ tables_1, d.before a0 Z = true) : (Jvm.Cond.code ({ cls := "java/util/Objects", name := "checkFromToIndex", desc := "(III)I" } : Jvm.MethodName) jdk_31_method_18_code (3 : Nat) (Option.some Jvm.ClassFile.FieldType.int)).before a0 Z = true := hw _ (List.mem_of_getElem? (i := 60) rfl)
theorem tw61 {a0 : Array Value} {Z : State} (hw : ∀ d ∈ tables_1, d.before a0 Z = true) : (Jvm.Cond.methodLink "java/util/Objects" (111 : Nat) ({ cls := "jdk/internal/util/Preconditions", name := "checkFromToIndex", desc := "(IIILjava/util/function/BiFunction;)I" } : Jvm.MethodName)).before a0 Z = true := hw _ (List.mem_of_getElem? (i := 61) rfl)
theorem tw62 {a0 : Array Value} {Z : State} (hw : ∀ d ∈ tables_1, d.before a0 Z = true) : (Jvm.Cond.static ({ cls := "jdk/internal/util/Preconditions", name := "checkFromToIndex", desc := "(IIILjava/util/function/BiFunction;)I" } : Jvm.MethodName)).before a0 Z = true := hw _ (List.mem_of_getElem? (i := 62) rfl)
theorem tw63 {a0 : Array Value} {Z : State} (hw : ∀ d ∈ tables_1, d.before a0 Z = true) : (Jvm.Cond.initialized "jdk/internal/util/Preconditions").before a0 Z = true := hw _ (List.mem_of_getElem? (i := 63) rfl)
theorem tw64 {a0 : Array Value} {Z : State} (hw : ∀ d ∈ tables_1, d.before a0 Z = true) : (Jvm.Cond.code ({ cls := "jdk/internal/util/Preconditions", name := "checkFromToIndex", desc := "(IIILjava/util/function/BiFunction;)I" } : Jvm.MethodName) jdk_41_method_12_code (4 : Nat) (Option.some Jvm.ClassFile.FieldType.int)).before a0 Z = true := hw _ (List.mem_of_getElem? (i := 64) rfl)
theorem tw65 {a0 : Array Value} {Z : State} (hw : ∀ d ∈ tables_1, d.before a0 Z = true) : (Jvm.Cond.methodLink "java/lang/String" (492 : Nat) ({ cls := "java/lang/String", name := "isLatin1", desc := "()Z" } : Jvm.MethodName)).before a0 Z = true := hw _ (List.mem_of_getElem? (i := 65) rfl)
theorem tw66 {a0 : Array Value} {Z : State} (hw : ∀ d ∈ tables_1, d.before a0 Z = true) : (Jvm.Cond.declares ({ cls := "java/lang/String", name := "isLatin1", desc := "()Z" } : Jvm.MethodName)).before a0 Z = true := hw _ (List.mem_of_getElem? (i := 66) rfl)
theorem tw67 {a0 : Array Value} {Z : State} (hw : ∀ d ∈ tables_1, d.before a0 Z = true) : (Jvm.Cond.instanceMethod ({ cls := "java/lang/String", name := "isLatin1", desc := "()Z" } : Jvm.MethodName)).before a0 Z = true := hw _ (List.mem_of_getElem? (i := 67) rfl)
theorem tw68 {a0 : Array Value} {Z : State} (hw : ∀ d ∈ tables_1, d.before a0 Z = true) : (Jvm.Cond.selects "java/lang/String" ({ cls := "java/lang/String", name := "isLatin1", desc := "()Z" } : Jvm.MethodName) ({ cls := "java/lang/String", name := "isLatin1", desc := "()Z" } : Jvm.MethodName)).before a0 Z = true := hw _ (List.mem_of_getElem? (i := 68) rfl)
theorem tw69 {a0 : Array Value} {Z : State} (hw : ∀ d ∈ tables_1, d.before a0 Z = true) : (Jvm.Cond.code ({ cls := "java/lang/String", name := "isLatin1", desc := "()Z" } : Jvm.MethodName) jdk_42_method_154_code (1 : Nat) (Option.some Jvm.ClassFile.FieldType.boolean)).before a0 Z = true := hw _ (List.mem_of_getElem? (i := 69) rfl)
theorem tw70 {a0 : Array Value} {Z : State} (hw : ∀ d ∈ tables_1, d.before a0 Z = true) : (Jvm.Cond.constant "com/example/cross_lock/crosslock/LimitsCheckNamePinLaw" (8 : Nat) (55296 : Int32)).before a0 Z = true := hw _ (List.mem_of_getElem? (i := 70) rfl)
theorem tw71 {a0 : Array Value} {Z : State} (hw : ∀ d ∈ tables_1, d.before a0 Z = true) : (Jvm.Cond.constant "com/example/cross_lock/crosslock/LimitsCheckNamePinLaw" (9 : Nat) (56320 : Int32)).before a0 Z = true := hw _ (List.mem_of_getElem? (i := 71) rfl)
theorem tw72 {a0 : Array Value} {Z : State} (hw : ∀ d ∈ tables_1, d.before a0 Z = true) : (Jvm.Cond.methodLink "java/lang/StringUTF16" (119 : Nat) ({ cls := "java/lang/StringUTF16", name := "toBytes", desc := "([CII)[B" } : Jvm.MethodName)).before a0 Z = true := hw _ (List.mem_of_getElem? (i := 72) rfl)
theorem tw73 {a0 : Array Value} {Z : State} (hw : ∀ d ∈ tables_1, d.before a0 Z = true) : (Jvm.Cond.static ({ cls := "java/lang/StringUTF16", name := "toBytes", desc := "([CII)[B" } : Jvm.MethodName)).before a0 Z = true := hw _ (List.mem_of_getElem? (i := 73) rfl)
theorem tw74 {a0 : Array Value} {Z : State} (hw : ∀ d ∈ tables_1, d.before a0 Z = true) : (Jvm.Cond.code ({ cls := "java/lang/StringUTF16", name := "toBytes", desc := "([CII)[B" } : Jvm.MethodName) jdk_52_method_14_code (5 : Nat) (Option.some (Jvm.ClassFile.FieldType.array Jvm.ClassFile.FieldType.byte))).before a0 Z = true := hw _ (List.mem_of_getElem? (i := 74) rfl)
theorem tw75 {a0 : Array Value} {Z : State} (hw : ∀ d ∈ tables_1, d.before a0 Z = true) : (Jvm.Cond.methodLink "java/lang/StringUTF16" (107 : Nat) ({ cls := "java/lang/StringUTF16", name := "newBytesFor", desc := "(I)[B" } : Jvm.MethodName)).before a0 Z = true := hw _ (List.mem_of_getElem? (i := 75) rfl)
theorem tw76 {a0 : Array Value} {Z : State} (hw : ∀ d ∈ tables_1, d.before a0 Z = true) : (Jvm.Cond.static ({ cls := "java/lang/StringUTF16", name := "newBytesFor", desc := "(I)[B" } : Jvm.MethodName)).before a0 Z = true := hw _ (List.mem_of_getElem? (i := 76) rfl)
theorem tw77 {a0 : Array Value} {Z : State} (hw : ∀ d ∈ tables_1, d.before a0 Z = true) : (Jvm.Cond.code ({ cls := "java/lang/StringUTF16", name := "newBytesFor", desc := "(I)[B" } : Jvm.MethodName) jdk_52_method_2_code (1 : Nat) (Option.some (Jvm.ClassFile.FieldType.array Jvm.ClassFile.FieldType.byte))).before a0 Z = true := hw _ (List.mem_of_getElem? (i := 77) rfl)
theorem tw78 {a0 : Array Value} {Z : State} (hw : ∀ d ∈ tables_1, d.before a0 Z = true) : (Jvm.Cond.methodLink "java/lang/StringUTF16" (11 : Nat) ({ cls := "java/lang/StringUTF16", name := "newBytesLength", desc := "(I)I" } : Jvm.MethodName)).before a0 Z = true := hw _ (List.mem_of_getElem? (i := 78) rfl)
theorem tw79 {a0 : Array Value} {Z : State} (hw : ∀ d ∈ tables_1, d.before a0 Z = true) : (Jvm.Cond.static ({ cls := "java/lang/StringUTF16", name := "newBytesLength", desc := "(I)I" } : Jvm.MethodName)).before a0 Z = true := hw _ (List.mem_of_getElem? (i := 79) rfl)
theorem tw80 {a0 : Array Value} {Z : State} (hw : ∀ d ∈ tables_1, d.before a0 Z = true) : (Jvm.Cond.code ({ cls := "java/lang/StringUTF16", name := "newBytesLength", desc := "(I)I" } : Jvm.MethodName) jdk_52_method_3_code (1 : Nat) (Option.some Jvm.ClassFile.FieldType.int)).before a0 Z = true := hw _ (List.mem_of_getElem? (i := 80) rfl)
theorem tw81 {a0 : Array Value} {Z : State} (hw : ∀ d ∈ tables_1, d.before a0 Z = true) : (Jvm.Cond.constant "java/lang/StringUTF16" (20 : Nat) (1073741823 : Int32)).before a0 Z = true := hw _ (List.mem_of_getElem? (i := 81) rfl)
theorem tw82 {a0 : Array Value} {Z : State} (hw : ∀ d ∈ tables_1, d.before a0 Z = true) : (Jvm.Cond.methodLink "java/lang/StringUTF16" (111 : Nat) ({ cls := "java/lang/StringUTF16", name := "putChar", desc := "([BII)V" } : Jvm.MethodName)).before a0 Z = true := hw _ (List.mem_of_getElem? (i := 82) rfl)
theorem tw83 {a0 : Array Value} {Z : State} (hw : ∀ d ∈ tables_1, d.before a0 Z = true) : (Jvm.Cond.static ({ cls := "java/lang/StringUTF16", name := "putChar", desc := "([BII)V" } : Jvm.MethodName)).before a0 Z = true := hw _ (List.mem_of_getElem? (i := 83) rfl)
theorem tw84 {a0 : Array Value} {Z : State} (hw : ∀ d ∈ tables_1, d.before a0 Z = true) : (Jvm.Cond.code ({ cls := "java/lang/StringUTF16", name := "putChar", desc := "([BII)V" } : Jvm.MethodName) jdk_52_method_4_code (3 : Nat) (Option.none : Option Jvm.ClassFile.FieldType)).before a0 Z = true := hw _ (List.mem_of_getElem? (i := 84) rfl)
theorem tw85 {a0 : Array Value} {Z : State} (hw : ∀ d ∈ tables_1, d.before a0 Z = true) : (Jvm.Cond.fieldLink "java/lang/StringUTF16" (44 : Nat) "java/lang/StringUTF16" "$assertionsDisabled" "Z").before a0 Z = true := hw _ (List.mem_of_getElem? (i := 85) rfl)
theorem tw86 {a0 : Array Value} {Z : State} (hw : ∀ d ∈ tables_1, d.before a0 Z = true) : (Jvm.Cond.fieldLink "java/lang/StringUTF16" (59 : Nat) "java/lang/StringUTF16" "HI_BYTE_SHIFT" "I").before a0 Z = true := hw _ (List.mem_of_getElem? (i := 86) rfl)
theorem tw87 {a0 : Array Value} {Z : State} (hw : ∀ d ∈ tables_1, d.before a0 Z = true) : (Jvm.Cond.fieldLink "java/lang/StringUTF16" (63 : Nat) "java/lang/StringUTF16" "LO_BYTE_SHIFT" "I").before a0 Z = true := hw _ (List.mem_of_getElem? (i := 87) rfl)
theorem tw88 {a0 : Array Value} {Z : State} (hw : ∀ d ∈ tables_1, d.before a0 Z = true) : (Jvm.Cond.methodLink "java/lang/StringUTF16" (71 : Nat) ({ cls := "java/lang/StringUTF16", name := "getChar", desc := "([BI)C" } : Jvm.MethodName)).before a0 Z = true := hw _ (List.mem_of_getElem? (i := 88) rfl)
theorem tw89 {a0 : Array Value} {Z : State} (hw : ∀ d ∈ tables_1, d.before a0 Z = true) : (Jvm.Cond.static ({ cls := "java/lang/StringUTF16", name := "getChar", desc := "([BI)C" } : Jvm.MethodName)).before a0 Z = true := hw _ (List.mem_of_getElem? (i := 89) rfl)
theorem tw90 {a0 : Array Value} {Z : State} (hw : ∀ d ∈ tables_1, d.before a0 Z = true) : (Jvm.Cond.code ({ cls := "java/lang/StringUTF16", name := "getChar", desc := "([BI)C" } : Jvm.MethodName) jdk_52_method_5_code (2 : Nat) (Option.some Jvm.ClassFile.FieldType.char)).before a0 Z = true := hw _ (List.mem_of_getElem? (i := 90) rfl)
theorem tw91 {a0 : Array Value} {Z : State} (hw : ∀ d ∈ tables_1, d.before a0 Z = true) : (Jvm.Cond.methodLink "java/lang/String" (514 : Nat) ({ cls := "java/lang/StringUTF16", name := "codePointCount", desc := "([BII)I" } : Jvm.MethodName)).before a0 Z = true := hw _ (List.mem_of_getElem? (i := 91) rfl)
theorem tw92 {a0 : Array Value} {Z : State} (hw : ∀ d ∈ tables_1, d.before a0 Z = true) : (Jvm.Cond.static ({ cls := "java/lang/StringUTF16", name := "codePointCount", desc := "([BII)I" } : Jvm.MethodName)).before a0 Z = true := hw _ (List.mem_of_getElem? (i := 92) rfl)
theorem tw93 {a0 : Array Value} {Z : State} (hw : ∀ d ∈ tables_1, d.before a0 Z = true) : (Jvm.Cond.code ({ cls := "java/lang/StringUTF16", name := "codePointCount", desc := "([BII)I" } : Jvm.MethodName) jdk_52_method_12_code (3 : Nat) (Option.some Jvm.ClassFile.FieldType.int)).before a0 Z = true := hw _ (List.mem_of_getElem? (i := 93) rfl)
theorem tw94 {a0 : Array Value} {Z : State} (hw : ∀ d ∈ tables_1, d.before a0 Z = true) : (Jvm.Cond.methodLink "java/lang/StringUTF16" (100 : Nat) ({ cls := "java/lang/StringUTF16", name := "codePointCount", desc := "([BIIZ)I" } : Jvm.MethodName)).before a0 Z = true := hw _ (List.mem_of_getElem? (i := 94) rfl)
theorem tw95 {a0 : Array Value} {Z : State} (hw : ∀ d ∈ tables_1, d.before a0 Z = true) : (Jvm.Cond.static ({ cls := "java/lang/StringUTF16", name := "codePointCount", desc := "([BIIZ)I" } : Jvm.MethodName)).before a0 Z = true := hw _ (List.mem_of_getElem? (i := 95) rfl)
theorem tw96 {a0 : Array Value} {Z : State} (hw : ∀ d ∈ tables_1, d.before a0 Z = true) : (Jvm.Cond.code ({ cls := "java/lang/StringUTF16", name := "codePointCount", desc := "([BIIZ)I" } : Jvm.MethodName) jdk_52_method_11_code (6 : Nat) (Option.some Jvm.ClassFile.FieldType.int)).before a0 Z = true := hw _ (List.mem_of_getElem? (i := 96) rfl)
theorem tw97 {a0 : Array Value} {Z : State} (hw : ∀ d ∈ tables_1, d.before a0 Z = true) : (Jvm.Cond.methodLink "java/lang/StringUTF16" (75 : Nat) ({ cls := "java/lang/Character", name := "isHighSurrogate", desc := "(C)Z" } : Jvm.MethodName)).before a0 Z = true := hw _ (List.mem_of_getElem? (i := 97) rfl)
theorem tw98 {a0 : Array Value} {Z : State} (hw : ∀ d ∈ tables_1, d.before a0 Z = true) : (Jvm.Cond.static ({ cls := "java/lang/Character", name := "isHighSurrogate", desc := "(C)Z" } : Jvm.MethodName)).before a0 Z = true := hw _ (List.mem_of_getElem? (i := 98) rfl)
theorem tw99 {a0 : Array Value} {Z : State} (hw : ∀ d ∈ tables_1, d.before a0 Z = true) : (Jvm.Cond.initialized "java/lang/Character").before a0 Z = true := hw _ (List.mem_of_getElem? (i := 99) rfl)
theorem tw100 {a0 : Array Value} {Z : State} (hw : ∀ d ∈ tables_1, d.before a0 Z = true) : (Jvm.Cond.code ({ cls := "java/lang/Character", name := "isHighSurrogate", desc := "(C)Z" } : Jvm.MethodName) jdk_89_method_14_code (1 : Nat) (Option.some Jvm.ClassFile.FieldType.boolean)).before a0 Z = true := hw _ (List.mem_of_getElem? (i := 100) rfl)
theorem tw101 {a0 : Array Value} {Z : State} (hw : ∀ d ∈ tables_1, d.before a0 Z = true) : (Jvm.Cond.constant "java/lang/Character" (75 : Nat) (55296 : Int32)).before a0 Z = true := hw _ (List.mem_of_getElem? (i := 101) rfl)
theorem tw102 {a0 : Array Value} {Z : State} (hw : ∀ d ∈ tables_1, d.before a0 Z = true) : (Jvm.Cond.constant "java/lang/Character" (76 : Nat) (56320 : Int32)).before a0 Z = true := hw _ (List.mem_of_getElem? (i := 102) rfl)
theorem tw103 {a0 : Array Value} {Z : State} (hw : ∀ d ∈ tables_1, d.before a0 Z = true) : (Jvm.Cond.methodLink "java/lang/StringUTF16" (81 : Nat) ({ cls := "java/lang/Character", name := "isLowSurrogate", desc := "(C)Z" } : Jvm.MethodName)).before a0 Z = true := hw _ (List.mem_of_getElem? (i := 103) rfl)
theorem tw104 {a0 : Array Value} {Z : State} (hw : ∀ d ∈ tables_1, d.before a0 Z = true) : (Jvm.Cond.static ({ cls := "java/lang/Character", name := "isLowSurrogate", desc := "(C)Z" } : Jvm.MethodName)).before a0 Z = true := hw _ (List.mem_of_getElem? (i := 104) rfl)
theorem tw105 {a0 : Array Value} {Z : State} (hw : ∀ d ∈ tables_1, d.before a0 Z = true) : (Jvm.Cond.code ({ cls := "java/lang/Character", name := "isLowSurrogate", desc := "(C)Z" } : Jvm.MethodName) jdk_89_method_15_code (1 : Nat) (Option.some Jvm.ClassFile.FieldType.boolean)).before a0 Z = true := hw _ (List.mem_of_getElem? (i := 105) rfl)
theorem tw106 {a0 : Array Value} {Z : State} (hw : ∀ d ∈ tables_1, d.before a0 Z = true) : (Jvm.Cond.constant "java/lang/Character" (77 : Nat) (57344 : Int32)).before a0 Z = true := hw _ (List.mem_of_getElem? (i := 106) rfl)
theorem d_jdk_31_method_11_code_0 : decode jdk_31_method_11_code 0 = .ok (.aload_n 0, 1) := by decide +kernel
theorem d_jdk_31_method_11_code_1 : decode jdk_31_method_11_code 1 = .ok (.ifnonnull 12, 3) := by decide +kernel
theorem d_jdk_31_method_11_code_13 : decode jdk_31_method_11_code 13 = .ok (.aload_n 0, 1) := by decide +kernel
theorem d_jdk_31_method_11_code_14 : decode jdk_31_method_11_code 14 = .ok (.areturn, 1) := by decide +kernel
theorem d_jdk_31_method_18_code_0 : decode jdk_31_method_18_code 0 = .ok (.iload_n 0, 1) := by decide +kernel
theorem d_jdk_31_method_18_code_1 : decode jdk_31_method_18_code 1 = .ok (.iload_n 1, 1) := by decide +kernel
theorem d_jdk_31_method_18_code_2 : decode jdk_31_method_18_code 2 = .ok (.iload_n 2, 1) := by decide +kernel
theorem d_jdk_31_method_18_code_3 : decode jdk_31_method_18_code 3 = .ok (.aconst_null, 1) := by decide +kernel
theorem d_jdk_31_method_18_code_4 : decode jdk_31_method_18_code 4 = .ok (.invokestatic 111, 3) := by decide +kernel
theorem d_jdk_31_method_18_code_7 : decode jdk_31_method_18_code 7 = .ok (.ireturn, 1) := by decide +kernel
theorem d_jdk_41_method_12_code_0 : decode jdk_41_method_12_code 0 = .ok (.iload_n 0, 1) := by decide +kernel
theorem d_jdk_41_method_12_code_1 : decode jdk_41_method_12_code 1 = .ok (.ifCond .lt 13, 3) := by decide +kernel
theorem d_jdk_41_method_12_code_4 : decode jdk_41_method_12_code 4 = .ok (.iload_n 0, 1) := by decide +kernel
theorem d_jdk_41_method_12_code_5 : decode jdk_41_method_12_code 5 = .ok (.iload_n 1, 1) := by decide +kernel
theorem d_jdk_41_method_12_code_6 : decode jdk_41_method_12_code 6 = .ok (.if_icmp .gt 8, 3) := by decide +kernel
theorem d_jdk_41_method_12_code_9 : decode jdk_41_method_12_code 9 = .ok (.iload_n 1, 1) := by decide +kernel
theorem d_jdk_41_method_12_code_10 : decode jdk_41_method_12_code 10 = .ok (.iload_n 2, 1) := by decide +kernel
theorem d_jdk_41_method_12_code_11 : decode jdk_41_method_12_code 11 = .ok (.if_icmp .le 11, 3) := by decide +kernel
theorem d_jdk_41_method_12_code_22 : decode jdk_41_method_12_code 22 = .ok (.iload_n 0, 1) := by decide +kernel
theorem d_jdk_41_method_12_code_23 : decode jdk_41_method_12_code 23 = .ok (.ireturn, 1) := by decide +kernel
theorem d_jdk_42_method_149_code_0 : decode jdk_42_method_149_code 0 = .ok (.aload_n 0, 1) := by decide +kernel
theorem d_jdk_42_method_149_code_1 : decode jdk_42_method_149_code 1 = .ok (.invokespecial 1, 3) := by decide +kernel
theorem d_jdk_42_method_149_code_4 : decode jdk_42_method_149_code 4 = .ok (.iload_n 3, 1) := by decide +kernel
theorem d_jdk_42_method_149_code_5 : decode jdk_42_method_149_code 5 = .ok (.ifCond .ne 22, 3) := by decide +kernel
theorem d_jdk_42_method_149_code_27 : decode jdk_42_method_149_code 27 = .ok (.getstatic 38, 3) := by decide +kernel
theorem d_jdk_42_method_149_code_30 : decode jdk_42_method_149_code 30 = .ok (.ifCond .eq 28, 3) := by decide +kernel
theorem d_jdk_42_method_149_code_33 : decode jdk_42_method_149_code 33 = .ok (.aload_n 1, 1) := by decide +kernel
theorem d_jdk_42_method_149_code_34 : decode jdk_42_method_149_code 34 = .ok (.iload_n 2, 1) := by decide +kernel
theorem d_jdk_42_method_149_code_35 : decode jdk_42_method_149_code 35 = .ok (.iload_n 3, 1) := by decide +kernel
theorem d_jdk_42_method_149_code_36 : decode jdk_42_method_149_code 36 = .ok (.invokestatic 177, 3) := by decide +kernel
theorem d_jdk_42_method_149_code_39 : decode jdk_42_method_149_code 39 = .ok (.astore 5, 2) := by decide +kernel
theorem d_jdk_42_method_149_code_41 : decode jdk_42_method_149_code 41 = .ok (.aload_n 0, 1) := by decide +kernel
theorem d_jdk_42_method_149_code_42 : decode jdk_42_method_149_code 42 = .ok (.aload 5, 2) := by decide +kernel
theorem d_jdk_42_method_149_code_44 : decode jdk_42_method_149_code 44 = .ok (.iload_n 3, 1) := by decide +kernel
theorem d_jdk_42_method_149_code_45 : decode jdk_42_method_149_code 45 = .ok (.invokestatic 47, 3) := by decide +kernel
theorem d_jdk_42_method_149_code_48 : decode jdk_42_method_149_code 48 = .ok (.putfield 15, 3) := by decide +kernel
theorem d_jdk_42_method_149_code_51 : decode jdk_42_method_149_code 51 = .ok (.aload_n 0, 1) := by decide +kernel
theorem d_jdk_42_method_149_code_52 : decode jdk_42_method_149_code 52 = .ok (.aload 5, 2) := by decide +kernel
theorem d_jdk_42_method_149_code_54 : decode jdk_42_method_149_code 54 = .ok (.putfield 9, 3) := by decide +kernel
theorem d_jdk_42_method_149_code_57 : decode jdk_42_method_149_code 57 = .ok (.return_, 1) := by decide +kernel
theorem d_jdk_42_method_152_code_0 : decode jdk_42_method_152_code 0 = .ok (.getstatic 38, 3) := by decide +kernel
theorem d_jdk_42_method_152_code_3 : decode jdk_42_method_152_code 3 = .ok (.ifCond .eq 10, 3) := by decide +kernel
theorem d_jdk_42_method_152_code_6 : decode jdk_42_method_152_code 6 = .ok (.aload_n 0, 1) := by decide +kernel
theorem d_jdk_42_method_152_code_7 : decode jdk_42_method_152_code 7 = .ok (.getfield 15, 3) := by decide +kernel
theorem d_jdk_42_method_152_code_10 : decode jdk_42_method_152_code 10 = .ok (.goto 4, 3) := by decide +kernel
theorem d_jdk_42_method_152_code_14 : decode jdk_42_method_152_code 14 = .ok (.ireturn, 1) := by decide +kernel
theorem d_jdk_42_method_154_code_0 : decode jdk_42_method_154_code 0 = .ok (.getstatic 38, 3) := by decide +kernel
theorem d_jdk_42_method_154_code_3 : decode jdk_42_method_154_code 3 = .ok (.ifCond .eq 14, 3) := by decide +kernel
theorem d_jdk_42_method_154_code_6 : decode jdk_42_method_154_code 6 = .ok (.aload_n 0, 1) := by decide +kernel
theorem d_jdk_42_method_154_code_7 : decode jdk_42_method_154_code 7 = .ok (.getfield 15, 3) := by decide +kernel
theorem d_jdk_42_method_154_code_10 : decode jdk_42_method_154_code 10 = .ok (.ifCond .ne 7, 3) := by decide +kernel
theorem d_jdk_42_method_154_code_13 : decode jdk_42_method_154_code 13 = .ok (.iconst 1, 1) := by decide +kernel
theorem d_jdk_42_method_154_code_14 : decode jdk_42_method_154_code 14 = .ok (.goto 4, 3) := by decide +kernel
theorem d_jdk_42_method_154_code_17 : decode jdk_42_method_154_code 17 = .ok (.iconst 0, 1) := by decide +kernel
theorem d_jdk_42_method_154_code_18 : decode jdk_42_method_154_code 18 = .ok (.ireturn, 1) := by decide +kernel
theorem d_jdk_42_method_3_code_0 : decode jdk_42_method_3_code 0 = .ok (.aload_n 0, 1) := by decide +kernel
theorem d_jdk_42_method_3_code_1 : decode jdk_42_method_3_code 1 = .ok (.aload_n 1, 1) := by decide +kernel
theorem d_jdk_42_method_3_code_2 : decode jdk_42_method_3_code 2 = .ok (.iconst 0, 1) := by decide +kernel
theorem d_jdk_42_method_3_code_3 : decode jdk_42_method_3_code 3 = .ok (.aload_n 1, 1) := by decide +kernel
theorem d_jdk_42_method_3_code_4 : decode jdk_42_method_3_code 4 = .ok (.arraylength, 1) := by decide +kernel
theorem d_jdk_42_method_3_code_5 : decode jdk_42_method_3_code 5 = .ok (.aconst_null, 1) := by decide +kernel
theorem d_jdk_42_method_3_code_6 : decode jdk_42_method_3_code 6 = .ok (.invokespecial 27, 3) := by decide +kernel
theorem d_jdk_42_method_3_code_9 : decode jdk_42_method_3_code 9 = .ok (.return_, 1) := by decide +kernel
theorem d_jdk_42_method_54_code_0 : decode jdk_42_method_54_code 0 = .ok (.aload_n 0, 1) := by decide +kernel
theorem d_jdk_42_method_54_code_1 : decode jdk_42_method_54_code 1 = .ok (.getfield 9, 3) := by decide +kernel
theorem d_jdk_42_method_54_code_4 : decode jdk_42_method_54_code 4 = .ok (.arraylength, 1) := by decide +kernel
theorem d_jdk_42_method_54_code_5 : decode jdk_42_method_54_code 5 = .ok (.aload_n 0, 1) := by decide +kernel
theorem d_jdk_42_method_54_code_6 : decode jdk_42_method_54_code 6 = .ok (.invokevirtual 335, 3) := by decide +kernel
theorem d_jdk_42_method_54_code_9 : decode jdk_42_method_54_code 9 = .ok (.ishr, 1) := by decide +kernel
theorem d_jdk_42_method_54_code_10 : decode jdk_42_method_54_code 10 = .ok (.ireturn, 1) := by decide +kernel
theorem d_jdk_42_method_59_code_0 : decode jdk_42_method_59_code 0 = .ok (.iload_n 1, 1) := by decide +kernel
theorem d_jdk_42_method_59_code_1 : decode jdk_42_method_59_code 1 = .ok (.iload_n 2, 1) := by decide +kernel
theorem d_jdk_42_method_59_code_2 : decode jdk_42_method_59_code 2 = .ok (.aload_n 0, 1) := by decide +kernel
theorem d_jdk_42_method_59_code_3 : decode jdk_42_method_59_code 3 = .ok (.invokevirtual 505, 3) := by decide +kernel
theorem d_jdk_42_method_59_code_6 : decode jdk_42_method_59_code 6 = .ok (.invokestatic 511, 3) := by decide +kernel
theorem d_jdk_42_method_59_code_9 : decode jdk_42_method_59_code 9 = .ok (.pop, 1) := by decide +kernel
theorem d_jdk_42_method_59_code_10 : decode jdk_42_method_59_code 10 = .ok (.aload_n 0, 1) := by decide +kernel
theorem d_jdk_42_method_59_code_11 : decode jdk_42_method_59_code 11 = .ok (.invokevirtual 492, 3) := by decide +kernel
theorem d_jdk_42_method_59_code_14 : decode jdk_42_method_59_code 14 = .ok (.ifCond .eq 7, 3) := by decide +kernel
theorem d_jdk_42_method_59_code_17 : decode jdk_42_method_59_code 17 = .ok (.iload_n 2, 1) := by decide +kernel
theorem d_jdk_42_method_59_code_18 : decode jdk_42_method_59_code 18 = .ok (.iload_n 1, 1) := by decide +kernel
theorem d_jdk_42_method_59_code_19 : decode jdk_42_method_59_code 19 = .ok (.isub, 1) := by decide +kernel
theorem d_jdk_42_method_59_code_20 : decode jdk_42_method_59_code 20 = .ok (.ireturn, 1) := by decide +kernel
theorem d_jdk_42_method_59_code_21 : decode jdk_42_method_59_code 21 = .ok (.aload_n 0, 1) := by decide +kernel
theorem d_jdk_42_method_59_code_22 : decode jdk_42_method_59_code 22 = .ok (.getfield 9, 3) := by decide +kernel
theorem d_jdk_42_method_59_code_25 : decode jdk_42_method_59_code 25 = .ok (.iload_n 1, 1) := by decide +kernel
theorem d_jdk_42_method_59_code_26 : decode jdk_42_method_59_code 26 = .ok (.iload_n 2, 1) := by decide +kernel
theorem d_jdk_42_method_59_code_27 : decode jdk_42_method_59_code 27 = .ok (.invokestatic 514, 3) := by decide +kernel
theorem d_jdk_42_method_59_code_30 : decode jdk_42_method_59_code 30 = .ok (.ireturn, 1) := by decide +kernel
theorem d_jdk_52_method_11_code_0 : decode jdk_52_method_11_code 0 = .ok (.getstatic 44, 3) := by decide +kernel
theorem d_jdk_52_method_11_code_3 : decode jdk_52_method_11_code 3 = .ok (.ifCond .ne 16, 3) := by decide +kernel
theorem d_jdk_52_method_11_code_19 : decode jdk_52_method_11_code 19 = .ok (.iload_n 2, 1) := by decide +kernel
theorem d_jdk_52_method_11_code_20 : decode jdk_52_method_11_code 20 = .ok (.iload_n 1, 1) := by decide +kernel
theorem d_jdk_52_method_11_code_21 : decode jdk_52_method_11_code 21 = .ok (.isub, 1) := by decide +kernel
theorem d_jdk_52_method_11_code_22 : decode jdk_52_method_11_code 22 = .ok (.istore 4, 2) := by decide +kernel
theorem d_jdk_52_method_11_code_24 : decode jdk_52_method_11_code 24 = .ok (.iload_n 1, 1) := by decide +kernel
theorem d_jdk_52_method_11_code_25 : decode jdk_52_method_11_code 25 = .ok (.istore 5, 2) := by decide +kernel
theorem d_jdk_52_method_11_code_27 : decode jdk_52_method_11_code 27 = .ok (.iload_n 3, 1) := by decide +kernel
theorem d_jdk_52_method_11_code_28 : decode jdk_52_method_11_code 28 = .ok (.ifCond .eq 16, 3) := by decide +kernel
theorem d_jdk_52_method_11_code_44 : decode jdk_52_method_11_code 44 = .ok (.iload 5, 2) := by decide +kernel
theorem d_jdk_52_method_11_code_46 : decode jdk_52_method_11_code 46 = .ok (.iload_n 2, 1) := by decide +kernel
theorem d_jdk_52_method_11_code_47 : decode jdk_52_method_11_code 47 = .ok (.iconst 1, 1) := by decide +kernel
theorem d_jdk_52_method_11_code_48 : decode jdk_52_method_11_code 48 = .ok (.isub, 1) := by decide +kernel
theorem d_jdk_52_method_11_code_49 : decode jdk_52_method_11_code 49 = .ok (.if_icmp .ge 39, 3) := by decide +kernel
theorem d_jdk_52_method_11_code_52 : decode jdk_52_method_11_code 52 = .ok (.aload_n 0, 1) := by decide +kernel
theorem d_jdk_52_method_11_code_53 : decode jdk_52_method_11_code 53 = .ok (.iload 5, 2) := by decide +kernel
theorem d_jdk_52_method_11_code_55 : decode jdk_52_method_11_code 55 = .ok (.iinc 5 1, 3) := by decide +kernel
theorem d_jdk_52_method_11_code_58 : decode jdk_52_method_11_code 58 = .ok (.invokestatic 71, 3) := by decide +kernel
theorem d_jdk_52_method_11_code_61 : decode jdk_52_method_11_code 61 = .ok (.invokestatic 75, 3) := by decide +kernel
theorem d_jdk_52_method_11_code_64 : decode jdk_52_method_11_code 64 = .ok (.ifCond .eq (-20), 3) := by decide +kernel
theorem d_jdk_52_method_11_code_67 : decode jdk_52_method_11_code 67 = .ok (.aload_n 0, 1) := by decide +kernel
theorem d_jdk_52_method_11_code_68 : decode jdk_52_method_11_code 68 = .ok (.iload 5, 2) := by decide +kernel
theorem d_jdk_52_method_11_code_70 : decode jdk_52_method_11_code 70 = .ok (.invokestatic 71, 3) := by decide +kernel
theorem d_jdk_52_method_11_code_73 : decode jdk_52_method_11_code 73 = .ok (.invokestatic 81, 3) := by decide +kernel
theorem d_jdk_52_method_11_code_76 : decode jdk_52_method_11_code 76 = .ok (.ifCond .eq (-32), 3) := by decide +kernel
theorem d_jdk_52_method_11_code_79 : decode jdk_52_method_11_code 79 = .ok (.iinc 4 (-1), 3) := by decide +kernel
theorem d_jdk_52_method_11_code_82 : decode jdk_52_method_11_code 82 = .ok (.iinc 5 1, 3) := by decide +kernel
theorem d_jdk_52_method_11_code_85 : decode jdk_52_method_11_code 85 = .ok (.goto (-41), 3) := by decide +kernel
theorem d_jdk_52_method_11_code_88 : decode jdk_52_method_11_code 88 = .ok (.iload 4, 2) := by decide +kernel
theorem d_jdk_52_method_11_code_90 : decode jdk_52_method_11_code 90 = .ok (.ireturn, 1) := by decide +kernel
theorem d_jdk_52_method_12_code_0 : decode jdk_52_method_12_code 0 = .ok (.aload_n 0, 1) := by decide +kernel
theorem d_jdk_52_method_12_code_1 : decode jdk_52_method_12_code 1 = .ok (.iload_n 1, 1) := by decide +kernel
theorem d_jdk_52_method_12_code_2 : decode jdk_52_method_12_code 2 = .ok (.iload_n 2, 1) := by decide +kernel
theorem d_jdk_52_method_12_code_3 : decode jdk_52_method_12_code 3 = .ok (.iconst 0, 1) := by decide +kernel
theorem d_jdk_52_method_12_code_4 : decode jdk_52_method_12_code 4 = .ok (.invokestatic 100, 3) := by decide +kernel
theorem d_jdk_52_method_12_code_7 : decode jdk_52_method_12_code 7 = .ok (.ireturn, 1) := by decide +kernel
theorem d_jdk_52_method_14_code_0 : decode jdk_52_method_14_code 0 = .ok (.iload_n 2, 1) := by decide +kernel
theorem d_jdk_52_method_14_code_1 : decode jdk_52_method_14_code 1 = .ok (.invokestatic 107, 3) := by decide +kernel
theorem d_jdk_52_method_14_code_4 : decode jdk_52_method_14_code 4 = .ok (.astore_n 3, 1) := by decide +kernel
theorem d_jdk_52_method_14_code_5 : decode jdk_52_method_14_code 5 = .ok (.iconst 0, 1) := by decide +kernel
theorem d_jdk_52_method_14_code_6 : decode jdk_52_method_14_code 6 = .ok (.istore 4, 2) := by decide +kernel
theorem d_jdk_52_method_14_code_8 : decode jdk_52_method_14_code 8 = .ok (.iload 4, 2) := by decide +kernel
theorem d_jdk_52_method_14_code_10 : decode jdk_52_method_14_code 10 = .ok (.iload_n 2, 1) := by decide +kernel
theorem d_jdk_52_method_14_code_11 : decode jdk_52_method_14_code 11 = .ok (.if_icmp .ge 21, 3) := by decide +kernel
theorem d_jdk_52_method_14_code_14 : decode jdk_52_method_14_code 14 = .ok (.aload_n 3, 1) := by decide +kernel
theorem d_jdk_52_method_14_code_15 : decode jdk_52_method_14_code 15 = .ok (.iload 4, 2) := by decide +kernel
theorem d_jdk_52_method_14_code_17 : decode jdk_52_method_14_code 17 = .ok (.aload_n 0, 1) := by decide +kernel
theorem d_jdk_52_method_14_code_18 : decode jdk_52_method_14_code 18 = .ok (.iload_n 1, 1) := by decide +kernel
theorem d_jdk_52_method_14_code_19 : decode jdk_52_method_14_code 19 = .ok (.caload, 1) := by decide +kernel
theorem d_jdk_52_method_14_code_20 : decode jdk_52_method_14_code 20 = .ok (.invokestatic 111, 3) := by decide +kernel
theorem d_jdk_52_method_14_code_23 : decode jdk_52_method_14_code 23 = .ok (.iinc 1 1, 3) := by decide +kernel
theorem d_jdk_52_method_14_code_26 : decode jdk_52_method_14_code 26 = .ok (.iinc 4 1, 3) := by decide +kernel
theorem d_jdk_52_method_14_code_29 : decode jdk_52_method_14_code 29 = .ok (.goto (-21), 3) := by decide +kernel
theorem d_jdk_52_method_14_code_32 : decode jdk_52_method_14_code 32 = .ok (.aload_n 3, 1) := by decide +kernel
theorem d_jdk_52_method_14_code_33 : decode jdk_52_method_14_code 33 = .ok (.areturn, 1) := by decide +kernel
theorem d_jdk_52_method_15_code_0 : decode jdk_52_method_15_code 0 = .ok (.iload_n 1, 1) := by decide +kernel
theorem d_jdk_52_method_15_code_1 : decode jdk_52_method_15_code 1 = .ok (.aload_n 0, 1) := by decide +kernel
theorem d_jdk_52_method_15_code_2 : decode jdk_52_method_15_code 2 = .ok (.arraylength, 1) := by decide +kernel
theorem d_jdk_52_method_15_code_3 : decode jdk_52_method_15_code 3 = .ok (.isub, 1) := by decide +kernel
theorem d_jdk_52_method_15_code_4 : decode jdk_52_method_15_code 4 = .ok (.bipush 31, 2) := by decide +kernel
theorem d_jdk_52_method_15_code_6 : decode jdk_52_method_15_code 6 = .ok (.iushr, 1) := by decide +kernel
theorem d_jdk_52_method_15_code_7 : decode jdk_52_method_15_code 7 = .ok (.i2b, 1) := by decide +kernel
theorem d_jdk_52_method_15_code_8 : decode jdk_52_method_15_code 8 = .ok (.ireturn, 1) := by decide +kernel
theorem d_jdk_52_method_16_code_0 : decode jdk_52_method_16_code 0 = .ok (.iload_n 2, 1) := by decide +kernel
theorem d_jdk_52_method_16_code_1 : decode jdk_52_method_16_code 1 = .ok (.newarray .byte, 2) := by decide +kernel
theorem d_jdk_52_method_16_code_3 : decode jdk_52_method_16_code 3 = .ok (.astore_n 3, 1) := by decide +kernel
theorem d_jdk_52_method_16_code_4 : decode jdk_52_method_16_code 4 = .ok (.aload_n 0, 1) := by decide +kernel
theorem d_jdk_52_method_16_code_5 : decode jdk_52_method_16_code 5 = .ok (.iload_n 1, 1) := by decide +kernel
theorem d_jdk_52_method_16_code_6 : decode jdk_52_method_16_code 6 = .ok (.aload_n 3, 1) := by decide +kernel
theorem d_jdk_52_method_16_code_7 : decode jdk_52_method_16_code 7 = .ok (.iconst 0, 1) := by decide +kernel
theorem d_jdk_52_method_16_code_8 : decode jdk_52_method_16_code 8 = .ok (.iload_n 2, 1) := by decide +kernel
theorem d_jdk_52_method_16_code_9 : decode jdk_52_method_16_code 9 = .ok (.invokestatic 115, 3) := by decide +kernel
theorem d_jdk_52_method_16_code_12 : decode jdk_52_method_16_code 12 = .ok (.istore 4, 2) := by decide +kernel
theorem d_jdk_52_method_16_code_14 : decode jdk_52_method_16_code 14 = .ok (.iload 4, 2) := by decide +kernel
theorem d_jdk_52_method_16_code_16 : decode jdk_52_method_16_code 16 = .ok (.iload_n 2, 1) := by decide +kernel
theorem d_jdk_52_method_16_code_17 : decode jdk_52_method_16_code 17 = .ok (.if_icmp .eq 40, 3) := by decide +kernel
theorem d_jdk_52_method_16_code_20 : decode jdk_52_method_16_code 20 = .ok (.aload_n 0, 1) := by decide +kernel
theorem d_jdk_52_method_16_code_21 : decode jdk_52_method_16_code 21 = .ok (.iload_n 1, 1) := by decide +kernel
theorem d_jdk_52_method_16_code_22 : decode jdk_52_method_16_code 22 = .ok (.iload_n 2, 1) := by decide +kernel
theorem d_jdk_52_method_16_code_23 : decode jdk_52_method_16_code 23 = .ok (.invokestatic 119, 3) := by decide +kernel
theorem d_jdk_52_method_16_code_26 : decode jdk_52_method_16_code 26 = .ok (.astore 5, 2) := by decide +kernel
theorem d_jdk_52_method_16_code_28 : decode jdk_52_method_16_code 28 = .ok (.aload 5, 2) := by decide +kernel
theorem d_jdk_52_method_16_code_30 : decode jdk_52_method_16_code 30 = .ok (.iload 4, 2) := by decide +kernel
theorem d_jdk_52_method_16_code_32 : decode jdk_52_method_16_code 32 = .ok (.invokestatic 71, 3) := by decide +kernel
theorem d_jdk_52_method_16_code_35 : decode jdk_52_method_16_code 35 = .ok (.sipush 255, 3) := by decide +kernel
theorem d_jdk_52_method_16_code_38 : decode jdk_52_method_16_code 38 = .ok (.if_icmp .gt 16, 3) := by decide +kernel
theorem d_jdk_52_method_16_code_54 : decode jdk_52_method_16_code 54 = .ok (.aload 5, 2) := by decide +kernel
theorem d_jdk_52_method_16_code_56 : decode jdk_52_method_16_code 56 = .ok (.areturn, 1) := by decide +kernel
theorem d_jdk_52_method_16_code_57 : decode jdk_52_method_16_code 57 = .ok (.aload_n 3, 1) := by decide +kernel
theorem d_jdk_52_method_16_code_58 : decode jdk_52_method_16_code 58 = .ok (.areturn, 1) := by decide +kernel
theorem d_jdk_52_method_21_code_0 : decode jdk_52_method_21_code 0 = .ok (.iconst 0, 1) := by decide +kernel
theorem d_jdk_52_method_21_code_1 : decode jdk_52_method_21_code 1 = .ok (.istore 5, 2) := by decide +kernel
theorem d_jdk_52_method_21_code_3 : decode jdk_52_method_21_code 3 = .ok (.iload 5, 2) := by decide +kernel
theorem d_jdk_52_method_21_code_5 : decode jdk_52_method_21_code 5 = .ok (.iload 4, 2) := by decide +kernel
theorem d_jdk_52_method_21_code_7 : decode jdk_52_method_21_code 7 = .ok (.if_icmp .ge 37, 3) := by decide +kernel
theorem d_jdk_52_method_21_code_10 : decode jdk_52_method_21_code 10 = .ok (.aload_n 0, 1) := by decide +kernel
theorem d_jdk_52_method_21_code_11 : decode jdk_52_method_21_code 11 = .ok (.iload_n 1, 1) := by decide +kernel
theorem d_jdk_52_method_21_code_12 : decode jdk_52_method_21_code 12 = .ok (.caload, 1) := by decide +kernel
theorem d_jdk_52_method_21_code_13 : decode jdk_52_method_21_code 13 = .ok (.istore 6, 2) := by decide +kernel
theorem d_jdk_52_method_21_code_15 : decode jdk_52_method_21_code 15 = .ok (.iload 6, 2) := by decide +kernel
theorem d_jdk_52_method_21_code_17 : decode jdk_52_method_21_code 17 = .ok (.sipush 255, 3) := by decide +kernel
theorem d_jdk_52_method_21_code_20 : decode jdk_52_method_21_code 20 = .ok (.if_icmp .le 6, 3) := by decide +kernel
theorem d_jdk_52_method_21_code_23 : decode jdk_52_method_21_code 23 = .ok (.iload 5, 2) := by decide +kernel
theorem d_jdk_52_method_21_code_25 : decode jdk_52_method_21_code 25 = .ok (.ireturn, 1) := by decide +kernel
theorem d_jdk_52_method_21_code_26 : decode jdk_52_method_21_code 26 = .ok (.aload_n 2, 1) := by decide +kernel
theorem d_jdk_52_method_21_code_27 : decode jdk_52_method_21_code 27 = .ok (.iload_n 3, 1) := by decide +kernel
theorem d_jdk_52_method_21_code_28 : decode jdk_52_method_21_code 28 = .ok (.iload 6, 2) := by decide +kernel
theorem d_jdk_52_method_21_code_30 : decode jdk_52_method_21_code 30 = .ok (.i2b, 1) := by decide +kernel
theorem d_jdk_52_method_21_code_31 : decode jdk_52_method_21_code 31 = .ok (.bastore, 1) := by decide +kernel
theorem d_jdk_52_method_21_code_32 : decode jdk_52_method_21_code 32 = .ok (.iinc 1 1, 3) := by decide +kernel
theorem d_jdk_52_method_21_code_35 : decode jdk_52_method_21_code 35 = .ok (.iinc 3 1, 3) := by decide +kernel
theorem d_jdk_52_method_21_code_38 : decode jdk_52_method_21_code 38 = .ok (.iinc 5 1, 3) := by decide +kernel
theorem d_jdk_52_method_21_code_41 : decode jdk_52_method_21_code 41 = .ok (.goto (-38), 3) := by decide +kernel
theorem d_jdk_52_method_21_code_44 : decode jdk_52_method_21_code 44 = .ok (.iload 4, 2) := by decide +kernel
theorem d_jdk_52_method_21_code_46 : decode jdk_52_method_21_code 46 = .ok (.ireturn, 1) := by decide +kernel
theorem d_jdk_52_method_2_code_0 : decode jdk_52_method_2_code 0 = .ok (.iload_n 0, 1) := by decide +kernel
theorem d_jdk_52_method_2_code_1 : decode jdk_52_method_2_code 1 = .ok (.invokestatic 11, 3) := by decide +kernel
theorem d_jdk_52_method_2_code_4 : decode jdk_52_method_2_code 4 = .ok (.newarray .byte, 2) := by decide +kernel
theorem d_jdk_52_method_2_code_6 : decode jdk_52_method_2_code 6 = .ok (.areturn, 1) := by decide +kernel
theorem d_jdk_52_method_3_code_0 : decode jdk_52_method_3_code 0 = .ok (.iload_n 0, 1) := by decide +kernel
theorem d_jdk_52_method_3_code_1 : decode jdk_52_method_3_code 1 = .ok (.ifCond .ge 11, 3) := by decide +kernel
theorem d_jdk_52_method_3_code_12 : decode jdk_52_method_3_code 12 = .ok (.iload_n 0, 1) := by decide +kernel
theorem d_jdk_52_method_3_code_13 : decode jdk_52_method_3_code 13 = .ok (.ldc 20, 2) := by decide +kernel
theorem d_jdk_52_method_3_code_15 : decode jdk_52_method_3_code 15 = .ok (.if_icmp .lt 40, 3) := by decide +kernel
theorem d_jdk_52_method_3_code_55 : decode jdk_52_method_3_code 55 = .ok (.iload_n 0, 1) := by decide +kernel
theorem d_jdk_52_method_3_code_56 : decode jdk_52_method_3_code 56 = .ok (.iconst 1, 1) := by decide +kernel
theorem d_jdk_52_method_3_code_57 : decode jdk_52_method_3_code 57 = .ok (.ishl, 1) := by decide +kernel
theorem d_jdk_52_method_3_code_58 : decode jdk_52_method_3_code 58 = .ok (.ireturn, 1) := by decide +kernel
theorem d_jdk_52_method_4_code_0 : decode jdk_52_method_4_code 0 = .ok (.getstatic 44, 3) := by decide +kernel
theorem d_jdk_52_method_4_code_3 : decode jdk_52_method_4_code 3 = .ok (.ifCond .ne 25, 3) := by decide +kernel
theorem d_jdk_52_method_4_code_28 : decode jdk_52_method_4_code 28 = .ok (.iload_n 1, 1) := by decide +kernel
theorem d_jdk_52_method_4_code_29 : decode jdk_52_method_4_code 29 = .ok (.iconst 1, 1) := by decide +kernel
theorem d_jdk_52_method_4_code_30 : decode jdk_52_method_4_code 30 = .ok (.ishl, 1) := by decide +kernel
theorem d_jdk_52_method_4_code_31 : decode jdk_52_method_4_code 31 = .ok (.istore_n 1, 1) := by decide +kernel
theorem d_jdk_52_method_4_code_32 : decode jdk_52_method_4_code 32 = .ok (.aload_n 0, 1) := by decide +kernel
theorem d_jdk_52_method_4_code_33 : decode jdk_52_method_4_code 33 = .ok (.iload_n 1, 1) := by decide +kernel
theorem d_jdk_52_method_4_code_34 : decode jdk_52_method_4_code 34 = .ok (.iinc 1 1, 3) := by decide +kernel
theorem d_jdk_52_method_4_code_37 : decode jdk_52_method_4_code 37 = .ok (.iload_n 2, 1) := by decide +kernel
theorem d_jdk_52_method_4_code_38 : decode jdk_52_method_4_code 38 = .ok (.getstatic 59, 3) := by decide +kernel
theorem d_jdk_52_method_4_code_41 : decode jdk_52_method_4_code 41 = .ok (.ishr, 1) := by decide +kernel
theorem d_jdk_52_method_4_code_42 : decode jdk_52_method_4_code 42 = .ok (.i2b, 1) := by decide +kernel
theorem d_jdk_52_method_4_code_43 : decode jdk_52_method_4_code 43 = .ok (.bastore, 1) := by decide +kernel
theorem d_jdk_52_method_4_code_44 : decode jdk_52_method_4_code 44 = .ok (.aload_n 0, 1) := by decide +kernel
theorem d_jdk_52_method_4_code_45 : decode jdk_52_method_4_code 45 = .ok (.iload_n 1, 1) := by decide +kernel
theorem d_jdk_52_method_4_code_46 : decode jdk_52_method_4_code 46 = .ok (.iload_n 2, 1) := by decide +kernel
theorem d_jdk_52_method_4_code_47 : decode jdk_52_method_4_code 47 = .ok (.getstatic 63, 3) := by decide +kernel
theorem d_jdk_52_method_4_code_50 : decode jdk_52_method_4_code 50 = .ok (.ishr, 1) := by decide +kernel
theorem d_jdk_52_method_4_code_51 : decode jdk_52_method_4_code 51 = .ok (.i2b, 1) := by decide +kernel
theorem d_jdk_52_method_4_code_52 : decode jdk_52_method_4_code 52 = .ok (.bastore, 1) := by decide +kernel
theorem d_jdk_52_method_4_code_53 : decode jdk_52_method_4_code 53 = .ok (.return_, 1) := by decide +kernel
theorem d_jdk_52_method_5_code_0 : decode jdk_52_method_5_code 0 = .ok (.getstatic 44, 3) := by decide +kernel
theorem d_jdk_52_method_5_code_3 : decode jdk_52_method_5_code 3 = .ok (.ifCond .ne 25, 3) := by decide +kernel
theorem d_jdk_52_method_5_code_28 : decode jdk_52_method_5_code 28 = .ok (.iload_n 1, 1) := by decide +kernel
theorem d_jdk_52_method_5_code_29 : decode jdk_52_method_5_code 29 = .ok (.iconst 1, 1) := by decide +kernel
theorem d_jdk_52_method_5_code_30 : decode jdk_52_method_5_code 30 = .ok (.ishl, 1) := by decide +kernel
theorem d_jdk_52_method_5_code_31 : decode jdk_52_method_5_code 31 = .ok (.istore_n 1, 1) := by decide +kernel
theorem d_jdk_52_method_5_code_32 : decode jdk_52_method_5_code 32 = .ok (.aload_n 0, 1) := by decide +kernel
theorem d_jdk_52_method_5_code_33 : decode jdk_52_method_5_code 33 = .ok (.iload_n 1, 1) := by decide +kernel
theorem d_jdk_52_method_5_code_34 : decode jdk_52_method_5_code 34 = .ok (.iinc 1 1, 3) := by decide +kernel
theorem d_jdk_52_method_5_code_37 : decode jdk_52_method_5_code 37 = .ok (.baload, 1) := by decide +kernel
theorem d_jdk_52_method_5_code_38 : decode jdk_52_method_5_code 38 = .ok (.sipush 255, 3) := by decide +kernel
theorem d_jdk_52_method_5_code_41 : decode jdk_52_method_5_code 41 = .ok (.iand, 1) := by decide +kernel
theorem d_jdk_52_method_5_code_42 : decode jdk_52_method_5_code 42 = .ok (.getstatic 59, 3) := by decide +kernel
theorem d_jdk_52_method_5_code_45 : decode jdk_52_method_5_code 45 = .ok (.ishl, 1) := by decide +kernel
theorem d_jdk_52_method_5_code_46 : decode jdk_52_method_5_code 46 = .ok (.aload_n 0, 1) := by decide +kernel
theorem d_jdk_52_method_5_code_47 : decode jdk_52_method_5_code 47 = .ok (.iload_n 1, 1) := by decide +kernel
theorem d_jdk_52_method_5_code_48 : decode jdk_52_method_5_code 48 = .ok (.baload, 1) := by decide +kernel
theorem d_jdk_52_method_5_code_49 : decode jdk_52_method_5_code 49 = .ok (.sipush 255, 3) := by decide +kernel
theorem d_jdk_52_method_5_code_52 : decode jdk_52_method_5_code 52 = .ok (.iand, 1) := by decide +kernel
theorem d_jdk_52_method_5_code_53 : decode jdk_52_method_5_code 53 = .ok (.getstatic 63, 3) := by decide +kernel
theorem d_jdk_52_method_5_code_56 : decode jdk_52_method_5_code 56 = .ok (.ishl, 1) := by decide +kernel
theorem d_jdk_52_method_5_code_57 : decode jdk_52_method_5_code 57 = .ok (.ior, 1) := by decide +kernel
theorem d_jdk_52_method_5_code_58 : decode jdk_52_method_5_code 58 = .ok (.i2c, 1) := by decide +kernel
theorem d_jdk_52_method_5_code_59 : decode jdk_52_method_5_code 59 = .ok (.ireturn, 1) := by decide +kernel
theorem d_jdk_89_method_14_code_0 : decode jdk_89_method_14_code 0 = .ok (.iload_n 0, 1) := by decide +kernel
theorem d_jdk_89_method_14_code_1 : decode jdk_89_method_14_code 1 = .ok (.ldc 75, 2) := by decide +kernel
theorem d_jdk_89_method_14_code_3 : decode jdk_89_method_14_code 3 = .ok (.if_icmp .lt 13, 3) := by decide +kernel
theorem d_jdk_89_method_14_code_6 : decode jdk_89_method_14_code 6 = .ok (.iload_n 0, 1) := by decide +kernel
theorem d_jdk_89_method_14_code_7 : decode jdk_89_method_14_code 7 = .ok (.ldc 76, 2) := by decide +kernel
theorem d_jdk_89_method_14_code_9 : decode jdk_89_method_14_code 9 = .ok (.if_icmp .ge 7, 3) := by decide +kernel
theorem d_jdk_89_method_14_code_12 : decode jdk_89_method_14_code 12 = .ok (.iconst 1, 1) := by decide +kernel
theorem d_jdk_89_method_14_code_13 : decode jdk_89_method_14_code 13 = .ok (.goto 4, 3) := by decide +kernel
theorem d_jdk_89_method_14_code_16 : decode jdk_89_method_14_code 16 = .ok (.iconst 0, 1) := by decide +kernel
theorem d_jdk_89_method_14_code_17 : decode jdk_89_method_14_code 17 = .ok (.ireturn, 1) := by decide +kernel
theorem d_jdk_89_method_15_code_0 : decode jdk_89_method_15_code 0 = .ok (.iload_n 0, 1) := by decide +kernel
theorem d_jdk_89_method_15_code_1 : decode jdk_89_method_15_code 1 = .ok (.ldc 76, 2) := by decide +kernel
theorem d_jdk_89_method_15_code_3 : decode jdk_89_method_15_code 3 = .ok (.if_icmp .lt 13, 3) := by decide +kernel
theorem d_jdk_89_method_15_code_6 : decode jdk_89_method_15_code 6 = .ok (.iload_n 0, 1) := by decide +kernel
theorem d_jdk_89_method_15_code_7 : decode jdk_89_method_15_code 7 = .ok (.ldc 77, 2) := by decide +kernel
theorem d_jdk_89_method_15_code_9 : decode jdk_89_method_15_code 9 = .ok (.if_icmp .ge 7, 3) := by decide +kernel
theorem d_jdk_89_method_15_code_12 : decode jdk_89_method_15_code 12 = .ok (.iconst 1, 1) := by decide +kernel
theorem d_jdk_89_method_15_code_13 : decode jdk_89_method_15_code 13 = .ok (.goto 4, 3) := by decide +kernel
theorem d_jdk_89_method_15_code_16 : decode jdk_89_method_15_code 16 = .ok (.iconst 0, 1) := by decide +kernel
theorem d_jdk_89_method_15_code_17 : decode jdk_89_method_15_code 17 = .ok (.ireturn, 1) := by decide +kernel
theorem d_prog_8_method_2_code_0 : decode prog_8_method_2_code 0 = .ok (.aload_n 0, 1) := by decide +kernel
theorem d_prog_8_method_2_code_1 : decode prog_8_method_2_code 1 = .ok (.ldc 7, 2) := by decide +kernel
theorem d_prog_8_method_2_code_3 : decode prog_8_method_2_code 3 = .ok (.invokestatic 9, 3) := by decide +kernel
theorem d_prog_8_method_2_code_6 : decode prog_8_method_2_code 6 = .ok (.pop, 1) := by decide +kernel
theorem d_prog_8_method_2_code_7 : decode prog_8_method_2_code 7 = .ok (.aload_n 0, 1) := by decide +kernel
theorem d_prog_8_method_2_code_8 : decode prog_8_method_2_code 8 = .ok (.iconst 0, 1) := by decide +kernel
theorem d_prog_8_method_2_code_9 : decode prog_8_method_2_code 9 = .ok (.aload_n 0, 1) := by decide +kernel
theorem d_prog_8_method_2_code_10 : decode prog_8_method_2_code 10 = .ok (.invokevirtual 15, 3) := by decide +kernel
theorem d_prog_8_method_2_code_13 : decode prog_8_method_2_code 13 = .ok (.invokevirtual 21, 3) := by decide +kernel
theorem d_prog_8_method_2_code_16 : decode prog_8_method_2_code 16 = .ok (.istore_n 1, 1) := by decide +kernel
theorem d_prog_8_method_2_code_17 : decode prog_8_method_2_code 17 = .ok (.iload_n 1, 1) := by decide +kernel
theorem d_prog_8_method_2_code_18 : decode prog_8_method_2_code 18 = .ok (.iconst 1, 1) := by decide +kernel
theorem d_prog_8_method_2_code_19 : decode prog_8_method_2_code 19 = .ok (.if_icmp .lt 10, 3) := by decide +kernel
theorem d_prog_8_method_2_code_22 : decode prog_8_method_2_code 22 = .ok (.iload_n 1, 1) := by decide +kernel
theorem d_prog_8_method_2_code_23 : decode prog_8_method_2_code 23 = .ok (.sipush 255, 3) := by decide +kernel
theorem d_prog_8_method_2_code_26 : decode prog_8_method_2_code 26 = .ok (.if_icmp .le 17, 3) := by decide +kernel
theorem d_prog_8_method_2_code_43 : decode prog_8_method_2_code 43 = .ok (.aload_n 0, 1) := by decide +kernel
theorem d_prog_8_method_2_code_44 : decode prog_8_method_2_code 44 = .ok (.areturn, 1) := by decide +kernel
theorem pd0 : parseMethodDescriptor "(I)I" = some ⟨[.int], some .int⟩ := by decide +kernel
theorem pd1 : parseMethodDescriptor "(I)[B" = some ⟨[.int], some (.array .byte)⟩ := by decide +kernel
theorem pd2 : parseMethodDescriptor "([BII)V" = some ⟨[(.array .byte), .int, .int], none⟩ := by decide +kernel
theorem pd3 : parseMethodDescriptor "([CI[BII)I" = some ⟨[(.array .char), .int, (.array .byte), .int, .int], some .int⟩ := by decide +kernel
theorem pd4 : parseMethodDescriptor "([CII)[B" = some ⟨[(.array .char), .int, .int], some (.array .byte)⟩ := by decide +kernel
theorem pd5 : parseMethodDescriptor "([BI)C" = some ⟨[(.array .byte), .int], some .char⟩ := by decide +kernel
theorem pd6 : parseMethodDescriptor "([BI)B" = some ⟨[(.array .byte), .int], some .byte⟩ := by decide +kernel
theorem pd7 : parseMethodDescriptor "([CIILjava/lang/Void;)V" = some ⟨[(.array .char), .int, .int, (.object "java/lang/Void")], none⟩ := by decide +kernel
theorem pd8 : parseMethodDescriptor "()B" = some ⟨[], some .byte⟩ := by decide +kernel
theorem pd9 : parseMethodDescriptor "(C)Z" = some ⟨[.char], some .boolean⟩ := by decide +kernel
theorem pd10 : parseMethodDescriptor "([BIIZ)I" = some ⟨[(.array .byte), .int, .int, .boolean], some .int⟩ := by decide +kernel
theorem pd11 : parseMethodDescriptor "(IIILjava/util/function/BiFunction;)I" = some ⟨[.int, .int, .int, (.object "java/util/function/BiFunction")], some .int⟩ := by decide +kernel
theorem pd12 : parseMethodDescriptor "()I" = some ⟨[], some .int⟩ := by decide +kernel
theorem pd13 : parseMethodDescriptor "(III)I" = some ⟨[.int, .int, .int], some .int⟩ := by decide +kernel
theorem pd14 : parseMethodDescriptor "()Z" = some ⟨[], some .boolean⟩ := by decide +kernel
theorem pd15 : parseMethodDescriptor "([BII)I" = some ⟨[(.array .byte), .int, .int], some .int⟩ := by decide +kernel
theorem pd16 : parseMethodDescriptor "(Ljava/lang/Object;Ljava/lang/String;)Ljava/lang/Object;" = some ⟨[(.object "java/lang/Object"), (.object "java/lang/String")], some (.object "java/lang/Object")⟩ := by decide +kernel
theorem pd17 : parseMethodDescriptor "(II)I" = some ⟨[.int, .int], some .int⟩ := by decide +kernel
theorem pd18 : parseMethodDescriptor "([C)V" = some ⟨[(.array .char)], none⟩ := by decide +kernel
theorem pd19 : parseMethodDescriptor "(Ljava/lang/String;)Ljava/lang/String;" = some ⟨[(.object "java/lang/String")], some (.object "java/lang/String")⟩ := by decide +kernel
def EL0 : List (String × Nat) := []
def Sts (Z : State) : Prop := (∃ z : Int32, Sta Z Z.heap "java/lang/String" "COMPACT_STRINGS" "Z" (.int z) ∧ ¬ z = 0) ∧ Sta Z Z.heap "java/lang/StringUTF16" "$assertionsDisabled" "Z" (.int 1) ∧ Sta Z Z.heap "java/lang/StringUTF16" "HI_BYTE_SHIFT" "I" (.int 0) ∧ Sta Z Z.heap "java/lang/StringUTF16" "LO_BYTE_SHIFT" "I" (.int 8) ∧ True
theorem strAt {a0 : Array Value} {Z : State} (hw : ∀ d ∈ tables_1, d.before a0 Z = true) : ∀ a ∈ Bundle.stringAtoms, a.before a0 Z = true := by
  intro a ha
  simp only [Bundle.stringAtoms, List.mem_cons, List.not_mem_nil, or_false] at ha
  rcases ha with rfl | rfl | rfl | rfl | rfl | rfl | rfl
  · exact (tw4 hw)
  · exact (tw3 hw)
  · exact (tw20 hw)
  · exact (tw30 hw)
  · exact (tw28 hw)
  · exact (tw36 hw)
  · exact (tw37 hw)

def hs (c : Int32) : Int32 := if c < 55296 then 0 else if c < 56320 then 1 else 0
def ls (c : Int32) : Int32 := if c < 56320 then 0 else if c < 57344 then 1 else 0
/-- the surrogate pairs, from the left -/
def prs : List Int32 → Nat
  | a :: b :: t => if ¬ hs a = 0 ∧ ¬ ls b = 0 then 1 + prs t else prs (b :: t)
  | _ => 0
theorem prs_le : ∀ cs : List Int32, 2 * prs cs ≤ cs.length
  | [] => by simp [prs]
  | [a] => by simp [prs]
  | a :: b :: t => by
    have h1 := prs_le t
    have h2 := prs_le (b :: t)
    rw [prs]; split
    · simp only [List.length_cons] at *; omega
    · simp only [List.length_cons] at *; omega
theorem prs_short : ∀ {cs : List Int32}, cs.length ≤ 1 → prs cs = 0
  | [], _ => rfl
  | [_], _ => rfl
  | _ :: _ :: _, h => by simp at h
theorem prs_step {cs : List Int32} {i : Nat} {a b : Int32} (ha : cs[i]? = some a) (hb : cs[i + 1]? = some b) : prs (cs.drop i) = if ¬ hs a = 0 ∧ ¬ ls b = 0 then 1 + prs (cs.drop (i + 2)) else prs (cs.drop (i + 1)) := by
  obtain ⟨h1, e1⟩ := List.getElem?_eq_some_iff.mp ha
  obtain ⟨h2, e2⟩ := List.getElem?_eq_some_iff.mp hb
  rw [List.drop_eq_getElem_cons h1, List.drop_eq_getElem_cons h2, prs, e1, e2]
theorem prs_lat : ∀ {cs : List Int32}, (∀ c ∈ cs, ¬ (255 : Int32) < c) → prs cs = 0
  | [], _ => rfl
  | [_], _ => rfl
  | a :: b :: t, h => by
    have ha := h a (by simp)
    have e : hs a = 0 := by
      rw [hs, if_pos]
      rw [Int32.lt_iff_toInt_lt] at *
      have e1 : (255 : Int32).toInt = 255 := rfl
      have e2 : (55296 : Int32).toInt = 55296 := rfl
      omega
    rw [prs, if_neg (fun z => z.1 e)]
    exact prs_lat fun c hc => h c (List.mem_cons_of_mem _ hc)
theorem prs_pair : ∀ {cs : List Int32} {p : Nat} {a b : Int32}, cs[p]? = some a → cs[p + 1]? = some b → ¬ hs a = 0 → ¬ ls b = 0 → 1 ≤ prs cs
  | [], p, a, b, h, _, _, _ => by simp at h
  | [x], p, a, b, h, h', _, _ => by simp at h'
  | x :: y :: t, 0, a, b, h, h', ha, hb => by
    simp at h h'; subst h h'
    rw [prs, if_pos ⟨ha, hb⟩]; omega
  | x :: y :: t, p + 1, a, b, h, h', ha, hb => by
    rw [prs]; split
    · omega
    · exact prs_pair (cs := y :: t) (p := p) (by simpa using h) (by simpa using h') ha hb
theorem and3 (a : Int32) : a &&& 3 = 0 ∨ a &&& 3 = 1 ∨ a &&& 3 = 2 ∨ a &&& 3 = 3 := by
  have := c_and a 3 (by decide)
  have e : (3 : Int32).toInt = 3 := rfl
  rcases (by omega : (a &&& 3).toInt = 0 ∨ (a &&& 3).toInt = 1 ∨ (a &&& 3).toInt = 2 ∨ (a &&& 3).toInt = 3) with h | h | h | h
  · exact Or.inl (Int32.toInt_inj.mp h)
  · exact Or.inr (Or.inl (Int32.toInt_inj.mp h))
  · exact Or.inr (Or.inr (Or.inl (Int32.toInt_inj.mp h)))
  · exact Or.inr (Or.inr (Or.inr (Int32.toInt_inj.mp h)))
theorem jm_int (x : Int32) : 0 ≤ ((x &&& 2147483647) % 255).toInt ∧ ((x &&& 2147483647) % 255).toInt < 255 := by
  have h1 := c_and x 2147483647 (by decide)
  have h2 := (c_irem (x &&& 2147483647) 255 255 rfl).1 h1.1
  omega
theorem jm_nn (x : Int32) : ¬ (x &&& 2147483647) % 255 < 0 := by
  rw [Int32.lt_iff_toInt_lt]; have := jm_int x; have e : (0 : Int32).toInt = 0 := rfl; omega
theorem jm_lt (x : Int32) : ((x &&& 2147483647) % 255).toNatClampNeg < 255 := by
  have := jm_int x
  show ((x &&& 2147483647) % 255).toInt.toNat < 255
  omega
theorem jm_add (x : Int32) : ((x &&& 2147483647) % 255 + 1).toInt = ((x &&& 2147483647) % 255).toInt + 1 := by
  have := jm_int x
  have a := c_iadd ((x &&& 2147483647) % 255) 1
  have e : (1 : Int32).toInt = 1 := rfl
  have r := rng32 ((x &&& 2147483647) % 255 + 1)
  omega
theorem jm_nn1 (x : Int32) : ¬ (x &&& 2147483647) % 255 + 1 < 0 := by
  rw [Int32.lt_iff_toInt_lt, jm_add]; have := jm_int x; have e : (0 : Int32).toInt = 0 := rfl; omega
theorem jm_succ (x : Int32) : ((x &&& 2147483647) % 255 + 1).toNatClampNeg = ((x &&& 2147483647) % 255).toNatClampNeg + 1 := by
  have := jm_int x
  show ((x &&& 2147483647) % 255 + 1).toInt.toNat = ((x &&& 2147483647) % 255).toInt.toNat + 1
  rw [jm_add]; omega
theorem ch_rep {n : Nat} : ∀ x ∈ List.replicate n (0 : Int32), Ch x := fun x h => by rw [List.eq_of_mem_replicate h]; decide
theorem ch_set {cs : List Int32} {i : Nat} {c : Int32} (h : ∀ x ∈ cs, Ch x) (hc : Ch c) : ∀ x ∈ cs.set i c, Ch x := fun x hx => (List.mem_or_eq_of_mem_set hx).elim (h x) (fun e => e ▸ hc)
theorem hs_hi (b : Int32) : ¬ hs (nar .char ((55296 + (b &&& 1023)).toUInt32.toUInt16.toUInt32.toInt32)) = 0 := by
  have h1 := c_and b 1023 (by decide)
  have e0 : (1023 : Int32).toInt = 1023 := rfl
  have a := c_iadd 55296 (b &&& 1023)
  have e1 : (55296 : Int32).toInt = 55296 := rfl
  have r := rng32 (55296 + (b &&& 1023))
  have z := c_i2c (55296 + (b &&& 1023))
  rw [show nar .char ((55296 + (b &&& 1023)).toUInt32.toUInt16.toUInt32.toInt32) = (55296 + (b &&& 1023)).toUInt32.toUInt16.toUInt32.toInt32 from nar_ch (ch_nar _)]
  rw [hs, if_neg (by rw [Int32.lt_iff_toInt_lt]; omega), if_pos (by rw [Int32.lt_iff_toInt_lt]; have e2 : (56320 : Int32).toInt = 56320 := rfl; omega)]
  decide
theorem ls_lo (b : Int32) : ¬ ls (nar .char ((56320 + (b &&& 1023)).toUInt32.toUInt16.toUInt32.toInt32)) = 0 := by
  have h1 := c_and b 1023 (by decide)
  have e0 : (1023 : Int32).toInt = 1023 := rfl
  have a := c_iadd 56320 (b &&& 1023)
  have e1 : (56320 : Int32).toInt = 56320 := rfl
  have r := rng32 (56320 + (b &&& 1023))
  have z := c_i2c (56320 + (b &&& 1023))
  rw [show nar .char ((56320 + (b &&& 1023)).toUInt32.toUInt16.toUInt32.toInt32) = (56320 + (b &&& 1023)).toUInt32.toUInt16.toUInt32.toInt32 from nar_ch (ch_nar _)]
  rw [ls, if_neg (by rw [Int32.lt_iff_toInt_lt]; omega), if_pos (by rw [Int32.lt_iff_toInt_lt]; have e2 : (57344 : Int32).toInt = 57344 := rfl; omega)]
  decide
theorem t32_pred {n : Nat} (h : ¬ n = 0) : n.toInt32 - 1 = (n - 1).toInt32 := by
  have := t32_succ (n - 1)
  rw [show n - 1 + 1 = n by omega] at this
  rw [← this, Int32.add_sub_cancel]
theorem t32_dec {n : Nat} (h : ¬ n = 0) : n.toInt32 + Int32.ofInt (-1) = (n - 1).toInt32 := by
  rw [← t32_pred h, Int32.sub_eq_add_neg]; rfl

set_option maxRecDepth 65536 in
set_option maxHeartbeats 40000000 in
theorem c_compress5 {l : Launch} {Z : State} {a0 : Array Value} (hw : ∀ d ∈ tables_1, d.before a0 Z = true) {va da : Addr} {cs : List Int32} {ds : List Value} {h0 : Heap} (A_va : AR Z h0 va .char (cs.map Value.int)) (A_da : AR Z h0 da .byte ds) (hl : ds.length = cs.length) (ne : va ≠ da) :
    Con l Z a0 EL0 (⟨"java/lang/StringUTF16", "compress", "([CI[BII)I"⟩ : MethodName) jdk_52_method_21_code 7 (Option.some Jvm.ClassFile.FieldType.int) ({ frames := 0, cells := 0, slots := 0, locals := 0 } : Room) #[(.ref va), (.int (0 : Int32)), (.ref da), (.int (0 : Int32)), (.int cs.length.toInt32)] h0 [da] [da] (fun v h ns => v = some (.int (lat cs).toInt32) ∧ ns = [] ∧ AR Z h da .byte ((cs.take (lat cs)).map bv ++ ds.drop (lat cs))) := by
  refine Con.of (L0 := #[.val (.ref va), .val (.int (0 : Int32)), .val (.ref da), .val (.int (0 : Int32)), .val (.int cs.length.toInt32), .unset, .unset]) (by decide +kernel) (fun m => by first | rfl | (simp [entryFrame, mkF, argsToLocals, Value.category]; done)) ?_
  intro p e s m below meth c T w
  refine g_iconst (pc := 0) w d_jdk_52_method_21_code_0 (z := (0 : Int32)) (by decide) ?_
  refine g_istore (pc := 1) w d_jdk_52_method_21_code_1 (l' := #[.val (.ref va), .val (.int (0 : Int32)), .val (.ref da), .val (.int (0 : Int32)), .val (.int cs.length.toInt32), .val (.int (0 : Int32)), .unset]) rfl ?_
  have hcl : cs.length < 2147483648 := by have := A_va.len; simpa using this
  have loop : ∀ (r i : Nat) (T : State) (h : Heap) (s6 : Slot), i + r = cs.length → i ≤ lat cs → One s6 → OW p l e ({ frames := 0, cells := 0, slots := 0, locals := 0 } : Room) s m #[(.ref va), (.int (0 : Int32)), (.ref da), (.int (0 : Int32)), (.int cs.length.toInt32)] below meth c Z a0 EL0 "java/lang/StringUTF16" "compress" jdk_52_method_21_code 7 (Option.some Jvm.ClassFile.FieldType.int) [da] h0 [da] T h 0 0 → AR Z h va .char (cs.map Value.int) → AR Z h da .byte ((cs.take i).map bv ++ ds.drop i) → Go p.tables e below (Fin' s Z EL0 [da] h0 ({ frames := 0, cells := 0, slots := 0, locals := 0 } : Room) (fun v h ns => v = some (.int (lat cs).toInt32) ∧ ns = [] ∧ AR Z h da .byte ((cs.take (lat cs)).map bv ++ ds.drop (lat cs)))) (T.setTop (mkF m 3 #[.val (.ref va), .val (.int i.toInt32), .val (.ref da), .val (.int i.toInt32), .val (.int cs.length.toInt32), .val (.int i.toInt32), s6] [])) := by
    intro r
    induction r with
    | zero =>
      intro i T h s6 hi hj h6 w A_va A_da
      have hii : i = cs.length := by omega
      have hlat : lat cs = i := Nat.le_antisymm (hii ▸ lat_le cs) hj
      refine g_iload (pc := 3) w d_jdk_52_method_21_code_3 rfl ?_
      refine g_iload (pc := 5) w d_jdk_52_method_21_code_5 rfl ?_
      refine g_icmpYes (pc := 7) w d_jdk_52_method_21_code_7 ((flt ((by rw [hii]; exact Int32.lt_irrefl) : ¬ i.toInt32 < cs.length.toInt32)).2.1) (by decide) (pc' := 44) (by decide) ?_
      refine g_iload (pc := 44) w d_jdk_52_method_21_code_44 rfl ?_
      exact g_retI (pc := 46) w rfl (by decide) (by decide) (ns := []) (fun _ q => nomatch q) d_jdk_52_method_21_code_46 ⟨by rw [hlat, hii], rfl, by rw [hlat]; exact A_da⟩
    | succ r ih =>
      intro i T h s6 hi hj h6 w A_va A_da
      have hil : i < cs.length := by omega
      have hi31 : i < 2147483648 := by omega
      obtain ⟨ch, hc⟩ : ∃ ch, cs[i]? = some ch := ⟨_, List.getElem?_eq_getElem hil⟩
      refine g_iload (pc := 3) w d_jdk_52_method_21_code_3 rfl ?_
      refine g_iload (pc := 5) w d_jdk_52_method_21_code_5 rfl ?_
      refine g_icmpNo (pc := 7) w d_jdk_52_method_21_code_7 ((tlt (((t32_lt hi31 hcl).mpr hil) : i.toInt32 < cs.length.toInt32)).2.1) ?_
      refine g_aloadN (pc := 10) w d_jdk_52_method_21_code_10 rfl rfl ?_
      refine g_iloadN (pc := 11) w d_jdk_52_method_21_code_11 rfl ?_
      refine g_caload (pc := 12) w A_va (t32_nneg hi31) (by rw [t32_nat hi31]; exact get_map_int hc) d_jdk_52_method_21_code_12 ?_
      refine g_istore (pc := 13) w d_jdk_52_method_21_code_13 (l' := #[.val (.ref va), .val (.int i.toInt32), .val (.ref da), .val (.int i.toInt32), .val (.int cs.length.toInt32), .val (.int i.toInt32), .val (.int ch)]) (XS.store1 (o := s6) rfl h6 rfl) ?_
      refine g_iload (pc := 15) w d_jdk_52_method_21_code_15 rfl ?_
      refine g_sipush (pc := 17) w d_jdk_52_method_21_code_17 (z := (255 : Int32)) (by decide) ?_
      by_cases hbig : (255 : Int32) < ch
      · refine g_icmpNo (pc := 20) w d_jdk_52_method_21_code_20 ((tlt (hbig : (255 : Int32) < ch)).2.2.2) ?_
        refine g_iload (pc := 23) w d_jdk_52_method_21_code_23 rfl ?_
        have hlat : lat cs = i := lat_stop hj hc hbig
        exact g_retI (pc := 25) w rfl (by decide) (by decide) (ns := []) (fun _ q => nomatch q) d_jdk_52_method_21_code_25 ⟨by rw [hlat], rfl, by rw [hlat]; exact A_da⟩
      · refine g_icmpYes (pc := 20) w d_jdk_52_method_21_code_20 ((flt (hbig : ¬ (255 : Int32) < ch)).2.2.2) (by decide) (pc' := 26) (by decide) ?_
        refine g_aloadN (pc := 26) w d_jdk_52_method_21_code_26 rfl rfl ?_
        refine g_iloadN (pc := 27) w d_jdk_52_method_21_code_27 rfl ?_
        refine g_iload (pc := 28) w d_jdk_52_method_21_code_28 rfl ?_
        refine g_i2b (pc := 30) w d_jdk_52_method_21_code_30 ?_
        refine g_bastore (pc := 31) w A_da (t32_nneg hi31) (by rw [t32_nat hi31]; simp; omega) (Or.inl (by simp)) (by simp) d_jdk_52_method_21_code_31 ?_
        intro T1 h1 w1 W1 A_da
        have A_va := A_va.other W1 ne
        have A_da : AR Z h1 da .byte ((cs.take (i + 1)).map bv ++ ds.drop (i + 1)) := (by rw [t32_nat hi31, b8_b8] at A_da; rw [put_next (f := bv) hl hc] at A_da; exact A_da)
        refine g_iinc (pc := 32) w1 d_jdk_52_method_21_code_32 rfl (z := (i + 1).toInt32) (t32_succ i) (l' := #[.val (.ref va), .val (.int (i + 1).toInt32), .val (.ref da), .val (.int i.toInt32), .val (.int cs.length.toInt32), .val (.int i.toInt32), .val (.int ch)]) rfl ?_
        refine g_iinc (pc := 35) w1 d_jdk_52_method_21_code_35 rfl (z := (i + 1).toInt32) (t32_succ i) (l' := #[.val (.ref va), .val (.int (i + 1).toInt32), .val (.ref da), .val (.int (i + 1).toInt32), .val (.int cs.length.toInt32), .val (.int i.toInt32), .val (.int ch)]) rfl ?_
        refine g_iinc (pc := 38) w1 d_jdk_52_method_21_code_38 rfl (z := (i + 1).toInt32) (t32_succ i) (l' := #[.val (.ref va), .val (.int (i + 1).toInt32), .val (.ref da), .val (.int (i + 1).toInt32), .val (.int cs.length.toInt32), .val (.int (i + 1).toInt32), .val (.int ch)]) rfl ?_
        refine g_goto (pc := 41) w1 d_jdk_52_method_21_code_41 (by decide) (pc' := 3) (by decide) ?_
        exact ih (i + 1) T1 h1 _ (by omega) (lat_go hj hc hbig) (One.val rfl) w1 A_va A_da
  exact loop cs.length 0 T h0 _ (by omega) (Nat.zero_le _) One.u w A_va (by simpa using A_da)

set_option maxRecDepth 65536 in
set_option maxHeartbeats 40000000 in
theorem c_getChar {l : Launch} {Z : State} {a0 : Array Value} (hw : ∀ d ∈ tables_1, d.before a0 Z = true) (st : Sts Z) {ta : Addr} {cs : List Int32} {i : Nat} {ch : Int32} {h0 : Heap} (A_ta : AR Z h0 ta .byte ((u16s cs).map Value.int)) (hc : cs[i]? = some ch) (hch : Ch ch) (hn : cs.length < 1073741824) :
    Con l Z a0 EL0 (⟨"java/lang/StringUTF16", "getChar", "([BI)C"⟩ : MethodName) jdk_52_method_5_code 2 (Option.some Jvm.ClassFile.FieldType.char) ({ frames := 0, cells := 0, slots := 0, locals := 0 } : Room) #[(.ref ta), (.int i.toInt32)] h0 [] [] (fun v h ns => v = some (.int ch) ∧ ns = []) := by
  refine Con.of (L0 := #[.val (.ref ta), .val (.int i.toInt32)]) (by decide +kernel) (fun m => by first | rfl | (simp [entryFrame, mkF, argsToLocals, Value.category]; done)) ?_
  intro p e s m below meth c T w
  have hil : i < cs.length := (List.getElem?_eq_some_iff.mp hc).1
  refine g_getS (pc := 0) w (host := "") (Or.inl (tw85 hw)) Via.refl st.2.1 d_jdk_52_method_5_code_0 ?_
  intro T1 w1
  refine g_ifYes (pc := 3) w1 d_jdk_52_method_5_code_3 ((if0 _ _).trans (feq ((by decide) : ¬ (1 : Int32) = (0 : Int32))).2) (by decide) (pc' := 28) (by decide) ?_
  refine g_iloadN (pc := 28) w1 d_jdk_52_method_5_code_28 rfl ?_
  refine g_iconst (pc := 29) w1 d_jdk_52_method_5_code_29 (z := (1 : Int32)) (by decide) ?_
  refine g_ishl (pc := 30) w1 d_jdk_52_method_5_code_30 ?_
  rw [t32_shl1 (by omega)]
  refine g_istoreN (pc := 31) w1 d_jdk_52_method_5_code_31 (l' := #[.val (.ref ta), .val (.int (2 * i).toInt32)]) rfl ?_
  refine g_aloadN (pc := 32) w1 d_jdk_52_method_5_code_32 rfl rfl ?_
  refine g_iloadN (pc := 33) w1 d_jdk_52_method_5_code_33 rfl ?_
  refine g_iinc (pc := 34) w1 d_jdk_52_method_5_code_34 rfl (z := (2 * i + 1).toInt32) (t32_succ (2 * i)) (l' := #[.val (.ref ta), .val (.int (2 * i + 1).toInt32)]) rfl ?_
  refine g_baload (pc := 37) w1 A_ta (t32_nneg (by omega)) (by rw [t32_nat (by omega)]; exact get_map_int (u16_get0 hc)) d_jdk_52_method_5_code_37 ?_
  refine g_sipush (pc := 38) w1 d_jdk_52_method_5_code_38 (z := (255 : Int32)) (by decide) ?_
  refine g_iand (pc := 41) w1 d_jdk_52_method_5_code_41 ?_
  refine g_getS (pc := 42) w1 (host := "") (Or.inl (tw86 hw)) Via.refl st.2.2.1 d_jdk_52_method_5_code_42 ?_
  intro T2 w2
  refine g_ishl (pc := 45) w2 d_jdk_52_method_5_code_45 ?_
  refine g_aloadN (pc := 46) w2 d_jdk_52_method_5_code_46 rfl rfl ?_
  refine g_iloadN (pc := 47) w2 d_jdk_52_method_5_code_47 rfl ?_
  refine g_baload (pc := 48) w2 A_ta (t32_nneg (by omega)) (by rw [t32_nat (by omega)]; exact get_map_int (u16_get1 hc)) d_jdk_52_method_5_code_48 ?_
  refine g_sipush (pc := 49) w2 d_jdk_52_method_5_code_49 (z := (255 : Int32)) (by decide) ?_
  refine g_iand (pc := 52) w2 d_jdk_52_method_5_code_52 ?_
  refine g_getS (pc := 53) w2 (host := "") (Or.inl (tw87 hw)) Via.refl st.2.2.2.1 d_jdk_52_method_5_code_53 ?_
  intro T3 w3
  refine g_ishl (pc := 56) w3 d_jdk_52_method_5_code_56 ?_
  refine g_ior (pc := 57) w3 d_jdk_52_method_5_code_57 ?_
  refine g_i2c (pc := 58) w3 d_jdk_52_method_5_code_58 ?_
  rw [u16_back hch.int.1 hch.int.2]
  exact g_retN (pc := 59) w3 (t := .char) rfl (by simp) (narrow_ch hch) (by decide) (by decide) (ns := []) (fun _ q => nomatch q) d_jdk_52_method_5_code_59 ⟨rfl, rfl⟩

set_option maxRecDepth 65536 in
set_option maxHeartbeats 40000000 in
theorem c_putChar {l : Launch} {Z : State} {a0 : Array Value} (hw : ∀ d ∈ tables_1, d.before a0 Z = true) (st : Sts Z) {ta : Addr} {bs : List Int32} {i : Nat} {ch : Int32} {h0 : Heap} (A_ta : AR Z h0 ta .byte (bs.map Value.int)) (hi : 2 * i + 1 < bs.length) (hn : bs.length < 2147483648) :
    Con l Z a0 EL0 (⟨"java/lang/StringUTF16", "putChar", "([BII)V"⟩ : MethodName) jdk_52_method_4_code 3 (Option.none : Option Jvm.ClassFile.FieldType) ({ frames := 0, cells := 0, slots := 0, locals := 0 } : Room) #[(.ref ta), (.int i.toInt32), (.int ch)] h0 [ta] [ta] (fun v h ns => v = none ∧ ns = [] ∧ AR Z h ta .byte (((bs.set (2 * i) (b8 ch)).set (2 * i + 1) (hi8 ch)).map Value.int)) := by
  refine Con.of (L0 := #[.val (.ref ta), .val (.int i.toInt32), .val (.int ch)]) (by decide +kernel) (fun m => by first | rfl | (simp [entryFrame, mkF, argsToLocals, Value.category]; done)) ?_
  intro p e s m below meth c T w
  refine g_getS (pc := 0) w (host := "") (Or.inl (tw85 hw)) Via.refl st.2.1 d_jdk_52_method_4_code_0 ?_
  intro T1 w1
  refine g_ifYes (pc := 3) w1 d_jdk_52_method_4_code_3 ((if0 _ _).trans (feq ((by decide) : ¬ (1 : Int32) = (0 : Int32))).2) (by decide) (pc' := 28) (by decide) ?_
  refine g_iloadN (pc := 28) w1 d_jdk_52_method_4_code_28 rfl ?_
  refine g_iconst (pc := 29) w1 d_jdk_52_method_4_code_29 (z := (1 : Int32)) (by decide) ?_
  refine g_ishl (pc := 30) w1 d_jdk_52_method_4_code_30 ?_
  rw [t32_shl1 (by omega)]
  refine g_istoreN (pc := 31) w1 d_jdk_52_method_4_code_31 (l' := #[.val (.ref ta), .val (.int (2 * i).toInt32), .val (.int ch)]) rfl ?_
  refine g_aloadN (pc := 32) w1 d_jdk_52_method_4_code_32 rfl rfl ?_
  refine g_iloadN (pc := 33) w1 d_jdk_52_method_4_code_33 rfl ?_
  refine g_iinc (pc := 34) w1 d_jdk_52_method_4_code_34 rfl (z := (2 * i + 1).toInt32) (t32_succ (2 * i)) (l' := #[.val (.ref ta), .val (.int (2 * i + 1).toInt32), .val (.int ch)]) rfl ?_
  refine g_iloadN (pc := 37) w1 d_jdk_52_method_4_code_37 rfl ?_
  refine g_getS (pc := 38) w1 (host := "") (Or.inl (tw86 hw)) Via.refl st.2.2.1 d_jdk_52_method_4_code_38 ?_
  intro T2 w2
  refine g_ishr (pc := 41) w2 d_jdk_52_method_4_code_41 ?_
  refine g_i2b (pc := 42) w2 d_jdk_52_method_4_code_42 ?_
  refine g_bastore (pc := 43) w2 A_ta (t32_nneg (by omega)) (by rw [t32_nat (by omega), List.length_map]; omega) (Or.inl (by simp)) (by simp) d_jdk_52_method_4_code_43 ?_
  intro T3 h3 w3 W3 A_ta
  have A_ta : AR Z h3 ta .byte ((bs.set (2 * i) (b8 ch)).map Value.int) := (by rw [t32_nat (by omega), shr0, b8_b8] at A_ta; rw [List.map_set]; exact A_ta)
  refine g_aloadN (pc := 44) w3 d_jdk_52_method_4_code_44 rfl rfl ?_
  refine g_iloadN (pc := 45) w3 d_jdk_52_method_4_code_45 rfl ?_
  refine g_iloadN (pc := 46) w3 d_jdk_52_method_4_code_46 rfl ?_
  refine g_getS (pc := 47) w3 (host := "") (Or.inl (tw87 hw)) Via.refl st.2.2.2.1 d_jdk_52_method_4_code_47 ?_
  intro T4 w4
  refine g_ishr (pc := 50) w4 d_jdk_52_method_4_code_50 ?_
  refine g_i2b (pc := 51) w4 d_jdk_52_method_4_code_51 ?_
  refine g_bastore (pc := 52) w4 A_ta (t32_nneg (by omega)) (by rw [t32_nat (by omega), List.length_map, List.length_set]; omega) (Or.inl (by simp)) (by simp) d_jdk_52_method_4_code_52 ?_
  intro T5 h5 w5 W5 A_ta
  have A_ta : AR Z h5 ta .byte (((bs.set (2 * i) (b8 ch)).set (2 * i + 1) (hi8 ch)).map Value.int) := (by rw [t32_nat (by omega), b8_b8] at A_ta; rw [List.map_set]; exact A_ta)
  exact g_ret0 (pc := 53) w5 rfl (by decide) (by decide) (ns := []) (fun _ q => nomatch q) d_jdk_52_method_4_code_53 ⟨rfl, rfl, A_ta⟩

set_option maxRecDepth 65536 in
set_option maxHeartbeats 40000000 in
theorem c_nbl {l : Launch} {Z : State} {a0 : Array Value} (hw : ∀ d ∈ tables_1, d.before a0 Z = true) {n : Nat} {h0 : Heap} (hn : n ≤ 256) :
    Con l Z a0 EL0 (⟨"java/lang/StringUTF16", "newBytesLength", "(I)I"⟩ : MethodName) jdk_52_method_3_code 1 (Option.some Jvm.ClassFile.FieldType.int) ({ frames := 0, cells := 0, slots := 0, locals := 0 } : Room) #[(.int n.toInt32)] h0 [] [] (fun v h ns => v = some (.int (2 * n).toInt32) ∧ ns = []) := by
  refine Con.of (L0 := #[.val (.int n.toInt32)]) (by decide +kernel) (fun m => by first | rfl | (simp [entryFrame, mkF, argsToLocals, Value.category]; done)) ?_
  intro p e s m below meth c T w
  refine g_iloadN (pc := 0) w d_jdk_52_method_3_code_0 rfl ?_
  refine g_ifYes (pc := 1) w d_jdk_52_method_3_code_1 ((if0 _ _).trans (flt ((t32_nneg (by omega)) : ¬ n.toInt32 < (0 : Int32))).2.1) (by decide) (pc' := 12) (by decide) ?_
  refine g_iloadN (pc := 12) w d_jdk_52_method_3_code_12 rfl ?_
  refine g_ldcI (pc := 13) w (tw81 hw) d_jdk_52_method_3_code_13 ?_
  refine g_icmpYes (pc := 15) w d_jdk_52_method_3_code_15 ((tlt (((t32_lt (j := 1073741823) (by omega) (by omega)).mpr (by omega)) : n.toInt32 < (1073741823 : Int32))).1) (by decide) (pc' := 55) (by decide) ?_
  refine g_iloadN (pc := 55) w d_jdk_52_method_3_code_55 rfl ?_
  refine g_iconst (pc := 56) w d_jdk_52_method_3_code_56 (z := (1 : Int32)) (by decide) ?_
  refine g_ishl (pc := 57) w d_jdk_52_method_3_code_57 ?_
  rw [t32_shl1 (by omega)]
  exact g_retI (pc := 58) w rfl (by decide) (by decide) (ns := []) (fun _ q => nomatch q) d_jdk_52_method_3_code_58 ⟨rfl, rfl⟩

set_option maxRecDepth 65536 in
set_option maxHeartbeats 40000000 in
theorem c_nbf {l : Launch} {Z : State} {a0 : Array Value} (hw : ∀ d ∈ tables_1, d.before a0 Z = true) {n : Nat} {h0 : Heap} (hn : n ≤ 256) :
    Con l Z a0 EL0 (⟨"java/lang/StringUTF16", "newBytesFor", "(I)[B"⟩ : MethodName) jdk_52_method_2_code 1 (Option.some (Jvm.ClassFile.FieldType.array Jvm.ClassFile.FieldType.byte)) ({ frames := 1, cells := 1, slots := 512, locals := 12 } : Room) #[(.int n.toInt32)] h0 [] [] (fun v h ns => ∃ t, v = some (.ref t) ∧ ns = [t] ∧ h0.size ≤ t ∧ AR Z h t .byte ((List.replicate (2 * n) (0 : Int32)).map Value.int)) := by
  refine Con.of (L0 := #[.val (.int n.toInt32)]) (by decide +kernel) (fun m => by first | rfl | (simp [entryFrame, mkF, argsToLocals, Value.category]; done)) ?_
  intro p e s m below meth c T w
  refine g_iloadN (pc := 0) w d_jdk_52_method_2_code_0 rfl ?_
  refine g_static (pc := 1) w (argsL := [(.int n.toInt32)]) (rest := []) (W := 0) (tw78 hw) (tw79 hw) (tw18 hw) (tw80 hw) (by decide) (c_nbl hw hn) (by simp) all0 rfl (lenOf pd0 rfl) rfl (by decide) (Nat.le_of_eq rfl) (by decide) (by decide) (by decide) d_jdk_52_method_2_code_1 ?_
  rintro _ T1 h1 ns1 ⟨rfl, rfl⟩ K1 w1
  refine g_newP (pc := 4) (aty := .byte) w1 (tw20 hw) (t32_nneg (by omega)) (cap := 512) (by rw [t32_nat (by omega)]; omega) (by decide) (by decide) (by decide) d_jdk_52_method_2_code_4 ?_
  intro T2 h2 b2 w2 eq_b2 fr_b2 E2 A_b2
  have A_b2 : AR Z h2 b2 .byte ((List.replicate (2 * n) (0 : Int32)).map Value.int) := (by rw [t32_nat (by omega)] at A_b2; rw [List.map_replicate]; exact A_b2)
  exact g_retA (pc := 6) w2 (t := (.array .byte)) rfl rfl rfl (by decide) (by decide) (ns := [b2]) (by simp) d_jdk_52_method_2_code_6 ⟨b2, rfl, rfl, fr_b2, A_b2⟩

set_option maxRecDepth 65536 in
set_option maxHeartbeats 40000000 in
theorem c_toBytes3 {l : Launch} {Z : State} {a0 : Array Value} (hw : ∀ d ∈ tables_1, d.before a0 Z = true) (st : Sts Z) {va : Addr} {cs : List Int32} {h0 : Heap} (A_va : AR Z h0 va .char (cs.map Value.int)) (hcap : cs.length ≤ 256) :
    Con l Z a0 EL0 (⟨"java/lang/StringUTF16", "toBytes", "([CII)[B"⟩ : MethodName) jdk_52_method_14_code 5 (Option.some (Jvm.ClassFile.FieldType.array Jvm.ClassFile.FieldType.byte)) ({ frames := 2, cells := 1, slots := 512, locals := 24 } : Room) #[(.ref va), (.int (0 : Int32)), (.int cs.length.toInt32)] h0 [] [] (fun v h ns => ∃ t, v = some (.ref t) ∧ ns = [t] ∧ h0.size ≤ t ∧ AR Z h t .byte ((u16s cs).map Value.int)) := by
  refine Con.of (L0 := #[.val (.ref va), .val (.int (0 : Int32)), .val (.int cs.length.toInt32), .unset, .unset]) (by decide +kernel) (fun m => by first | rfl | (simp [entryFrame, mkF, argsToLocals, Value.category]; done)) ?_
  intro p e s m below meth c T w
  refine g_iloadN (pc := 0) w d_jdk_52_method_14_code_0 rfl ?_
  have lt_va := A_va.lt
  refine g_static (pc := 1) w (argsL := [(.int cs.length.toInt32)]) (rest := []) (W := 0) (tw75 hw) (tw76 hw) (tw18 hw) (tw77 hw) (by decide) (c_nbf hw (n := cs.length) hcap) (by simp) all0 rfl (lenOf pd1 rfl) rfl (by decide) (Nat.le_of_eq rfl) (by decide) (by decide) (by decide) d_jdk_52_method_14_code_1 ?_
  rintro _ T1 h1 ns1 ⟨ta, rfl, rfl, fq_ta, A_ta⟩ K1 w1
  have A_va := A_va.keep K1 nin0
  have ne_va_ta : va ≠ ta := Nat.ne_of_lt (Nat.lt_of_lt_of_le lt_va fq_ta)
  have fr_ta : h0.size ≤ ta := Nat.le_trans w.keep.1 fq_ta
  refine g_astoreN (pc := 4) w1 d_jdk_52_method_14_code_4 rfl (l' := #[.val (.ref va), .val (.int (0 : Int32)), .val (.int cs.length.toInt32), .val (.ref ta), .unset]) rfl ?_
  refine g_iconst (pc := 5) w1 d_jdk_52_method_14_code_5 (z := (0 : Int32)) (by decide) ?_
  refine g_istore (pc := 6) w1 d_jdk_52_method_14_code_6 (l' := #[.val (.ref va), .val (.int (0 : Int32)), .val (.int cs.length.toInt32), .val (.ref ta), .val (.int (0 : Int32))]) rfl ?_
  have hcl : cs.length < 1073741824 := by omega
  have loop : ∀ (r i : Nat) (T : State) (h : Heap), i + r = cs.length → OW p l e ({ frames := 2, cells := 1, slots := 512, locals := 24 } : Room) s m #[(.ref va), (.int (0 : Int32)), (.int cs.length.toInt32)] below meth c Z a0 EL0 "java/lang/StringUTF16" "toBytes" jdk_52_method_14_code 5 (Option.some (Jvm.ClassFile.FieldType.array Jvm.ClassFile.FieldType.byte)) [] h0 [ta] T h 1 512 → AR Z h va .char (cs.map Value.int) → AR Z h ta .byte ((u16s (cs.take i) ++ (List.replicate (2 * cs.length) (0 : Int32)).drop (2 * i)).map Value.int) → Go p.tables e below (Fin' s Z EL0 [] h0 ({ frames := 2, cells := 1, slots := 512, locals := 24 } : Room) (fun v h ns => ∃ t, v = some (.ref t) ∧ ns = [t] ∧ h0.size ≤ t ∧ AR Z h t .byte ((u16s cs).map Value.int))) (T.setTop (mkF m 8 #[.val (.ref va), .val (.int i.toInt32), .val (.int cs.length.toInt32), .val (.ref ta), .val (.int i.toInt32)] [])) := by
    intro r
    induction r with
    | zero =>
      intro i T h hi w A_va A_ta
      have hii : i = cs.length := by omega
      refine g_iload (pc := 8) w d_jdk_52_method_14_code_8 rfl ?_
      refine g_iloadN (pc := 10) w d_jdk_52_method_14_code_10 rfl ?_
      refine g_icmpYes (pc := 11) w d_jdk_52_method_14_code_11 ((flt ((by rw [hii]; exact Int32.lt_irrefl) : ¬ i.toInt32 < cs.length.toInt32)).2.1) (by decide) (pc' := 32) (by decide) ?_
      refine g_aloadN (pc := 32) w d_jdk_52_method_14_code_32 rfl rfl ?_
      have A_ta : AR Z h ta .byte ((u16s cs).map Value.int) := by rw [hii, List.take_length, List.drop_of_length_le (by simp)] at A_ta; simpa using A_ta
      exact g_retA (pc := 33) w (t := (.array .byte)) rfl rfl rfl (by decide) (by decide) (ns := [ta]) (by simp) d_jdk_52_method_14_code_33 ⟨ta, rfl, rfl, fr_ta, A_ta⟩
    | succ r ih =>
      intro i T h hi w A_va A_ta
      have hil : i < cs.length := by omega
      obtain ⟨ch, hc⟩ : ∃ ch, cs[i]? = some ch := ⟨_, List.getElem?_eq_getElem hil⟩
      have hbl : (u16s (cs.take i) ++ (List.replicate (2 * cs.length) (0 : Int32)).drop (2 * i)).length = 2 * cs.length := by rw [List.length_append, u16_len]; simp; omega
      refine g_iload (pc := 8) w d_jdk_52_method_14_code_8 rfl ?_
      refine g_iloadN (pc := 10) w d_jdk_52_method_14_code_10 rfl ?_
      refine g_icmpNo (pc := 11) w d_jdk_52_method_14_code_11 ((tlt (((t32_lt (by omega) (by omega)).mpr hil) : i.toInt32 < cs.length.toInt32)).2.1) ?_
      refine g_aloadN (pc := 14) w d_jdk_52_method_14_code_14 rfl rfl ?_
      refine g_iload (pc := 15) w d_jdk_52_method_14_code_15 rfl ?_
      refine g_aloadN (pc := 17) w d_jdk_52_method_14_code_17 rfl rfl ?_
      refine g_iloadN (pc := 18) w d_jdk_52_method_14_code_18 rfl ?_
      refine g_caload (pc := 19) w A_va (t32_nneg (by omega)) (by rw [t32_nat (by omega)]; exact get_map_int hc) d_jdk_52_method_14_code_19 ?_
      refine g_static (pc := 20) w (argsL := [(.ref ta), (.int i.toInt32), (.int ch)]) (rest := []) (W := 0) (tw82 hw) (tw83 hw) (tw18 hw) (tw84 hw) (by decide) (c_putChar hw st (ch := ch) A_ta (by rw [hbl]; omega) (by rw [hbl]; omega)) (by simp) (allS (Or.inr fr_ta) all0) rfl (lenOf pd2 rfl) rfl (by decide) (Nat.le_of_eq rfl) (by decide) (by decide) (by decide) d_jdk_52_method_14_code_20 ?_
      rintro _ T2 h2 ns2 ⟨rfl, rfl, A_ta⟩ K2 w2
      have A_va := A_va.keep K2 (ninS ne_va_ta nin0)
      have A_ta : AR Z h2 ta .byte ((u16s (cs.take (i + 1)) ++ (List.replicate (2 * cs.length) (0 : Int32)).drop (2 * (i + 1))).map Value.int) := by rw [u16_put (by simp) hc] at A_ta; exact A_ta
      refine g_iinc (pc := 23) w2 d_jdk_52_method_14_code_23 rfl (z := (i + 1).toInt32) (t32_succ i) (l' := #[.val (.ref va), .val (.int (i + 1).toInt32), .val (.int cs.length.toInt32), .val (.ref ta), .val (.int i.toInt32)]) rfl ?_
      refine g_iinc (pc := 26) w2 d_jdk_52_method_14_code_26 rfl (z := (i + 1).toInt32) (t32_succ i) (l' := #[.val (.ref va), .val (.int (i + 1).toInt32), .val (.int cs.length.toInt32), .val (.ref ta), .val (.int (i + 1).toInt32)]) rfl ?_
      refine g_goto (pc := 29) w2 d_jdk_52_method_14_code_29 (by decide) (pc' := 8) (by decide) ?_
      exact ih (i + 1) T2 h2 (by omega) w2 A_va A_ta
  exact loop cs.length 0 T1 h1 (by omega) w1 A_va (by simpa [u16s] using A_ta)

set_option maxRecDepth 65536 in
set_option maxHeartbeats 40000000 in
theorem c_compress3 {l : Launch} {Z : State} {a0 : Array Value} (hw : ∀ d ∈ tables_1, d.before a0 Z = true) (st : Sts Z) {va : Addr} {cs : List Int32} {h0 : Heap} (A_va : AR Z h0 va .char (cs.map Value.int)) (hch : ∀ x ∈ cs, Ch x) (hcap : cs.length ≤ 256) :
    Con l Z a0 EL0 (⟨"java/lang/StringUTF16", "compress", "([CII)[B"⟩ : MethodName) jdk_52_method_16_code 6 (Option.some (Jvm.ClassFile.FieldType.array Jvm.ClassFile.FieldType.byte)) ({ frames := 3, cells := 2, slots := 768, locals := 40 } : Room) #[(.ref va), (.int (0 : Int32)), (.int cs.length.toInt32)] h0 [] [] (fun v h ns => ∃ t, v = some (.ref t) ∧ ns = [t] ∧ h0.size ≤ t ∧ AR Z h t .byte ((sbytes cs).map Value.int)) := by
  refine Con.of (L0 := #[.val (.ref va), .val (.int (0 : Int32)), .val (.int cs.length.toInt32), .unset, .unset, .unset]) (by decide +kernel) (fun m => by first | rfl | (simp [entryFrame, mkF, argsToLocals, Value.category]; done)) ?_
  intro p e s m below meth c T w
  have hcl : cs.length < 2147483648 := by have := A_va.len; simpa using this
  refine g_iloadN (pc := 0) w d_jdk_52_method_16_code_0 rfl ?_
  refine g_newP (pc := 1) (aty := .byte) w (tw20 hw) (t32_nneg hcl) (cap := 256) (by rw [t32_nat hcl]; exact hcap) (by decide) (by decide) (by decide) d_jdk_52_method_16_code_1 ?_
  intro T1 h1 b1 w1 eq_b1 fr_b1 E1 A_b1
  have ne_va_b1 : va ≠ b1 := Nat.ne_of_lt (by rw [eq_b1]; exact A_va.lt)
  have A_va := A_va.ext E1
  have A_b1 : AR Z h1 b1 .byte (List.replicate cs.length (.int (0 : Int32))) := (by rw [t32_nat hcl] at A_b1; exact A_b1)
  refine g_astoreN (pc := 3) w1 d_jdk_52_method_16_code_3 rfl (l' := #[.val (.ref va), .val (.int (0 : Int32)), .val (.int cs.length.toInt32), .val (.ref b1), .unset, .unset]) rfl ?_
  refine g_aloadN (pc := 4) w1 d_jdk_52_method_16_code_4 rfl rfl ?_
  refine g_iloadN (pc := 5) w1 d_jdk_52_method_16_code_5 rfl ?_
  refine g_aloadN (pc := 6) w1 d_jdk_52_method_16_code_6 rfl rfl ?_
  refine g_iconst (pc := 7) w1 d_jdk_52_method_16_code_7 (z := (0 : Int32)) (by decide) ?_
  refine g_iloadN (pc := 8) w1 d_jdk_52_method_16_code_8 rfl ?_
  refine g_static (pc := 9) w1 (argsL := [(.ref va), (.int (0 : Int32)), (.ref b1), (.int (0 : Int32)), (.int cs.length.toInt32)]) (rest := []) (W := 0) (tw21 hw) (tw22 hw) (tw18 hw) (tw23 hw) (by decide) (c_compress5 hw A_va A_b1 (by simp) ne_va_b1) (by simp) (allS (Or.inr fr_b1) all0) rfl (lenOf pd3 rfl) rfl (by decide) (Nat.le_of_eq rfl) (by decide) (by decide) (by decide) d_jdk_52_method_16_code_9 ?_
  rintro _ T2 h2 ns2 ⟨rfl, rfl, A_b1⟩ K2 w2
  have A_va := A_va.keep K2 (ninS ne_va_b1 nin0)
  refine g_istore (pc := 12) w2 d_jdk_52_method_16_code_12 (l' := #[.val (.ref va), .val (.int (0 : Int32)), .val (.int cs.length.toInt32), .val (.ref b1), .val (.int (lat cs).toInt32), .unset]) rfl ?_
  refine g_iload (pc := 14) w2 d_jdk_52_method_16_code_14 rfl ?_
  refine g_iloadN (pc := 16) w2 d_jdk_52_method_16_code_16 rfl ?_
  have hll := lat_le cs
  by_cases hlat : lat cs = cs.length
  · refine g_icmpYes (pc := 17) w2 d_jdk_52_method_16_code_17 ((teq ((by rw [hlat]) : (lat cs).toInt32 = cs.length.toInt32)).1) (by decide) (pc' := 57) (by decide) ?_
    have A_b1 : AR Z h2 b1 .byte ((sbytes cs).map Value.int) := by rw [(sb_lat hlat).1, List.map_map]; rw [hlat, List.take_length, List.drop_of_length_le (by simp), List.append_nil] at A_b1; exact A_b1
    refine g_aloadN (pc := 57) w2 d_jdk_52_method_16_code_57 rfl rfl ?_
    exact g_retA (pc := 58) w2 (t := (.array .byte)) rfl rfl rfl (by decide) (by decide) (ns := [b1]) (by simp) d_jdk_52_method_16_code_58 ⟨b1, rfl, rfl, fr_b1, A_b1⟩
  · refine g_icmpNo (pc := 17) w2 d_jdk_52_method_16_code_17 ((feq ((fun q => hlat ((t32_eq (by omega) hcl).mp q)) : ¬ (lat cs).toInt32 = cs.length.toInt32)).1) ?_
    obtain ⟨cx, hcx⟩ : ∃ ch, cs[lat cs]? = some ch := ⟨_, List.getElem?_eq_getElem (by omega)⟩
    have hbig : (255 : Int32) < cx := Decidable.byContradiction fun q => by have := lat_go (Nat.le_refl _) hcx q; omega
    refine g_aloadN (pc := 20) w2 d_jdk_52_method_16_code_20 rfl rfl ?_
    refine g_iloadN (pc := 21) w2 d_jdk_52_method_16_code_21 rfl ?_
    refine g_iloadN (pc := 22) w2 d_jdk_52_method_16_code_22 rfl ?_
    refine g_static (pc := 23) w2 (argsL := [(.ref va), (.int (0 : Int32)), (.int cs.length.toInt32)]) (rest := []) (W := 0) (tw72 hw) (tw73 hw) (tw18 hw) (tw74 hw) (by decide) (c_toBytes3 hw st A_va hcap) (by simp) all0 rfl (lenOf pd4 rfl) rfl (by decide) (Nat.le_of_eq rfl) (by decide) (by decide) (by decide) d_jdk_52_method_16_code_23 ?_
    rintro _ T3 h3 ns3 ⟨ta, rfl, rfl, fq_ta, A_ta⟩ K3 w3
    have A_va := A_va.keep K3 nin0
    have fr_ta : h0.size ≤ ta := Nat.le_trans w2.keep.1 fq_ta
    refine g_astore (pc := 26) w3 d_jdk_52_method_16_code_26 rfl (l' := #[.val (.ref va), .val (.int (0 : Int32)), .val (.int cs.length.toInt32), .val (.ref b1), .val (.int (lat cs).toInt32), .val (.ref ta)]) rfl ?_
    refine g_aload (pc := 28) w3 d_jdk_52_method_16_code_28 rfl rfl ?_
    refine g_iload (pc := 30) w3 d_jdk_52_method_16_code_30 rfl ?_
    refine g_static (pc := 32) w3 (argsL := [(.ref ta), (.int (lat cs).toInt32)]) (rest := []) (W := 0) (tw88 hw) (tw89 hw) (tw18 hw) (tw90 hw) (by decide) (c_getChar hw st A_ta hcx (hch _ (List.mem_of_getElem? hcx)) (by omega)) (by simp) all0 rfl (lenOf pd5 rfl) rfl (by decide) (Nat.le_of_eq rfl) (by decide) (by decide) (by decide) d_jdk_52_method_16_code_32 ?_
    rintro _ T4 h4 ns4 ⟨rfl, rfl⟩ K4 w4
    have A_va := A_va.keep K4 nin0
    have A_ta := A_ta.keep K4 nin0
    refine g_sipush (pc := 35) w4 d_jdk_52_method_16_code_35 (z := (255 : Int32)) (by decide) ?_
    refine g_icmpYes (pc := 38) w4 d_jdk_52_method_16_code_38 ((tlt (hbig : (255 : Int32) < cx)).2.2.1) (by decide) (pc' := 54) (by decide) ?_
    refine g_aload (pc := 54) w4 d_jdk_52_method_16_code_54 rfl rfl ?_
    have A_ta : AR Z h4 ta .byte ((sbytes cs).map Value.int) := by rw [(sb_u16 hlat).1]; exact A_ta
    exact g_retA (pc := 56) w4 (t := (.array .byte)) rfl rfl rfl (by decide) (by decide) (ns := [ta]) (by simp) d_jdk_52_method_16_code_56 ⟨ta, rfl, rfl, fr_ta, A_ta⟩

set_option maxRecDepth 65536 in
set_option maxHeartbeats 40000000 in
theorem c_coder {l : Launch} {Z : State} {a0 : Array Value} (hw : ∀ d ∈ tables_1, d.before a0 Z = true) {ta : Addr} {cs : List Int32} {h0 : Heap} (A_ta : AR Z h0 ta .byte ((sbytes cs).map Value.int)) (hne0 : ¬ cs.length = 0) (hcap : cs.length ≤ 256) :
    Con l Z a0 EL0 (⟨"java/lang/StringUTF16", "coderFromArrayLen", "([BI)B"⟩ : MethodName) jdk_52_method_15_code 2 (Option.some Jvm.ClassFile.FieldType.byte) ({ frames := 0, cells := 0, slots := 0, locals := 0 } : Room) #[(.ref ta), (.int cs.length.toInt32)] h0 [] [] (fun v h ns => v = some (.int (scoder cs)) ∧ ns = []) := by
  refine Con.of (L0 := #[.val (.ref ta), .val (.int cs.length.toInt32)]) (by decide +kernel) (fun m => by first | rfl | (simp [entryFrame, mkF, argsToLocals, Value.category]; done)) ?_
  intro p e s m below meth c T w
  refine g_iloadN (pc := 0) w d_jdk_52_method_15_code_0 rfl ?_
  refine g_aloadN (pc := 1) w d_jdk_52_method_15_code_1 rfl rfl ?_
  refine g_alen (pc := 2) w A_ta d_jdk_52_method_15_code_2 ?_
  refine g_isub (pc := 3) w d_jdk_52_method_15_code_3 ?_
  refine g_bipush (pc := 4) w d_jdk_52_method_15_code_4 (z := (31 : Int32)) (by decide) ?_
  refine g_iushr (pc := 6) w d_jdk_52_method_15_code_6 ?_
  refine g_i2b (pc := 7) w d_jdk_52_method_15_code_7 ?_
  rw [List.length_map, coder_of hne0 hcap]
  exact g_retN (pc := 8) w (t := .byte) rfl (by simp) (scoder_nar cs) (by decide) (by decide) (ns := []) (fun _ q => nomatch q) d_jdk_52_method_15_code_8 ⟨rfl, rfl⟩

set_option maxRecDepth 65536 in
set_option maxHeartbeats 40000000 in
theorem c_strinit4 {l : Launch} {Z : State} {a0 : Array Value} (hw : ∀ d ∈ tables_1, d.before a0 Z = true) (st : Sts Z) {sa va : Addr} {cs : List Int32} {h0 : Heap} (E_sa : Exa Z h0 sa "java/lang/String") (F_coder_sa : Fld Z h0 sa "java/lang/String" "coder" "B" (.int (0 : Int32))) (F_value_sa : Fld Z h0 sa "java/lang/String" "value" "[B" .null) (A_va : AR Z h0 va .char (cs.map Value.int)) (hch : ∀ x ∈ cs, Ch x) (hne0 : ¬ cs.length = 0) (hcap : cs.length ≤ 256) (ne : va ≠ sa) :
    Con l Z a0 EL0 (⟨"java/lang/String", "<init>", "([CIILjava/lang/Void;)V"⟩ : MethodName) jdk_42_method_149_code 6 (Option.none : Option Jvm.ClassFile.FieldType) ({ frames := 4, cells := 2, slots := 768, locals := 57 } : Room) #[(.ref sa), (.ref va), (.int (0 : Int32)), (.int cs.length.toInt32), .null] h0 [sa] [sa] (fun v h ns => v = none ∧ ns = [] ∧ ∃ t, Exa Z h sa "java/lang/String" ∧ Fld Z h sa "java/lang/String" "coder" "B" (.int (scoder cs)) ∧ Fld Z h sa "java/lang/String" "value" "[B" (.ref t) ∧ AR Z h t .byte ((sbytes cs).map Value.int)) := by
  refine Con.of (L0 := #[.val (.ref sa), .val (.ref va), .val (.int (0 : Int32)), .val (.int cs.length.toInt32), .val .null, .unset]) (by decide +kernel) (fun m => by first | rfl | (simp [entryFrame, mkF, argsToLocals, Value.category]; done)) ?_
  intro p e s m below meth c T w
  have hcl : cs.length < 2147483648 := by have := A_va.len; simpa using this
  obtain ⟨zc, O_c, O_n⟩ := st.1
  refine g_aloadN (pc := 0) w d_jdk_42_method_149_code_0 rfl rfl ?_
  refine g_initO (pc := 1) w (tw12 hw) (tw13 hw) (tw14 hw) rfl (by decide) (W := 0) (Nat.le_of_eq rfl) (by decide) d_jdk_42_method_149_code_1 ?_
  intro T1 w1
  refine g_iloadN (pc := 4) w1 d_jdk_42_method_149_code_4 rfl ?_
  refine g_ifYes (pc := 5) w1 d_jdk_42_method_149_code_5 ((if0 _ _).trans (feq ((fun q => by have := (t32_eq (j := 0) hcl (by omega)).mp q; omega) : ¬ cs.length.toInt32 = (0 : Int32))).2) (by decide) (pc' := 27) (by decide) ?_
  refine g_getS (pc := 27) w1 (host := "") (Or.inl (tw15 hw)) Via.refl O_c d_jdk_42_method_149_code_27 ?_
  intro T2 w2
  refine g_ifNo (pc := 30) w2 d_jdk_42_method_149_code_30 ((if0 _ _).trans (feq (O_n : ¬ zc = (0 : Int32))).1) ?_
  refine g_aloadN (pc := 33) w2 d_jdk_42_method_149_code_33 rfl rfl ?_
  refine g_iloadN (pc := 34) w2 d_jdk_42_method_149_code_34 rfl ?_
  refine g_iloadN (pc := 35) w2 d_jdk_42_method_149_code_35 rfl ?_
  have lt_sa := E_sa.lt
  refine g_static (pc := 36) w2 (argsL := [(.ref va), (.int (0 : Int32)), (.int cs.length.toInt32)]) (rest := []) (W := 0) (tw16 hw) (tw17 hw) (tw18 hw) (tw19 hw) (by decide) (c_compress3 hw st A_va hch hcap) (by simp) all0 rfl (lenOf pd4 rfl) rfl (by decide) (Nat.le_of_eq rfl) (by decide) (by decide) (by decide) d_jdk_42_method_149_code_36 ?_
  rintro _ T3 h3 ns3 ⟨ta, rfl, rfl, fq_ta, A_ta⟩ K3 w3
  have A_va := A_va.keep K3 nin0
  have E_sa := E_sa.keep K3
  have F_coder_sa := F_coder_sa.keep K3 nin0
  have F_value_sa := F_value_sa.keep K3 nin0
  have ne_ta_sa : ta ≠ sa := Ne.symm (Nat.ne_of_lt (Nat.lt_of_lt_of_le lt_sa fq_ta))
  refine g_astore (pc := 39) w3 d_jdk_42_method_149_code_39 rfl (l' := #[.val (.ref sa), .val (.ref va), .val (.int (0 : Int32)), .val (.int cs.length.toInt32), .val .null, .val (.ref ta)]) rfl ?_
  refine g_aloadN (pc := 41) w3 d_jdk_42_method_149_code_41 rfl rfl ?_
  refine g_aload (pc := 42) w3 d_jdk_42_method_149_code_42 rfl rfl ?_
  refine g_iloadN (pc := 44) w3 d_jdk_42_method_149_code_44 rfl ?_
  refine g_static (pc := 45) w3 (argsL := [(.ref ta), (.int cs.length.toInt32)]) (rest := [(.ref sa)]) (W := 1) (tw24 hw) (tw25 hw) (tw18 hw) (tw26 hw) (by decide) (c_coder hw A_ta hne0 hcap) (by simp) all0 rfl (lenOf pd6 rfl) rfl (by decide) (Nat.le_of_eq rfl) (by decide) (by decide) (by decide) d_jdk_42_method_149_code_45 ?_
  rintro _ T4 h4 ns4 ⟨rfl, rfl⟩ K4 w4
  have A_va := A_va.keep K4 nin0
  have E_sa := E_sa.keep K4
  have F_coder_sa := F_coder_sa.keep K4 nin0
  have F_value_sa := F_value_sa.keep K4 nin0
  have A_ta := A_ta.keep K4 nin0
  refine g_putF (pc := 48) w4 (host := "") (Or.inl (tw27 hw)) Via.refl F_coder_sa E_sa (Or.inr ⟨(tw28 hw), rfl, rfl⟩) (tw3 hw) (ty := .byte) (by decide) (scoder_nar cs) (scoder_fit cs) (Or.inl (by simp)) (by simp) d_jdk_42_method_149_code_48 ?_
  intro T5 h5 w5 W5
  have F_coder_sa := F_coder_sa.same W5
  have A_va := A_va.other W5 ne
  have E_sa := E_sa.wr W5
  have F_value_sa := F_value_sa.other W5 (Or.inr (slot_ne (Or.inr (tw30 hw)) (Or.inr (tw28 hw)) (by decide) (t := (.array .byte)) (t' := .byte) (by decide) (by decide)))
  have A_ta := A_ta.other W5 ne_ta_sa
  refine g_aloadN (pc := 51) w5 d_jdk_42_method_149_code_51 rfl rfl ?_
  refine g_aload (pc := 52) w5 d_jdk_42_method_149_code_52 rfl rfl ?_
  refine g_putF (pc := 54) w5 (host := "") (Or.inl (tw29 hw)) Via.refl F_value_sa E_sa (Or.inr ⟨(tw30 hw), rfl, rfl⟩) (tw3 hw) (ty := (.array .byte)) (by decide) rfl rfl (Or.inl (by simp)) (by simp) d_jdk_42_method_149_code_54 ?_
  intro T6 h6 w6 W6
  have F_value_sa := F_value_sa.same W6
  have A_va := A_va.other W6 ne
  have E_sa := E_sa.wr W6
  have A_ta := A_ta.other W6 ne_ta_sa
  have F_coder_sa := F_coder_sa.other W6 (Or.inr (slot_ne (Or.inr (tw28 hw)) (Or.inr (tw30 hw)) (by decide) (t := .byte) (t' := (.array .byte)) (by decide) (by decide)))
  exact g_ret0 (pc := 57) w6 rfl (by decide) (by decide) (ns := []) (fun _ q => nomatch q) d_jdk_42_method_149_code_57 ⟨rfl, rfl, ta, E_sa, F_coder_sa, F_value_sa, A_ta⟩

set_option maxRecDepth 65536 in
set_option maxHeartbeats 40000000 in
theorem c_strinit {l : Launch} {Z : State} {a0 : Array Value} (hw : ∀ d ∈ tables_1, d.before a0 Z = true) (st : Sts Z) {sa va : Addr} {cs : List Int32} {h0 : Heap} (E_sa : Exa Z h0 sa "java/lang/String") (F_coder_sa : Fld Z h0 sa "java/lang/String" "coder" "B" (.int (0 : Int32))) (F_value_sa : Fld Z h0 sa "java/lang/String" "value" "[B" .null) (A_va : AR Z h0 va .char (cs.map Value.int)) (hch : ∀ x ∈ cs, Ch x) (hne0 : ¬ cs.length = 0) (hcap : cs.length ≤ 256) (ne : va ≠ sa) :
    Con l Z a0 EL0 (⟨"java/lang/String", "<init>", "([C)V"⟩ : MethodName) jdk_42_method_3_code 2 (Option.none : Option Jvm.ClassFile.FieldType) ({ frames := 5, cells := 2, slots := 768, locals := 74 } : Room) #[(.ref sa), (.ref va)] h0 [sa] [sa] (fun v h ns => v = none ∧ ns = [] ∧ ∃ t, Exa Z h sa "java/lang/String" ∧ Fld Z h sa "java/lang/String" "coder" "B" (.int (scoder cs)) ∧ Fld Z h sa "java/lang/String" "value" "[B" (.ref t) ∧ AR Z h t .byte ((sbytes cs).map Value.int)) := by
  refine Con.of (L0 := #[.val (.ref sa), .val (.ref va)]) (by decide +kernel) (fun m => by first | rfl | (simp [entryFrame, mkF, argsToLocals, Value.category]; done)) ?_
  intro p e s m below meth c T w
  refine g_aloadN (pc := 0) w d_jdk_42_method_3_code_0 rfl rfl ?_
  refine g_aloadN (pc := 1) w d_jdk_42_method_3_code_1 rfl rfl ?_
  refine g_iconst (pc := 2) w d_jdk_42_method_3_code_2 (z := (0 : Int32)) (by decide) ?_
  refine g_aloadN (pc := 3) w d_jdk_42_method_3_code_3 rfl rfl ?_
  refine g_alen (pc := 4) w A_va d_jdk_42_method_3_code_4 ?_
  rw [List.length_map]
  refine g_aconstNull (pc := 5) w d_jdk_42_method_3_code_5 ?_
  refine g_special (pc := 6) w (argsL := [(.ref va), (.int (0 : Int32)), (.int cs.length.toInt32), .null]) (rest := []) (W := 0) rfl rfl (tw8 hw) (tw9 hw) (tw4 hw) (tw11 hw) (by decide) (c_strinit4 hw st E_sa F_coder_sa F_value_sa A_va hch hne0 hcap ne) (by simp) (allS (Or.inl (by simp)) all0) rfl (lenOf pd7 rfl) rfl (by decide) (Nat.le_of_eq rfl) (by decide) (by decide) (by decide) d_jdk_42_method_3_code_6 ?_
  rintro _ T1 h1 ns1 ⟨rfl, rfl, t, E_sa, F_coder_sa, F_value_sa, A_t⟩ K1 w1
  have A_va := A_va.keep K1 (ninS ne nin0)
  exact g_ret0 (pc := 9) w1 rfl (by decide) (by decide) (ns := []) (fun _ q => nomatch q) d_jdk_42_method_3_code_9 ⟨rfl, rfl, t, E_sa, F_coder_sa, F_value_sa, A_t⟩

set_option maxRecDepth 65536 in
set_option maxHeartbeats 40000000 in
theorem c_scoder {l : Launch} {Z : State} {a0 : Array Value} (hw : ∀ d ∈ tables_1, d.before a0 Z = true) (st : Sts Z) {sa : Addr} {zk : Int32} {h0 : Heap} (F_coder_sa : Fld Z h0 sa "java/lang/String" "coder" "B" (.int zk)) (hzk : narrow .byte (.int zk) = .int zk) :
    Con l Z a0 EL0 (⟨"java/lang/String", "coder", "()B"⟩ : MethodName) jdk_42_method_152_code 1 (Option.some Jvm.ClassFile.FieldType.byte) ({ frames := 0, cells := 0, slots := 0, locals := 0 } : Room) #[(.ref sa)] h0 [] [] (fun v h ns => v = some (.int zk) ∧ ns = []) := by
  refine Con.of (L0 := #[.val (.ref sa)]) (by decide +kernel) (fun m => by first | rfl | (simp [entryFrame, mkF, argsToLocals, Value.category]; done)) ?_
  intro p e s m below meth c T w
  obtain ⟨zc, O_c, O_n⟩ := st.1
  refine g_getS (pc := 0) w (host := "") (Or.inl (tw15 hw)) Via.refl O_c d_jdk_42_method_152_code_0 ?_
  intro T1 w1
  refine g_ifNo (pc := 3) w1 d_jdk_42_method_152_code_3 ((if0 _ _).trans (feq (O_n : ¬ zc = (0 : Int32))).1) ?_
  refine g_aloadN (pc := 6) w1 d_jdk_42_method_152_code_6 rfl rfl ?_
  refine g_getF (pc := 7) w1 (host := "") (Or.inl (tw27 hw)) Via.refl F_coder_sa d_jdk_42_method_152_code_7 ?_
  intro T2 w2
  refine g_goto (pc := 10) w2 d_jdk_42_method_152_code_10 (by decide) (pc' := 14) (by decide) ?_
  exact g_retN (pc := 14) w2 (t := .byte) rfl (by simp) hzk (by decide) (by decide) (ns := []) (fun _ q => nomatch q) d_jdk_42_method_152_code_14 ⟨rfl, rfl⟩

set_option maxRecDepth 65536 in
set_option maxHeartbeats 40000000 in
theorem c_isLatin1Y {l : Launch} {Z : State} {a0 : Array Value} (hw : ∀ d ∈ tables_1, d.before a0 Z = true) (st : Sts Z) {sa : Addr} {h0 : Heap} (F_coder_sa : Fld Z h0 sa "java/lang/String" "coder" "B" (.int (0 : Int32))) :
    Con l Z a0 EL0 (⟨"java/lang/String", "isLatin1", "()Z"⟩ : MethodName) jdk_42_method_154_code 1 (Option.some Jvm.ClassFile.FieldType.boolean) ({ frames := 0, cells := 0, slots := 0, locals := 0 } : Room) #[(.ref sa)] h0 [] [] (fun v h ns => v = some (.int (1 : Int32)) ∧ ns = []) := by
  refine Con.of (L0 := #[.val (.ref sa)]) (by decide +kernel) (fun m => by first | rfl | (simp [entryFrame, mkF, argsToLocals, Value.category]; done)) ?_
  intro p e s m below meth c T w
  obtain ⟨zc, O_c, O_n⟩ := st.1
  refine g_getS (pc := 0) w (host := "") (Or.inl (tw15 hw)) Via.refl O_c d_jdk_42_method_154_code_0 ?_
  intro T1 w1
  refine g_ifNo (pc := 3) w1 d_jdk_42_method_154_code_3 ((if0 _ _).trans (feq (O_n : ¬ zc = (0 : Int32))).1) ?_
  refine g_aloadN (pc := 6) w1 d_jdk_42_method_154_code_6 rfl rfl ?_
  refine g_getF (pc := 7) w1 (host := "") (Or.inl (tw27 hw)) Via.refl F_coder_sa d_jdk_42_method_154_code_7 ?_
  intro T2 w2
  refine g_ifNo (pc := 10) w2 d_jdk_42_method_154_code_10 ((if0 _ _).trans (teq ((by decide) : (0 : Int32) = (0 : Int32))).2) ?_
  refine g_iconst (pc := 13) w2 d_jdk_42_method_154_code_13 (z := (1 : Int32)) (by decide) ?_
  refine g_goto (pc := 14) w2 d_jdk_42_method_154_code_14 (by decide) (pc' := 18) (by decide) ?_
  exact g_retN (pc := 18) w2 (t := .boolean) rfl (by simp) rfl (by decide) (by decide) (ns := []) (fun _ q => nomatch q) d_jdk_42_method_154_code_18 ⟨rfl, rfl⟩

set_option maxRecDepth 65536 in
set_option maxHeartbeats 40000000 in
theorem c_isLatin1N {l : Launch} {Z : State} {a0 : Array Value} (hw : ∀ d ∈ tables_1, d.before a0 Z = true) (st : Sts Z) {sa : Addr} {h0 : Heap} (F_coder_sa : Fld Z h0 sa "java/lang/String" "coder" "B" (.int (1 : Int32))) :
    Con l Z a0 EL0 (⟨"java/lang/String", "isLatin1", "()Z"⟩ : MethodName) jdk_42_method_154_code 1 (Option.some Jvm.ClassFile.FieldType.boolean) ({ frames := 0, cells := 0, slots := 0, locals := 0 } : Room) #[(.ref sa)] h0 [] [] (fun v h ns => v = some (.int (0 : Int32)) ∧ ns = []) := by
  refine Con.of (L0 := #[.val (.ref sa)]) (by decide +kernel) (fun m => by first | rfl | (simp [entryFrame, mkF, argsToLocals, Value.category]; done)) ?_
  intro p e s m below meth c T w
  obtain ⟨zc, O_c, O_n⟩ := st.1
  refine g_getS (pc := 0) w (host := "") (Or.inl (tw15 hw)) Via.refl O_c d_jdk_42_method_154_code_0 ?_
  intro T1 w1
  refine g_ifNo (pc := 3) w1 d_jdk_42_method_154_code_3 ((if0 _ _).trans (feq (O_n : ¬ zc = (0 : Int32))).1) ?_
  refine g_aloadN (pc := 6) w1 d_jdk_42_method_154_code_6 rfl rfl ?_
  refine g_getF (pc := 7) w1 (host := "") (Or.inl (tw27 hw)) Via.refl F_coder_sa d_jdk_42_method_154_code_7 ?_
  intro T2 w2
  refine g_ifYes (pc := 10) w2 d_jdk_42_method_154_code_10 ((if0 _ _).trans (feq ((by decide) : ¬ (1 : Int32) = (0 : Int32))).2) (by decide) (pc' := 17) (by decide) ?_
  refine g_iconst (pc := 17) w2 d_jdk_42_method_154_code_17 (z := (0 : Int32)) (by decide) ?_
  exact g_retN (pc := 18) w2 (t := .boolean) rfl (by simp) rfl (by decide) (by decide) (ns := []) (fun _ q => nomatch q) d_jdk_42_method_154_code_18 ⟨rfl, rfl⟩

set_option maxRecDepth 65536 in
set_option maxHeartbeats 40000000 in
theorem c_length {l : Launch} {Z : State} {a0 : Array Value} (hw : ∀ d ∈ tables_1, d.before a0 Z = true) (st : Sts Z) {sa ta : Addr} {cs : List Int32} {h0 : Heap} (E_sa : Exa Z h0 sa "java/lang/String") (F_coder_sa : Fld Z h0 sa "java/lang/String" "coder" "B" (.int (scoder cs))) (F_value_sa : Fld Z h0 sa "java/lang/String" "value" "[B" (.ref ta)) (A_ta : AR Z h0 ta .byte ((sbytes cs).map Value.int)) (hn : cs.length < 1073741824) :
    Con l Z a0 EL0 (⟨"java/lang/String", "length", "()I"⟩ : MethodName) jdk_42_method_54_code 1 (Option.some Jvm.ClassFile.FieldType.int) ({ frames := 1, cells := 0, slots := 0, locals := 13 } : Room) #[(.ref sa)] h0 [] [] (fun v h ns => v = some (.int cs.length.toInt32) ∧ ns = []) := by
  refine Con.of (L0 := #[.val (.ref sa)]) (by decide +kernel) (fun m => by first | rfl | (simp [entryFrame, mkF, argsToLocals, Value.category]; done)) ?_
  intro p e s m below meth c T w
  by_cases hlat : lat cs = cs.length
  · have F_coder_sa : Fld Z h0 sa "java/lang/String" "coder" "B" (.int (0 : Int32)) := by rw [(sb_lat hlat).2] at F_coder_sa; exact F_coder_sa
    have A_ta : AR Z h0 ta .byte ((cs.map b8).map Value.int) := by rw [(sb_lat hlat).1] at A_ta; exact A_ta
    refine g_aloadN (pc := 0) w d_jdk_42_method_54_code_0 rfl rfl ?_
    refine g_getF (pc := 1) w (host := "") (Or.inl (tw29 hw)) Via.refl F_value_sa d_jdk_42_method_54_code_1 ?_
    intro T1 w1
    refine g_alen (pc := 4) w1 A_ta d_jdk_42_method_54_code_4 ?_
    refine g_aloadN (pc := 5) w1 d_jdk_42_method_54_code_5 rfl rfl ?_
    refine g_virtual (pc := 6) w1 (argsL := []) (rest := [(.int (((cs.map b8).map Value.int)).length.toInt32)]) (W := 1) (tw47 hw) (tw48 hw) (fun t q => notFace_of_selects (args := #[]) (mvT q (tw50 hw))) (tw50 hw) (tw49 hw) (tw4 hw) (tw51 hw) (by decide) E_sa (c_scoder hw st F_coder_sa rfl) (by simp) all0 rfl (lenOf pd8 rfl) rfl (by decide) (Nat.le_of_eq rfl) (by decide) (by decide) (by decide) d_jdk_42_method_54_code_6 ?_
    rintro _ T2 h2 ns2 ⟨rfl, rfl⟩ K2 w2
    have E_sa := E_sa.keep K2
    have F_coder_sa := F_coder_sa.keep K2 nin0
    have F_value_sa := F_value_sa.keep K2 nin0
    have A_ta := A_ta.keep K2 nin0
    refine g_ishr (pc := 9) w2 d_jdk_42_method_54_code_9 ?_
    rw [shr0, List.length_map, List.length_map]
    exact g_retI (pc := 10) w2 rfl (by decide) (by decide) (ns := []) (fun _ q => nomatch q) d_jdk_42_method_54_code_10 ⟨rfl, rfl⟩
  · have F_coder_sa : Fld Z h0 sa "java/lang/String" "coder" "B" (.int (1 : Int32)) := by rw [(sb_u16 hlat).2] at F_coder_sa; exact F_coder_sa
    have A_ta : AR Z h0 ta .byte ((u16s cs).map Value.int) := by rw [(sb_u16 hlat).1] at A_ta; exact A_ta
    refine g_aloadN (pc := 0) w d_jdk_42_method_54_code_0 rfl rfl ?_
    refine g_getF (pc := 1) w (host := "") (Or.inl (tw29 hw)) Via.refl F_value_sa d_jdk_42_method_54_code_1 ?_
    intro T3 w3
    refine g_alen (pc := 4) w3 A_ta d_jdk_42_method_54_code_4 ?_
    refine g_aloadN (pc := 5) w3 d_jdk_42_method_54_code_5 rfl rfl ?_
    refine g_virtual (pc := 6) w3 (argsL := []) (rest := [(.int (((u16s cs).map Value.int)).length.toInt32)]) (W := 1) (tw47 hw) (tw48 hw) (fun t q => notFace_of_selects (args := #[]) (mvT q (tw50 hw))) (tw50 hw) (tw49 hw) (tw4 hw) (tw51 hw) (by decide) E_sa (c_scoder hw st F_coder_sa rfl) (by simp) all0 rfl (lenOf pd8 rfl) rfl (by decide) (Nat.le_of_eq rfl) (by decide) (by decide) (by decide) d_jdk_42_method_54_code_6 ?_
    rintro _ T4 h4 ns4 ⟨rfl, rfl⟩ K4 w4
    have E_sa := E_sa.keep K4
    have F_coder_sa := F_coder_sa.keep K4 nin0
    have F_value_sa := F_value_sa.keep K4 nin0
    have A_ta := A_ta.keep K4 nin0
    refine g_ishr (pc := 9) w4 d_jdk_42_method_54_code_9 ?_
    rw [List.length_map, u16_len, t32_shr1 hn]
    exact g_retI (pc := 10) w4 rfl (by decide) (by decide) (ns := []) (fun _ q => nomatch q) d_jdk_42_method_54_code_10 ⟨rfl, rfl⟩

set_option maxRecDepth 65536 in
set_option maxHeartbeats 40000000 in
theorem c_isHigh {l : Launch} {Z : State} {a0 : Array Value} (hw : ∀ d ∈ tables_1, d.before a0 Z = true) {ch : Int32} {h0 : Heap} :
    Con l Z a0 EL0 (⟨"java/lang/Character", "isHighSurrogate", "(C)Z"⟩ : MethodName) jdk_89_method_14_code 1 (Option.some Jvm.ClassFile.FieldType.boolean) ({ frames := 0, cells := 0, slots := 0, locals := 0 } : Room) #[(.int ch)] h0 [] [] (fun v h ns => v = some (.int (hs ch)) ∧ ns = []) := by
  refine Con.of (L0 := #[.val (.int ch)]) (by decide +kernel) (fun m => by first | rfl | (simp [entryFrame, mkF, argsToLocals, Value.category]; done)) ?_
  intro p e s m below meth c T w
  refine g_iloadN (pc := 0) w d_jdk_89_method_14_code_0 rfl ?_
  refine g_ldcI (pc := 1) w (tw101 hw) d_jdk_89_method_14_code_1 ?_
  by_cases ha : ch < (55296 : Int32)
  · refine g_icmpYes (pc := 3) w d_jdk_89_method_14_code_3 ((tlt (ha : ch < (55296 : Int32))).1) (by decide) (pc' := 16) (by decide) ?_
    refine g_iconst (pc := 16) w d_jdk_89_method_14_code_16 (z := (0 : Int32)) (by decide) ?_
    exact g_retN (pc := 17) w (t := .boolean) rfl (by simp) rfl (by decide) (by decide) (ns := []) (fun _ q => nomatch q) d_jdk_89_method_14_code_17 ⟨by rw [hs, if_pos ha], rfl⟩
  · refine g_icmpNo (pc := 3) w d_jdk_89_method_14_code_3 ((flt (ha : ¬ ch < (55296 : Int32))).1) ?_
    refine g_iloadN (pc := 6) w d_jdk_89_method_14_code_6 rfl ?_
    refine g_ldcI (pc := 7) w (tw102 hw) d_jdk_89_method_14_code_7 ?_
    by_cases hb : ch < (56320 : Int32)
    · refine g_icmpNo (pc := 9) w d_jdk_89_method_14_code_9 ((tlt (hb : ch < (56320 : Int32))).2.1) ?_
      refine g_iconst (pc := 12) w d_jdk_89_method_14_code_12 (z := (1 : Int32)) (by decide) ?_
      refine g_goto (pc := 13) w d_jdk_89_method_14_code_13 (by decide) (pc' := 17) (by decide) ?_
      exact g_retN (pc := 17) w (t := .boolean) rfl (by simp) rfl (by decide) (by decide) (ns := []) (fun _ q => nomatch q) d_jdk_89_method_14_code_17 ⟨by rw [hs, if_neg ha, if_pos hb], rfl⟩
    · refine g_icmpYes (pc := 9) w d_jdk_89_method_14_code_9 ((flt (hb : ¬ ch < (56320 : Int32))).2.1) (by decide) (pc' := 16) (by decide) ?_
      refine g_iconst (pc := 16) w d_jdk_89_method_14_code_16 (z := (0 : Int32)) (by decide) ?_
      exact g_retN (pc := 17) w (t := .boolean) rfl (by simp) rfl (by decide) (by decide) (ns := []) (fun _ q => nomatch q) d_jdk_89_method_14_code_17 ⟨by rw [hs, if_neg ha, if_neg hb], rfl⟩

set_option maxRecDepth 65536 in
set_option maxHeartbeats 40000000 in
theorem c_isLow {l : Launch} {Z : State} {a0 : Array Value} (hw : ∀ d ∈ tables_1, d.before a0 Z = true) {ch : Int32} {h0 : Heap} :
    Con l Z a0 EL0 (⟨"java/lang/Character", "isLowSurrogate", "(C)Z"⟩ : MethodName) jdk_89_method_15_code 1 (Option.some Jvm.ClassFile.FieldType.boolean) ({ frames := 0, cells := 0, slots := 0, locals := 0 } : Room) #[(.int ch)] h0 [] [] (fun v h ns => v = some (.int (ls ch)) ∧ ns = []) := by
  refine Con.of (L0 := #[.val (.int ch)]) (by decide +kernel) (fun m => by first | rfl | (simp [entryFrame, mkF, argsToLocals, Value.category]; done)) ?_
  intro p e s m below meth c T w
  refine g_iloadN (pc := 0) w d_jdk_89_method_15_code_0 rfl ?_
  refine g_ldcI (pc := 1) w (tw102 hw) d_jdk_89_method_15_code_1 ?_
  by_cases ha : ch < (56320 : Int32)
  · refine g_icmpYes (pc := 3) w d_jdk_89_method_15_code_3 ((tlt (ha : ch < (56320 : Int32))).1) (by decide) (pc' := 16) (by decide) ?_
    refine g_iconst (pc := 16) w d_jdk_89_method_15_code_16 (z := (0 : Int32)) (by decide) ?_
    exact g_retN (pc := 17) w (t := .boolean) rfl (by simp) rfl (by decide) (by decide) (ns := []) (fun _ q => nomatch q) d_jdk_89_method_15_code_17 ⟨by rw [ls, if_pos ha], rfl⟩
  · refine g_icmpNo (pc := 3) w d_jdk_89_method_15_code_3 ((flt (ha : ¬ ch < (56320 : Int32))).1) ?_
    refine g_iloadN (pc := 6) w d_jdk_89_method_15_code_6 rfl ?_
    refine g_ldcI (pc := 7) w (tw106 hw) d_jdk_89_method_15_code_7 ?_
    by_cases hb : ch < (57344 : Int32)
    · refine g_icmpNo (pc := 9) w d_jdk_89_method_15_code_9 ((tlt (hb : ch < (57344 : Int32))).2.1) ?_
      refine g_iconst (pc := 12) w d_jdk_89_method_15_code_12 (z := (1 : Int32)) (by decide) ?_
      refine g_goto (pc := 13) w d_jdk_89_method_15_code_13 (by decide) (pc' := 17) (by decide) ?_
      exact g_retN (pc := 17) w (t := .boolean) rfl (by simp) rfl (by decide) (by decide) (ns := []) (fun _ q => nomatch q) d_jdk_89_method_15_code_17 ⟨by rw [ls, if_neg ha, if_pos hb], rfl⟩
    · refine g_icmpYes (pc := 9) w d_jdk_89_method_15_code_9 ((flt (hb : ¬ ch < (57344 : Int32))).2.1) (by decide) (pc' := 16) (by decide) ?_
      refine g_iconst (pc := 16) w d_jdk_89_method_15_code_16 (z := (0 : Int32)) (by decide) ?_
      exact g_retN (pc := 17) w (t := .boolean) rfl (by simp) rfl (by decide) (by decide) (ns := []) (fun _ q => nomatch q) d_jdk_89_method_15_code_17 ⟨by rw [ls, if_neg ha, if_neg hb], rfl⟩

set_option maxRecDepth 65536 in
set_option maxHeartbeats 40000000 in
theorem c_ucpc4 {l : Launch} {Z : State} {a0 : Array Value} (hw : ∀ d ∈ tables_1, d.before a0 Z = true) (st : Sts Z) {ta : Addr} {cs : List Int32} {h0 : Heap} (A_ta : AR Z h0 ta .byte ((u16s cs).map Value.int)) (hch : ∀ x ∈ cs, Ch x) (hne0 : ¬ cs.length = 0) (hcap : cs.length ≤ 256) :
    Con l Z a0 EL0 (⟨"java/lang/StringUTF16", "codePointCount", "([BIIZ)I"⟩ : MethodName) jdk_52_method_11_code 6 (Option.some Jvm.ClassFile.FieldType.int) ({ frames := 1, cells := 0, slots := 0, locals := 13 } : Room) #[(.ref ta), (.int (0 : Int32)), (.int cs.length.toInt32), (.int (0 : Int32))] h0 [] [] (fun v h ns => v = some (.int (cs.length - prs cs).toInt32) ∧ ns = []) := by
  refine Con.of (L0 := #[.val (.ref ta), .val (.int (0 : Int32)), .val (.int cs.length.toInt32), .val (.int (0 : Int32)), .unset, .unset]) (by decide +kernel) (fun m => by first | rfl | (simp [entryFrame, mkF, argsToLocals, Value.category]; done)) ?_
  intro p e s m below meth c T w
  refine g_getS (pc := 0) w (host := "") (Or.inl (tw85 hw)) Via.refl st.2.1 d_jdk_52_method_11_code_0 ?_
  intro T1 w1
  refine g_ifYes (pc := 3) w1 d_jdk_52_method_11_code_3 ((if0 _ _).trans (feq ((by decide) : ¬ (1 : Int32) = (0 : Int32))).2) (by decide) (pc' := 19) (by decide) ?_
  refine g_iloadN (pc := 19) w1 d_jdk_52_method_11_code_19 rfl ?_
  refine g_iloadN (pc := 20) w1 d_jdk_52_method_11_code_20 rfl ?_
  refine g_isub (pc := 21) w1 d_jdk_52_method_11_code_21 ?_
  rw [Int32.sub_zero]
  refine g_istore (pc := 22) w1 d_jdk_52_method_11_code_22 (l' := #[.val (.ref ta), .val (.int (0 : Int32)), .val (.int cs.length.toInt32), .val (.int (0 : Int32)), .val (.int cs.length.toInt32), .unset]) rfl ?_
  refine g_iloadN (pc := 24) w1 d_jdk_52_method_11_code_24 rfl ?_
  refine g_istore (pc := 25) w1 d_jdk_52_method_11_code_25 (l' := #[.val (.ref ta), .val (.int (0 : Int32)), .val (.int cs.length.toInt32), .val (.int (0 : Int32)), .val (.int cs.length.toInt32), .val (.int (0 : Int32))]) rfl ?_
  refine g_iloadN (pc := 27) w1 d_jdk_52_method_11_code_27 rfl ?_
  refine g_ifYes (pc := 28) w1 d_jdk_52_method_11_code_28 ((if0 _ _).trans (teq ((by decide) : (0 : Int32) = (0 : Int32))).1) (by decide) (pc' := 44) (by decide) ?_
  have hpr := prs_le cs
  have loop : ∀ (r i q : Nat) (T : State) (h : Heap), cs.length - i ≤ r → i ≤ cs.length → q = (cs.length - prs cs) + prs (cs.drop i) → OW p l e ({ frames := 1, cells := 0, slots := 0, locals := 13 } : Room) s m #[(.ref ta), (.int (0 : Int32)), (.int cs.length.toInt32), (.int (0 : Int32))] below meth c Z a0 EL0 "java/lang/StringUTF16" "codePointCount" jdk_52_method_11_code 6 (Option.some Jvm.ClassFile.FieldType.int) [] h0 [] T h 0 0 → AR Z h ta .byte ((u16s cs).map Value.int) → Go p.tables e below (Fin' s Z EL0 [] h0 ({ frames := 1, cells := 0, slots := 0, locals := 13 } : Room) (fun v h ns => v = some (.int (cs.length - prs cs).toInt32) ∧ ns = [])) (T.setTop (mkF m 44 #[.val (.ref ta), .val (.int (0 : Int32)), .val (.int cs.length.toInt32), .val (.int (0 : Int32)), .val (.int q.toInt32), .val (.int i.toInt32)] [])) := by
    intro r
    induction r with
    | zero =>
      intro i q T h hr hi hq w A_ta
      refine g_iload (pc := 44) w d_jdk_52_method_11_code_44 rfl ?_
      refine g_iloadN (pc := 46) w d_jdk_52_method_11_code_46 rfl ?_
      refine g_iconst (pc := 47) w d_jdk_52_method_11_code_47 (z := (1 : Int32)) (by decide) ?_
      refine g_isub (pc := 48) w d_jdk_52_method_11_code_48 ?_
      rw [t32_pred (by omega)]
      refine g_icmpYes (pc := 49) w d_jdk_52_method_11_code_49 ((flt ((fun z => by have := (t32_lt (by omega) (by omega)).mp z; omega) : ¬ i.toInt32 < (cs.length - 1).toInt32)).2.1) (by decide) (pc' := 88) (by decide) ?_
      refine g_iload (pc := 88) w d_jdk_52_method_11_code_88 rfl ?_
      have hp0 : prs (cs.drop i) = 0 := prs_short (by simp; omega)
      exact g_retI (pc := 90) w rfl (by decide) (by decide) (ns := []) (fun _ q => nomatch q) d_jdk_52_method_11_code_90 ⟨by rw [hq, hp0, Nat.add_zero], rfl⟩
    | succ r ih =>
      intro i q T h hr hi hq w A_ta
      refine g_iload (pc := 44) w d_jdk_52_method_11_code_44 rfl ?_
      refine g_iloadN (pc := 46) w d_jdk_52_method_11_code_46 rfl ?_
      refine g_iconst (pc := 47) w d_jdk_52_method_11_code_47 (z := (1 : Int32)) (by decide) ?_
      refine g_isub (pc := 48) w d_jdk_52_method_11_code_48 ?_
      rw [t32_pred (by omega)]
      by_cases hend : cs.length ≤ i + 1
      · refine g_icmpYes (pc := 49) w d_jdk_52_method_11_code_49 ((flt ((fun z => by have := (t32_lt (by omega) (by omega)).mp z; omega) : ¬ i.toInt32 < (cs.length - 1).toInt32)).2.1) (by decide) (pc' := 88) (by decide) ?_
        refine g_iload (pc := 88) w d_jdk_52_method_11_code_88 rfl ?_
        have hp0 : prs (cs.drop i) = 0 := prs_short (by simp; omega)
        exact g_retI (pc := 90) w rfl (by decide) (by decide) (ns := []) (fun _ q => nomatch q) d_jdk_52_method_11_code_90 ⟨by rw [hq, hp0, Nat.add_zero], rfl⟩
      · refine g_icmpNo (pc := 49) w d_jdk_52_method_11_code_49 ((tlt (((t32_lt (by omega) (by omega)).mpr (by omega)) : i.toInt32 < (cs.length - 1).toInt32)).2.1) ?_
        obtain ⟨ca, hca⟩ : ∃ ch, cs[i]? = some ch := ⟨_, List.getElem?_eq_getElem (by omega)⟩
        obtain ⟨cb, hcb⟩ : ∃ ch, cs[i + 1]? = some ch := ⟨_, List.getElem?_eq_getElem (by omega)⟩
        have hst := prs_step hca hcb
        refine g_aloadN (pc := 52) w d_jdk_52_method_11_code_52 rfl rfl ?_
        refine g_iload (pc := 53) w d_jdk_52_method_11_code_53 rfl ?_
        refine g_iinc (pc := 55) w d_jdk_52_method_11_code_55 rfl (z := (i + 1).toInt32) (t32_succ i) (l' := #[.val (.ref ta), .val (.int (0 : Int32)), .val (.int cs.length.toInt32), .val (.int (0 : Int32)), .val (.int q.toInt32), .val (.int (i + 1).toInt32)]) rfl ?_
        refine g_static (pc := 58) w (argsL := [(.ref ta), (.int i.toInt32)]) (rest := []) (W := 0) (tw88 hw) (tw89 hw) (tw18 hw) (tw90 hw) (by decide) (c_getChar hw st (i := i) A_ta hca (hch _ (List.mem_of_getElem? hca)) (by omega)) (by simp) all0 rfl (lenOf pd5 rfl) rfl (by decide) (Nat.le_of_eq rfl) (by decide) (by decide) (by decide) d_jdk_52_method_11_code_58 ?_
        rintro _ T2 h2 ns2 ⟨rfl, rfl⟩ K2 w2
        have A_ta := A_ta.keep K2 nin0
        refine g_static (pc := 61) w2 (argsL := [(.int ca)]) (rest := []) (W := 0) (tw97 hw) (tw98 hw) (tw99 hw) (tw100 hw) (by decide) (c_isHigh hw) (by simp) all0 rfl (lenOf pd9 rfl) rfl (by decide) (Nat.le_of_eq rfl) (by decide) (by decide) (by decide) d_jdk_52_method_11_code_61 ?_
        rintro _ T3 h3 ns3 ⟨rfl, rfl⟩ K3 w3
        have A_ta := A_ta.keep K3 nin0
        by_cases hha : (hs ca) = (0 : Int32)
        · refine g_ifYes (pc := 64) w3 d_jdk_52_method_11_code_64 ((if0 _ _).trans (teq (hha : (hs ca) = (0 : Int32))).1) (by decide) (pc' := 44) (by decide) ?_
          rw [if_neg (fun z => z.1 hha)] at hst
          exact ih (i + 1) q T3 h3 (by omega) (by omega) (by rw [hq, hst]) (by simpa using w3) A_ta
        · refine g_ifNo (pc := 64) w3 d_jdk_52_method_11_code_64 ((if0 _ _).trans (feq (hha : ¬ (hs ca) = (0 : Int32))).1) ?_
          refine g_aloadN (pc := 67) w3 d_jdk_52_method_11_code_67 rfl rfl ?_
          refine g_iload (pc := 68) w3 d_jdk_52_method_11_code_68 rfl ?_
          refine g_static (pc := 70) w3 (argsL := [(.ref ta), (.int (i + 1).toInt32)]) (rest := []) (W := 0) (tw88 hw) (tw89 hw) (tw18 hw) (tw90 hw) (by decide) (c_getChar hw st (i := (i + 1)) A_ta hcb (hch _ (List.mem_of_getElem? hcb)) (by omega)) (by simp) all0 rfl (lenOf pd5 rfl) rfl (by decide) (Nat.le_of_eq rfl) (by decide) (by decide) (by decide) d_jdk_52_method_11_code_70 ?_
          rintro _ T4 h4 ns4 ⟨rfl, rfl⟩ K4 w4
          have A_ta := A_ta.keep K4 nin0
          refine g_static (pc := 73) w4 (argsL := [(.int cb)]) (rest := []) (W := 0) (tw103 hw) (tw104 hw) (tw99 hw) (tw105 hw) (by decide) (c_isLow hw) (by simp) all0 rfl (lenOf pd9 rfl) rfl (by decide) (Nat.le_of_eq rfl) (by decide) (by decide) (by decide) d_jdk_52_method_11_code_73 ?_
          rintro _ T5 h5 ns5 ⟨rfl, rfl⟩ K5 w5
          have A_ta := A_ta.keep K5 nin0
          by_cases hlb : (ls cb) = (0 : Int32)
          · refine g_ifYes (pc := 76) w5 d_jdk_52_method_11_code_76 ((if0 _ _).trans (teq (hlb : (ls cb) = (0 : Int32))).1) (by decide) (pc' := 44) (by decide) ?_
            rw [if_neg (fun z => z.2 hlb)] at hst
            exact ih (i + 1) q T5 h5 (by omega) (by omega) (by rw [hq, hst]) (by simpa using w5) A_ta
          · refine g_ifNo (pc := 76) w5 d_jdk_52_method_11_code_76 ((if0 _ _).trans (feq (hlb : ¬ (ls cb) = (0 : Int32))).1) ?_
            rw [if_pos ⟨hha, hlb⟩] at hst
            refine g_iinc (pc := 79) w5 d_jdk_52_method_11_code_79 rfl (z := (q - 1).toInt32) (t32_dec (by omega)) (l' := #[.val (.ref ta), .val (.int (0 : Int32)), .val (.int cs.length.toInt32), .val (.int (0 : Int32)), .val (.int (q - 1).toInt32), .val (.int (i + 1).toInt32)]) rfl ?_
            refine g_iinc (pc := 82) w5 d_jdk_52_method_11_code_82 rfl (z := (i + 2).toInt32) (t32_succ (i + 1)) (l' := #[.val (.ref ta), .val (.int (0 : Int32)), .val (.int cs.length.toInt32), .val (.int (0 : Int32)), .val (.int (q - 1).toInt32), .val (.int (i + 2).toInt32)]) rfl ?_
            refine g_goto (pc := 85) w5 d_jdk_52_method_11_code_85 (by decide) (pc' := 44) (by decide) ?_
            exact ih (i + 2) (q - 1) T5 h5 (by omega) (by omega) (by omega) (by simpa using w5) A_ta
  exact loop cs.length 0 cs.length T1 h0 (by omega) (by omega) (by rw [List.drop_zero]; omega) w1 A_ta

set_option maxRecDepth 65536 in
set_option maxHeartbeats 40000000 in
theorem c_ucpc3 {l : Launch} {Z : State} {a0 : Array Value} (hw : ∀ d ∈ tables_1, d.before a0 Z = true) (st : Sts Z) {ta : Addr} {cs : List Int32} {h0 : Heap} (A_ta : AR Z h0 ta .byte ((u16s cs).map Value.int)) (hch : ∀ x ∈ cs, Ch x) (hne0 : ¬ cs.length = 0) (hcap : cs.length ≤ 256) :
    Con l Z a0 EL0 (⟨"java/lang/StringUTF16", "codePointCount", "([BII)I"⟩ : MethodName) jdk_52_method_12_code 3 (Option.some Jvm.ClassFile.FieldType.int) ({ frames := 2, cells := 0, slots := 0, locals := 30 } : Room) #[(.ref ta), (.int (0 : Int32)), (.int cs.length.toInt32)] h0 [] [] (fun v h ns => v = some (.int (cs.length - prs cs).toInt32) ∧ ns = []) := by
  refine Con.of (L0 := #[.val (.ref ta), .val (.int (0 : Int32)), .val (.int cs.length.toInt32)]) (by decide +kernel) (fun m => by first | rfl | (simp [entryFrame, mkF, argsToLocals, Value.category]; done)) ?_
  intro p e s m below meth c T w
  refine g_aloadN (pc := 0) w d_jdk_52_method_12_code_0 rfl rfl ?_
  refine g_iloadN (pc := 1) w d_jdk_52_method_12_code_1 rfl ?_
  refine g_iloadN (pc := 2) w d_jdk_52_method_12_code_2 rfl ?_
  refine g_iconst (pc := 3) w d_jdk_52_method_12_code_3 (z := (0 : Int32)) (by decide) ?_
  refine g_static (pc := 4) w (argsL := [(.ref ta), (.int (0 : Int32)), (.int cs.length.toInt32), (.int (0 : Int32))]) (rest := []) (W := 0) (tw94 hw) (tw95 hw) (tw18 hw) (tw96 hw) (by decide) (c_ucpc4 hw st A_ta hch hne0 hcap) (by simp) all0 rfl (lenOf pd10 rfl) rfl (by decide) (Nat.le_of_eq rfl) (by decide) (by decide) (by decide) d_jdk_52_method_12_code_4 ?_
  rintro _ T1 h1 ns1 ⟨rfl, rfl⟩ K1 w1
  exact g_retI (pc := 7) w1 rfl (by decide) (by decide) (ns := []) (fun _ q => nomatch q) d_jdk_52_method_12_code_7 ⟨rfl, rfl⟩

set_option maxRecDepth 65536 in
set_option maxHeartbeats 40000000 in
theorem c_pcfti {l : Launch} {Z : State} {a0 : Array Value} (hw : ∀ d ∈ tables_1, d.before a0 Z = true) {xm : Int32} {h0 : Heap} (hx0 : ¬ xm < (0 : Int32)) :
    Con l Z a0 EL0 (⟨"jdk/internal/util/Preconditions", "checkFromToIndex", "(IIILjava/util/function/BiFunction;)I"⟩ : MethodName) jdk_41_method_12_code 4 (Option.some Jvm.ClassFile.FieldType.int) ({ frames := 0, cells := 0, slots := 0, locals := 0 } : Room) #[(.int (0 : Int32)), (.int xm), (.int xm), .null] h0 [] [] (fun v h ns => v = some (.int (0 : Int32)) ∧ ns = []) := by
  refine Con.of (L0 := #[.val (.int (0 : Int32)), .val (.int xm), .val (.int xm), .val .null]) (by decide +kernel) (fun m => by first | rfl | (simp [entryFrame, mkF, argsToLocals, Value.category]; done)) ?_
  intro p e s m below meth c T w
  refine g_iloadN (pc := 0) w d_jdk_41_method_12_code_0 rfl ?_
  refine g_ifNo (pc := 1) w d_jdk_41_method_12_code_1 ((if0 _ _).trans (flt ((by decide) : ¬ (0 : Int32) < (0 : Int32))).1) ?_
  refine g_iloadN (pc := 4) w d_jdk_41_method_12_code_4 rfl ?_
  refine g_iloadN (pc := 5) w d_jdk_41_method_12_code_5 rfl ?_
  refine g_icmpNo (pc := 6) w d_jdk_41_method_12_code_6 ((flt (hx0 : ¬ xm < (0 : Int32))).2.2.1) ?_
  refine g_iloadN (pc := 9) w d_jdk_41_method_12_code_9 rfl ?_
  refine g_iloadN (pc := 10) w d_jdk_41_method_12_code_10 rfl ?_
  refine g_icmpYes (pc := 11) w d_jdk_41_method_12_code_11 ((flt (Int32.lt_irrefl : ¬ xm < xm)).2.2.2) (by decide) (pc' := 22) (by decide) ?_
  refine g_iloadN (pc := 22) w d_jdk_41_method_12_code_22 rfl ?_
  exact g_retI (pc := 23) w rfl (by decide) (by decide) (ns := []) (fun _ q => nomatch q) d_jdk_41_method_12_code_23 ⟨rfl, rfl⟩

set_option maxRecDepth 65536 in
set_option maxHeartbeats 40000000 in
theorem c_ocfti {l : Launch} {Z : State} {a0 : Array Value} (hw : ∀ d ∈ tables_1, d.before a0 Z = true) {xm : Int32} {h0 : Heap} (hx0 : ¬ xm < (0 : Int32)) :
    Con l Z a0 EL0 (⟨"java/util/Objects", "checkFromToIndex", "(III)I"⟩ : MethodName) jdk_31_method_18_code 3 (Option.some Jvm.ClassFile.FieldType.int) ({ frames := 1, cells := 0, slots := 0, locals := 15 } : Room) #[(.int (0 : Int32)), (.int xm), (.int xm)] h0 [] [] (fun v h ns => v = some (.int (0 : Int32)) ∧ ns = []) := by
  refine Con.of (L0 := #[.val (.int (0 : Int32)), .val (.int xm), .val (.int xm)]) (by decide +kernel) (fun m => by first | rfl | (simp [entryFrame, mkF, argsToLocals, Value.category]; done)) ?_
  intro p e s m below meth c T w
  refine g_iloadN (pc := 0) w d_jdk_31_method_18_code_0 rfl ?_
  refine g_iloadN (pc := 1) w d_jdk_31_method_18_code_1 rfl ?_
  refine g_iloadN (pc := 2) w d_jdk_31_method_18_code_2 rfl ?_
  refine g_aconstNull (pc := 3) w d_jdk_31_method_18_code_3 ?_
  refine g_static (pc := 4) w (argsL := [(.int (0 : Int32)), (.int xm), (.int xm), .null]) (rest := []) (W := 0) (tw61 hw) (tw62 hw) (tw63 hw) (tw64 hw) (by decide) (c_pcfti hw hx0) (by simp) all0 rfl (lenOf pd11 rfl) rfl (by decide) (Nat.le_of_eq rfl) (by decide) (by decide) (by decide) d_jdk_31_method_18_code_4 ?_
  rintro _ T1 h1 ns1 ⟨rfl, rfl⟩ K1 w1
  exact g_retI (pc := 7) w1 rfl (by decide) (by decide) (ns := []) (fun _ q => nomatch q) d_jdk_31_method_18_code_7 ⟨rfl, rfl⟩

set_option maxRecDepth 65536 in
set_option maxHeartbeats 40000000 in
theorem c_scpc {l : Launch} {Z : State} {a0 : Array Value} (hw : ∀ d ∈ tables_1, d.before a0 Z = true) (st : Sts Z) {sa ta : Addr} {cs : List Int32} {h0 : Heap} (E_sa : Exa Z h0 sa "java/lang/String") (F_coder_sa : Fld Z h0 sa "java/lang/String" "coder" "B" (.int (scoder cs))) (F_value_sa : Fld Z h0 sa "java/lang/String" "value" "[B" (.ref ta)) (A_ta : AR Z h0 ta .byte ((sbytes cs).map Value.int)) (hch : ∀ x ∈ cs, Ch x) (hne0 : ¬ cs.length = 0) (hcap : cs.length ≤ 256) :
    Con l Z a0 EL0 (⟨"java/lang/String", "codePointCount", "(II)I"⟩ : MethodName) jdk_42_method_59_code 3 (Option.some Jvm.ClassFile.FieldType.int) ({ frames := 3, cells := 0, slots := 0, locals := 44 } : Room) #[(.ref sa), (.int (0 : Int32)), (.int cs.length.toInt32)] h0 [] [] (fun v h ns => v = some (.int (cs.length - prs cs).toInt32) ∧ ns = []) := by
  refine Con.of (L0 := #[.val (.ref sa), .val (.int (0 : Int32)), .val (.int cs.length.toInt32)]) (by decide +kernel) (fun m => by first | rfl | (simp [entryFrame, mkF, argsToLocals, Value.category]; done)) ?_
  intro p e s m below meth c T w
  by_cases hlat : lat cs = cs.length
  · have F_coder_sa : Fld Z h0 sa "java/lang/String" "coder" "B" (.int (0 : Int32)) := by rw [(sb_lat hlat).2] at F_coder_sa; exact F_coder_sa
    have A_ta : AR Z h0 ta .byte ((cs.map b8).map Value.int) := by rw [(sb_lat hlat).1] at A_ta; exact A_ta
    refine g_iloadN (pc := 0) w d_jdk_42_method_59_code_0 rfl ?_
    refine g_iloadN (pc := 1) w d_jdk_42_method_59_code_1 rfl ?_
    refine g_aloadN (pc := 2) w d_jdk_42_method_59_code_2 rfl rfl ?_
    refine g_virtual (pc := 3) w (argsL := []) (rest := [(.int cs.length.toInt32), (.int (0 : Int32))]) (W := 2) (tw57 hw) (tw43 hw) (fun t q => notFace_of_selects (args := #[]) (mvT q (tw45 hw))) (tw45 hw) (tw44 hw) (tw4 hw) (tw46 hw) (by decide) E_sa (c_length hw st (cs := cs) E_sa (by rw [(sb_lat hlat).2]; exact F_coder_sa) F_value_sa (by rw [(sb_lat hlat).1]; exact A_ta) (by omega)) (by simp) all0 rfl (lenOf pd12 rfl) rfl (by decide) (Nat.le_of_eq rfl) (by decide) (by decide) (by decide) d_jdk_42_method_59_code_3 ?_
    rintro _ T1 h1 ns1 ⟨rfl, rfl⟩ K1 w1
    have E_sa := E_sa.keep K1
    have F_coder_sa := F_coder_sa.keep K1 nin0
    have F_value_sa := F_value_sa.keep K1 nin0
    have A_ta := A_ta.keep K1 nin0
    refine g_static (pc := 6) w1 (argsL := [(.int (0 : Int32)), (.int cs.length.toInt32), (.int cs.length.toInt32)]) (rest := []) (W := 0) (tw58 hw) (tw59 hw) (tw40 hw) (tw60 hw) (by decide) (c_ocfti hw (t32_nneg (by omega))) (by simp) all0 rfl (lenOf pd13 rfl) rfl (by decide) (Nat.le_of_eq rfl) (by decide) (by decide) (by decide) d_jdk_42_method_59_code_6 ?_
    rintro _ T2 h2 ns2 ⟨rfl, rfl⟩ K2 w2
    have E_sa := E_sa.keep K2
    have F_coder_sa := F_coder_sa.keep K2 nin0
    have F_value_sa := F_value_sa.keep K2 nin0
    have A_ta := A_ta.keep K2 nin0
    refine g_pop (pc := 9) w2 d_jdk_42_method_59_code_9 rfl ?_
    refine g_aloadN (pc := 10) w2 d_jdk_42_method_59_code_10 rfl rfl ?_
    refine g_virtual (pc := 11) w2 (argsL := []) (rest := []) (W := 0) (tw65 hw) (tw66 hw) (fun t q => notFace_of_selects (args := #[]) (mvT q (tw68 hw))) (tw68 hw) (tw67 hw) (tw4 hw) (tw69 hw) (by decide) E_sa (c_isLatin1Y hw st F_coder_sa) (by simp) all0 rfl (lenOf pd14 rfl) rfl (by decide) (Nat.le_of_eq rfl) (by decide) (by decide) (by decide) d_jdk_42_method_59_code_11 ?_
    rintro _ T3 h3 ns3 ⟨rfl, rfl⟩ K3 w3
    have E_sa := E_sa.keep K3
    have F_coder_sa := F_coder_sa.keep K3 nin0
    have F_value_sa := F_value_sa.keep K3 nin0
    have A_ta := A_ta.keep K3 nin0
    refine g_ifNo (pc := 14) w3 d_jdk_42_method_59_code_14 ((if0 _ _).trans (feq ((by decide) : ¬ (1 : Int32) = (0 : Int32))).1) ?_
    refine g_iloadN (pc := 17) w3 d_jdk_42_method_59_code_17 rfl ?_
    refine g_iloadN (pc := 18) w3 d_jdk_42_method_59_code_18 rfl ?_
    refine g_isub (pc := 19) w3 d_jdk_42_method_59_code_19 ?_
    rw [Int32.sub_zero]
    exact g_retI (pc := 20) w3 rfl (by decide) (by decide) (ns := []) (fun _ q => nomatch q) d_jdk_42_method_59_code_20 ⟨by rw [prs_lat (lat_mem hlat), Nat.sub_zero], rfl⟩
  · have F_coder_sa : Fld Z h0 sa "java/lang/String" "coder" "B" (.int (1 : Int32)) := by rw [(sb_u16 hlat).2] at F_coder_sa; exact F_coder_sa
    have A_ta : AR Z h0 ta .byte ((u16s cs).map Value.int) := by rw [(sb_u16 hlat).1] at A_ta; exact A_ta
    refine g_iloadN (pc := 0) w d_jdk_42_method_59_code_0 rfl ?_
    refine g_iloadN (pc := 1) w d_jdk_42_method_59_code_1 rfl ?_
    refine g_aloadN (pc := 2) w d_jdk_42_method_59_code_2 rfl rfl ?_
    refine g_virtual (pc := 3) w (argsL := []) (rest := [(.int cs.length.toInt32), (.int (0 : Int32))]) (W := 2) (tw57 hw) (tw43 hw) (fun t q => notFace_of_selects (args := #[]) (mvT q (tw45 hw))) (tw45 hw) (tw44 hw) (tw4 hw) (tw46 hw) (by decide) E_sa (c_length hw st (cs := cs) E_sa (by rw [(sb_u16 hlat).2]; exact F_coder_sa) F_value_sa (by rw [(sb_u16 hlat).1]; exact A_ta) (by omega)) (by simp) all0 rfl (lenOf pd12 rfl) rfl (by decide) (Nat.le_of_eq rfl) (by decide) (by decide) (by decide) d_jdk_42_method_59_code_3 ?_
    rintro _ T4 h4 ns4 ⟨rfl, rfl⟩ K4 w4
    have E_sa := E_sa.keep K4
    have F_coder_sa := F_coder_sa.keep K4 nin0
    have F_value_sa := F_value_sa.keep K4 nin0
    have A_ta := A_ta.keep K4 nin0
    refine g_static (pc := 6) w4 (argsL := [(.int (0 : Int32)), (.int cs.length.toInt32), (.int cs.length.toInt32)]) (rest := []) (W := 0) (tw58 hw) (tw59 hw) (tw40 hw) (tw60 hw) (by decide) (c_ocfti hw (t32_nneg (by omega))) (by simp) all0 rfl (lenOf pd13 rfl) rfl (by decide) (Nat.le_of_eq rfl) (by decide) (by decide) (by decide) d_jdk_42_method_59_code_6 ?_
    rintro _ T5 h5 ns5 ⟨rfl, rfl⟩ K5 w5
    have E_sa := E_sa.keep K5
    have F_coder_sa := F_coder_sa.keep K5 nin0
    have F_value_sa := F_value_sa.keep K5 nin0
    have A_ta := A_ta.keep K5 nin0
    refine g_pop (pc := 9) w5 d_jdk_42_method_59_code_9 rfl ?_
    refine g_aloadN (pc := 10) w5 d_jdk_42_method_59_code_10 rfl rfl ?_
    refine g_virtual (pc := 11) w5 (argsL := []) (rest := []) (W := 0) (tw65 hw) (tw66 hw) (fun t q => notFace_of_selects (args := #[]) (mvT q (tw68 hw))) (tw68 hw) (tw67 hw) (tw4 hw) (tw69 hw) (by decide) E_sa (c_isLatin1N hw st F_coder_sa) (by simp) all0 rfl (lenOf pd14 rfl) rfl (by decide) (Nat.le_of_eq rfl) (by decide) (by decide) (by decide) d_jdk_42_method_59_code_11 ?_
    rintro _ T6 h6 ns6 ⟨rfl, rfl⟩ K6 w6
    have E_sa := E_sa.keep K6
    have F_coder_sa := F_coder_sa.keep K6 nin0
    have F_value_sa := F_value_sa.keep K6 nin0
    have A_ta := A_ta.keep K6 nin0
    refine g_ifYes (pc := 14) w6 d_jdk_42_method_59_code_14 ((if0 _ _).trans (teq ((by decide) : (0 : Int32) = (0 : Int32))).1) (by decide) (pc' := 21) (by decide) ?_
    refine g_aloadN (pc := 21) w6 d_jdk_42_method_59_code_21 rfl rfl ?_
    refine g_getF (pc := 22) w6 (host := "") (Or.inl (tw29 hw)) Via.refl F_value_sa d_jdk_42_method_59_code_22 ?_
    intro T7 w7
    refine g_iloadN (pc := 25) w7 d_jdk_42_method_59_code_25 rfl ?_
    refine g_iloadN (pc := 26) w7 d_jdk_42_method_59_code_26 rfl ?_
    refine g_static (pc := 27) w7 (argsL := [(.ref ta), (.int (0 : Int32)), (.int cs.length.toInt32)]) (rest := []) (W := 0) (tw91 hw) (tw92 hw) (tw18 hw) (tw93 hw) (by decide) (c_ucpc3 hw st A_ta hch hne0 hcap) (by simp) all0 rfl (lenOf pd15 rfl) rfl (by decide) (Nat.le_of_eq rfl) (by decide) (by decide) (by decide) d_jdk_42_method_59_code_27 ?_
    rintro _ T8 h8 ns8 ⟨rfl, rfl⟩ K8 w8
    have E_sa := E_sa.keep K8
    have F_coder_sa := F_coder_sa.keep K8 nin0
    have F_value_sa := F_value_sa.keep K8 nin0
    have A_ta := A_ta.keep K8 nin0
    exact g_retI (pc := 30) w8 rfl (by decide) (by decide) (ns := []) (fun _ q => nomatch q) d_jdk_42_method_59_code_30 ⟨rfl, rfl⟩

set_option maxRecDepth 65536 in
set_option maxHeartbeats 40000000 in
theorem c_rnn {l : Launch} {Z : State} {a0 : Array Value} (hw : ∀ d ∈ tables_1, d.before a0 Z = true) {oa ma : Addr} {h0 : Heap} :
    Con l Z a0 EL0 (⟨"java/util/Objects", "requireNonNull", "(Ljava/lang/Object;Ljava/lang/String;)Ljava/lang/Object;"⟩ : MethodName) jdk_31_method_11_code 2 (Option.some (Jvm.ClassFile.FieldType.object "java/lang/Object")) ({ frames := 0, cells := 0, slots := 0, locals := 0 } : Room) #[(.ref oa), (.ref ma)] h0 [] [] (fun v h ns => v = some (.ref oa) ∧ ns = []) := by
  refine Con.of (L0 := #[.val (.ref oa), .val (.ref ma)]) (by decide +kernel) (fun m => by first | rfl | (simp [entryFrame, mkF, argsToLocals, Value.category]; done)) ?_
  intro p e s m below meth c T w
  refine g_aloadN (pc := 0) w d_jdk_31_method_11_code_0 rfl rfl ?_
  refine g_ifnonnullYes (pc := 1) w d_jdk_31_method_11_code_1 (by decide) (pc' := 13) (by decide) ?_
  refine g_aloadN (pc := 13) w d_jdk_31_method_11_code_13 rfl rfl ?_
  exact g_retA (pc := 14) w (t := (.object "java/lang/Object")) rfl rfl rfl (by decide) (by decide) (ns := []) (fun _ q => nomatch q) d_jdk_31_method_11_code_14 ⟨rfl, rfl⟩

set_option maxRecDepth 65536 in
set_option maxHeartbeats 40000000 in
theorem c_checkName {l : Launch} {Z : State} {a0 : Array Value} (hw : ∀ d ∈ tables_1, d.before a0 Z = true) (st : Sts Z) {sa ta : Addr} {cs : List Int32} {h0 : Heap} (E_sa : Exa Z h0 sa "java/lang/String") (F_coder_sa : Fld Z h0 sa "java/lang/String" "coder" "B" (.int (scoder cs))) (F_value_sa : Fld Z h0 sa "java/lang/String" "value" "[B" (.ref ta)) (A_ta : AR Z h0 ta .byte ((sbytes cs).map Value.int)) (hch : ∀ x ∈ cs, Ch x) (hne0 : ¬ cs.length = 0) (hcap : cs.length ≤ 256) (hcp : cs.length ≤ 255 ∨ 1 ≤ prs cs) :
    Con l Z a0 EL0 (⟨"com/example/cross_lock/crosslock/Limits", "checkName", "(Ljava/lang/String;)Ljava/lang/String;"⟩ : MethodName) prog_8_method_2_code 2 (Option.some (Jvm.ClassFile.FieldType.object "java/lang/String")) ({ frames := 4, cells := 2, slots := 20, locals := 58 } : Room) #[(.ref sa)] h0 [] [] (fun v h ns => v = some (.ref sa) ∧ ns = []) := by
  refine Con.of (L0 := #[.val (.ref sa), .unset]) (by decide +kernel) (fun m => by first | rfl | (simp [entryFrame, mkF, argsToLocals, Value.category]; done)) ?_
  intro p e s m below meth c T w
  have hpr := prs_le cs
  refine g_aloadN (pc := 0) w d_prog_8_method_2_code_0 rfl rfl ?_
  refine g_ldcO (pc := 1) w (sz := 16) (tw35 hw) (strAt hw) (by decide) (by decide) (by decide) (by decide) d_prog_8_method_2_code_1 ?_
  intro T1 h1 b1 w1 E1
  have E_sa := E_sa.ext E1
  have F_coder_sa := F_coder_sa.ext E1
  have F_value_sa := F_value_sa.ext E1
  have A_ta := A_ta.ext E1
  refine g_static (pc := 3) w1 (argsL := [(.ref sa), (.ref b1)]) (rest := []) (W := 0) (tw38 hw) (tw39 hw) (tw40 hw) (tw41 hw) (by decide) (c_rnn hw) (by simp) all0 rfl (lenOf pd16 rfl) rfl (by decide) (Nat.le_of_eq rfl) (by decide) (by decide) (by decide) d_prog_8_method_2_code_3 ?_
  rintro _ T2 h2 ns2 ⟨rfl, rfl⟩ K2 w2
  have E_sa := E_sa.keep K2
  have F_coder_sa := F_coder_sa.keep K2 nin0
  have F_value_sa := F_value_sa.keep K2 nin0
  have A_ta := A_ta.keep K2 nin0
  refine g_pop (pc := 6) w2 d_prog_8_method_2_code_6 rfl ?_
  refine g_aloadN (pc := 7) w2 d_prog_8_method_2_code_7 rfl rfl ?_
  refine g_iconst (pc := 8) w2 d_prog_8_method_2_code_8 (z := (0 : Int32)) (by decide) ?_
  refine g_aloadN (pc := 9) w2 d_prog_8_method_2_code_9 rfl rfl ?_
  refine g_virtual (pc := 10) w2 (argsL := []) (rest := [(.int (0 : Int32)), (.ref sa)]) (W := 2) (tw42 hw) (tw43 hw) (fun t q => notFace_of_selects (args := #[]) (mvT q (tw45 hw))) (tw45 hw) (tw44 hw) (tw4 hw) (tw46 hw) (by decide) E_sa (c_length hw st (cs := cs) E_sa F_coder_sa F_value_sa A_ta (by omega)) (by simp) all0 rfl (lenOf pd12 rfl) rfl (by decide) (Nat.le_of_eq rfl) (by decide) (by decide) (by decide) d_prog_8_method_2_code_10 ?_
  rintro _ T3 h3 ns3 ⟨rfl, rfl⟩ K3 w3
  have E_sa := E_sa.keep K3
  have F_coder_sa := F_coder_sa.keep K3 nin0
  have F_value_sa := F_value_sa.keep K3 nin0
  have A_ta := A_ta.keep K3 nin0
  refine g_virtual (pc := 13) w3 (argsL := [(.int (0 : Int32)), (.int cs.length.toInt32)]) (rest := []) (W := 0) (tw52 hw) (tw53 hw) (fun t q => notFace_of_selects (args := #[]) (mvT q (tw55 hw))) (tw55 hw) (tw54 hw) (tw4 hw) (tw56 hw) (by decide) E_sa (c_scpc hw st E_sa F_coder_sa F_value_sa A_ta hch hne0 hcap) (by simp) all0 rfl (lenOf pd17 rfl) rfl (by decide) (Nat.le_of_eq rfl) (by decide) (by decide) (by decide) d_prog_8_method_2_code_13 ?_
  rintro _ T4 h4 ns4 ⟨rfl, rfl⟩ K4 w4
  have E_sa := E_sa.keep K4
  have F_coder_sa := F_coder_sa.keep K4 nin0
  have F_value_sa := F_value_sa.keep K4 nin0
  have A_ta := A_ta.keep K4 nin0
  refine g_istoreN (pc := 16) w4 d_prog_8_method_2_code_16 (l' := #[.val (.ref sa), .val (.int (cs.length - prs cs).toInt32)]) rfl ?_
  refine g_iloadN (pc := 17) w4 d_prog_8_method_2_code_17 rfl ?_
  refine g_iconst (pc := 18) w4 d_prog_8_method_2_code_18 (z := (1 : Int32)) (by decide) ?_
  refine g_icmpNo (pc := 19) w4 d_prog_8_method_2_code_19 ((flt ((fun z => by have := (t32_lt (j := 1) (by omega) (by omega)).mp z; omega) : ¬ (cs.length - prs cs).toInt32 < (1 : Int32))).1) ?_
  refine g_iloadN (pc := 22) w4 d_prog_8_method_2_code_22 rfl ?_
  refine g_sipush (pc := 23) w4 d_prog_8_method_2_code_23 (z := (255 : Int32)) (by decide) ?_
  refine g_icmpYes (pc := 26) w4 d_prog_8_method_2_code_26 ((flt ((fun z => by have := (t32_lt (i := 255) (by omega) (by omega)).mp z; omega) : ¬ (255 : Int32) < (cs.length - prs cs).toInt32)).2.2.2) (by decide) (pc' := 43) (by decide) ?_
  refine g_aloadN (pc := 43) w4 d_prog_8_method_2_code_43 rfl rfl ?_
  exact g_retA (pc := 44) w4 (t := (.object "java/lang/String")) rfl rfl rfl (by decide) (by decide) (ns := []) (fun _ q => nomatch q) d_prog_8_method_2_code_44 ⟨rfl, rfl⟩

set_option maxRecDepth 65536 in
set_option maxHeartbeats 40000000 in
theorem c_law {l : Launch} {Z : State} {a0 : Array Value} (hw : ∀ d ∈ tables_1, d.before a0 Z = true) (st : Sts Z) {p0 p1 p2 p3 p4 : Int32} {h0 : Heap} :
    Con l Z a0 EL0 x code maxLocals ret room_1 #[(.int p0), (.int p1), (.int p2), (.int p3), (.int p4)] h0 [] [] (fun v h ns => v = some (.int (1 : Int32)) ∧ ns = []) := by
  refine Con.of (L0 := #[.val (.int p0), .val (.int p1), .val (.int p2), .val (.int p3), .val (.int p4), .unset, .unset, .unset, .unset]) (by decide +kernel) (fun m => by first | rfl | (simp [entryFrame, mkF, argsToLocals, Value.category]; done)) ?_
  intro p e s m below meth c T w
  refine g_iloadN (pc := 0) w at_0 rfl ?_
  refine g_ldcI (pc := 1) w (tw0 hw) at_1 ?_
  refine g_iand (pc := 3) w at_3 ?_
  refine g_iconst (pc := 4) w at_4 (z := (4 : Int32)) (by decide) ?_
  refine g_irem (pc := 5) w at_5 (by decide) ?_
  refine g_istore (pc := 6) w at_6 (l' := #[.val (.int p0), .val (.int p1), .val (.int p2), .val (.int p3), .val (.int p4), .val (.int ((p0 &&& (2147483647 : Int32)) % (4 : Int32))), .unset, .unset, .unset]) rfl ?_
  refine g_iload (pc := 8) w at_8 rfl ?_
  by_cases hk0 : ((p0 &&& (2147483647 : Int32)) % (4 : Int32)) = (0 : Int32)
  · refine g_ifNo (pc := 10) w at_10 ((if0 _ _).trans (teq (hk0 : ((p0 &&& (2147483647 : Int32)) % (4 : Int32)) = (0 : Int32))).2) ?_
    refine g_iconst (pc := 13) w at_13 (z := (1 : Int32)) (by decide) ?_
    refine g_iloadN (pc := 14) w at_14 rfl ?_
    refine g_iconst (pc := 15) w at_15 (z := (3 : Int32)) (by decide) ?_
    refine g_iand (pc := 16) w at_16 ?_
    refine g_iadd (pc := 17) w at_17 ?_
    rcases and3 p1 with hk | hk | hk | hk
    · rw [hk]
      show Go p.tables e below _ (T.setTop (mkF m 18 #[.val (.int p0), .val (.int p1), .val (.int p2), .val (.int p3), .val (.int p4), .val (.int ((p0 &&& (2147483647 : Int32)) % (4 : Int32))), .unset, .unset, .unset] [(.int (1 : Int32))]))
      refine g_istore (pc := 18) w at_18 (l' := #[.val (.int p0), .val (.int p1), .val (.int p2), .val (.int p3), .val (.int p4), .val (.int ((p0 &&& (2147483647 : Int32)) % (4 : Int32))), .unset, .val (.int (1 : Int32)), .unset]) rfl ?_
      refine g_iload (pc := 20) w at_20 rfl ?_
      refine g_newP (pc := 22) (aty := .char) w (tw1 hw) (by decide) (cap := 1) (by decide) (by decide) (by decide) (by decide) at_22 ?_
      intro T1 h1 b1 w1 eq_b1 fr_b1 E1 A_b1
      have A_b1 : AR Z h1 b1 .char [(.int (0 : Int32))] := A_b1
      refine g_astore (pc := 24) w1 at_24 rfl (l' := #[.val (.int p0), .val (.int p1), .val (.int p2), .val (.int p3), .val (.int p4), .val (.int ((p0 &&& (2147483647 : Int32)) % (4 : Int32))), .val (.ref b1), .val (.int (1 : Int32)), .unset]) rfl ?_
      refine g_aload (pc := 26) w1 at_26 rfl rfl ?_
      refine g_iconst (pc := 28) w1 at_28 (z := (0 : Int32)) (by decide) ?_
      refine g_iloadN (pc := 29) w1 at_29 rfl ?_
      refine g_i2c (pc := 30) w1 at_30 ?_
      refine g_castore (pc := 31) w1 A_b1 (by decide) (Nat.le_of_ble_eq_true rfl) (Or.inr fr_b1) (by simp) at_31 ?_
      intro T2 h2 w2 W2 A_b1
      have A_b1 : AR Z h2 b1 .char [(.int (nar .char (p2.toUInt32.toUInt16.toUInt32.toInt32)))] := A_b1
      refine g_iload (pc := 32) w2 at_32 rfl ?_
      refine g_iconst (pc := 34) w2 at_34 (z := (1 : Int32)) (by decide) ?_
      refine g_icmpYes (pc := 35) w2 at_35 ((flt ((by decide) : ¬ (1 : Int32) < (1 : Int32))).2.2.2) (by decide) (pc' := 47) (by decide) ?_
      refine g_iload (pc := 47) w2 at_47 rfl ?_
      refine g_iconst (pc := 49) w2 at_49 (z := (2 : Int32)) (by decide) ?_
      refine g_icmpYes (pc := 50) w2 at_50 ((flt ((by decide) : ¬ (2 : Int32) < (1 : Int32))).2.2.2) (by decide) (pc' := 59) (by decide) ?_
      refine g_iload (pc := 59) w2 at_59 rfl ?_
      refine g_iconst (pc := 61) w2 at_61 (z := (3 : Int32)) (by decide) ?_
      refine g_icmpYes (pc := 62) w2 at_62 ((flt ((by decide) : ¬ (3 : Int32) < (1 : Int32))).2.2.2) (by decide) (pc' := 74) (by decide) ?_
      refine g_goto (pc := 74) w2 at_74 (by decide) (pc' := 207) (by decide) ?_
      refine g_new (pc := 207) w2 (tw2 hw) (tw3 hw) (tw4 hw) (by decide) (by decide) at_207 ?_
      intro T3 h3 b3 w3 eq_b3 fr_b3 E3 E_b3 D3
      have ne_b1_b3 : b1 ≠ b3 := Nat.ne_of_lt (by rw [eq_b3]; exact A_b1.lt)
      have A_b1 := A_b1.ext E3
      have F_coder_b3 : Fld Z h3 b3 "java/lang/String" "coder" "B" (.int (0 : Int32)) := D3 (Or.inr (tw28 hw)) (ty := .byte) (by decide)
      have F_value_b3 : Fld Z h3 b3 "java/lang/String" "value" "[B" .null := D3 (Or.inr (tw30 hw)) (ty := (.array .byte)) (by decide)
      clear D3
      refine g_dup (pc := 210) w3 at_210 rfl ?_
      refine g_aload (pc := 211) w3 at_211 rfl rfl ?_
      refine g_special (pc := 213) w3 (argsL := [(.ref b1)]) (rest := [(.ref b3)]) (W := 1) rfl rfl (tw5 hw) (tw6 hw) (tw4 hw) (tw7 hw) (by decide) (c_strinit hw st (cs := ([(nar .char (p2.toUInt32.toUInt16.toUInt32.toInt32))] : List Int32)) E_b3 F_coder_b3 F_value_b3 A_b1 (all32 (ch_nar _) all32n) (by simp) (Nat.le_of_ble_eq_true rfl) ne_b1_b3) (by simp) (allS (Or.inr fr_b3) all0) rfl (lenOf pd18 rfl) rfl (by decide) (Nat.le_of_eq rfl) (by decide) (by decide) (by decide) at_213 ?_
      rintro _ T4 h4 ns4 ⟨rfl, rfl, t4, E_b3, F_coder_b3, F_value_b3, A_t4⟩ K4 w4
      have A_b1 := A_b1.keep K4 (ninS ne_b1_b3 nin0)
      refine g_astore (pc := 216) w4 at_216 rfl (l' := #[.val (.int p0), .val (.int p1), .val (.int p2), .val (.int p3), .val (.int p4), .val (.int ((p0 &&& (2147483647 : Int32)) % (4 : Int32))), .val (.ref b1), .val (.ref b3), .unset]) rfl ?_
      refine g_aload (pc := 218) w4 at_218 rfl rfl ?_
      refine g_static (pc := 220) w4 (argsL := [(.ref b3)]) (rest := []) (W := 0) (tw31 hw) (tw32 hw) (tw33 hw) (tw34 hw) (by decide) (c_checkName hw st (cs := ([(nar .char (p2.toUInt32.toUInt16.toUInt32.toInt32))] : List Int32)) E_b3 F_coder_b3 F_value_b3 A_t4 (all32 (ch_nar _) all32n) (by simp) (Nat.le_of_ble_eq_true rfl) (Or.inl (Nat.le_of_ble_eq_true rfl))) (by simp) all0 rfl (lenOf pd19 rfl) rfl (by decide) (Nat.le_of_eq rfl) (by decide) (by decide) (by decide) at_220 ?_
      rintro _ T5 h5 ns5 ⟨rfl, rfl⟩ K5 w5
      have A_b1 := A_b1.keep K5 nin0
      have E_b3 := E_b3.keep K5
      have F_coder_b3 := F_coder_b3.keep K5 nin0
      have F_value_b3 := F_value_b3.keep K5 nin0
      have A_t4 := A_t4.keep K5 nin0
      refine g_astore (pc := 223) w5 at_223 rfl (l' := #[.val (.int p0), .val (.int p1), .val (.int p2), .val (.int p3), .val (.int p4), .val (.int ((p0 &&& (2147483647 : Int32)) % (4 : Int32))), .val (.ref b1), .val (.ref b3), .val (.ref b3)]) rfl ?_
      refine g_aload (pc := 225) w5 at_225 rfl rfl ?_
      refine g_aload (pc := 227) w5 at_227 rfl rfl ?_
      refine g_acmp (pc := 229) w5 (same := true) at_229 rfl rfl (decide_eq_true rfl) (by decide) (pc' := 232) (by decide) ?_
      refine g_iconst (pc := 232) w5 at_232 (z := (1 : Int32)) (by decide) ?_
      refine g_goto (pc := 233) w5 at_233 (by decide) (pc' := 237) (by decide) ?_
      exact g_retN (pc := 237) w5 (t := .boolean) rfl (by simp) rfl (by decide) (by decide) (ns := []) (fun _ q => nomatch q) at_237 ⟨rfl, rfl⟩
    · rw [hk]
      show Go p.tables e below _ (T.setTop (mkF m 18 #[.val (.int p0), .val (.int p1), .val (.int p2), .val (.int p3), .val (.int p4), .val (.int ((p0 &&& (2147483647 : Int32)) % (4 : Int32))), .unset, .unset, .unset] [(.int (2 : Int32))]))
      refine g_istore (pc := 18) w at_18 (l' := #[.val (.int p0), .val (.int p1), .val (.int p2), .val (.int p3), .val (.int p4), .val (.int ((p0 &&& (2147483647 : Int32)) % (4 : Int32))), .unset, .val (.int (2 : Int32)), .unset]) rfl ?_
      refine g_iload (pc := 20) w at_20 rfl ?_
      refine g_newP (pc := 22) (aty := .char) w (tw1 hw) (by decide) (cap := 2) (by decide) (by decide) (by decide) (by decide) at_22 ?_
      intro T6 h6 b6 w6 eq_b6 fr_b6 E6 A_b6
      have A_b6 : AR Z h6 b6 .char [(.int (0 : Int32)), (.int (0 : Int32))] := A_b6
      refine g_astore (pc := 24) w6 at_24 rfl (l' := #[.val (.int p0), .val (.int p1), .val (.int p2), .val (.int p3), .val (.int p4), .val (.int ((p0 &&& (2147483647 : Int32)) % (4 : Int32))), .val (.ref b6), .val (.int (2 : Int32)), .unset]) rfl ?_
      refine g_aload (pc := 26) w6 at_26 rfl rfl ?_
      refine g_iconst (pc := 28) w6 at_28 (z := (0 : Int32)) (by decide) ?_
      refine g_iloadN (pc := 29) w6 at_29 rfl ?_
      refine g_i2c (pc := 30) w6 at_30 ?_
      refine g_castore (pc := 31) w6 A_b6 (by decide) (Nat.le_of_ble_eq_true rfl) (Or.inr fr_b6) (by simp) at_31 ?_
      intro T7 h7 w7 W7 A_b6
      have A_b6 : AR Z h7 b6 .char [(.int (nar .char (p2.toUInt32.toUInt16.toUInt32.toInt32))), (.int (0 : Int32))] := A_b6
      refine g_iload (pc := 32) w7 at_32 rfl ?_
      refine g_iconst (pc := 34) w7 at_34 (z := (1 : Int32)) (by decide) ?_
      refine g_icmpNo (pc := 35) w7 at_35 ((tlt ((by decide) : (1 : Int32) < (2 : Int32))).2.2.2) ?_
      refine g_aload (pc := 38) w7 at_38 rfl rfl ?_
      refine g_iconst (pc := 40) w7 at_40 (z := (1 : Int32)) (by decide) ?_
      refine g_iloadN (pc := 41) w7 at_41 rfl ?_
      refine g_bipush (pc := 42) w7 at_42 (z := (16 : Int32)) (by decide) ?_
      refine g_iushr (pc := 44) w7 at_44 ?_
      refine g_i2c (pc := 45) w7 at_45 ?_
      refine g_castore (pc := 46) w7 A_b6 (by decide) (Nat.le_of_ble_eq_true rfl) (Or.inr fr_b6) (by simp) at_46 ?_
      intro T8 h8 w8 W8 A_b6
      have A_b6 : AR Z h8 b6 .char [(.int (nar .char (p2.toUInt32.toUInt16.toUInt32.toInt32))), (.int (nar .char (((p2.toUInt32 >>> ((16 : Int32) &&& 31).toUInt32).toInt32).toUInt32.toUInt16.toUInt32.toInt32)))] := A_b6
      refine g_iload (pc := 47) w8 at_47 rfl ?_
      refine g_iconst (pc := 49) w8 at_49 (z := (2 : Int32)) (by decide) ?_
      refine g_icmpYes (pc := 50) w8 at_50 ((flt ((by decide) : ¬ (2 : Int32) < (2 : Int32))).2.2.2) (by decide) (pc' := 59) (by decide) ?_
      refine g_iload (pc := 59) w8 at_59 rfl ?_
      refine g_iconst (pc := 61) w8 at_61 (z := (3 : Int32)) (by decide) ?_
      refine g_icmpYes (pc := 62) w8 at_62 ((flt ((by decide) : ¬ (3 : Int32) < (2 : Int32))).2.2.2) (by decide) (pc' := 74) (by decide) ?_
      refine g_goto (pc := 74) w8 at_74 (by decide) (pc' := 207) (by decide) ?_
      refine g_new (pc := 207) w8 (tw2 hw) (tw3 hw) (tw4 hw) (by decide) (by decide) at_207 ?_
      intro T9 h9 b9 w9 eq_b9 fr_b9 E9 E_b9 D9
      have ne_b6_b9 : b6 ≠ b9 := Nat.ne_of_lt (by rw [eq_b9]; exact A_b6.lt)
      have A_b6 := A_b6.ext E9
      have F_coder_b9 : Fld Z h9 b9 "java/lang/String" "coder" "B" (.int (0 : Int32)) := D9 (Or.inr (tw28 hw)) (ty := .byte) (by decide)
      have F_value_b9 : Fld Z h9 b9 "java/lang/String" "value" "[B" .null := D9 (Or.inr (tw30 hw)) (ty := (.array .byte)) (by decide)
      clear D9
      refine g_dup (pc := 210) w9 at_210 rfl ?_
      refine g_aload (pc := 211) w9 at_211 rfl rfl ?_
      refine g_special (pc := 213) w9 (argsL := [(.ref b6)]) (rest := [(.ref b9)]) (W := 1) rfl rfl (tw5 hw) (tw6 hw) (tw4 hw) (tw7 hw) (by decide) (c_strinit hw st (cs := ([(nar .char (p2.toUInt32.toUInt16.toUInt32.toInt32)), (nar .char (((p2.toUInt32 >>> ((16 : Int32) &&& 31).toUInt32).toInt32).toUInt32.toUInt16.toUInt32.toInt32))] : List Int32)) E_b9 F_coder_b9 F_value_b9 A_b6 (all32 (ch_nar _) (all32 (ch_nar _) all32n)) (by simp) (Nat.le_of_ble_eq_true rfl) ne_b6_b9) (by simp) (allS (Or.inr fr_b9) all0) rfl (lenOf pd18 rfl) rfl (by decide) (Nat.le_of_eq rfl) (by decide) (by decide) (by decide) at_213 ?_
      rintro _ T10 h10 ns10 ⟨rfl, rfl, t10, E_b9, F_coder_b9, F_value_b9, A_t10⟩ K10 w10
      have A_b6 := A_b6.keep K10 (ninS ne_b6_b9 nin0)
      refine g_astore (pc := 216) w10 at_216 rfl (l' := #[.val (.int p0), .val (.int p1), .val (.int p2), .val (.int p3), .val (.int p4), .val (.int ((p0 &&& (2147483647 : Int32)) % (4 : Int32))), .val (.ref b6), .val (.ref b9), .unset]) rfl ?_
      refine g_aload (pc := 218) w10 at_218 rfl rfl ?_
      refine g_static (pc := 220) w10 (argsL := [(.ref b9)]) (rest := []) (W := 0) (tw31 hw) (tw32 hw) (tw33 hw) (tw34 hw) (by decide) (c_checkName hw st (cs := ([(nar .char (p2.toUInt32.toUInt16.toUInt32.toInt32)), (nar .char (((p2.toUInt32 >>> ((16 : Int32) &&& 31).toUInt32).toInt32).toUInt32.toUInt16.toUInt32.toInt32))] : List Int32)) E_b9 F_coder_b9 F_value_b9 A_t10 (all32 (ch_nar _) (all32 (ch_nar _) all32n)) (by simp) (Nat.le_of_ble_eq_true rfl) (Or.inl (Nat.le_of_ble_eq_true rfl))) (by simp) all0 rfl (lenOf pd19 rfl) rfl (by decide) (Nat.le_of_eq rfl) (by decide) (by decide) (by decide) at_220 ?_
      rintro _ T11 h11 ns11 ⟨rfl, rfl⟩ K11 w11
      have A_b6 := A_b6.keep K11 nin0
      have E_b9 := E_b9.keep K11
      have F_coder_b9 := F_coder_b9.keep K11 nin0
      have F_value_b9 := F_value_b9.keep K11 nin0
      have A_t10 := A_t10.keep K11 nin0
      refine g_astore (pc := 223) w11 at_223 rfl (l' := #[.val (.int p0), .val (.int p1), .val (.int p2), .val (.int p3), .val (.int p4), .val (.int ((p0 &&& (2147483647 : Int32)) % (4 : Int32))), .val (.ref b6), .val (.ref b9), .val (.ref b9)]) rfl ?_
      refine g_aload (pc := 225) w11 at_225 rfl rfl ?_
      refine g_aload (pc := 227) w11 at_227 rfl rfl ?_
      refine g_acmp (pc := 229) w11 (same := true) at_229 rfl rfl (decide_eq_true rfl) (by decide) (pc' := 232) (by decide) ?_
      refine g_iconst (pc := 232) w11 at_232 (z := (1 : Int32)) (by decide) ?_
      refine g_goto (pc := 233) w11 at_233 (by decide) (pc' := 237) (by decide) ?_
      exact g_retN (pc := 237) w11 (t := .boolean) rfl (by simp) rfl (by decide) (by decide) (ns := []) (fun _ q => nomatch q) at_237 ⟨rfl, rfl⟩
    · rw [hk]
      show Go p.tables e below _ (T.setTop (mkF m 18 #[.val (.int p0), .val (.int p1), .val (.int p2), .val (.int p3), .val (.int p4), .val (.int ((p0 &&& (2147483647 : Int32)) % (4 : Int32))), .unset, .unset, .unset] [(.int (3 : Int32))]))
      refine g_istore (pc := 18) w at_18 (l' := #[.val (.int p0), .val (.int p1), .val (.int p2), .val (.int p3), .val (.int p4), .val (.int ((p0 &&& (2147483647 : Int32)) % (4 : Int32))), .unset, .val (.int (3 : Int32)), .unset]) rfl ?_
      refine g_iload (pc := 20) w at_20 rfl ?_
      refine g_newP (pc := 22) (aty := .char) w (tw1 hw) (by decide) (cap := 3) (by decide) (by decide) (by decide) (by decide) at_22 ?_
      intro T12 h12 b12 w12 eq_b12 fr_b12 E12 A_b12
      have A_b12 : AR Z h12 b12 .char [(.int (0 : Int32)), (.int (0 : Int32)), (.int (0 : Int32))] := A_b12
      refine g_astore (pc := 24) w12 at_24 rfl (l' := #[.val (.int p0), .val (.int p1), .val (.int p2), .val (.int p3), .val (.int p4), .val (.int ((p0 &&& (2147483647 : Int32)) % (4 : Int32))), .val (.ref b12), .val (.int (3 : Int32)), .unset]) rfl ?_
      refine g_aload (pc := 26) w12 at_26 rfl rfl ?_
      refine g_iconst (pc := 28) w12 at_28 (z := (0 : Int32)) (by decide) ?_
      refine g_iloadN (pc := 29) w12 at_29 rfl ?_
      refine g_i2c (pc := 30) w12 at_30 ?_
      refine g_castore (pc := 31) w12 A_b12 (by decide) (Nat.le_of_ble_eq_true rfl) (Or.inr fr_b12) (by simp) at_31 ?_
      intro T13 h13 w13 W13 A_b12
      have A_b12 : AR Z h13 b12 .char [(.int (nar .char (p2.toUInt32.toUInt16.toUInt32.toInt32))), (.int (0 : Int32)), (.int (0 : Int32))] := A_b12
      refine g_iload (pc := 32) w13 at_32 rfl ?_
      refine g_iconst (pc := 34) w13 at_34 (z := (1 : Int32)) (by decide) ?_
      refine g_icmpNo (pc := 35) w13 at_35 ((tlt ((by decide) : (1 : Int32) < (3 : Int32))).2.2.2) ?_
      refine g_aload (pc := 38) w13 at_38 rfl rfl ?_
      refine g_iconst (pc := 40) w13 at_40 (z := (1 : Int32)) (by decide) ?_
      refine g_iloadN (pc := 41) w13 at_41 rfl ?_
      refine g_bipush (pc := 42) w13 at_42 (z := (16 : Int32)) (by decide) ?_
      refine g_iushr (pc := 44) w13 at_44 ?_
      refine g_i2c (pc := 45) w13 at_45 ?_
      refine g_castore (pc := 46) w13 A_b12 (by decide) (Nat.le_of_ble_eq_true rfl) (Or.inr fr_b12) (by simp) at_46 ?_
      intro T14 h14 w14 W14 A_b12
      have A_b12 : AR Z h14 b12 .char [(.int (nar .char (p2.toUInt32.toUInt16.toUInt32.toInt32))), (.int (nar .char (((p2.toUInt32 >>> ((16 : Int32) &&& 31).toUInt32).toInt32).toUInt32.toUInt16.toUInt32.toInt32))), (.int (0 : Int32))] := A_b12
      refine g_iload (pc := 47) w14 at_47 rfl ?_
      refine g_iconst (pc := 49) w14 at_49 (z := (2 : Int32)) (by decide) ?_
      refine g_icmpNo (pc := 50) w14 at_50 ((tlt ((by decide) : (2 : Int32) < (3 : Int32))).2.2.2) ?_
      refine g_aload (pc := 53) w14 at_53 rfl rfl ?_
      refine g_iconst (pc := 55) w14 at_55 (z := (2 : Int32)) (by decide) ?_
      refine g_iloadN (pc := 56) w14 at_56 rfl ?_
      refine g_i2c (pc := 57) w14 at_57 ?_
      refine g_castore (pc := 58) w14 A_b12 (by decide) (Nat.le_of_ble_eq_true rfl) (Or.inr fr_b12) (by simp) at_58 ?_
      intro T15 h15 w15 W15 A_b12
      have A_b12 : AR Z h15 b12 .char [(.int (nar .char (p2.toUInt32.toUInt16.toUInt32.toInt32))), (.int (nar .char (((p2.toUInt32 >>> ((16 : Int32) &&& 31).toUInt32).toInt32).toUInt32.toUInt16.toUInt32.toInt32))), (.int (nar .char (p3.toUInt32.toUInt16.toUInt32.toInt32)))] := A_b12
      refine g_iload (pc := 59) w15 at_59 rfl ?_
      refine g_iconst (pc := 61) w15 at_61 (z := (3 : Int32)) (by decide) ?_
      refine g_icmpYes (pc := 62) w15 at_62 ((flt ((by decide) : ¬ (3 : Int32) < (3 : Int32))).2.2.2) (by decide) (pc' := 74) (by decide) ?_
      refine g_goto (pc := 74) w15 at_74 (by decide) (pc' := 207) (by decide) ?_
      refine g_new (pc := 207) w15 (tw2 hw) (tw3 hw) (tw4 hw) (by decide) (by decide) at_207 ?_
      intro T16 h16 b16 w16 eq_b16 fr_b16 E16 E_b16 D16
      have ne_b12_b16 : b12 ≠ b16 := Nat.ne_of_lt (by rw [eq_b16]; exact A_b12.lt)
      have A_b12 := A_b12.ext E16
      have F_coder_b16 : Fld Z h16 b16 "java/lang/String" "coder" "B" (.int (0 : Int32)) := D16 (Or.inr (tw28 hw)) (ty := .byte) (by decide)
      have F_value_b16 : Fld Z h16 b16 "java/lang/String" "value" "[B" .null := D16 (Or.inr (tw30 hw)) (ty := (.array .byte)) (by decide)
      clear D16
      refine g_dup (pc := 210) w16 at_210 rfl ?_
      refine g_aload (pc := 211) w16 at_211 rfl rfl ?_
      refine g_special (pc := 213) w16 (argsL := [(.ref b12)]) (rest := [(.ref b16)]) (W := 1) rfl rfl (tw5 hw) (tw6 hw) (tw4 hw) (tw7 hw) (by decide) (c_strinit hw st (cs := ([(nar .char (p2.toUInt32.toUInt16.toUInt32.toInt32)), (nar .char (((p2.toUInt32 >>> ((16 : Int32) &&& 31).toUInt32).toInt32).toUInt32.toUInt16.toUInt32.toInt32)), (nar .char (p3.toUInt32.toUInt16.toUInt32.toInt32))] : List Int32)) E_b16 F_coder_b16 F_value_b16 A_b12 (all32 (ch_nar _) (all32 (ch_nar _) (all32 (ch_nar _) all32n))) (by simp) (Nat.le_of_ble_eq_true rfl) ne_b12_b16) (by simp) (allS (Or.inr fr_b16) all0) rfl (lenOf pd18 rfl) rfl (by decide) (Nat.le_of_eq rfl) (by decide) (by decide) (by decide) at_213 ?_
      rintro _ T17 h17 ns17 ⟨rfl, rfl, t17, E_b16, F_coder_b16, F_value_b16, A_t17⟩ K17 w17
      have A_b12 := A_b12.keep K17 (ninS ne_b12_b16 nin0)
      refine g_astore (pc := 216) w17 at_216 rfl (l' := #[.val (.int p0), .val (.int p1), .val (.int p2), .val (.int p3), .val (.int p4), .val (.int ((p0 &&& (2147483647 : Int32)) % (4 : Int32))), .val (.ref b12), .val (.ref b16), .unset]) rfl ?_
      refine g_aload (pc := 218) w17 at_218 rfl rfl ?_
      refine g_static (pc := 220) w17 (argsL := [(.ref b16)]) (rest := []) (W := 0) (tw31 hw) (tw32 hw) (tw33 hw) (tw34 hw) (by decide) (c_checkName hw st (cs := ([(nar .char (p2.toUInt32.toUInt16.toUInt32.toInt32)), (nar .char (((p2.toUInt32 >>> ((16 : Int32) &&& 31).toUInt32).toInt32).toUInt32.toUInt16.toUInt32.toInt32)), (nar .char (p3.toUInt32.toUInt16.toUInt32.toInt32))] : List Int32)) E_b16 F_coder_b16 F_value_b16 A_t17 (all32 (ch_nar _) (all32 (ch_nar _) (all32 (ch_nar _) all32n))) (by simp) (Nat.le_of_ble_eq_true rfl) (Or.inl (Nat.le_of_ble_eq_true rfl))) (by simp) all0 rfl (lenOf pd19 rfl) rfl (by decide) (Nat.le_of_eq rfl) (by decide) (by decide) (by decide) at_220 ?_
      rintro _ T18 h18 ns18 ⟨rfl, rfl⟩ K18 w18
      have A_b12 := A_b12.keep K18 nin0
      have E_b16 := E_b16.keep K18
      have F_coder_b16 := F_coder_b16.keep K18 nin0
      have F_value_b16 := F_value_b16.keep K18 nin0
      have A_t17 := A_t17.keep K18 nin0
      refine g_astore (pc := 223) w18 at_223 rfl (l' := #[.val (.int p0), .val (.int p1), .val (.int p2), .val (.int p3), .val (.int p4), .val (.int ((p0 &&& (2147483647 : Int32)) % (4 : Int32))), .val (.ref b12), .val (.ref b16), .val (.ref b16)]) rfl ?_
      refine g_aload (pc := 225) w18 at_225 rfl rfl ?_
      refine g_aload (pc := 227) w18 at_227 rfl rfl ?_
      refine g_acmp (pc := 229) w18 (same := true) at_229 rfl rfl (decide_eq_true rfl) (by decide) (pc' := 232) (by decide) ?_
      refine g_iconst (pc := 232) w18 at_232 (z := (1 : Int32)) (by decide) ?_
      refine g_goto (pc := 233) w18 at_233 (by decide) (pc' := 237) (by decide) ?_
      exact g_retN (pc := 237) w18 (t := .boolean) rfl (by simp) rfl (by decide) (by decide) (ns := []) (fun _ q => nomatch q) at_237 ⟨rfl, rfl⟩
    · rw [hk]
      show Go p.tables e below _ (T.setTop (mkF m 18 #[.val (.int p0), .val (.int p1), .val (.int p2), .val (.int p3), .val (.int p4), .val (.int ((p0 &&& (2147483647 : Int32)) % (4 : Int32))), .unset, .unset, .unset] [(.int (4 : Int32))]))
      refine g_istore (pc := 18) w at_18 (l' := #[.val (.int p0), .val (.int p1), .val (.int p2), .val (.int p3), .val (.int p4), .val (.int ((p0 &&& (2147483647 : Int32)) % (4 : Int32))), .unset, .val (.int (4 : Int32)), .unset]) rfl ?_
      refine g_iload (pc := 20) w at_20 rfl ?_
      refine g_newP (pc := 22) (aty := .char) w (tw1 hw) (by decide) (cap := 4) (by decide) (by decide) (by decide) (by decide) at_22 ?_
      intro T19 h19 b19 w19 eq_b19 fr_b19 E19 A_b19
      have A_b19 : AR Z h19 b19 .char [(.int (0 : Int32)), (.int (0 : Int32)), (.int (0 : Int32)), (.int (0 : Int32))] := A_b19
      refine g_astore (pc := 24) w19 at_24 rfl (l' := #[.val (.int p0), .val (.int p1), .val (.int p2), .val (.int p3), .val (.int p4), .val (.int ((p0 &&& (2147483647 : Int32)) % (4 : Int32))), .val (.ref b19), .val (.int (4 : Int32)), .unset]) rfl ?_
      refine g_aload (pc := 26) w19 at_26 rfl rfl ?_
      refine g_iconst (pc := 28) w19 at_28 (z := (0 : Int32)) (by decide) ?_
      refine g_iloadN (pc := 29) w19 at_29 rfl ?_
      refine g_i2c (pc := 30) w19 at_30 ?_
      refine g_castore (pc := 31) w19 A_b19 (by decide) (Nat.le_of_ble_eq_true rfl) (Or.inr fr_b19) (by simp) at_31 ?_
      intro T20 h20 w20 W20 A_b19
      have A_b19 : AR Z h20 b19 .char [(.int (nar .char (p2.toUInt32.toUInt16.toUInt32.toInt32))), (.int (0 : Int32)), (.int (0 : Int32)), (.int (0 : Int32))] := A_b19
      refine g_iload (pc := 32) w20 at_32 rfl ?_
      refine g_iconst (pc := 34) w20 at_34 (z := (1 : Int32)) (by decide) ?_
      refine g_icmpNo (pc := 35) w20 at_35 ((tlt ((by decide) : (1 : Int32) < (4 : Int32))).2.2.2) ?_
      refine g_aload (pc := 38) w20 at_38 rfl rfl ?_
      refine g_iconst (pc := 40) w20 at_40 (z := (1 : Int32)) (by decide) ?_
      refine g_iloadN (pc := 41) w20 at_41 rfl ?_
      refine g_bipush (pc := 42) w20 at_42 (z := (16 : Int32)) (by decide) ?_
      refine g_iushr (pc := 44) w20 at_44 ?_
      refine g_i2c (pc := 45) w20 at_45 ?_
      refine g_castore (pc := 46) w20 A_b19 (by decide) (Nat.le_of_ble_eq_true rfl) (Or.inr fr_b19) (by simp) at_46 ?_
      intro T21 h21 w21 W21 A_b19
      have A_b19 : AR Z h21 b19 .char [(.int (nar .char (p2.toUInt32.toUInt16.toUInt32.toInt32))), (.int (nar .char (((p2.toUInt32 >>> ((16 : Int32) &&& 31).toUInt32).toInt32).toUInt32.toUInt16.toUInt32.toInt32))), (.int (0 : Int32)), (.int (0 : Int32))] := A_b19
      refine g_iload (pc := 47) w21 at_47 rfl ?_
      refine g_iconst (pc := 49) w21 at_49 (z := (2 : Int32)) (by decide) ?_
      refine g_icmpNo (pc := 50) w21 at_50 ((tlt ((by decide) : (2 : Int32) < (4 : Int32))).2.2.2) ?_
      refine g_aload (pc := 53) w21 at_53 rfl rfl ?_
      refine g_iconst (pc := 55) w21 at_55 (z := (2 : Int32)) (by decide) ?_
      refine g_iloadN (pc := 56) w21 at_56 rfl ?_
      refine g_i2c (pc := 57) w21 at_57 ?_
      refine g_castore (pc := 58) w21 A_b19 (by decide) (Nat.le_of_ble_eq_true rfl) (Or.inr fr_b19) (by simp) at_58 ?_
      intro T22 h22 w22 W22 A_b19
      have A_b19 : AR Z h22 b19 .char [(.int (nar .char (p2.toUInt32.toUInt16.toUInt32.toInt32))), (.int (nar .char (((p2.toUInt32 >>> ((16 : Int32) &&& 31).toUInt32).toInt32).toUInt32.toUInt16.toUInt32.toInt32))), (.int (nar .char (p3.toUInt32.toUInt16.toUInt32.toInt32))), (.int (0 : Int32))] := A_b19
      refine g_iload (pc := 59) w22 at_59 rfl ?_
      refine g_iconst (pc := 61) w22 at_61 (z := (3 : Int32)) (by decide) ?_
      refine g_icmpNo (pc := 62) w22 at_62 ((tlt ((by decide) : (3 : Int32) < (4 : Int32))).2.2.2) ?_
      refine g_aload (pc := 65) w22 at_65 rfl rfl ?_
      refine g_iconst (pc := 67) w22 at_67 (z := (3 : Int32)) (by decide) ?_
      refine g_iloadN (pc := 68) w22 at_68 rfl ?_
      refine g_bipush (pc := 69) w22 at_69 (z := (16 : Int32)) (by decide) ?_
      refine g_iushr (pc := 71) w22 at_71 ?_
      refine g_i2c (pc := 72) w22 at_72 ?_
      refine g_castore (pc := 73) w22 A_b19 (by decide) (Nat.le_of_ble_eq_true rfl) (Or.inr fr_b19) (by simp) at_73 ?_
      intro T23 h23 w23 W23 A_b19
      have A_b19 : AR Z h23 b19 .char [(.int (nar .char (p2.toUInt32.toUInt16.toUInt32.toInt32))), (.int (nar .char (((p2.toUInt32 >>> ((16 : Int32) &&& 31).toUInt32).toInt32).toUInt32.toUInt16.toUInt32.toInt32))), (.int (nar .char (p3.toUInt32.toUInt16.toUInt32.toInt32))), (.int (nar .char (((p3.toUInt32 >>> ((16 : Int32) &&& 31).toUInt32).toInt32).toUInt32.toUInt16.toUInt32.toInt32)))] := A_b19
      refine g_goto (pc := 74) w23 at_74 (by decide) (pc' := 207) (by decide) ?_
      refine g_new (pc := 207) w23 (tw2 hw) (tw3 hw) (tw4 hw) (by decide) (by decide) at_207 ?_
      intro T24 h24 b24 w24 eq_b24 fr_b24 E24 E_b24 D24
      have ne_b19_b24 : b19 ≠ b24 := Nat.ne_of_lt (by rw [eq_b24]; exact A_b19.lt)
      have A_b19 := A_b19.ext E24
      have F_coder_b24 : Fld Z h24 b24 "java/lang/String" "coder" "B" (.int (0 : Int32)) := D24 (Or.inr (tw28 hw)) (ty := .byte) (by decide)
      have F_value_b24 : Fld Z h24 b24 "java/lang/String" "value" "[B" .null := D24 (Or.inr (tw30 hw)) (ty := (.array .byte)) (by decide)
      clear D24
      refine g_dup (pc := 210) w24 at_210 rfl ?_
      refine g_aload (pc := 211) w24 at_211 rfl rfl ?_
      refine g_special (pc := 213) w24 (argsL := [(.ref b19)]) (rest := [(.ref b24)]) (W := 1) rfl rfl (tw5 hw) (tw6 hw) (tw4 hw) (tw7 hw) (by decide) (c_strinit hw st (cs := ([(nar .char (p2.toUInt32.toUInt16.toUInt32.toInt32)), (nar .char (((p2.toUInt32 >>> ((16 : Int32) &&& 31).toUInt32).toInt32).toUInt32.toUInt16.toUInt32.toInt32)), (nar .char (p3.toUInt32.toUInt16.toUInt32.toInt32)), (nar .char (((p3.toUInt32 >>> ((16 : Int32) &&& 31).toUInt32).toInt32).toUInt32.toUInt16.toUInt32.toInt32))] : List Int32)) E_b24 F_coder_b24 F_value_b24 A_b19 (all32 (ch_nar _) (all32 (ch_nar _) (all32 (ch_nar _) (all32 (ch_nar _) all32n)))) (by simp) (Nat.le_of_ble_eq_true rfl) ne_b19_b24) (by simp) (allS (Or.inr fr_b24) all0) rfl (lenOf pd18 rfl) rfl (by decide) (Nat.le_of_eq rfl) (by decide) (by decide) (by decide) at_213 ?_
      rintro _ T25 h25 ns25 ⟨rfl, rfl, t25, E_b24, F_coder_b24, F_value_b24, A_t25⟩ K25 w25
      have A_b19 := A_b19.keep K25 (ninS ne_b19_b24 nin0)
      refine g_astore (pc := 216) w25 at_216 rfl (l' := #[.val (.int p0), .val (.int p1), .val (.int p2), .val (.int p3), .val (.int p4), .val (.int ((p0 &&& (2147483647 : Int32)) % (4 : Int32))), .val (.ref b19), .val (.ref b24), .unset]) rfl ?_
      refine g_aload (pc := 218) w25 at_218 rfl rfl ?_
      refine g_static (pc := 220) w25 (argsL := [(.ref b24)]) (rest := []) (W := 0) (tw31 hw) (tw32 hw) (tw33 hw) (tw34 hw) (by decide) (c_checkName hw st (cs := ([(nar .char (p2.toUInt32.toUInt16.toUInt32.toInt32)), (nar .char (((p2.toUInt32 >>> ((16 : Int32) &&& 31).toUInt32).toInt32).toUInt32.toUInt16.toUInt32.toInt32)), (nar .char (p3.toUInt32.toUInt16.toUInt32.toInt32)), (nar .char (((p3.toUInt32 >>> ((16 : Int32) &&& 31).toUInt32).toInt32).toUInt32.toUInt16.toUInt32.toInt32))] : List Int32)) E_b24 F_coder_b24 F_value_b24 A_t25 (all32 (ch_nar _) (all32 (ch_nar _) (all32 (ch_nar _) (all32 (ch_nar _) all32n)))) (by simp) (Nat.le_of_ble_eq_true rfl) (Or.inl (Nat.le_of_ble_eq_true rfl))) (by simp) all0 rfl (lenOf pd19 rfl) rfl (by decide) (Nat.le_of_eq rfl) (by decide) (by decide) (by decide) at_220 ?_
      rintro _ T26 h26 ns26 ⟨rfl, rfl⟩ K26 w26
      have A_b19 := A_b19.keep K26 nin0
      have E_b24 := E_b24.keep K26
      have F_coder_b24 := F_coder_b24.keep K26 nin0
      have F_value_b24 := F_value_b24.keep K26 nin0
      have A_t25 := A_t25.keep K26 nin0
      refine g_astore (pc := 223) w26 at_223 rfl (l' := #[.val (.int p0), .val (.int p1), .val (.int p2), .val (.int p3), .val (.int p4), .val (.int ((p0 &&& (2147483647 : Int32)) % (4 : Int32))), .val (.ref b19), .val (.ref b24), .val (.ref b24)]) rfl ?_
      refine g_aload (pc := 225) w26 at_225 rfl rfl ?_
      refine g_aload (pc := 227) w26 at_227 rfl rfl ?_
      refine g_acmp (pc := 229) w26 (same := true) at_229 rfl rfl (decide_eq_true rfl) (by decide) (pc' := 232) (by decide) ?_
      refine g_iconst (pc := 232) w26 at_232 (z := (1 : Int32)) (by decide) ?_
      refine g_goto (pc := 233) w26 at_233 (by decide) (pc' := 237) (by decide) ?_
      exact g_retN (pc := 237) w26 (t := .boolean) rfl (by simp) rfl (by decide) (by decide) (ns := []) (fun _ q => nomatch q) at_237 ⟨rfl, rfl⟩
  · refine g_ifYes (pc := 10) w at_10 ((if0 _ _).trans (feq (hk0 : ¬ ((p0 &&& (2147483647 : Int32)) % (4 : Int32)) = (0 : Int32))).2) (by decide) (pc' := 77) (by decide) ?_
    refine g_iload (pc := 77) w at_77 rfl ?_
    refine g_iconst (pc := 79) w at_79 (z := (1 : Int32)) (by decide) ?_
    by_cases hk1 : ((p0 &&& (2147483647 : Int32)) % (4 : Int32)) = (1 : Int32)
    · refine g_icmpNo (pc := 80) w at_80 ((teq (hk1 : ((p0 &&& (2147483647 : Int32)) % (4 : Int32)) = (1 : Int32))).2) ?_
      refine g_sipush (pc := 83) w at_83 (z := (255 : Int32)) (by decide) ?_
      refine g_newP (pc := 86) (aty := .char) w (tw1 hw) (by decide) (cap := 255) (by decide) (by decide) (by decide) (by decide) at_86 ?_
      intro T27 h27 b27 w27 eq_b27 fr_b27 E27 A_b27
      have A_b27 : AR Z h27 b27 .char ((List.replicate 255 (0 : Int32)).map Value.int) := (by rw [List.map_replicate]; exact A_b27)
      refine g_astore (pc := 88) w27 at_88 rfl (l' := #[.val (.int p0), .val (.int p1), .val (.int p2), .val (.int p3), .val (.int p4), .val (.int ((p0 &&& (2147483647 : Int32)) % (4 : Int32))), .val (.ref b27), .unset, .unset]) rfl ?_
      refine g_aload (pc := 90) w27 at_90 rfl rfl ?_
      refine g_iloadN (pc := 92) w27 at_92 rfl ?_
      refine g_ldcI (pc := 93) w27 (tw0 hw) at_93 ?_
      refine g_iand (pc := 95) w27 at_95 ?_
      refine g_sipush (pc := 96) w27 at_96 (z := (255 : Int32)) (by decide) ?_
      refine g_irem (pc := 99) w27 at_99 (by decide) ?_
      refine g_iloadN (pc := 100) w27 at_100 rfl ?_
      refine g_i2c (pc := 101) w27 at_101 ?_
      refine g_castore (pc := 102) w27 A_b27 (jm_nn _) (by simp; exact jm_lt _) (Or.inr fr_b27) (by simp) at_102 ?_
      intro T28 h28 w28 W28 A_b27
      have A_b27 : AR Z h28 b27 .char (((List.replicate 255 (0 : Int32)).set ((p1 &&& (2147483647 : Int32)) % (255 : Int32)).toNatClampNeg (nar .char (p2.toUInt32.toUInt16.toUInt32.toInt32))).map Value.int) := (by rw [List.map_set]; exact A_b27)
      refine g_aload (pc := 103) w28 at_103 rfl rfl ?_
      refine g_iload (pc := 105) w28 at_105 rfl ?_
      refine g_ldcI (pc := 107) w28 (tw0 hw) at_107 ?_
      refine g_iand (pc := 109) w28 at_109 ?_
      refine g_sipush (pc := 110) w28 at_110 (z := (255 : Int32)) (by decide) ?_
      refine g_irem (pc := 113) w28 at_113 (by decide) ?_
      refine g_iloadN (pc := 114) w28 at_114 rfl ?_
      refine g_i2c (pc := 115) w28 at_115 ?_
      refine g_castore (pc := 116) w28 A_b27 (jm_nn _) (by simp; exact jm_lt _) (Or.inr fr_b27) (by simp) at_116 ?_
      intro T29 h29 w29 W29 A_b27
      have A_b27 : AR Z h29 b27 .char ((((List.replicate 255 (0 : Int32)).set ((p1 &&& (2147483647 : Int32)) % (255 : Int32)).toNatClampNeg (nar .char (p2.toUInt32.toUInt16.toUInt32.toInt32))).set ((p4 &&& (2147483647 : Int32)) % (255 : Int32)).toNatClampNeg (nar .char (p3.toUInt32.toUInt16.toUInt32.toInt32))).map Value.int) := (by rw [List.map_set]; exact A_b27)
      refine g_goto (pc := 117) w29 at_117 (by decide) (pc' := 207) (by decide) ?_
      refine g_new (pc := 207) w29 (tw2 hw) (tw3 hw) (tw4 hw) (by decide) (by decide) at_207 ?_
      intro T30 h30 b30 w30 eq_b30 fr_b30 E30 E_b30 D30
      have ne_b27_b30 : b27 ≠ b30 := Nat.ne_of_lt (by rw [eq_b30]; exact A_b27.lt)
      have A_b27 := A_b27.ext E30
      have F_coder_b30 : Fld Z h30 b30 "java/lang/String" "coder" "B" (.int (0 : Int32)) := D30 (Or.inr (tw28 hw)) (ty := .byte) (by decide)
      have F_value_b30 : Fld Z h30 b30 "java/lang/String" "value" "[B" .null := D30 (Or.inr (tw30 hw)) (ty := (.array .byte)) (by decide)
      clear D30
      refine g_dup (pc := 210) w30 at_210 rfl ?_
      refine g_aload (pc := 211) w30 at_211 rfl rfl ?_
      refine g_special (pc := 213) w30 (argsL := [(.ref b27)]) (rest := [(.ref b30)]) (W := 1) rfl rfl (tw5 hw) (tw6 hw) (tw4 hw) (tw7 hw) (by decide) (c_strinit hw st (cs := (((List.replicate 255 (0 : Int32)).set ((p1 &&& (2147483647 : Int32)) % (255 : Int32)).toNatClampNeg (nar .char (p2.toUInt32.toUInt16.toUInt32.toInt32))).set ((p4 &&& (2147483647 : Int32)) % (255 : Int32)).toNatClampNeg (nar .char (p3.toUInt32.toUInt16.toUInt32.toInt32)))) E_b30 F_coder_b30 F_value_b30 A_b27 (ch_set (ch_set ch_rep (ch_nar _)) (ch_nar _)) (by simp) (by simp) ne_b27_b30) (by simp) (allS (Or.inr fr_b30) all0) rfl (lenOf pd18 rfl) rfl (by decide) (Nat.le_of_eq rfl) (by decide) (by decide) (by decide) at_213 ?_
      rintro _ T31 h31 ns31 ⟨rfl, rfl, t31, E_b30, F_coder_b30, F_value_b30, A_t31⟩ K31 w31
      have A_b27 := A_b27.keep K31 (ninS ne_b27_b30 nin0)
      refine g_astore (pc := 216) w31 at_216 rfl (l' := #[.val (.int p0), .val (.int p1), .val (.int p2), .val (.int p3), .val (.int p4), .val (.int ((p0 &&& (2147483647 : Int32)) % (4 : Int32))), .val (.ref b27), .val (.ref b30), .unset]) rfl ?_
      refine g_aload (pc := 218) w31 at_218 rfl rfl ?_
      refine g_static (pc := 220) w31 (argsL := [(.ref b30)]) (rest := []) (W := 0) (tw31 hw) (tw32 hw) (tw33 hw) (tw34 hw) (by decide) (c_checkName hw st (cs := (((List.replicate 255 (0 : Int32)).set ((p1 &&& (2147483647 : Int32)) % (255 : Int32)).toNatClampNeg (nar .char (p2.toUInt32.toUInt16.toUInt32.toInt32))).set ((p4 &&& (2147483647 : Int32)) % (255 : Int32)).toNatClampNeg (nar .char (p3.toUInt32.toUInt16.toUInt32.toInt32)))) E_b30 F_coder_b30 F_value_b30 A_t31 (ch_set (ch_set ch_rep (ch_nar _)) (ch_nar _)) (by simp) (by simp) (Or.inl (by simp))) (by simp) all0 rfl (lenOf pd19 rfl) rfl (by decide) (Nat.le_of_eq rfl) (by decide) (by decide) (by decide) at_220 ?_
      rintro _ T32 h32 ns32 ⟨rfl, rfl⟩ K32 w32
      have A_b27 := A_b27.keep K32 nin0
      have E_b30 := E_b30.keep K32
      have F_coder_b30 := F_coder_b30.keep K32 nin0
      have F_value_b30 := F_value_b30.keep K32 nin0
      have A_t31 := A_t31.keep K32 nin0
      refine g_astore (pc := 223) w32 at_223 rfl (l' := #[.val (.int p0), .val (.int p1), .val (.int p2), .val (.int p3), .val (.int p4), .val (.int ((p0 &&& (2147483647 : Int32)) % (4 : Int32))), .val (.ref b27), .val (.ref b30), .val (.ref b30)]) rfl ?_
      refine g_aload (pc := 225) w32 at_225 rfl rfl ?_
      refine g_aload (pc := 227) w32 at_227 rfl rfl ?_
      refine g_acmp (pc := 229) w32 (same := true) at_229 rfl rfl (decide_eq_true rfl) (by decide) (pc' := 232) (by decide) ?_
      refine g_iconst (pc := 232) w32 at_232 (z := (1 : Int32)) (by decide) ?_
      refine g_goto (pc := 233) w32 at_233 (by decide) (pc' := 237) (by decide) ?_
      exact g_retN (pc := 237) w32 (t := .boolean) rfl (by simp) rfl (by decide) (by decide) (ns := []) (fun _ q => nomatch q) at_237 ⟨rfl, rfl⟩
    · refine g_icmpYes (pc := 80) w at_80 ((feq (hk1 : ¬ ((p0 &&& (2147483647 : Int32)) % (4 : Int32)) = (1 : Int32))).2) (by decide) (pc' := 120) (by decide) ?_
      refine g_iload (pc := 120) w at_120 rfl ?_
      refine g_iconst (pc := 122) w at_122 (z := (2 : Int32)) (by decide) ?_
      by_cases hk2 : ((p0 &&& (2147483647 : Int32)) % (4 : Int32)) = (2 : Int32)
      · refine g_icmpNo (pc := 123) w at_123 ((teq (hk2 : ((p0 &&& (2147483647 : Int32)) % (4 : Int32)) = (2 : Int32))).2) ?_
        refine g_sipush (pc := 126) w at_126 (z := (256 : Int32)) (by decide) ?_
        refine g_newP (pc := 129) (aty := .char) w (tw1 hw) (by decide) (cap := 256) (by decide) (by decide) (by decide) (by decide) at_129 ?_
        intro T33 h33 b33 w33 eq_b33 fr_b33 E33 A_b33
        have A_b33 : AR Z h33 b33 .char ((List.replicate 256 (0 : Int32)).map Value.int) := (by rw [List.map_replicate]; exact A_b33)
        refine g_astore (pc := 131) w33 at_131 rfl (l' := #[.val (.int p0), .val (.int p1), .val (.int p2), .val (.int p3), .val (.int p4), .val (.int ((p0 &&& (2147483647 : Int32)) % (4 : Int32))), .val (.ref b33), .unset, .unset]) rfl ?_
        refine g_iloadN (pc := 133) w33 at_133 rfl ?_
        refine g_ldcI (pc := 134) w33 (tw0 hw) at_134 ?_
        refine g_iand (pc := 136) w33 at_136 ?_
        refine g_sipush (pc := 137) w33 at_137 (z := (255 : Int32)) (by decide) ?_
        refine g_irem (pc := 140) w33 at_140 (by decide) ?_
        refine g_istore (pc := 141) w33 at_141 (l' := #[.val (.int p0), .val (.int p1), .val (.int p2), .val (.int p3), .val (.int p4), .val (.int ((p0 &&& (2147483647 : Int32)) % (4 : Int32))), .val (.ref b33), .val (.int ((p1 &&& (2147483647 : Int32)) % (255 : Int32))), .unset]) rfl ?_
        refine g_aload (pc := 143) w33 at_143 rfl rfl ?_
        refine g_iload (pc := 145) w33 at_145 rfl ?_
        refine g_ldcI (pc := 147) w33 (tw70 hw) at_147 ?_
        refine g_iloadN (pc := 149) w33 at_149 rfl ?_
        refine g_sipush (pc := 150) w33 at_150 (z := (1023 : Int32)) (by decide) ?_
        refine g_iand (pc := 153) w33 at_153 ?_
        refine g_iadd (pc := 154) w33 at_154 ?_
        refine g_i2c (pc := 155) w33 at_155 ?_
        refine g_castore (pc := 156) w33 A_b33 (jm_nn _) (by simp; exact Nat.lt_succ_of_lt (jm_lt _)) (Or.inr fr_b33) (by simp) at_156 ?_
        intro T34 h34 w34 W34 A_b33
        have A_b33 : AR Z h34 b33 .char (((List.replicate 256 (0 : Int32)).set ((p1 &&& (2147483647 : Int32)) % (255 : Int32)).toNatClampNeg (nar .char (((55296 : Int32) + (p2 &&& (1023 : Int32))).toUInt32.toUInt16.toUInt32.toInt32))).map Value.int) := (by rw [List.map_set]; exact A_b33)
        refine g_aload (pc := 157) w34 at_157 rfl rfl ?_
        refine g_iload (pc := 159) w34 at_159 rfl ?_
        refine g_iconst (pc := 161) w34 at_161 (z := (1 : Int32)) (by decide) ?_
        refine g_iadd (pc := 162) w34 at_162 ?_
        refine g_ldcI (pc := 163) w34 (tw71 hw) at_163 ?_
        refine g_iloadN (pc := 165) w34 at_165 rfl ?_
        refine g_sipush (pc := 166) w34 at_166 (z := (1023 : Int32)) (by decide) ?_
        refine g_iand (pc := 169) w34 at_169 ?_
        refine g_iadd (pc := 170) w34 at_170 ?_
        refine g_i2c (pc := 171) w34 at_171 ?_
        have hJ2 : (((p1 &&& (2147483647 : Int32)) % (255 : Int32)) + (1 : Int32)).toNatClampNeg = ((p1 &&& (2147483647 : Int32)) % (255 : Int32)).toNatClampNeg + 1 := jm_succ _
        have hJl : ((p1 &&& (2147483647 : Int32)) % (255 : Int32)).toNatClampNeg < 255 := jm_lt _
        refine g_castore (pc := 172) w34 A_b33 (jm_nn1 _) (by rw [hJ2]; simp; omega) (Or.inr fr_b33) (by simp) at_172 ?_
        intro T35 h35 w35 W35 A_b33
        have A_b33 : AR Z h35 b33 .char ((((List.replicate 256 (0 : Int32)).set ((p1 &&& (2147483647 : Int32)) % (255 : Int32)).toNatClampNeg (nar .char (((55296 : Int32) + (p2 &&& (1023 : Int32))).toUInt32.toUInt16.toUInt32.toInt32))).set (((p1 &&& (2147483647 : Int32)) % (255 : Int32)).toNatClampNeg + 1) (nar .char (((56320 : Int32) + (p3 &&& (1023 : Int32))).toUInt32.toUInt16.toUInt32.toInt32))).map Value.int) := (by rw [hJ2] at A_b33; rw [List.map_set]; exact A_b33)
        refine g_goto (pc := 173) w35 at_173 (by decide) (pc' := 207) (by decide) ?_
        refine g_new (pc := 207) w35 (tw2 hw) (tw3 hw) (tw4 hw) (by decide) (by decide) at_207 ?_
        intro T36 h36 b36 w36 eq_b36 fr_b36 E36 E_b36 D36
        have ne_b33_b36 : b33 ≠ b36 := Nat.ne_of_lt (by rw [eq_b36]; exact A_b33.lt)
        have A_b33 := A_b33.ext E36
        have F_coder_b36 : Fld Z h36 b36 "java/lang/String" "coder" "B" (.int (0 : Int32)) := D36 (Or.inr (tw28 hw)) (ty := .byte) (by decide)
        have F_value_b36 : Fld Z h36 b36 "java/lang/String" "value" "[B" .null := D36 (Or.inr (tw30 hw)) (ty := (.array .byte)) (by decide)
        clear D36
        refine g_dup (pc := 210) w36 at_210 rfl ?_
        refine g_aload (pc := 211) w36 at_211 rfl rfl ?_
        refine g_special (pc := 213) w36 (argsL := [(.ref b33)]) (rest := [(.ref b36)]) (W := 1) rfl rfl (tw5 hw) (tw6 hw) (tw4 hw) (tw7 hw) (by decide) (c_strinit hw st (cs := (((List.replicate 256 (0 : Int32)).set ((p1 &&& (2147483647 : Int32)) % (255 : Int32)).toNatClampNeg (nar .char (((55296 : Int32) + (p2 &&& (1023 : Int32))).toUInt32.toUInt16.toUInt32.toInt32))).set (((p1 &&& (2147483647 : Int32)) % (255 : Int32)).toNatClampNeg + 1) (nar .char (((56320 : Int32) + (p3 &&& (1023 : Int32))).toUInt32.toUInt16.toUInt32.toInt32)))) E_b36 F_coder_b36 F_value_b36 A_b33 (ch_set (ch_set ch_rep (ch_nar _)) (ch_nar _)) (by simp) (by simp) ne_b33_b36) (by simp) (allS (Or.inr fr_b36) all0) rfl (lenOf pd18 rfl) rfl (by decide) (Nat.le_of_eq rfl) (by decide) (by decide) (by decide) at_213 ?_
        rintro _ T37 h37 ns37 ⟨rfl, rfl, t37, E_b36, F_coder_b36, F_value_b36, A_t37⟩ K37 w37
        have A_b33 := A_b33.keep K37 (ninS ne_b33_b36 nin0)
        refine g_astore (pc := 216) w37 at_216 rfl (l' := #[.val (.int p0), .val (.int p1), .val (.int p2), .val (.int p3), .val (.int p4), .val (.int ((p0 &&& (2147483647 : Int32)) % (4 : Int32))), .val (.ref b33), .val (.ref b36), .unset]) rfl ?_
        refine g_aload (pc := 218) w37 at_218 rfl rfl ?_
        refine g_static (pc := 220) w37 (argsL := [(.ref b36)]) (rest := []) (W := 0) (tw31 hw) (tw32 hw) (tw33 hw) (tw34 hw) (by decide) (c_checkName hw st (cs := (((List.replicate 256 (0 : Int32)).set ((p1 &&& (2147483647 : Int32)) % (255 : Int32)).toNatClampNeg (nar .char (((55296 : Int32) + (p2 &&& (1023 : Int32))).toUInt32.toUInt16.toUInt32.toInt32))).set (((p1 &&& (2147483647 : Int32)) % (255 : Int32)).toNatClampNeg + 1) (nar .char (((56320 : Int32) + (p3 &&& (1023 : Int32))).toUInt32.toUInt16.toUInt32.toInt32)))) E_b36 F_coder_b36 F_value_b36 A_t37 (ch_set (ch_set ch_rep (ch_nar _)) (ch_nar _)) (by simp) (by simp) (Or.inr (prs_pair (p := ((p1 &&& (2147483647 : Int32)) % (255 : Int32)).toNatClampNeg) (by rw [List.getElem?_set_ne (by omega), List.getElem?_set_self (by simp; omega)]) (by rw [List.getElem?_set_self (by simp; omega)]) (hs_hi _) (ls_lo _)))) (by simp) all0 rfl (lenOf pd19 rfl) rfl (by decide) (Nat.le_of_eq rfl) (by decide) (by decide) (by decide) at_220 ?_
        rintro _ T38 h38 ns38 ⟨rfl, rfl⟩ K38 w38
        have A_b33 := A_b33.keep K38 nin0
        have E_b36 := E_b36.keep K38
        have F_coder_b36 := F_coder_b36.keep K38 nin0
        have F_value_b36 := F_value_b36.keep K38 nin0
        have A_t37 := A_t37.keep K38 nin0
        refine g_astore (pc := 223) w38 at_223 rfl (l' := #[.val (.int p0), .val (.int p1), .val (.int p2), .val (.int p3), .val (.int p4), .val (.int ((p0 &&& (2147483647 : Int32)) % (4 : Int32))), .val (.ref b33), .val (.ref b36), .val (.ref b36)]) rfl ?_
        refine g_aload (pc := 225) w38 at_225 rfl rfl ?_
        refine g_aload (pc := 227) w38 at_227 rfl rfl ?_
        refine g_acmp (pc := 229) w38 (same := true) at_229 rfl rfl (decide_eq_true rfl) (by decide) (pc' := 232) (by decide) ?_
        refine g_iconst (pc := 232) w38 at_232 (z := (1 : Int32)) (by decide) ?_
        refine g_goto (pc := 233) w38 at_233 (by decide) (pc' := 237) (by decide) ?_
        exact g_retN (pc := 237) w38 (t := .boolean) rfl (by simp) rfl (by decide) (by decide) (ns := []) (fun _ q => nomatch q) at_237 ⟨rfl, rfl⟩
      · refine g_icmpYes (pc := 123) w at_123 ((feq (hk2 : ¬ ((p0 &&& (2147483647 : Int32)) % (4 : Int32)) = (2 : Int32))).2) (by decide) (pc' := 176) (by decide) ?_
        refine g_iconst (pc := 176) w at_176 (z := (2 : Int32)) (by decide) ?_
        refine g_newP (pc := 177) (aty := .char) w (tw1 hw) (by decide) (cap := 2) (by decide) (by decide) (by decide) (by decide) at_177 ?_
        intro T39 h39 b39 w39 eq_b39 fr_b39 E39 A_b39
        have A_b39 : AR Z h39 b39 .char [(.int (0 : Int32)), (.int (0 : Int32))] := A_b39
        refine g_astore (pc := 179) w39 at_179 rfl (l' := #[.val (.int p0), .val (.int p1), .val (.int p2), .val (.int p3), .val (.int p4), .val (.int ((p0 &&& (2147483647 : Int32)) % (4 : Int32))), .val (.ref b39), .unset, .unset]) rfl ?_
        refine g_aload (pc := 181) w39 at_181 rfl rfl ?_
        refine g_iconst (pc := 183) w39 at_183 (z := (0 : Int32)) (by decide) ?_
        refine g_ldcI (pc := 184) w39 (tw70 hw) at_184 ?_
        refine g_iloadN (pc := 186) w39 at_186 rfl ?_
        refine g_sipush (pc := 187) w39 at_187 (z := (1023 : Int32)) (by decide) ?_
        refine g_iand (pc := 190) w39 at_190 ?_
        refine g_iadd (pc := 191) w39 at_191 ?_
        refine g_i2c (pc := 192) w39 at_192 ?_
        refine g_castore (pc := 193) w39 A_b39 (by decide) (Nat.le_of_ble_eq_true rfl) (Or.inr fr_b39) (by simp) at_193 ?_
        intro T40 h40 w40 W40 A_b39
        have A_b39 : AR Z h40 b39 .char [(.int (nar .char (((55296 : Int32) + (p2 &&& (1023 : Int32))).toUInt32.toUInt16.toUInt32.toInt32))), (.int (0 : Int32))] := A_b39
        refine g_aload (pc := 194) w40 at_194 rfl rfl ?_
        refine g_iconst (pc := 196) w40 at_196 (z := (1 : Int32)) (by decide) ?_
        refine g_ldcI (pc := 197) w40 (tw71 hw) at_197 ?_
        refine g_iloadN (pc := 199) w40 at_199 rfl ?_
        refine g_sipush (pc := 200) w40 at_200 (z := (1023 : Int32)) (by decide) ?_
        refine g_iand (pc := 203) w40 at_203 ?_
        refine g_iadd (pc := 204) w40 at_204 ?_
        refine g_i2c (pc := 205) w40 at_205 ?_
        refine g_castore (pc := 206) w40 A_b39 (by decide) (Nat.le_of_ble_eq_true rfl) (Or.inr fr_b39) (by simp) at_206 ?_
        intro T41 h41 w41 W41 A_b39
        have A_b39 : AR Z h41 b39 .char [(.int (nar .char (((55296 : Int32) + (p2 &&& (1023 : Int32))).toUInt32.toUInt16.toUInt32.toInt32))), (.int (nar .char (((56320 : Int32) + (p3 &&& (1023 : Int32))).toUInt32.toUInt16.toUInt32.toInt32)))] := A_b39
        refine g_new (pc := 207) w41 (tw2 hw) (tw3 hw) (tw4 hw) (by decide) (by decide) at_207 ?_
        intro T42 h42 b42 w42 eq_b42 fr_b42 E42 E_b42 D42
        have ne_b39_b42 : b39 ≠ b42 := Nat.ne_of_lt (by rw [eq_b42]; exact A_b39.lt)
        have A_b39 := A_b39.ext E42
        have F_coder_b42 : Fld Z h42 b42 "java/lang/String" "coder" "B" (.int (0 : Int32)) := D42 (Or.inr (tw28 hw)) (ty := .byte) (by decide)
        have F_value_b42 : Fld Z h42 b42 "java/lang/String" "value" "[B" .null := D42 (Or.inr (tw30 hw)) (ty := (.array .byte)) (by decide)
        clear D42
        refine g_dup (pc := 210) w42 at_210 rfl ?_
        refine g_aload (pc := 211) w42 at_211 rfl rfl ?_
        refine g_special (pc := 213) w42 (argsL := [(.ref b39)]) (rest := [(.ref b42)]) (W := 1) rfl rfl (tw5 hw) (tw6 hw) (tw4 hw) (tw7 hw) (by decide) (c_strinit hw st (cs := ([(nar .char (((55296 : Int32) + (p2 &&& (1023 : Int32))).toUInt32.toUInt16.toUInt32.toInt32)), (nar .char (((56320 : Int32) + (p3 &&& (1023 : Int32))).toUInt32.toUInt16.toUInt32.toInt32))] : List Int32)) E_b42 F_coder_b42 F_value_b42 A_b39 (all32 (ch_nar _) (all32 (ch_nar _) all32n)) (by simp) (Nat.le_of_ble_eq_true rfl) ne_b39_b42) (by simp) (allS (Or.inr fr_b42) all0) rfl (lenOf pd18 rfl) rfl (by decide) (Nat.le_of_eq rfl) (by decide) (by decide) (by decide) at_213 ?_
        rintro _ T43 h43 ns43 ⟨rfl, rfl, t43, E_b42, F_coder_b42, F_value_b42, A_t43⟩ K43 w43
        have A_b39 := A_b39.keep K43 (ninS ne_b39_b42 nin0)
        refine g_astore (pc := 216) w43 at_216 rfl (l' := #[.val (.int p0), .val (.int p1), .val (.int p2), .val (.int p3), .val (.int p4), .val (.int ((p0 &&& (2147483647 : Int32)) % (4 : Int32))), .val (.ref b39), .val (.ref b42), .unset]) rfl ?_
        refine g_aload (pc := 218) w43 at_218 rfl rfl ?_
        refine g_static (pc := 220) w43 (argsL := [(.ref b42)]) (rest := []) (W := 0) (tw31 hw) (tw32 hw) (tw33 hw) (tw34 hw) (by decide) (c_checkName hw st (cs := ([(nar .char (((55296 : Int32) + (p2 &&& (1023 : Int32))).toUInt32.toUInt16.toUInt32.toInt32)), (nar .char (((56320 : Int32) + (p3 &&& (1023 : Int32))).toUInt32.toUInt16.toUInt32.toInt32))] : List Int32)) E_b42 F_coder_b42 F_value_b42 A_t43 (all32 (ch_nar _) (all32 (ch_nar _) all32n)) (by simp) (Nat.le_of_ble_eq_true rfl) (Or.inl (Nat.le_of_ble_eq_true rfl))) (by simp) all0 rfl (lenOf pd19 rfl) rfl (by decide) (Nat.le_of_eq rfl) (by decide) (by decide) (by decide) at_220 ?_
        rintro _ T44 h44 ns44 ⟨rfl, rfl⟩ K44 w44
        have A_b39 := A_b39.keep K44 nin0
        have E_b42 := E_b42.keep K44
        have F_coder_b42 := F_coder_b42.keep K44 nin0
        have F_value_b42 := F_value_b42.keep K44 nin0
        have A_t43 := A_t43.keep K44 nin0
        refine g_astore (pc := 223) w44 at_223 rfl (l' := #[.val (.int p0), .val (.int p1), .val (.int p2), .val (.int p3), .val (.int p4), .val (.int ((p0 &&& (2147483647 : Int32)) % (4 : Int32))), .val (.ref b39), .val (.ref b42), .val (.ref b42)]) rfl ?_
        refine g_aload (pc := 225) w44 at_225 rfl rfl ?_
        refine g_aload (pc := 227) w44 at_227 rfl rfl ?_
        refine g_acmp (pc := 229) w44 (same := true) at_229 rfl rfl (decide_eq_true rfl) (by decide) (pc' := 232) (by decide) ?_
        refine g_iconst (pc := 232) w44 at_232 (z := (1 : Int32)) (by decide) ?_
        refine g_goto (pc := 233) w44 at_233 (by decide) (pc' := 237) (by decide) ?_
        exact g_retN (pc := 237) w44 (t := .boolean) rfl (by simp) rfl (by decide) (by decide) (ns := []) (fun _ q => nomatch q) at_237 ⟨rfl, rfl⟩

set_option maxRecDepth 65536 in
set_option maxHeartbeats 40000000 in
theorem comes_1 {Post : Tables → Env → Array Value → State → Outcome → State → Prop} (hpost : ∀ tb e args s v u, (limb_1_1.after args s (.returned v) u = true ∧ limb_1_2.after args s (.returned v) u = true ∧ True) → ReturnedEndW s (.returned v) u (Jvm.fieldLocs frame_1_writes args s ++ Jvm.arrayLocs frame_1_arrays args s ++ Jvm.staticLocs frame_1_statics s) 24 3200 → Post tb e args s (.returned v) u) :
    ArmFor flags0 classFile x code maxLocals ret World_1 tables_1 room_1 Calls_1 rest_1 Pre_1 Post := by
  intro l hfl _ _ p e ha hc hk s m args below hf hA hF happ hP
  obtain ⟨hcalls, hrest, hpre⟩ := hP
  obtain ⟨-, -, -, hnamed, -, -, -, hat⟩ := (Spec.applies_iff hf).mp happ
  obtain ⟨hg, hn⟩ := and_e (Cond.before_iff.mp (show (Jvm.Cond.and given_1 narrow_1).before args s = true from hpre))
  obtain ⟨gc, gg0⟩ := and_e hg
  obtain ⟨ga0, gg1⟩ := and_e gg0
  obtain ⟨ga1, gg2⟩ := and_e gg1
  obtain ⟨ga2, gg3⟩ := and_e gg2
  obtain ⟨ga3, gg4⟩ := and_e gg3
  obtain ⟨w0, w1, w2, w3, w4, rfl⟩ : ∃ w0 w1 w2 w3 w4 : Value, args = #[w0, w1, w2, w3, w4] := by
    have hs : args.size = 5 := by simpa [Cond.value, given_1] using gc
    obtain ⟨L⟩ := args
    match L, hs with
    | [w0, w1, w2, w3, w4], _ => exact ⟨w0, w1, w2, w3, w4, rfl⟩
  have hw := fun d (hd : d ∈ tables_1) => atoms_spec (ws := Jvm.Cond.code x code maxLocals ret :: tables_1) hat d (List.mem_cons_of_mem _ hd)
  have hcode := atoms_spec (ws := Jvm.Cond.code x code maxLocals ret :: tables_1) hat (Jvm.Cond.code x code maxLocals ret) (List.mem_cons_self ..)
  have hfit : Fit s := fun {y c} hc i hi => by
    obtain ⟨ha, rfl⟩ := Array.getElem?_eq_some_iff.mp hc
    have q := List.all_eq_true.mp ((Array.all_eq_true_iff_forall_mem.mp hF) _ (Array.getElem_mem ha)) i (List.mem_range.mpr hi)
    simpa [Array.getElem?_eq_getElem hi] using q
  obtain ⟨hsets, hown0⟩ := atoms_of _ (rest_1_c_eq ▸ (show rest_1_c.before _ s = true from hrest))
  obtain ⟨i0, ei0⟩ := is_v ga0
  obtain rfl : w0 = (.int i0) := Option.some.inj ei0
  obtain ⟨i1, ei1⟩ := is_v ga1
  obtain rfl : w1 = (.int i1) := Option.some.inj ei1
  obtain ⟨i2, ei2⟩ := is_v ga2
  obtain rfl : w2 = (.int i2) := Option.some.inj ei2
  obtain ⟨i3, ei3⟩ := is_v ga3
  obtain rfl : w3 = (.int i3) := Option.some.inj ei3
  obtain ⟨i4, ei4⟩ := is_v gg4
  obtain rfl : w4 = (.int i4) := Option.some.inj ei4
  obtain ⟨zc, ezc⟩ := is_v (Cond.before_iff.mp (hsets _ (List.mem_of_getElem? (i := 1) rfl)))
  have nzc : ¬ zc = 0 := fun q => by
    have z1 := not_v (Cond.before_iff.mp (hsets _ (List.mem_of_getElem? (i := 2) rfl)))
    rw [eq_i ezc (Term.int_eval 0) (by rw [q])] at z1
    cases z1
  have st1 : ∃ z : Int32, Sta s s.heap "java/lang/String" "COMPACT_STRINGS" "Z" (.int z) ∧ ¬ z = 0 := ⟨zc, Sta.start ezc (Or.inl (hsets _ (List.mem_of_getElem? (i := 0) rfl))), nzc⟩
  have st2 : Sta s s.heap "java/lang/StringUTF16" "$assertionsDisabled" "Z" (.int 1) := sta_eq hfit (hsets _ (List.mem_of_getElem? (i := 10) rfl)) (ty := .boolean) (by decide) (by simp) (hsets _ (List.mem_of_getElem? (i := 11) rfl)) (hsets _ (List.mem_of_getElem? (i := 12) rfl))
  have st3 : Sta s s.heap "java/lang/StringUTF16" "HI_BYTE_SHIFT" "I" (.int 0) := sta_eq hfit (hsets _ (List.mem_of_getElem? (i := 13) rfl)) (ty := .int) (by decide) (by simp) (hsets _ (List.mem_of_getElem? (i := 14) rfl)) (hsets _ (List.mem_of_getElem? (i := 15) rfl))
  have st4 : Sta s s.heap "java/lang/StringUTF16" "LO_BYTE_SHIFT" "I" (.int 8) := sta_eq hfit (hsets _ (List.mem_of_getElem? (i := 16) rfl)) (ty := .int) (by decide) (by simp) (hsets _ (List.mem_of_getElem? (i := 17) rfl)) (hsets _ (List.mem_of_getElem? (i := 18) rfl))
  have st : Sts s := ⟨st1, st2, st3, st4, trivial⟩
  have hE : EW s #[(.int i0), (.int i1), (.int i2), (.int i3), (.int i4)] EL0 := EW.nil
  have H : CHv s EL0 s.vm s.heap := fun _ q => nomatch q
  obtain ⟨z1, z2, z3, z4, z5, z6, z7, z8⟩ := (Spec.appliesLoose_iff hf).mp ((Spec.applies_iff_loose hf).mp happ).1
  have hl : (head1 [Cond.code x code maxLocals ret] room_1).appliesLoose x e.platform s = true := (Spec.appliesLoose_iff hf).mpr ⟨z1, z2, z3, z4, z5, z6, z7, by show (Cond.and _ .tt).before _ s = true; rw [Cond.before_and, hcode]; rfl⟩
  obtain ⟨n, o, h1, h2, h3, v, L, ns, rfl, ⟨rfl, -⟩, -, hL, -, -, hR⟩ := (c_law (l := l) hw st (h0 := s.heap)) p e ha hc hk s m _ below hf hl ⟨rfl, State.Warmed39.refl s, rfl, H, hE, ⟨Nat.le_refl _, fun _ _ q => q⟩, (fun _ q => nomatch q), (fun _ q => nomatch q)⟩ trivial
  have hN : ∀ y ∈ L, s.heap.size ≤ y.base := fun y hy => (hL y hy).elim (fun q => nomatch q) id
  refine ⟨n, _, h1, h2, h3, hpost _ _ _ _ _ _ ⟨Cond.after_iff.mpr rfl, Cond.after_iff.mpr (eq_i res_at (Term.int_eval (1)) rfl), trivial⟩ ⟨hR.1, hR.2.1, hR.2.2.1, (hR.2.2.2.sift fun y hy => Or.inr (hN y hy)).mono (by decide) (by decide)⟩⟩
theorem main_1_1 : Claimed_1_1 := comes_1 fun _ _ _ _ _ _ h hF => ⟨h.1, hF⟩
theorem main_1_2 : Claimed_1_2 := comes_1 fun _ _ _ _ _ _ h hF => ⟨h.2.1, hF⟩
end Jvm.Pilot.@@N@@
namespace Jvm.Pilot.@@N@@
open Jvm Jvm.ClassFile Sem Op Lib Jvm.Free Jvm.Stand Jvm.Pilot.@@N@@.Jvm.D
/-! MADE BY PROGRAM (witnessworld.py) out of the Statement's table words and the real class files: 22 classes; the members and pool entries that the words name. The judged class is class 1, her method 1. -/
namespace start1
open Jvm.ClassFile
def u (s : String) : CpInfo := .utf8 (stringToUtf16 s)
/-- a pool by its gaps: so many unusable entries, then the entry; so many at the end -/
def gap : Nat → List CpInfo → List CpInfo
  | 0, r => r
  | n + 1, r => .unusable :: gap n r
def poolList (es : List (Nat × CpInfo)) (last : Nat) : List CpInfo := es.foldr (fun e r => gap e.1 (e.2 :: r)) (gap last [])
def pool (es : List (Nat × CpInfo)) (last : Nat) : Array CpInfo := ⟨poolList es last⟩
def fileOf (pool : Array CpInfo) (this : Nat) (attrs : Array Attribute := #[]) (ms : Array MethodInfo := #[]) (fl : Nat := 33) (sup : Nat := 0) (ifs : Array Nat := #[]) (fds : Array FieldInfo := #[]) : ClassFile where
  minorVersion := 0
  majorVersion := 65
  constantPool := pool
  accessFlags := fl
  thisClass := this
  superClass := sup
  interfaces := ifs
  fields := fds
  methods := ms
  attributes := attrs
def plain (name : String) (sup : Option ClassId) : Class where
  name := name
  kind := .ordinary
  loader := none
  accessFlags := 33
  super := sup
  interfaces := #[]
  cf := none
  fields := #[]
  methods := #[]
  instanceTypes := #[]
  staticTypes := #[]
  resolved := #[]
  callSites := []
  init := .initialized
  statics := none
  mirror := none

def pool0 : Array CpInfo := pool [(5, u "<init>"), (0, u "()V"), (1, .class_ 10), (1, u "java/lang/Object")] 113

def k0c0 : Code := { maxStack := 0, maxLocals := 1, code := object_method_1_code, exceptionTable := #[], attributes := #[] }
def k0m0 : Method := { name := "<init>", desc := "()V", sig := { parameters := [], returnType := none }, accessFlags := 1, code := some k0c0 }
/-- java/lang/Object -/
def k0 : Class := { plain "java/lang/Object" none with
  accessFlags := 33
  interfaces := #[]
  cf := some (fileOf pool0 8 #[] #[{ accessFlags := 1, nameIndex := 5, descriptorIndex := 6, attributes := #[] }] 33 0 #[] #[])
  fields := #[]
  methods := #[k0m0]
  instanceTypes := #[]
  staticTypes := #[]
  resolved := Array.replicate 124 none
  statics := none }

def pool1 : Array CpInfo := pool [(2, .class_ 4), (1, u "java/lang/Object"), (0, u "<init>"), (0, u "()V"), (0, .integer 2147483647), (0, .integer 55296), (0, .integer 56320), (0, .class_ 11), (0, u "java/lang/String"), (0, .methodref 10 13), (0, .nameAndType 5 14), (0, u "([C)V"), (0, .methodref 16 17), (0, .class_ 18), (0, .nameAndType 19 20), (0, u "com/example/cross_lock/crosslock/Limits"), (0, u "checkName"), (0, u "(Ljava/lang/String;)Ljava/lang/String;"), (0, .class_ 22), (0, u "com/example/cross_lock/crosslock/LimitsCheckNamePinLaw"), (2, u "law"), (0, u "(IIIII)Z")] 5

def k1m0 : Method := { name := "<init>", desc := "()V", sig := { parameters := [], returnType := none }, accessFlags := 1, code := none }
def k1c1 : Code := { maxStack := 5, maxLocals := 9, code := code, exceptionTable := #[], attributes := #[] }
def k1m1 : Method := { name := "law", desc := "(IIIII)Z", sig := { parameters := [.int, .int, .int, .int, .int], returnType := some .boolean }, accessFlags := 9, code := some k1c1 }
/-- com/example/cross_lock/crosslock/LimitsCheckNamePinLaw -/
def k1 : Class := { plain "com/example/cross_lock/crosslock/LimitsCheckNamePinLaw" (some 0) with
  accessFlags := 49
  interfaces := #[]
  cf := some (fileOf pool1 21 #[] #[{ accessFlags := 1, nameIndex := 5, descriptorIndex := 6, attributes := #[] }, { accessFlags := 9, nameIndex := 25, descriptorIndex := 26, attributes := #[] }] 49 2 #[] #[])
  fields := #[]
  methods := #[k1m0, k1m1]
  instanceTypes := #[]
  staticTypes := #[]
  resolved := Array.replicate 32 none
  statics := none }

def pool2 : Array CpInfo := pool [(1, .class_ 2), (0, u "java/io/Serializable"), (0, .class_ 4), (0, u "java/lang/Object")] 2

/-- java/io/Serializable -/
def k2 : Class := { plain "java/io/Serializable" (some 0) with
  accessFlags := 1537
  interfaces := #[]
  cf := some (fileOf pool2 1 #[] #[] 1537 3 #[] #[])
  fields := #[]
  methods := #[]
  instanceTypes := #[]
  staticTypes := #[]
  resolved := Array.replicate 7 none
  statics := none }

def pool3 : Array CpInfo := pool [(1, .class_ 2), (0, u "java/lang/Comparable"), (0, .class_ 4), (0, u "java/lang/Object")] 7

/-- java/lang/Comparable -/
def k3 : Class := { plain "java/lang/Comparable" (some 0) with
  accessFlags := 1537
  interfaces := #[]
  cf := some (fileOf pool3 1 #[] #[] 1537 3 #[] #[])
  fields := #[]
  methods := #[]
  instanceTypes := #[]
  staticTypes := #[]
  resolved := Array.replicate 12 none
  statics := none }

def pool4 : Array CpInfo := pool [(2, .class_ 4), (1, u "java/lang/CharSequence"), (42, .class_ 48), (0, u "java/lang/CharSequence$1CodePointIterator"), (10, .class_ 60), (0, u "java/lang/CharSequence$1CharIterator"), (5, .class_ 67), (0, u "java/lang/Object")] 63

/-- java/lang/CharSequence -/
def k4 : Class := { plain "java/lang/CharSequence" (some 0) with
  accessFlags := 1537
  interfaces := #[]
  cf := some (fileOf pool4 2 #[.nestMembers #[47, 59]] #[] 1537 66 #[] #[])
  fields := #[]
  methods := #[]
  instanceTypes := #[]
  staticTypes := #[]
  resolved := Array.replicate 131 none
  statics := none }

def pool5 : Array CpInfo := pool [(1, .class_ 2), (0, u "java/lang/constant/Constable"), (0, .class_ 4), (0, u "java/lang/Object")] 6

/-- java/lang/constant/Constable -/
def k5 : Class := { plain "java/lang/constant/Constable" (some 0) with
  accessFlags := 1537
  interfaces := #[]
  cf := some (fileOf pool5 1 #[] #[] 1537 3 #[] #[])
  fields := #[]
  methods := #[]
  instanceTypes := #[]
  staticTypes := #[]
  resolved := Array.replicate 11 none
  statics := none }

def pool6 : Array CpInfo := pool [(1, .class_ 2), (0, u "java/lang/constant/ConstantDesc"), (0, .class_ 4), (0, u "java/lang/Object")] 32

/-- java/lang/constant/ConstantDesc -/
def k6 : Class := { plain "java/lang/constant/ConstantDesc" (some 0) with
  accessFlags := 1537
  interfaces := #[]
  cf := some (fileOf pool6 1 #[] #[] 1537 3 #[] #[])
  fields := #[]
  methods := #[]
  instanceTypes := #[]
  staticTypes := #[]
  resolved := Array.replicate 37 none
  statics := none }

def pool7 : Array CpInfo := pool [(1, .methodref 2 3), (0, .class_ 4), (0, .nameAndType 5 6), (0, u "java/lang/Object"), (0, u "<init>"), (0, u "()V"), (2, .fieldref 10 11), (0, .class_ 12), (0, .nameAndType 13 14), (0, u "java/lang/String"), (0, u "value"), (0, u "[B"), (0, .fieldref 10 16), (0, .nameAndType 17 18), (0, u "coder"), (0, u "B"), (2, u "hash"), (0, u "I"), (2, u "hashIsZero"), (0, u "Z"), (0, .methodref 10 28), (0, .nameAndType 5 29), (0, u "([CIILjava/lang/Void;)V"), (7, u "(III)I"), (0, .fieldref 10 39), (0, .nameAndType 40 26), (0, u "COMPACT_STRINGS"), (1, .class_ 44), (1, u "java/lang/StringUTF16"), (0, u "compress"), (1, .methodref 42 48), (0, .nameAndType 49 50), (0, u "coderFromArrayLen"), (0, u "([BI)B"), (28, .class_ 81), (1, u "java/util/Objects"), (15, u "([BII)I"), (44, u "()Z"), (34, .methodref 42 178), (0, .nameAndType 45 179), (0, u "([CII)[B"), (154, u "()I"), (0, .methodref 10 336), (0, .nameAndType 17 337), (0, u "()B"), (154, .methodref 10 493), (0, .nameAndType 494 142), (0, u "isLatin1"), (10, .methodref 10 506), (0, .nameAndType 507 334), (0, u "length"), (3, .methodref 79 512), (0, .nameAndType 513 37), (0, u "checkFromToIndex"), (0, .methodref 42 515), (0, .nameAndType 516 97), (0, u "codePointCount"), (58, .class_ 576), (0, u "java/lang/CharSequence"), (22, u "CASE_INSENSITIVE_ORDER"), (0, u "Ljava/util/Comparator;"), (35, u "(II)I"), (373, u "([C)V"), (90, u "serialPersistentFields"), (0, u "[Ljava/io/ObjectStreamField;"), (0, .class_ 1104), (0, u "java/lang/String$CaseInsensitiveComparator"), (1, .class_ 1107), (0, u "java/io/Serializable"), (0, .class_ 1109), (0, u "java/lang/Comparable"), (0, .class_ 1111), (0, u "java/lang/constant/Constable"), (0, .class_ 1113), (0, u "java/lang/constant/ConstantDesc"), (2, u "serialVersionUID"), (0, u "J"), (3, u "REPL"), (0, u "C"), (2, u "LATIN1"), (1, u "UTF16")] 323

def k7m0 : Method := { name := "<init>", desc := "()V", sig := { parameters := [], returnType := none }, accessFlags := 1, code := none }
def k7c1 : Code := { maxStack := 5, maxLocals := 2, code := jdk_42_method_3_code, exceptionTable := #[], attributes := #[] }
def k7m1 : Method := { name := "<init>", desc := "([C)V", sig := { parameters := [(.array .char)], returnType := none }, accessFlags := 1, code := some k7c1 }
def k7c2 : Code := { maxStack := 2, maxLocals := 1, code := jdk_42_method_54_code, exceptionTable := #[], attributes := #[] }
def k7m2 : Method := { name := "length", desc := "()I", sig := { parameters := [], returnType := some .int }, accessFlags := 1, code := some k7c2 }
def k7c3 : Code := { maxStack := 3, maxLocals := 3, code := jdk_42_method_59_code, exceptionTable := #[], attributes := #[] }
def k7m3 : Method := { name := "codePointCount", desc := "(II)I", sig := { parameters := [.int, .int], returnType := some .int }, accessFlags := 1, code := some k7c3 }
def k7c4 : Code := { maxStack := 4, maxLocals := 6, code := jdk_42_method_149_code, exceptionTable := #[], attributes := #[] }
def k7m4 : Method := { name := "<init>", desc := "([CIILjava/lang/Void;)V", sig := { parameters := [(.array .char), .int, .int, (.object "java/lang/Void")], returnType := none }, accessFlags := 2, code := some k7c4 }
def k7c5 : Code := { maxStack := 1, maxLocals := 1, code := jdk_42_method_152_code, exceptionTable := #[], attributes := #[] }
def k7m5 : Method := { name := "coder", desc := "()B", sig := { parameters := [], returnType := some .byte }, accessFlags := 0, code := some k7c5 }
def k7c6 : Code := { maxStack := 1, maxLocals := 1, code := jdk_42_method_154_code, exceptionTable := #[], attributes := #[] }
def k7m6 : Method := { name := "isLatin1", desc := "()Z", sig := { parameters := [], returnType := some .boolean }, accessFlags := 0, code := some k7c6 }
/-- java/lang/String -/
def k7 : Class := { plain "java/lang/String" (some 0) with
  accessFlags := 49
  interfaces := #[2, 3, 4, 5, 6]
  cf := some (fileOf pool7 10 #[.nestMembers #[1103]] #[{ accessFlags := 1, nameIndex := 5, descriptorIndex := 6, attributes := #[] }, { accessFlags := 1, nameIndex := 5, descriptorIndex := 1010, attributes := #[] }, { accessFlags := 1, nameIndex := 507, descriptorIndex := 334, attributes := #[] }, { accessFlags := 1, nameIndex := 516, descriptorIndex := 636, attributes := #[] }, { accessFlags := 2, nameIndex := 5, descriptorIndex := 29, attributes := #[] }, { accessFlags := 0, nameIndex := 17, descriptorIndex := 337, attributes := #[] }, { accessFlags := 0, nameIndex := 494, descriptorIndex := 142, attributes := #[] }] 49 2 #[1106, 1108, 575, 1110, 1112] #[{ accessFlags := 18, nameIndex := 13, descriptorIndex := 14, attributes := #[] }, { accessFlags := 18, nameIndex := 17, descriptorIndex := 18, attributes := #[] }, { accessFlags := 2, nameIndex := 21, descriptorIndex := 22, attributes := #[] }, { accessFlags := 2, nameIndex := 25, descriptorIndex := 26, attributes := #[] }, { accessFlags := 26, nameIndex := 1116, descriptorIndex := 1117, attributes := #[] }, { accessFlags := 24, nameIndex := 40, descriptorIndex := 26, attributes := #[] }, { accessFlags := 26, nameIndex := 1101, descriptorIndex := 1102, attributes := #[] }, { accessFlags := 26, nameIndex := 1121, descriptorIndex := 1122, attributes := #[] }, { accessFlags := 25, nameIndex := 599, descriptorIndex := 600, attributes := #[] }, { accessFlags := 24, nameIndex := 1125, descriptorIndex := 18, attributes := #[] }, { accessFlags := 24, nameIndex := 1127, descriptorIndex := 18, attributes := #[] }])
  fields := #[{ name := "value", type := (.array .byte), accessFlags := 18, slot := 0, constantValue := 0 }, { name := "coder", type := .byte, accessFlags := 18, slot := 1, constantValue := 0 }, { name := "hash", type := .int, accessFlags := 2, slot := 2, constantValue := 0 }, { name := "hashIsZero", type := .boolean, accessFlags := 2, slot := 3, constantValue := 0 }, { name := "serialVersionUID", type := .long, accessFlags := 26, slot := 0, constantValue := 0 }, { name := "COMPACT_STRINGS", type := .boolean, accessFlags := 24, slot := 1, constantValue := 0 }, { name := "serialPersistentFields", type := (.array (.object "java/io/ObjectStreamField")), accessFlags := 26, slot := 2, constantValue := 0 }, { name := "REPL", type := .char, accessFlags := 26, slot := 3, constantValue := 0 }, { name := "CASE_INSENSITIVE_ORDER", type := (.object "java/util/Comparator"), accessFlags := 25, slot := 4, constantValue := 0 }, { name := "LATIN1", type := .byte, accessFlags := 24, slot := 5, constantValue := 0 }, { name := "UTF16", type := .byte, accessFlags := 24, slot := 6, constantValue := 0 }]
  methods := #[k7m0, k7m1, k7m2, k7m3, k7m4, k7m5, k7m6]
  instanceTypes := #[(.array .byte), .byte, .int, .boolean]
  staticTypes := #[.long, .boolean, (.array (.object "java/io/ObjectStreamField")), .char, (.object "java/util/Comparator"), .byte, .byte]
  resolved := Array.replicate 1451 none
  statics := some 0 }

def pool8 : Array CpInfo := pool [(6, .class_ 8), (1, u "java/lang/Object"), (0, u "<init>"), (0, u "()V"), (0, .methodref 12 13), (0, .class_ 14), (0, .nameAndType 15 16), (0, u "java/lang/StringUTF16"), (0, u "newBytesLength"), (0, u "(I)I"), (3, .integer 1073741823), (23, .fieldref 12 45), (0, .nameAndType 46 47), (0, u "$assertionsDisabled"), (0, u "Z"), (11, .fieldref 12 60), (0, .nameAndType 61 62), (0, u "HI_BYTE_SHIFT"), (0, u "I"), (0, .fieldref 12 64), (0, .nameAndType 65 62), (0, u "LO_BYTE_SHIFT"), (5, .methodref 12 72), (0, .nameAndType 73 74), (0, u "getChar"), (0, u "([BI)C"), (0, .methodref 76 77), (0, .class_ 78), (0, .nameAndType 79 80), (0, u "java/lang/Character"), (0, u "isHighSurrogate"), (0, u "(C)Z"), (0, .methodref 76 82), (0, .nameAndType 83 80), (0, u "isLowSurrogate"), (7, u "([BIIZ)I"), (8, .methodref 12 101), (0, .nameAndType 102 91), (0, u "codePointCount"), (4, .methodref 12 108), (0, .nameAndType 109 110), (0, u "newBytesFor"), (0, u "(I)[B"), (0, .methodref 12 112), (0, .nameAndType 113 114), (0, u "putChar"), (0, u "([BII)V"), (0, .methodref 12 116), (0, .nameAndType 117 118), (0, u "compress"), (0, u "([CI[BII)I"), (0, .methodref 12 120), (0, .nameAndType 121 122), (0, u "toBytes"), (0, u "([CII)[B"), (127, u "([BII)I"), (10, u "coderFromArrayLen"), (0, u "([BI)B"), (106, .class_ 371), (1, u "java/lang/StringUTF16$LinesSpliterator"), (58, u "MAX_LENGTH"), (196, .class_ 628), (0, u "java/lang/StringUTF16$CodePointsSpliterator"), (0, .class_ 630), (0, u "java/lang/StringUTF16$CharsSpliterator")] 4

def k8m0 : Method := { name := "<init>", desc := "()V", sig := { parameters := [], returnType := none }, accessFlags := 0, code := none }
def k8c1 : Code := { maxStack := 1, maxLocals := 1, code := jdk_52_method_2_code, exceptionTable := #[], attributes := #[] }
def k8m1 : Method := { name := "newBytesFor", desc := "(I)[B", sig := { parameters := [.int], returnType := some (.array .byte) }, accessFlags := 9, code := some k8c1 }
def k8c2 : Code := { maxStack := 4, maxLocals := 1, code := jdk_52_method_3_code, exceptionTable := #[], attributes := #[] }
def k8m2 : Method := { name := "newBytesLength", desc := "(I)I", sig := { parameters := [.int], returnType := some .int }, accessFlags := 9, code := some k8c2 }
def k8c3 : Code := { maxStack := 4, maxLocals := 3, code := jdk_52_method_4_code, exceptionTable := #[], attributes := #[] }
def k8m3 : Method := { name := "putChar", desc := "([BII)V", sig := { parameters := [(.array .byte), .int, .int], returnType := none }, accessFlags := 8, code := some k8c3 }
def k8c4 : Code := { maxStack := 3, maxLocals := 2, code := jdk_52_method_5_code, exceptionTable := #[], attributes := #[] }
def k8m4 : Method := { name := "getChar", desc := "([BI)C", sig := { parameters := [(.array .byte), .int], returnType := some .char }, accessFlags := 8, code := some k8c4 }
def k8c5 : Code := { maxStack := 3, maxLocals := 6, code := jdk_52_method_11_code, exceptionTable := #[], attributes := #[] }
def k8m5 : Method := { name := "codePointCount", desc := "([BIIZ)I", sig := { parameters := [(.array .byte), .int, .int, .boolean], returnType := some .int }, accessFlags := 10, code := some k8c5 }
def k8c6 : Code := { maxStack := 4, maxLocals := 3, code := jdk_52_method_12_code, exceptionTable := #[], attributes := #[] }
def k8m6 : Method := { name := "codePointCount", desc := "([BII)I", sig := { parameters := [(.array .byte), .int, .int], returnType := some .int }, accessFlags := 9, code := some k8c6 }
def k8c7 : Code := { maxStack := 4, maxLocals := 5, code := jdk_52_method_14_code, exceptionTable := #[], attributes := #[] }
def k8m7 : Method := { name := "toBytes", desc := "([CII)[B", sig := { parameters := [(.array .char), .int, .int], returnType := some (.array .byte) }, accessFlags := 9, code := some k8c7 }
def k8c8 : Code := { maxStack := 2, maxLocals := 2, code := jdk_52_method_15_code, exceptionTable := #[], attributes := #[] }
def k8m8 : Method := { name := "coderFromArrayLen", desc := "([BI)B", sig := { parameters := [(.array .byte), .int], returnType := some .byte }, accessFlags := 8, code := some k8c8 }
def k8c9 : Code := { maxStack := 5, maxLocals := 6, code := jdk_52_method_16_code, exceptionTable := #[], attributes := #[] }
def k8m9 : Method := { name := "compress", desc := "([CII)[B", sig := { parameters := [(.array .char), .int, .int], returnType := some (.array .byte) }, accessFlags := 9, code := some k8c9 }
def k8c10 : Code := { maxStack := 3, maxLocals := 7, code := jdk_52_method_21_code, exceptionTable := #[], attributes := #[] }
def k8m10 : Method := { name := "compress", desc := "([CI[BII)I", sig := { parameters := [(.array .char), .int, (.array .byte), .int, .int], returnType := some .int }, accessFlags := 9, code := some k8c10 }
/-- java/lang/StringUTF16 -/
def k8 : Class := { plain "java/lang/StringUTF16" (some 0) with
  accessFlags := 48
  interfaces := #[]
  cf := some (fileOf pool8 12 #[.nestMembers #[627, 629, 369]] #[{ accessFlags := 0, nameIndex := 9, descriptorIndex := 10, attributes := #[] }, { accessFlags := 9, nameIndex := 109, descriptorIndex := 110, attributes := #[] }, { accessFlags := 9, nameIndex := 15, descriptorIndex := 16, attributes := #[] }, { accessFlags := 8, nameIndex := 113, descriptorIndex := 114, attributes := #[] }, { accessFlags := 8, nameIndex := 73, descriptorIndex := 74, attributes := #[] }, { accessFlags := 10, nameIndex := 102, descriptorIndex := 91, attributes := #[] }, { accessFlags := 9, nameIndex := 102, descriptorIndex := 250, attributes := #[] }, { accessFlags := 9, nameIndex := 121, descriptorIndex := 122, attributes := #[] }, { accessFlags := 8, nameIndex := 261, descriptorIndex := 262, attributes := #[] }, { accessFlags := 9, nameIndex := 117, descriptorIndex := 122, attributes := #[] }, { accessFlags := 9, nameIndex := 117, descriptorIndex := 118, attributes := #[] }] 48 6 #[] #[{ accessFlags := 26, nameIndex := 61, descriptorIndex := 62, attributes := #[] }, { accessFlags := 26, nameIndex := 65, descriptorIndex := 62, attributes := #[] }, { accessFlags := 24, nameIndex := 430, descriptorIndex := 62, attributes := #[] }, { accessFlags := 4120, nameIndex := 46, descriptorIndex := 47, attributes := #[] }])
  fields := #[{ name := "HI_BYTE_SHIFT", type := .int, accessFlags := 26, slot := 0, constantValue := 0 }, { name := "LO_BYTE_SHIFT", type := .int, accessFlags := 26, slot := 1, constantValue := 0 }, { name := "MAX_LENGTH", type := .int, accessFlags := 24, slot := 2, constantValue := 0 }, { name := "$assertionsDisabled", type := .boolean, accessFlags := 4120, slot := 3, constantValue := 0 }]
  methods := #[k8m0, k8m1, k8m2, k8m3, k8m4, k8m5, k8m6, k8m7, k8m8, k8m9, k8m10]
  instanceTypes := #[]
  staticTypes := #[.int, .int, .int, .boolean]
  resolved := Array.replicate 635 none
  statics := some 1 }

def pool9 : Array CpInfo := pool [(2, .class_ 4), (1, u "java/lang/Object"), (0, u "<init>"), (0, u "()V"), (0, .string 8), (0, u "name"), (0, .methodref 10 11), (0, .class_ 12), (0, .nameAndType 13 14), (0, u "java/util/Objects"), (0, u "requireNonNull"), (0, u "(Ljava/lang/Object;Ljava/lang/String;)Ljava/lang/Object;"), (0, .methodref 16 17), (0, .class_ 18), (0, .nameAndType 19 20), (0, u "java/lang/String"), (0, u "length"), (0, u "()I"), (0, .methodref 16 22), (0, .nameAndType 23 24), (0, u "codePointCount"), (0, u "(II)I"), (0, .class_ 26), (0, u "com/example/cross_lock/crosslock/Limits"), (13, u "MIN_LEASE"), (0, u "Ljava/time/Duration;"), (12, u "(Ljava/lang/String;)Ljava/lang/String;"), (23, u "MAX_NAME_LENGTH"), (0, u "I"), (4, u "checkName")] 23

def k9m0 : Method := { name := "<init>", desc := "()V", sig := { parameters := [], returnType := none }, accessFlags := 2, code := none }
def k9c1 : Code := { maxStack := 3, maxLocals := 2, code := prog_8_method_2_code, exceptionTable := #[], attributes := #[] }
def k9m1 : Method := { name := "checkName", desc := "(Ljava/lang/String;)Ljava/lang/String;", sig := { parameters := [(.object "java/lang/String")], returnType := some (.object "java/lang/String") }, accessFlags := 8, code := some k9c1 }
/-- com/example/cross_lock/crosslock/Limits -/
def k9 : Class := { plain "com/example/cross_lock/crosslock/Limits" (some 0) with
  accessFlags := 48
  interfaces := #[]
  cf := some (fileOf pool9 25 #[] #[{ accessFlags := 2, nameIndex := 5, descriptorIndex := 6, attributes := #[] }, { accessFlags := 8, nameIndex := 84, descriptorIndex := 54, attributes := #[] }] 48 2 #[] #[{ accessFlags := 26, nameIndex := 78, descriptorIndex := 79, attributes := #[] }, { accessFlags := 26, nameIndex := 40, descriptorIndex := 41, attributes := #[] }])
  fields := #[{ name := "MAX_NAME_LENGTH", type := .int, accessFlags := 26, slot := 0, constantValue := 0 }, { name := "MIN_LEASE", type := (.object "java/time/Duration"), accessFlags := 26, slot := 1, constantValue := 0 }]
  methods := #[k9m0, k9m1]
  instanceTypes := #[]
  staticTypes := #[.int, (.object "java/time/Duration")]
  resolved := Array.replicate 108 none
  statics := none }

def pool10 : Array CpInfo := pool [(2, .class_ 4), (1, u "java/lang/Object"), (0, u "<init>"), (0, u "()V"), (35, .class_ 44), (1, u "java/util/Objects"), (0, u "requireNonNull"), (48, u "(Ljava/lang/Object;Ljava/lang/String;)Ljava/lang/Object;"), (11, .class_ 108), (1, u "jdk/internal/util/Preconditions"), (2, .methodref 106 112), (0, .nameAndType 113 114), (0, u "checkFromToIndex"), (0, u "(IIILjava/util/function/BiFunction;)I"), (60, u "(III)I")] 8

def k10m0 : Method := { name := "<init>", desc := "()V", sig := { parameters := [], returnType := none }, accessFlags := 2, code := none }
def k10c1 : Code := { maxStack := 3, maxLocals := 2, code := jdk_31_method_11_code, exceptionTable := #[], attributes := #[] }
def k10m1 : Method := { name := "requireNonNull", desc := "(Ljava/lang/Object;Ljava/lang/String;)Ljava/lang/Object;", sig := { parameters := [(.object "java/lang/Object"), (.object "java/lang/String")], returnType := some (.object "java/lang/Object") }, accessFlags := 9, code := some k10c1 }
def k10c2 : Code := { maxStack := 4, maxLocals := 3, code := jdk_31_method_18_code, exceptionTable := #[], attributes := #[] }
def k10m2 : Method := { name := "checkFromToIndex", desc := "(III)I", sig := { parameters := [.int, .int, .int], returnType := some .int }, accessFlags := 9, code := some k10c2 }
/-- java/util/Objects -/
def k10 : Class := { plain "java/util/Objects" (some 0) with
  accessFlags := 49
  interfaces := #[]
  cf := some (fileOf pool10 42 #[] #[{ accessFlags := 2, nameIndex := 5, descriptorIndex := 6, attributes := #[] }, { accessFlags := 9, nameIndex := 45, descriptorIndex := 94, attributes := #[] }, { accessFlags := 9, nameIndex := 113, descriptorIndex := 175, attributes := #[] }] 49 2 #[] #[])
  fields := #[]
  methods := #[k10m0, k10m1, k10m2]
  instanceTypes := #[]
  staticTypes := #[]
  resolved := Array.replicate 184 none
  statics := none }

def pool11 : Array CpInfo := pool [(2, .class_ 4), (1, u "java/lang/Object"), (0, u "<init>"), (0, u "()V"), (17, .class_ 26), (1, u "jdk/internal/util/Preconditions"), (20, u "checkFromToIndex"), (7, .class_ 56), (0, u "jdk/internal/util/Preconditions$4"), (57, .class_ 115), (0, u "jdk/internal/util/Preconditions$1"), (7, u "SIOOBE_FORMATTER"), (0, u "Ljava/util/function/BiFunction;"), (0, .class_ 126), (0, u "jdk/internal/util/Preconditions$2"), (3, u "AIOOBE_FORMATTER"), (0, .class_ 132), (0, u "jdk/internal/util/Preconditions$3"), (3, u "IOOBE_FORMATTER"), (46, u "(IIILjava/util/function/BiFunction;)I")] 10

def k11m0 : Method := { name := "<init>", desc := "()V", sig := { parameters := [], returnType := none }, accessFlags := 1, code := none }
def k11c1 : Code := { maxStack := 4, maxLocals := 4, code := jdk_41_method_12_code, exceptionTable := #[], attributes := #[] }
def k11m1 : Method := { name := "checkFromToIndex", desc := "(IIILjava/util/function/BiFunction;)I", sig := { parameters := [.int, .int, .int, (.object "java/util/function/BiFunction")], returnType := some .int }, accessFlags := 9, code := some k11c1 }
/-- jdk/internal/util/Preconditions -/
def k11 : Class := { plain "jdk/internal/util/Preconditions" (some 0) with
  accessFlags := 33
  interfaces := #[]
  cf := some (fileOf pool11 24 #[.nestMembers #[55, 131, 125, 114]] #[{ accessFlags := 1, nameIndex := 5, descriptorIndex := 6, attributes := #[] }, { accessFlags := 9, nameIndex := 47, descriptorIndex := 183, attributes := #[] }] 33 2 #[] #[{ accessFlags := 25, nameIndex := 123, descriptorIndex := 124, attributes := #[] }, { accessFlags := 25, nameIndex := 130, descriptorIndex := 124, attributes := #[] }, { accessFlags := 25, nameIndex := 136, descriptorIndex := 124, attributes := #[] }])
  fields := #[{ name := "SIOOBE_FORMATTER", type := (.object "java/util/function/BiFunction"), accessFlags := 25, slot := 0, constantValue := 0 }, { name := "AIOOBE_FORMATTER", type := (.object "java/util/function/BiFunction"), accessFlags := 25, slot := 1, constantValue := 0 }, { name := "IOOBE_FORMATTER", type := (.object "java/util/function/BiFunction"), accessFlags := 25, slot := 2, constantValue := 0 }]
  methods := #[k11m0, k11m1]
  instanceTypes := #[]
  staticTypes := #[(.object "java/util/function/BiFunction"), (.object "java/util/function/BiFunction"), (.object "java/util/function/BiFunction")]
  resolved := Array.replicate 194 none
  statics := some 2 }

def pool12 : Array CpInfo := pool [(1, .class_ 2), (0, u "java/lang/Character"), (18, u "value"), (0, u "C"), (19, .class_ 44), (1, u "java/lang/Object"), (3, .class_ 50), (1, u "java/lang/Character$CharacterCache"), (24, .integer 55296), (0, .integer 56320), (0, .integer 57344), (2, u "isHighSurrogate"), (0, u "(C)Z"), (2, u "isLowSurrogate"), (199, u "$assertionsDisabled"), (0, u "Z"), (21, .class_ 309), (1, u "java/lang/Character$UnicodeBlock"), (73, u "TYPE"), (0, u "Ljava/lang/Class;"), (0, .class_ 386), (0, u "java/io/Serializable"), (0, .class_ 388), (0, u "java/lang/Comparable"), (0, .class_ 390), (0, u "java/lang/constant/Constable"), (0, u "MIN_RADIX"), (0, u "I"), (2, u "MAX_RADIX"), (1, u "MIN_VALUE"), (1, u "MAX_VALUE"), (3, u "UNASSIGNED"), (0, u "B"), (0, u "UPPERCASE_LETTER"), (1, u "LOWERCASE_LETTER"), (0, u "TITLECASE_LETTER"), (1, u "MODIFIER_LETTER"), (1, u "OTHER_LETTER"), (1, u "NON_SPACING_MARK"), (1, u "ENCLOSING_MARK"), (1, u "COMBINING_SPACING_MARK"), (1, u "DECIMAL_DIGIT_NUMBER"), (1, u "LETTER_NUMBER"), (1, u "OTHER_NUMBER"), (1, u "SPACE_SEPARATOR"), (1, u "LINE_SEPARATOR"), (1, u "PARAGRAPH_SEPARATOR"), (1, u "CONTROL"), (1, u "FORMAT"), (1, u "PRIVATE_USE"), (1, u "SURROGATE"), (1, u "DASH_PUNCTUATION"), (1, u "START_PUNCTUATION"), (1, u "END_PUNCTUATION"), (1, u "CONNECTOR_PUNCTUATION"), (1, u "OTHER_PUNCTUATION"), (1, u "MATH_SYMBOL"), (1, u "CURRENCY_SYMBOL"), (1, u "MODIFIER_SYMBOL"), (1, u "OTHER_SYMBOL"), (1, u "INITIAL_QUOTE_PUNCTUATION"), (1, u "FINAL_QUOTE_PUNCTUATION"), (1, u "ERROR"), (1, u "DIRECTIONALITY_UNDEFINED"), (0, u "DIRECTIONALITY_LEFT_TO_RIGHT"), (0, u "DIRECTIONALITY_RIGHT_TO_LEFT"), (0, u "DIRECTIONALITY_RIGHT_TO_LEFT_ARABIC"), (0, u "DIRECTIONALITY_EUROPEAN_NUMBER"), (0, u "DIRECTIONALITY_EUROPEAN_NUMBER_SEPARATOR"), (0, u "DIRECTIONALITY_EUROPEAN_NUMBER_TERMINATOR"), (0, u "DIRECTIONALITY_ARABIC_NUMBER"), (0, u "DIRECTIONALITY_COMMON_NUMBER_SEPARATOR"), (0, u "DIRECTIONALITY_NONSPACING_MARK"), (0, u "DIRECTIONALITY_BOUNDARY_NEUTRAL"), (0, u "DIRECTIONALITY_PARAGRAPH_SEPARATOR"), (0, u "DIRECTIONALITY_SEGMENT_SEPARATOR"), (0, u "DIRECTIONALITY_WHITESPACE"), (0, u "DIRECTIONALITY_OTHER_NEUTRALS"), (0, u "DIRECTIONALITY_LEFT_TO_RIGHT_EMBEDDING"), (0, u "DIRECTIONALITY_LEFT_TO_RIGHT_OVERRIDE"), (0, u "DIRECTIONALITY_RIGHT_TO_LEFT_EMBEDDING"), (0, u "DIRECTIONALITY_RIGHT_TO_LEFT_OVERRIDE"), (1, u "DIRECTIONALITY_POP_DIRECTIONAL_FORMAT"), (0, u "DIRECTIONALITY_LEFT_TO_RIGHT_ISOLATE"), (0, u "DIRECTIONALITY_RIGHT_TO_LEFT_ISOLATE"), (0, u "DIRECTIONALITY_FIRST_STRONG_ISOLATE"), (0, u "DIRECTIONALITY_POP_DIRECTIONAL_ISOLATE"), (0, u "MIN_HIGH_SURROGATE"), (0, u "MAX_HIGH_SURROGATE"), (1, u "MIN_LOW_SURROGATE"), (0, u "MAX_LOW_SURROGATE"), (1, u "MIN_SURROGATE"), (0, u "MAX_SURROGATE"), (0, u "MIN_SUPPLEMENTARY_CODE_POINT"), (0, u "MIN_CODE_POINT"), (0, u "MAX_CODE_POINT"), (1, u "serialVersionUID"), (0, u "J"), (2, u "SIZE"), (0, u "BYTES"), (88, .class_ 596), (0, u "java/lang/Character$UnicodeScript"), (0, .class_ 598), (0, u "java/lang/Character$Subset")] 5

def k12c0 : Code := { maxStack := 2, maxLocals := 1, code := jdk_89_method_14_code, exceptionTable := #[], attributes := #[] }
def k12m0 : Method := { name := "isHighSurrogate", desc := "(C)Z", sig := { parameters := [.char], returnType := some .boolean }, accessFlags := 9, code := some k12c0 }
def k12c1 : Code := { maxStack := 2, maxLocals := 1, code := jdk_89_method_15_code, exceptionTable := #[], attributes := #[] }
def k12m1 : Method := { name := "isLowSurrogate", desc := "(C)Z", sig := { parameters := [.char], returnType := some .boolean }, accessFlags := 9, code := some k12c1 }
/-- java/lang/Character -/
def k12 : Class := { plain "java/lang/Character" (some 0) with
  accessFlags := 49
  interfaces := #[2, 3, 5]
  cf := some (fileOf pool12 1 #[.nestMembers #[48, 595, 307, 597]] #[{ accessFlags := 9, nameIndex := 80, descriptorIndex := 81, attributes := #[] }, { accessFlags := 9, nameIndex := 84, descriptorIndex := 81, attributes := #[] }] 49 42 #[385, 387, 389] #[{ accessFlags := 25, nameIndex := 391, descriptorIndex := 392, attributes := #[] }, { accessFlags := 25, nameIndex := 395, descriptorIndex := 392, attributes := #[] }, { accessFlags := 25, nameIndex := 397, descriptorIndex := 22, attributes := #[] }, { accessFlags := 25, nameIndex := 399, descriptorIndex := 22, attributes := #[] }, { accessFlags := 25, nameIndex := 383, descriptorIndex := 384, attributes := #[] }, { accessFlags := 25, nameIndex := 403, descriptorIndex := 404, attributes := #[] }, { accessFlags := 25, nameIndex := 405, descriptorIndex := 404, attributes := #[] }, { accessFlags := 25, nameIndex := 407, descriptorIndex := 404, attributes := #[] }, { accessFlags := 25, nameIndex := 408, descriptorIndex := 404, attributes := #[] }, { accessFlags := 25, nameIndex := 410, descriptorIndex := 404, attributes := #[] }, { accessFlags := 25, nameIndex := 412, descriptorIndex := 404, attributes := #[] }, { accessFlags := 25, nameIndex := 414, descriptorIndex := 404, attributes := #[] }, { accessFlags := 25, nameIndex := 416, descriptorIndex := 404, attributes := #[] }, { accessFlags := 25, nameIndex := 418, descriptorIndex := 404, attributes := #[] }, { accessFlags := 25, nameIndex := 420, descriptorIndex := 404, attributes := #[] }, { accessFlags := 25, nameIndex := 422, descriptorIndex := 404, attributes := #[] }, { accessFlags := 25, nameIndex := 424, descriptorIndex := 404, attributes := #[] }, { accessFlags := 25, nameIndex := 426, descriptorIndex := 404, attributes := #[] }, { accessFlags := 25, nameIndex := 428, descriptorIndex := 404, attributes := #[] }, { accessFlags := 25, nameIndex := 430, descriptorIndex := 404, attributes := #[] }, { accessFlags := 25, nameIndex := 432, descriptorIndex := 404, attributes := #[] }, { accessFlags := 25, nameIndex := 434, descriptorIndex := 404, attributes := #[] }, { accessFlags := 25, nameIndex := 436, descriptorIndex := 404, attributes := #[] }, { accessFlags := 25, nameIndex := 438, descriptorIndex := 404, attributes := #[] }, { accessFlags := 25, nameIndex := 440, descriptorIndex := 404, attributes := #[] }, { accessFlags := 25, nameIndex := 442, descriptorIndex := 404, attributes := #[] }, { accessFlags := 25, nameIndex := 444, descriptorIndex := 404, attributes := #[] }, { accessFlags := 25, nameIndex := 446, descriptorIndex := 404, attributes := #[] }, { accessFlags := 25, nameIndex := 448, descriptorIndex := 404, attributes := #[] }, { accessFlags := 25, nameIndex := 450, descriptorIndex := 404, attributes := #[] }, { accessFlags := 25, nameIndex := 452, descriptorIndex := 404, attributes := #[] }, { accessFlags := 25, nameIndex := 454, descriptorIndex := 404, attributes := #[] }, { accessFlags := 25, nameIndex := 456, descriptorIndex := 404, attributes := #[] }, { accessFlags := 25, nameIndex := 458, descriptorIndex := 404, attributes := #[] }, { accessFlags := 25, nameIndex := 460, descriptorIndex := 404, attributes := #[] }, { accessFlags := 24, nameIndex := 462, descriptorIndex := 392, attributes := #[] }, { accessFlags := 25, nameIndex := 464, descriptorIndex := 404, attributes := #[] }, { accessFlags := 25, nameIndex := 465, descriptorIndex := 404, attributes := #[] }, { accessFlags := 25, nameIndex := 466, descriptorIndex := 404, attributes := #[] }, { accessFlags := 25, nameIndex := 467, descriptorIndex := 404, attributes := #[] }, { accessFlags := 25, nameIndex := 468, descriptorIndex := 404, attributes := #[] }, { accessFlags := 25, nameIndex := 469, descriptorIndex := 404, attributes := #[] }, { accessFlags := 25, nameIndex := 470, descriptorIndex := 404, attributes := #[] }, { accessFlags := 25, nameIndex := 471, descriptorIndex := 404, attributes := #[] }, { accessFlags := 25, nameIndex := 472, descriptorIndex := 404, attributes := #[] }, { accessFlags := 25, nameIndex := 473, descriptorIndex := 404, attributes := #[] }, { accessFlags := 25, nameIndex := 474, descriptorIndex := 404, attributes := #[] }, { accessFlags := 25, nameIndex := 475, descriptorIndex := 404, attributes := #[] }, { accessFlags := 25, nameIndex := 476, descriptorIndex := 404, attributes := #[] }, { accessFlags := 25, nameIndex := 477, descriptorIndex := 404, attributes := #[] }, { accessFlags := 25, nameIndex := 478, descriptorIndex := 404, attributes := #[] }, { accessFlags := 25, nameIndex := 479, descriptorIndex := 404, attributes := #[] }, { accessFlags := 25, nameIndex := 480, descriptorIndex := 404, attributes := #[] }, { accessFlags := 25, nameIndex := 481, descriptorIndex := 404, attributes := #[] }, { accessFlags := 25, nameIndex := 482, descriptorIndex := 404, attributes := #[] }, { accessFlags := 25, nameIndex := 484, descriptorIndex := 404, attributes := #[] }, { accessFlags := 25, nameIndex := 485, descriptorIndex := 404, attributes := #[] }, { accessFlags := 25, nameIndex := 486, descriptorIndex := 404, attributes := #[] }, { accessFlags := 25, nameIndex := 487, descriptorIndex := 404, attributes := #[] }, { accessFlags := 25, nameIndex := 488, descriptorIndex := 404, attributes := #[] }, { accessFlags := 25, nameIndex := 489, descriptorIndex := 22, attributes := #[] }, { accessFlags := 25, nameIndex := 490, descriptorIndex := 22, attributes := #[] }, { accessFlags := 25, nameIndex := 492, descriptorIndex := 22, attributes := #[] }, { accessFlags := 25, nameIndex := 493, descriptorIndex := 22, attributes := #[] }, { accessFlags := 25, nameIndex := 495, descriptorIndex := 22, attributes := #[] }, { accessFlags := 25, nameIndex := 496, descriptorIndex := 22, attributes := #[] }, { accessFlags := 25, nameIndex := 497, descriptorIndex := 392, attributes := #[] }, { accessFlags := 25, nameIndex := 498, descriptorIndex := 392, attributes := #[] }, { accessFlags := 25, nameIndex := 499, descriptorIndex := 392, attributes := #[] }, { accessFlags := 18, nameIndex := 21, descriptorIndex := 22, attributes := #[] }, { accessFlags := 26, nameIndex := 501, descriptorIndex := 502, attributes := #[] }, { accessFlags := 25, nameIndex := 505, descriptorIndex := 392, attributes := #[] }, { accessFlags := 25, nameIndex := 506, descriptorIndex := 392, attributes := #[] }, { accessFlags := 4120, nameIndex := 284, descriptorIndex := 285, attributes := #[] }])
  fields := #[{ name := "MIN_RADIX", type := .int, accessFlags := 25, slot := 0, constantValue := 0 }, { name := "MAX_RADIX", type := .int, accessFlags := 25, slot := 1, constantValue := 0 }, { name := "MIN_VALUE", type := .char, accessFlags := 25, slot := 2, constantValue := 0 }, { name := "MAX_VALUE", type := .char, accessFlags := 25, slot := 3, constantValue := 0 }, { name := "TYPE", type := (.object "java/lang/Class"), accessFlags := 25, slot := 4, constantValue := 0 }, { name := "UNASSIGNED", type := .byte, accessFlags := 25, slot := 5, constantValue := 0 }, { name := "UPPERCASE_LETTER", type := .byte, accessFlags := 25, slot := 6, constantValue := 0 }, { name := "LOWERCASE_LETTER", type := .byte, accessFlags := 25, slot := 7, constantValue := 0 }, { name := "TITLECASE_LETTER", type := .byte, accessFlags := 25, slot := 8, constantValue := 0 }, { name := "MODIFIER_LETTER", type := .byte, accessFlags := 25, slot := 9, constantValue := 0 }, { name := "OTHER_LETTER", type := .byte, accessFlags := 25, slot := 10, constantValue := 0 }, { name := "NON_SPACING_MARK", type := .byte, accessFlags := 25, slot := 11, constantValue := 0 }, { name := "ENCLOSING_MARK", type := .byte, accessFlags := 25, slot := 12, constantValue := 0 }, { name := "COMBINING_SPACING_MARK", type := .byte, accessFlags := 25, slot := 13, constantValue := 0 }, { name := "DECIMAL_DIGIT_NUMBER", type := .byte, accessFlags := 25, slot := 14, constantValue := 0 }, { name := "LETTER_NUMBER", type := .byte, accessFlags := 25, slot := 15, constantValue := 0 }, { name := "OTHER_NUMBER", type := .byte, accessFlags := 25, slot := 16, constantValue := 0 }, { name := "SPACE_SEPARATOR", type := .byte, accessFlags := 25, slot := 17, constantValue := 0 }, { name := "LINE_SEPARATOR", type := .byte, accessFlags := 25, slot := 18, constantValue := 0 }, { name := "PARAGRAPH_SEPARATOR", type := .byte, accessFlags := 25, slot := 19, constantValue := 0 }, { name := "CONTROL", type := .byte, accessFlags := 25, slot := 20, constantValue := 0 }, { name := "FORMAT", type := .byte, accessFlags := 25, slot := 21, constantValue := 0 }, { name := "PRIVATE_USE", type := .byte, accessFlags := 25, slot := 22, constantValue := 0 }, { name := "SURROGATE", type := .byte, accessFlags := 25, slot := 23, constantValue := 0 }, { name := "DASH_PUNCTUATION", type := .byte, accessFlags := 25, slot := 24, constantValue := 0 }, { name := "START_PUNCTUATION", type := .byte, accessFlags := 25, slot := 25, constantValue := 0 }, { name := "END_PUNCTUATION", type := .byte, accessFlags := 25, slot := 26, constantValue := 0 }, { name := "CONNECTOR_PUNCTUATION", type := .byte, accessFlags := 25, slot := 27, constantValue := 0 }, { name := "OTHER_PUNCTUATION", type := .byte, accessFlags := 25, slot := 28, constantValue := 0 }, { name := "MATH_SYMBOL", type := .byte, accessFlags := 25, slot := 29, constantValue := 0 }, { name := "CURRENCY_SYMBOL", type := .byte, accessFlags := 25, slot := 30, constantValue := 0 }, { name := "MODIFIER_SYMBOL", type := .byte, accessFlags := 25, slot := 31, constantValue := 0 }, { name := "OTHER_SYMBOL", type := .byte, accessFlags := 25, slot := 32, constantValue := 0 }, { name := "INITIAL_QUOTE_PUNCTUATION", type := .byte, accessFlags := 25, slot := 33, constantValue := 0 }, { name := "FINAL_QUOTE_PUNCTUATION", type := .byte, accessFlags := 25, slot := 34, constantValue := 0 }, { name := "ERROR", type := .int, accessFlags := 24, slot := 35, constantValue := 0 }, { name := "DIRECTIONALITY_UNDEFINED", type := .byte, accessFlags := 25, slot := 36, constantValue := 0 }, { name := "DIRECTIONALITY_LEFT_TO_RIGHT", type := .byte, accessFlags := 25, slot := 37, constantValue := 0 }, { name := "DIRECTIONALITY_RIGHT_TO_LEFT", type := .byte, accessFlags := 25, slot := 38, constantValue := 0 }, { name := "DIRECTIONALITY_RIGHT_TO_LEFT_ARABIC", type := .byte, accessFlags := 25, slot := 39, constantValue := 0 }, { name := "DIRECTIONALITY_EUROPEAN_NUMBER", type := .byte, accessFlags := 25, slot := 40, constantValue := 0 }, { name := "DIRECTIONALITY_EUROPEAN_NUMBER_SEPARATOR", type := .byte, accessFlags := 25, slot := 41, constantValue := 0 }, { name := "DIRECTIONALITY_EUROPEAN_NUMBER_TERMINATOR", type := .byte, accessFlags := 25, slot := 42, constantValue := 0 }, { name := "DIRECTIONALITY_ARABIC_NUMBER", type := .byte, accessFlags := 25, slot := 43, constantValue := 0 }, { name := "DIRECTIONALITY_COMMON_NUMBER_SEPARATOR", type := .byte, accessFlags := 25, slot := 44, constantValue := 0 }, { name := "DIRECTIONALITY_NONSPACING_MARK", type := .byte, accessFlags := 25, slot := 45, constantValue := 0 }, { name := "DIRECTIONALITY_BOUNDARY_NEUTRAL", type := .byte, accessFlags := 25, slot := 46, constantValue := 0 }, { name := "DIRECTIONALITY_PARAGRAPH_SEPARATOR", type := .byte, accessFlags := 25, slot := 47, constantValue := 0 }, { name := "DIRECTIONALITY_SEGMENT_SEPARATOR", type := .byte, accessFlags := 25, slot := 48, constantValue := 0 }, { name := "DIRECTIONALITY_WHITESPACE", type := .byte, accessFlags := 25, slot := 49, constantValue := 0 }, { name := "DIRECTIONALITY_OTHER_NEUTRALS", type := .byte, accessFlags := 25, slot := 50, constantValue := 0 }, { name := "DIRECTIONALITY_LEFT_TO_RIGHT_EMBEDDING", type := .byte, accessFlags := 25, slot := 51, constantValue := 0 }, { name := "DIRECTIONALITY_LEFT_TO_RIGHT_OVERRIDE", type := .byte, accessFlags := 25, slot := 52, constantValue := 0 }, { name := "DIRECTIONALITY_RIGHT_TO_LEFT_EMBEDDING", type := .byte, accessFlags := 25, slot := 53, constantValue := 0 }, { name := "DIRECTIONALITY_RIGHT_TO_LEFT_OVERRIDE", type := .byte, accessFlags := 25, slot := 54, constantValue := 0 }, { name := "DIRECTIONALITY_POP_DIRECTIONAL_FORMAT", type := .byte, accessFlags := 25, slot := 55, constantValue := 0 }, { name := "DIRECTIONALITY_LEFT_TO_RIGHT_ISOLATE", type := .byte, accessFlags := 25, slot := 56, constantValue := 0 }, { name := "DIRECTIONALITY_RIGHT_TO_LEFT_ISOLATE", type := .byte, accessFlags := 25, slot := 57, constantValue := 0 }, { name := "DIRECTIONALITY_FIRST_STRONG_ISOLATE", type := .byte, accessFlags := 25, slot := 58, constantValue := 0 }, { name := "DIRECTIONALITY_POP_DIRECTIONAL_ISOLATE", type := .byte, accessFlags := 25, slot := 59, constantValue := 0 }, { name := "MIN_HIGH_SURROGATE", type := .char, accessFlags := 25, slot := 60, constantValue := 0 }, { name := "MAX_HIGH_SURROGATE", type := .char, accessFlags := 25, slot := 61, constantValue := 0 }, { name := "MIN_LOW_SURROGATE", type := .char, accessFlags := 25, slot := 62, constantValue := 0 }, { name := "MAX_LOW_SURROGATE", type := .char, accessFlags := 25, slot := 63, constantValue := 0 }, { name := "MIN_SURROGATE", type := .char, accessFlags := 25, slot := 64, constantValue := 0 }, { name := "MAX_SURROGATE", type := .char, accessFlags := 25, slot := 65, constantValue := 0 }, { name := "MIN_SUPPLEMENTARY_CODE_POINT", type := .int, accessFlags := 25, slot := 66, constantValue := 0 }, { name := "MIN_CODE_POINT", type := .int, accessFlags := 25, slot := 67, constantValue := 0 }, { name := "MAX_CODE_POINT", type := .int, accessFlags := 25, slot := 68, constantValue := 0 }, { name := "value", type := .char, accessFlags := 18, slot := 0, constantValue := 0 }, { name := "serialVersionUID", type := .long, accessFlags := 26, slot := 69, constantValue := 0 }, { name := "SIZE", type := .int, accessFlags := 25, slot := 70, constantValue := 0 }, { name := "BYTES", type := .int, accessFlags := 25, slot := 71, constantValue := 0 }, { name := "$assertionsDisabled", type := .boolean, accessFlags := 4120, slot := 72, constantValue := 0 }]
  methods := #[k12m0, k12m1]
  instanceTypes := #[.char]
  staticTypes := #[.int, .int, .char, .char, (.object "java/lang/Class"), .byte, .byte, .byte, .byte, .byte, .byte, .byte, .byte, .byte, .byte, .byte, .byte, .byte, .byte, .byte, .byte, .byte, .byte, .byte, .byte, .byte, .byte, .byte, .byte, .byte, .byte, .byte, .byte, .byte, .byte, .int, .byte, .byte, .byte, .byte, .byte, .byte, .byte, .byte, .byte, .byte, .byte, .byte, .byte, .byte, .byte, .byte, .byte, .byte, .byte, .byte, .byte, .byte, .byte, .byte, .char, .char, .char, .char, .char, .char, .int, .int, .int, .long, .int, .int, .boolean]
  resolved := Array.replicate 604 none
  statics := none }

def pool13 : Array CpInfo := pool [(4, .class_ 6), (1, u "java/lang/Object"), (0, u "<init>"), (0, u "()V"), (5, .class_ 16), (1, u "java/lang/StringLatin1"), (104, u "$assertionsDisabled"), (0, u "Z"), (98, .class_ 223), (1, u "java/lang/StringLatin1$LinesSpliterator"), (166, .class_ 391), (0, u "java/lang/StringLatin1$CharsSpliterator")] 3

def k13m0 : Method := { name := "<init>", desc := "()V", sig := { parameters := [], returnType := none }, accessFlags := 0, code := none }
/-- java/lang/StringLatin1 -/
def k13 : Class := { plain "java/lang/StringLatin1" (some 0) with
  accessFlags := 48
  interfaces := #[]
  cf := some (fileOf pool13 14 #[.nestMembers #[390, 221]] #[{ accessFlags := 0, nameIndex := 7, descriptorIndex := 8, attributes := #[] }] 48 4 #[] #[{ accessFlags := 4120, nameIndex := 121, descriptorIndex := 122, attributes := #[] }])
  fields := #[{ name := "$assertionsDisabled", type := .boolean, accessFlags := 4120, slot := 0, constantValue := 0 }]
  methods := #[k13m0]
  instanceTypes := #[]
  staticTypes := #[.boolean]
  resolved := Array.replicate 395 none
  statics := none }

def pool14 : Array CpInfo := pool [(9, u "<init>"), (6, .class_ 18), (1, u "java/lang/Object"), (0, u "()V"), (1, .class_ 23), (1, u "jdk/internal/util/ArraysSupport"), (0, u "LOG2_ARRAY_LONG_INDEX_SCALE"), (0, u "I"), (2, u "U"), (0, u "Ljdk/internal/misc/Unsafe;"), (8, u "BIG_ENDIAN"), (0, u "Z"), (8, u "LOG2_BYTE_BIT_SIZE"), (4, u "LOG2_ARRAY_INT_INDEX_SCALE"), (54, u "JLA"), (0, u "Ljdk/internal/access/JavaLangAccess;"), (11, u "LOG2_ARRAY_BOOLEAN_INDEX_SCALE"), (9, u "LOG2_ARRAY_BYTE_INDEX_SCALE"), (5, u "LOG2_ARRAY_CHAR_INDEX_SCALE"), (5, u "LOG2_ARRAY_SHORT_INDEX_SCALE"), (18, u "LOG2_ARRAY_FLOAT_INDEX_SCALE"), (24, u "LOG2_ARRAY_DOUBLE_INDEX_SCALE"), (89, u "T_BOOLEAN"), (2, u "T_CHAR"), (1, u "T_FLOAT"), (1, u "T_DOUBLE"), (1, u "T_BYTE"), (1, u "T_SHORT"), (1, u "T_INT"), (1, u "T_LONG"), (1, u "SOFT_MAX_ARRAY_LENGTH")] 83

def k14m0 : Method := { name := "<init>", desc := "()V", sig := { parameters := [], returnType := none }, accessFlags := 2, code := none }
/-- jdk/internal/util/ArraysSupport -/
def k14 : Class := { plain "jdk/internal/util/ArraysSupport" (some 0) with
  accessFlags := 33
  interfaces := #[]
  cf := some (fileOf pool14 21 #[] #[{ accessFlags := 2, nameIndex := 9, descriptorIndex := 19, attributes := #[] }] 33 16 #[] #[{ accessFlags := 24, nameIndex := 28, descriptorIndex := 29, attributes := #[] }, { accessFlags := 26, nameIndex := 38, descriptorIndex := 39, attributes := #[] }, { accessFlags := 25, nameIndex := 121, descriptorIndex := 25, attributes := #[] }, { accessFlags := 25, nameIndex := 131, descriptorIndex := 25, attributes := #[] }, { accessFlags := 25, nameIndex := 137, descriptorIndex := 25, attributes := #[] }, { accessFlags := 25, nameIndex := 143, descriptorIndex := 25, attributes := #[] }, { accessFlags := 25, nameIndex := 53, descriptorIndex := 25, attributes := #[] }, { accessFlags := 25, nameIndex := 24, descriptorIndex := 25, attributes := #[] }, { accessFlags := 25, nameIndex := 162, descriptorIndex := 25, attributes := #[] }, { accessFlags := 25, nameIndex := 187, descriptorIndex := 25, attributes := #[] }, { accessFlags := 26, nameIndex := 48, descriptorIndex := 25, attributes := #[] }, { accessFlags := 25, nameIndex := 277, descriptorIndex := 25, attributes := #[] }, { accessFlags := 25, nameIndex := 280, descriptorIndex := 25, attributes := #[] }, { accessFlags := 25, nameIndex := 282, descriptorIndex := 25, attributes := #[] }, { accessFlags := 25, nameIndex := 284, descriptorIndex := 25, attributes := #[] }, { accessFlags := 25, nameIndex := 286, descriptorIndex := 25, attributes := #[] }, { accessFlags := 25, nameIndex := 288, descriptorIndex := 25, attributes := #[] }, { accessFlags := 25, nameIndex := 290, descriptorIndex := 25, attributes := #[] }, { accessFlags := 25, nameIndex := 292, descriptorIndex := 25, attributes := #[] }, { accessFlags := 26, nameIndex := 108, descriptorIndex := 109, attributes := #[] }, { accessFlags := 25, nameIndex := 294, descriptorIndex := 25, attributes := #[] }])
  fields := #[{ name := "U", type := (.object "jdk/internal/misc/Unsafe"), accessFlags := 24, slot := 0, constantValue := 0 }, { name := "BIG_ENDIAN", type := .boolean, accessFlags := 26, slot := 1, constantValue := 0 }, { name := "LOG2_ARRAY_BOOLEAN_INDEX_SCALE", type := .int, accessFlags := 25, slot := 2, constantValue := 0 }, { name := "LOG2_ARRAY_BYTE_INDEX_SCALE", type := .int, accessFlags := 25, slot := 3, constantValue := 0 }, { name := "LOG2_ARRAY_CHAR_INDEX_SCALE", type := .int, accessFlags := 25, slot := 4, constantValue := 0 }, { name := "LOG2_ARRAY_SHORT_INDEX_SCALE", type := .int, accessFlags := 25, slot := 5, constantValue := 0 }, { name := "LOG2_ARRAY_INT_INDEX_SCALE", type := .int, accessFlags := 25, slot := 6, constantValue := 0 }, { name := "LOG2_ARRAY_LONG_INDEX_SCALE", type := .int, accessFlags := 25, slot := 7, constantValue := 0 }, { name := "LOG2_ARRAY_FLOAT_INDEX_SCALE", type := .int, accessFlags := 25, slot := 8, constantValue := 0 }, { name := "LOG2_ARRAY_DOUBLE_INDEX_SCALE", type := .int, accessFlags := 25, slot := 9, constantValue := 0 }, { name := "LOG2_BYTE_BIT_SIZE", type := .int, accessFlags := 26, slot := 10, constantValue := 0 }, { name := "T_BOOLEAN", type := .int, accessFlags := 25, slot := 11, constantValue := 0 }, { name := "T_CHAR", type := .int, accessFlags := 25, slot := 12, constantValue := 0 }, { name := "T_FLOAT", type := .int, accessFlags := 25, slot := 13, constantValue := 0 }, { name := "T_DOUBLE", type := .int, accessFlags := 25, slot := 14, constantValue := 0 }, { name := "T_BYTE", type := .int, accessFlags := 25, slot := 15, constantValue := 0 }, { name := "T_SHORT", type := .int, accessFlags := 25, slot := 16, constantValue := 0 }, { name := "T_INT", type := .int, accessFlags := 25, slot := 17, constantValue := 0 }, { name := "T_LONG", type := .int, accessFlags := 25, slot := 18, constantValue := 0 }, { name := "JLA", type := (.object "jdk/internal/access/JavaLangAccess"), accessFlags := 26, slot := 19, constantValue := 0 }, { name := "SOFT_MAX_ARRAY_LENGTH", type := .int, accessFlags := 25, slot := 20, constantValue := 0 }]
  methods := #[k14m0]
  instanceTypes := #[]
  staticTypes := #[(.object "jdk/internal/misc/Unsafe"), .boolean, .int, .int, .int, .int, .int, .int, .int, .int, .int, .int, .int, .int, .int, .int, .int, .int, .int, (.object "jdk/internal/access/JavaLangAccess"), .int]
  resolved := Array.replicate 378 none
  statics := none }

def pool15 : Array CpInfo := pool [(1, u "java/lang/Cloneable"), (0, .class_ 1), (0, u "java/lang/Object"), (0, .class_ 3)] 3

/-- java/lang/Cloneable -/
def k15 : Class := { plain "java/lang/Cloneable" (some 0) with
  accessFlags := 1537
  interfaces := #[]
  cf := some (fileOf pool15 2 #[] #[] 1537 4 #[] #[])
  fields := #[]
  methods := #[]
  instanceTypes := #[]
  staticTypes := #[]
  resolved := Array.replicate 8 none
  statics := none }

/-- the primitive byte -/
def k16 : Class := { plain "byte" none with kind := .primitive 'B', accessFlags := 0x411 }
/-- [B -/
def k17 : Class := { plain "[B" (some 0) with kind := .array 16 .byte, interfaces := #[15, 2], accessFlags := 1041 }

/-- the primitive char -/
def k18 : Class := { plain "char" none with kind := .primitive 'C', accessFlags := 0x411 }
/-- [C -/
def k19 : Class := { plain "[C" (some 0) with kind := .array 18 .char, interfaces := #[15, 2], accessFlags := 1041 }

/-- the primitive int -/
def k20 : Class := { plain "int" none with kind := .primitive 'I', accessFlags := 0x411 }
/-- [I -/
def k21 : Class := { plain "[I" (some 0) with kind := .array 20 .int, interfaces := #[15, 2], accessFlags := 1041 }

def heap : Heap := #[{ cls := 7, slots := #[.long 0, .int 1, .null, .int 0, .null, .int 0, .int 0], vm := .statics 7 },
  { cls := 8, slots := #[.int 0, .int 8, .int 0, .int 1], vm := .statics 8 },
  { cls := 11, slots := #[.null, .null, .null], vm := .statics 11 }]
def classes : Array Class := #[k0, k1, k2, k3, k4, k5, k6, k7, k8, k9, k10, k11, k12, k13, k14, k15, k16, k17, k18, k19, k20, k21]
def interned : List (Array UInt16 × Addr) := []
def slotsUsed : Nat := 14
def theMethod : MethodId := ⟨1, 1⟩
def args0 : Array Value := #[.int 5, .int 6, .int 7, .int 8, .int 300]
def aboutOver (below : List Frame) : State where
  vm := { classes := classes, interned := interned.toArray }
  heap := heap
  slotsUsed := slotsUsed
  threads := #[{ frames := .invoking theMethod args0 :: below }]
def below0 : List Frame := [.native { method := ⟨0, 0⟩, args := #[] }]
def about1 : State := aboutOver below0
def p0 : Program := .bare "" "" ""
def e0 : Env := launch0.env 0 0 0
theorem w_frames : about1.frames = Frame.invoking theMethod args0 :: below0 := rfl
set_option maxRecDepth 65536 in
theorem w_args : argsFit about1.vm theMethod args0 = true := by decide +kernel
set_option maxRecDepth 65536 in
theorem w_heap : heapFits about1 = true := by decide +kernel
set_option maxRecDepth 65536 in
theorem w_runnable : about1.curStatus? = some .runnable := by decide +kernel
set_option maxRecDepth 65536 in
theorem w_alone : about1.alone = true := by decide +kernel
set_option maxRecDepth 65536 in
theorem w_named : about1.methodNamed? x = some theMethod := by decide +kernel
set_option maxRecDepth 65536 in
theorem w_hears : about1.hears theMethod below0 = true := by decide +kernel
set_option maxRecDepth 65536 in
theorem w_ripe : about1.ripe theMethod args0 below0 = true := by decide +kernel
theorem w_running : about1.status = .running := rfl
set_option maxRecDepth 65536 in
theorem w_room : about1.hasRoom e0.platform room_1 = true :=
  launch0.hasRoom_least _ room_1 (by decide +kernel) (by decide +kernel) (by decide +kernel) (by decide +kernel) (by decide +kernel) (by decide +kernel)
theorem allAtoms_all (ts : List Jvm.Cond) (a : Array Jvm.Value) (st : Jvm.State) : (allAtoms ts).before a st = ts.all (fun c => c.before a st) := by
  induction ts with
  | nil => rfl
  | cons c t ih =>
    show (Jvm.Cond.and c (allAtoms t)).before a st = _
    rw [Jvm.Cond.before_and, ih, List.all_cons]
def words1 : List Jvm.Cond := Jvm.Cond.code x code maxLocals ret :: tables_1
/-- a 'code' word, met by the world's own term for the bytes: nothing is compared byte by byte -/
theorem code_word {y : MethodName} {bytes : ByteArray} {mx : Nat} {rt : Option FieldType} {a : Array Value} {s : State} {m : MethodId} {meth : Method} {c : Code} (h1 : s.methodNamed? y = some m) (h2 : s.vm.method? m = some meth) (h3 : meth.code = some c) (h4 : c.code = bytes)
    (h5 : (c.maxLocals == mx && c.exceptionTable.isEmpty && decide (c.maxStack ≤ mostOperands) && decide (meth.sig.returnType = rt) && !meth.locks && decide (parseMethodDescriptor y.desc = some meth.sig)) = true) : (Jvm.Cond.code y bytes mx rt).before a s = true := by
  simp only [Bool.and_eq_true, beq_iff_eq, Bool.not_eq_true', decide_eq_true_eq] at h5
  obtain ⟨⟨⟨⟨⟨g1, g2⟩, g3⟩, g4⟩, g5⟩, g6⟩ := h5
  simp [Cond.before, Cond.holds, Cond.value, h1, h2, h3, h4, g1, g2, g3, g4, g5, g6]
def isCode : Jvm.Cond → Bool
  | .code _ _ _ _ => true
  | _ => false
theorem all_split {L : List Jvm.Cond} {P : Jvm.Cond → Bool} (h1 : L.all (fun c => isCode c || P c) = true) (h2 : ∀ c ∈ L.filter isCode, P c = true) : L.all P = true := by
  refine List.all_eq_true.mpr fun c hc => ?_
  have h := List.all_eq_true.mp h1 c hc
  rcases Bool.eq_false_or_eq_true (isCode c) with hi | hi
  · exact h2 c (List.mem_filter.mpr ⟨hc, hi⟩)
  · simpa [hi] using h
set_option maxRecDepth 65536 in
theorem w_c0 : (Jvm.Cond.code x code maxLocals ret).before args0 about1 = true := code_word (m := ⟨1, 1⟩) (meth := k1m1) (c := k1c1) (by decide +kernel) rfl rfl rfl (by decide +kernel)
set_option maxRecDepth 65536 in
theorem w_c1 : (Jvm.Cond.code ({ cls := "java/lang/String", name := "<init>", desc := "([C)V" } : Jvm.MethodName) jdk_42_method_3_code (2 : Nat) (Option.none : Option Jvm.ClassFile.FieldType)).before args0 about1 = true := code_word (m := ⟨7, 1⟩) (meth := k7m1) (c := k7c1) (by decide +kernel) rfl rfl rfl (by decide +kernel)
set_option maxRecDepth 65536 in
theorem w_c2 : (Jvm.Cond.code ({ cls := "java/lang/String", name := "<init>", desc := "([CIILjava/lang/Void;)V" } : Jvm.MethodName) jdk_42_method_149_code (6 : Nat) (Option.none : Option Jvm.ClassFile.FieldType)).before args0 about1 = true := code_word (m := ⟨7, 4⟩) (meth := k7m4) (c := k7c4) (by decide +kernel) rfl rfl rfl (by decide +kernel)
set_option maxRecDepth 65536 in
theorem w_c3 : (Jvm.Cond.code ({ cls := "java/lang/Object", name := "<init>", desc := "()V" } : Jvm.MethodName) object_method_1_code (1 : Nat) (Option.none : Option Jvm.ClassFile.FieldType)).before args0 about1 = true := code_word (m := ⟨0, 0⟩) (meth := k0m0) (c := k0c0) (by decide +kernel) rfl rfl rfl (by decide +kernel)
set_option maxRecDepth 65536 in
theorem w_c4 : (Jvm.Cond.code ({ cls := "java/lang/StringUTF16", name := "compress", desc := "([CII)[B" } : Jvm.MethodName) jdk_52_method_16_code (6 : Nat) (Option.some (Jvm.ClassFile.FieldType.array Jvm.ClassFile.FieldType.byte))).before args0 about1 = true := code_word (m := ⟨8, 9⟩) (meth := k8m9) (c := k8c9) (by decide +kernel) rfl rfl rfl (by decide +kernel)
set_option maxRecDepth 65536 in
theorem w_c5 : (Jvm.Cond.code ({ cls := "java/lang/StringUTF16", name := "compress", desc := "([CI[BII)I" } : Jvm.MethodName) jdk_52_method_21_code (7 : Nat) (Option.some Jvm.ClassFile.FieldType.int)).before args0 about1 = true := code_word (m := ⟨8, 10⟩) (meth := k8m10) (c := k8c10) (by decide +kernel) rfl rfl rfl (by decide +kernel)
set_option maxRecDepth 65536 in
theorem w_c6 : (Jvm.Cond.code ({ cls := "java/lang/StringUTF16", name := "coderFromArrayLen", desc := "([BI)B" } : Jvm.MethodName) jdk_52_method_15_code (2 : Nat) (Option.some Jvm.ClassFile.FieldType.byte)).before args0 about1 = true := code_word (m := ⟨8, 8⟩) (meth := k8m8) (c := k8c8) (by decide +kernel) rfl rfl rfl (by decide +kernel)
set_option maxRecDepth 65536 in
theorem w_c7 : (Jvm.Cond.code ({ cls := "com/example/cross_lock/crosslock/Limits", name := "checkName", desc := "(Ljava/lang/String;)Ljava/lang/String;" } : Jvm.MethodName) prog_8_method_2_code (2 : Nat) (Option.some (Jvm.ClassFile.FieldType.object "java/lang/String"))).before args0 about1 = true := code_word (m := ⟨9, 1⟩) (meth := k9m1) (c := k9c1) (by decide +kernel) rfl rfl rfl (by decide +kernel)
set_option maxRecDepth 65536 in
theorem w_c8 : (Jvm.Cond.code ({ cls := "java/util/Objects", name := "requireNonNull", desc := "(Ljava/lang/Object;Ljava/lang/String;)Ljava/lang/Object;" } : Jvm.MethodName) jdk_31_method_11_code (2 : Nat) (Option.some (Jvm.ClassFile.FieldType.object "java/lang/Object"))).before args0 about1 = true := code_word (m := ⟨10, 1⟩) (meth := k10m1) (c := k10c1) (by decide +kernel) rfl rfl rfl (by decide +kernel)
set_option maxRecDepth 65536 in
theorem w_c9 : (Jvm.Cond.code ({ cls := "java/lang/String", name := "length", desc := "()I" } : Jvm.MethodName) jdk_42_method_54_code (1 : Nat) (Option.some Jvm.ClassFile.FieldType.int)).before args0 about1 = true := code_word (m := ⟨7, 2⟩) (meth := k7m2) (c := k7c2) (by decide +kernel) rfl rfl rfl (by decide +kernel)
set_option maxRecDepth 65536 in
theorem w_c10 : (Jvm.Cond.code ({ cls := "java/lang/String", name := "coder", desc := "()B" } : Jvm.MethodName) jdk_42_method_152_code (1 : Nat) (Option.some Jvm.ClassFile.FieldType.byte)).before args0 about1 = true := code_word (m := ⟨7, 5⟩) (meth := k7m5) (c := k7c5) (by decide +kernel) rfl rfl rfl (by decide +kernel)
set_option maxRecDepth 65536 in
theorem w_c11 : (Jvm.Cond.code ({ cls := "java/lang/String", name := "codePointCount", desc := "(II)I" } : Jvm.MethodName) jdk_42_method_59_code (3 : Nat) (Option.some Jvm.ClassFile.FieldType.int)).before args0 about1 = true := code_word (m := ⟨7, 3⟩) (meth := k7m3) (c := k7c3) (by decide +kernel) rfl rfl rfl (by decide +kernel)
set_option maxRecDepth 65536 in
theorem w_c12 : (Jvm.Cond.code ({ cls := "java/util/Objects", name := "checkFromToIndex", desc := "(III)I" } : Jvm.MethodName) jdk_31_method_18_code (3 : Nat) (Option.some Jvm.ClassFile.FieldType.int)).before args0 about1 = true := code_word (m := ⟨10, 2⟩) (meth := k10m2) (c := k10c2) (by decide +kernel) rfl rfl rfl (by decide +kernel)
set_option maxRecDepth 65536 in
theorem w_c13 : (Jvm.Cond.code ({ cls := "jdk/internal/util/Preconditions", name := "checkFromToIndex", desc := "(IIILjava/util/function/BiFunction;)I" } : Jvm.MethodName) jdk_41_method_12_code (4 : Nat) (Option.some Jvm.ClassFile.FieldType.int)).before args0 about1 = true := code_word (m := ⟨11, 1⟩) (meth := k11m1) (c := k11c1) (by decide +kernel) rfl rfl rfl (by decide +kernel)
set_option maxRecDepth 65536 in
theorem w_c14 : (Jvm.Cond.code ({ cls := "java/lang/String", name := "isLatin1", desc := "()Z" } : Jvm.MethodName) jdk_42_method_154_code (1 : Nat) (Option.some Jvm.ClassFile.FieldType.boolean)).before args0 about1 = true := code_word (m := ⟨7, 6⟩) (meth := k7m6) (c := k7c6) (by decide +kernel) rfl rfl rfl (by decide +kernel)
set_option maxRecDepth 65536 in
theorem w_c15 : (Jvm.Cond.code ({ cls := "java/lang/StringUTF16", name := "toBytes", desc := "([CII)[B" } : Jvm.MethodName) jdk_52_method_14_code (5 : Nat) (Option.some (Jvm.ClassFile.FieldType.array Jvm.ClassFile.FieldType.byte))).before args0 about1 = true := code_word (m := ⟨8, 7⟩) (meth := k8m7) (c := k8c7) (by decide +kernel) rfl rfl rfl (by decide +kernel)
set_option maxRecDepth 65536 in
theorem w_c16 : (Jvm.Cond.code ({ cls := "java/lang/StringUTF16", name := "newBytesFor", desc := "(I)[B" } : Jvm.MethodName) jdk_52_method_2_code (1 : Nat) (Option.some (Jvm.ClassFile.FieldType.array Jvm.ClassFile.FieldType.byte))).before args0 about1 = true := code_word (m := ⟨8, 1⟩) (meth := k8m1) (c := k8c1) (by decide +kernel) rfl rfl rfl (by decide +kernel)
set_option maxRecDepth 65536 in
theorem w_c17 : (Jvm.Cond.code ({ cls := "java/lang/StringUTF16", name := "newBytesLength", desc := "(I)I" } : Jvm.MethodName) jdk_52_method_3_code (1 : Nat) (Option.some Jvm.ClassFile.FieldType.int)).before args0 about1 = true := code_word (m := ⟨8, 2⟩) (meth := k8m2) (c := k8c2) (by decide +kernel) rfl rfl rfl (by decide +kernel)
set_option maxRecDepth 65536 in
theorem w_c18 : (Jvm.Cond.code ({ cls := "java/lang/StringUTF16", name := "putChar", desc := "([BII)V" } : Jvm.MethodName) jdk_52_method_4_code (3 : Nat) (Option.none : Option Jvm.ClassFile.FieldType)).before args0 about1 = true := code_word (m := ⟨8, 3⟩) (meth := k8m3) (c := k8c3) (by decide +kernel) rfl rfl rfl (by decide +kernel)
set_option maxRecDepth 65536 in
theorem w_c19 : (Jvm.Cond.code ({ cls := "java/lang/StringUTF16", name := "getChar", desc := "([BI)C" } : Jvm.MethodName) jdk_52_method_5_code (2 : Nat) (Option.some Jvm.ClassFile.FieldType.char)).before args0 about1 = true := code_word (m := ⟨8, 4⟩) (meth := k8m4) (c := k8c4) (by decide +kernel) rfl rfl rfl (by decide +kernel)
set_option maxRecDepth 65536 in
theorem w_c20 : (Jvm.Cond.code ({ cls := "java/lang/StringUTF16", name := "codePointCount", desc := "([BII)I" } : Jvm.MethodName) jdk_52_method_12_code (3 : Nat) (Option.some Jvm.ClassFile.FieldType.int)).before args0 about1 = true := code_word (m := ⟨8, 6⟩) (meth := k8m6) (c := k8c6) (by decide +kernel) rfl rfl rfl (by decide +kernel)
set_option maxRecDepth 65536 in
theorem w_c21 : (Jvm.Cond.code ({ cls := "java/lang/StringUTF16", name := "codePointCount", desc := "([BIIZ)I" } : Jvm.MethodName) jdk_52_method_11_code (6 : Nat) (Option.some Jvm.ClassFile.FieldType.int)).before args0 about1 = true := code_word (m := ⟨8, 5⟩) (meth := k8m5) (c := k8c5) (by decide +kernel) rfl rfl rfl (by decide +kernel)
set_option maxRecDepth 65536 in
theorem w_c22 : (Jvm.Cond.code ({ cls := "java/lang/Character", name := "isHighSurrogate", desc := "(C)Z" } : Jvm.MethodName) jdk_89_method_14_code (1 : Nat) (Option.some Jvm.ClassFile.FieldType.boolean)).before args0 about1 = true := code_word (m := ⟨12, 0⟩) (meth := k12m0) (c := k12c0) (by decide +kernel) rfl rfl rfl (by decide +kernel)
set_option maxRecDepth 65536 in
theorem w_c23 : (Jvm.Cond.code ({ cls := "java/lang/Character", name := "isLowSurrogate", desc := "(C)Z" } : Jvm.MethodName) jdk_89_method_15_code (1 : Nat) (Option.some Jvm.ClassFile.FieldType.boolean)).before args0 about1 = true := code_word (m := ⟨12, 1⟩) (meth := k12m1) (c := k12c1) (by decide +kernel) rfl rfl rfl (by decide +kernel)
def codes1 : List Jvm.Cond := [Jvm.Cond.code x code maxLocals ret, Jvm.Cond.code ({ cls := "java/lang/String", name := "<init>", desc := "([C)V" } : Jvm.MethodName) jdk_42_method_3_code (2 : Nat) (Option.none : Option Jvm.ClassFile.FieldType), Jvm.Cond.code ({ cls := "java/lang/String", name := "<init>", desc := "([CIILjava/lang/Void;)V" } : Jvm.MethodName) jdk_42_method_149_code (6 : Nat) (Option.none : Option Jvm.ClassFile.FieldType), Jvm.Cond.code ({ cls := "java/lang/Object", name := "<init>", desc := "()V" } : Jvm.MethodName) object_method_1_code (1 : Nat) (Option.none : Option Jvm.ClassFile.FieldType), Jvm.Cond.code ({ cls := "java/lang/StringUTF16", name := "compress", desc := "([CII)[B" } : Jvm.MethodName) jdk_52_method_16_code (6 : Nat) (Option.some (Jvm.ClassFile.FieldType.array Jvm.ClassFile.FieldType.byte)), Jvm.Cond.code ({ cls := "java/lang/StringUTF16", name := "compress", desc := "([CI[BII)I" } : Jvm.MethodName) jdk_52_method_21_code (7 : Nat) (Option.some Jvm.ClassFile.FieldType.int), Jvm.Cond.code ({ cls := "java/lang/StringUTF16", name := "coderFromArrayLen", desc := "([BI)B" } : Jvm.MethodName) jdk_52_method_15_code (2 : Nat) (Option.some Jvm.ClassFile.FieldType.byte), Jvm.Cond.code ({ cls := "com/example/cross_lock/crosslock/Limits", name := "checkName", desc := "(Ljava/lang/String;)Ljava/lang/String;" } : Jvm.MethodName) prog_8_method_2_code (2 : Nat) (Option.some (Jvm.ClassFile.FieldType.object "java/lang/String")), Jvm.Cond.code ({ cls := "java/util/Objects", name := "requireNonNull", desc := "(Ljava/lang/Object;Ljava/lang/String;)Ljava/lang/Object;" } : Jvm.MethodName) jdk_31_method_11_code (2 : Nat) (Option.some (Jvm.ClassFile.FieldType.object "java/lang/Object")), Jvm.Cond.code ({ cls := "java/lang/String", name := "length", desc := "()I" } : Jvm.MethodName) jdk_42_method_54_code (1 : Nat) (Option.some Jvm.ClassFile.FieldType.int), Jvm.Cond.code ({ cls := "java/lang/String", name := "coder", desc := "()B" } : Jvm.MethodName) jdk_42_method_152_code (1 : Nat) (Option.some Jvm.ClassFile.FieldType.byte), Jvm.Cond.code ({ cls := "java/lang/String", name := "codePointCount", desc := "(II)I" } : Jvm.MethodName) jdk_42_method_59_code (3 : Nat) (Option.some Jvm.ClassFile.FieldType.int), Jvm.Cond.code ({ cls := "java/util/Objects", name := "checkFromToIndex", desc := "(III)I" } : Jvm.MethodName) jdk_31_method_18_code (3 : Nat) (Option.some Jvm.ClassFile.FieldType.int), Jvm.Cond.code ({ cls := "jdk/internal/util/Preconditions", name := "checkFromToIndex", desc := "(IIILjava/util/function/BiFunction;)I" } : Jvm.MethodName) jdk_41_method_12_code (4 : Nat) (Option.some Jvm.ClassFile.FieldType.int), Jvm.Cond.code ({ cls := "java/lang/String", name := "isLatin1", desc := "()Z" } : Jvm.MethodName) jdk_42_method_154_code (1 : Nat) (Option.some Jvm.ClassFile.FieldType.boolean), Jvm.Cond.code ({ cls := "java/lang/StringUTF16", name := "toBytes", desc := "([CII)[B" } : Jvm.MethodName) jdk_52_method_14_code (5 : Nat) (Option.some (Jvm.ClassFile.FieldType.array Jvm.ClassFile.FieldType.byte)), Jvm.Cond.code ({ cls := "java/lang/StringUTF16", name := "newBytesFor", desc := "(I)[B" } : Jvm.MethodName) jdk_52_method_2_code (1 : Nat) (Option.some (Jvm.ClassFile.FieldType.array Jvm.ClassFile.FieldType.byte)), Jvm.Cond.code ({ cls := "java/lang/StringUTF16", name := "newBytesLength", desc := "(I)I" } : Jvm.MethodName) jdk_52_method_3_code (1 : Nat) (Option.some Jvm.ClassFile.FieldType.int), Jvm.Cond.code ({ cls := "java/lang/StringUTF16", name := "putChar", desc := "([BII)V" } : Jvm.MethodName) jdk_52_method_4_code (3 : Nat) (Option.none : Option Jvm.ClassFile.FieldType), Jvm.Cond.code ({ cls := "java/lang/StringUTF16", name := "getChar", desc := "([BI)C" } : Jvm.MethodName) jdk_52_method_5_code (2 : Nat) (Option.some Jvm.ClassFile.FieldType.char), Jvm.Cond.code ({ cls := "java/lang/StringUTF16", name := "codePointCount", desc := "([BII)I" } : Jvm.MethodName) jdk_52_method_12_code (3 : Nat) (Option.some Jvm.ClassFile.FieldType.int), Jvm.Cond.code ({ cls := "java/lang/StringUTF16", name := "codePointCount", desc := "([BIIZ)I" } : Jvm.MethodName) jdk_52_method_11_code (6 : Nat) (Option.some Jvm.ClassFile.FieldType.int), Jvm.Cond.code ({ cls := "java/lang/Character", name := "isHighSurrogate", desc := "(C)Z" } : Jvm.MethodName) jdk_89_method_14_code (1 : Nat) (Option.some Jvm.ClassFile.FieldType.boolean), Jvm.Cond.code ({ cls := "java/lang/Character", name := "isLowSurrogate", desc := "(C)Z" } : Jvm.MethodName) jdk_89_method_15_code (1 : Nat) (Option.some Jvm.ClassFile.FieldType.boolean)]
set_option maxRecDepth 65536 in
theorem codes_eq : words1.filter isCode = codes1 := rfl
theorem w_codes : ∀ c ∈ words1.filter isCode, c.before args0 about1 = true := by
  rw [codes_eq]
  intro c hc
  simp only [codes1, List.mem_cons, List.not_mem_nil, or_false] at hc
  rcases hc with rfl | rfl | rfl | rfl | rfl | rfl | rfl | rfl | rfl | rfl | rfl | rfl | rfl | rfl | rfl | rfl | rfl | rfl | rfl | rfl | rfl | rfl | rfl | rfl
  · exact w_c0
  · exact w_c1
  · exact w_c2
  · exact w_c3
  · exact w_c4
  · exact w_c5
  · exact w_c6
  · exact w_c7
  · exact w_c8
  · exact w_c9
  · exact w_c10
  · exact w_c11
  · exact w_c12
  · exact w_c13
  · exact w_c14
  · exact w_c15
  · exact w_c16
  · exact w_c17
  · exact w_c18
  · exact w_c19
  · exact w_c20
  · exact w_c21
  · exact w_c22
  · exact w_c23
set_option maxRecDepth 65536 in
theorem w_t1 : (words1.take 24).all (fun c => isCode c || c.before args0 about1) = true := by decide +kernel
set_option maxRecDepth 65536 in
theorem w_t2 : ((words1.drop 24).take 24).all (fun c => isCode c || c.before args0 about1) = true := by decide +kernel
set_option maxRecDepth 65536 in
theorem w_t3 : (((words1.drop 24).drop 24).take 24).all (fun c => isCode c || c.before args0 about1) = true := by decide +kernel
set_option maxRecDepth 65536 in
theorem w_t4 : ((((words1.drop 24).drop 24).drop 24).take 24).all (fun c => isCode c || c.before args0 about1) = true := by decide +kernel
set_option maxRecDepth 65536 in
theorem w_t5 : ((((words1.drop 24).drop 24).drop 24).drop 24).all (fun c => isCode c || c.before args0 about1) = true := by decide +kernel
theorem w_tables : (allAtoms (Jvm.Cond.code x code maxLocals ret :: tables_1)).before args0 about1 = true := by
  rw [allAtoms_all]
  show words1.all (fun c => c.before args0 about1) = true
  refine all_split ?_ w_codes
  rw [← List.take_append_drop 24 words1, List.all_append, w_t1, ← List.take_append_drop 24 (words1.drop 24), List.all_append, w_t2, ← List.take_append_drop 24 ((words1.drop 24).drop 24), List.all_append, w_t3, ← List.take_append_drop 24 (((words1.drop 24).drop 24).drop 24), List.all_append, w_t4, w_t5]
  rfl
set_option maxRecDepth 65536 in
theorem w_rest : rest_1_c.before args0 about1 = true := by decide +kernel
set_option maxRecDepth 65536 in
theorem w_case : (Jvm.Cond.and given_1 narrow_1).before args0 about1 = true := by decide +kernel
theorem w_applies : (headSpec (Jvm.Cond.code x code maxLocals ret :: tables_1) room_1).applies x e0.platform about1 = true :=
  (Spec.applies_iff w_frames).mpr ⟨w_running, w_runnable, w_alone, w_named, w_hears, w_ripe, w_room, w_tables⟩
theorem atStart : AtStart classFile x code maxLocals ret World_1 tables_1 room_1 Calls_1 rest_1 Pre_1 launch0 p0 e0 about1 theMethod args0 below0 :=
  ⟨lists_1, trivial, launch0.admits_env _ _ _, launch0.least_env, fairChoices_fair.cas, fairChoices_fair.clock, w_frames, w_args, w_heap, w_applies, trivial, w_rest, w_case⟩
end start1
theorem witness_1 : WitnessClaimed_1 := ⟨start1.p0, start1.e0, start1.about1, start1.theMethod, start1.args0, start1.below0, start1.atStart⟩
end Jvm.Pilot.@@N@@
