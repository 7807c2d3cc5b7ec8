import JvmDerived
import JvmDerived.Pilot.@@N@@Statement
import JvmDerived.Pilot.@@N@@Code
set_option linter.unusedVariables false
set_option linter.unusedSimpArgs false
namespace Jvm.RoadKit
open Sem ClassFile Op Lib Bundle Jvm.Stand Jvm.Free Jvm.LawKit
section OwnKit
variable {p : Program} {l : Launch} {e : Env} {R : Room} {s : State} {m : MethodId} {args : Array Value} {below : List Frame} {meth : Method} {c : Code} {T : State} {Z : State} {a0 : Array Value} {EL : List (String × Nat)} {own nm : String} {bytes : ByteArray} {maxL : Nat} {ret : Option FieldType} {wl sf : List Addr} {h0 h : Heap} {k n : Nat} {F : Outcome → State → Prop} {Ls : Array Slot} {S : List Value} {pc : Nat}
def Go (tb : Tables) (e : Env) (below : List Frame) (F : Outcome → State → Prop) (A : State) : Prop := ∃ (t : State) (o : Outcome), Steps tb e below A t ∧ t.status = .running ∧ Ended t below o ∧ F o t
theorem goS {tb : Tables} {A B : State} (q : ∀ t, Steps tb e below B t → Steps tb e below A t) (g : Go tb e below F B) : Go tb e below F A := by
  obtain ⟨t, o, h1, h2⟩ := g
  exact ⟨t, o, q t h1, h2⟩
def Cx (p : Program) (meth : Method) (c : Code) (Z : State) (a0 : Array Value) (EL : List (String × Nat)) (nm : String) (bytes : ByteArray) (maxL : Nat) (ret : Option FieldType) (wl : List Addr) (h0 : Heap) : Prop :=
  p.tables.exec = Jvm.exec ∧ c.code = bytes ∧ c.maxLocals = maxL ∧ meth.sig.returnType = ret ∧ meth.locks = false ∧ meth.name = nm ∧ EW Z a0 EL ∧ Z.heap.size ≤ h0.size ∧ ∀ x ∈ wl, Z.heap.size ≤ x
theorem Cx.ew (w : Cx p meth c Z a0 EL nm bytes maxL ret wl h0) : EW Z a0 EL := w.2.2.2.2.2.2.1
theorem Cx.le (w : Cx p meth c Z a0 EL nm bytes maxL ret wl h0) : Z.heap.size ≤ h0.size := w.2.2.2.2.2.2.2.1
theorem Cx.ge (w : Cx p meth c Z a0 EL nm bytes maxL ret wl h0) {a : Addr} (h : a ∈ wl ∨ h0.size ≤ a) : Z.heap.size ≤ a := h.elim (w.2.2.2.2.2.2.2.2 a) (Nat.le_trans w.le)
theorem extKeep {A h h' : Heap} {ws : List Addr} (E : Ext A h) (K : Keep h h' ws) (q : ∀ x ∈ ws, A.size ≤ x) : Ext A h' := ⟨Nat.le_trans E.1 K.1, fun a c r => K.2.1 a c (E.2 a c r) fun z => absurd (Array.getElem?_eq_some_iff.mp r).1 (Nat.not_lt.mpr (q a z))⟩
theorem extExt {A h h' : Heap} (E : Ext A h) (K : Ext h h') : Ext A h' := ⟨Nat.le_trans E.1 K.1, fun a c r => K.2 a c (E.2 a c r)⟩
/-- where a walk stands: the heap h, what it has written and made, that the literals of EL are as they should be, what is none of their cells -/
def OW (p : Program) (l : Launch) (e : Env) (R : Room) (s : State) (m : MethodId) (args : Array Value) (below : List Frame) (meth : Method) (c : Code) (Z : State) (a0 : Array Value) (EL : List (String × Nat)) (own nm : String) (bytes : ByteArray) (maxL : Nat) (ret : Option FieldType) (wl : List Addr) (h0 : Heap) (sf : List Addr) (T : State) (h : Heap) (k n : Nat) : Prop :=
  Cx p meth c Z a0 EL nm bytes maxL ret wl h0 ∧
  ∃ (vm0 : Vm) (k0 : Nat) (L : List Loc), Stand p l e R (s.setVm vm0) m args below meth c T L k n ∧ T.heap = h ∧ s.Since vm0 k0 ∧ k0 ≤ h.size ∧ Z.Warmed39 vm0 ∧ vm0.findClass own = some m.cls ∧
    (∀ y ∈ L, y.base ∈ wl ∨ h0.size ≤ y.base) ∧ Keep h0 h wl ∧ CHr Z EL s.vm h0 vm0 h ∧ Ext Z.heap h ∧ ∀ x ∈ sf, x < h.size ∧ Safe Z EL vm0 h x
/-- what a body leaves behind -/
def Fin' (s : State) (Z : State) (EL : List (String × Nat)) (wl : List Addr) (h0 : Heap) (R : Room) (Q : Option Value → Heap → List Addr → Prop) (o : Outcome) (t : State) : Prop :=
  ∃ (v : Option Value) (L : List Loc) (ns : List Addr), o = .returned v ∧ Q v t.heap ns ∧ Keep h0 t.heap wl ∧ (∀ y ∈ L, y.base ∈ wl ∨ h0.size ≤ y.base) ∧ CHr Z EL s.vm h0 t.vm t.heap ∧ (∀ x ∈ ns, x < t.heap.size ∧ Safe Z EL t.vm t.heap x) ∧ ReturnedEndW s o t L R.cells R.slots
/-- the contract of a body -/
def Con (l : Launch) (Z : State) (a0 : Array Value) (EL : List (String × Nat)) (y : MethodName) (bytes : ByteArray) (maxL : Nat) (ret : Option FieldType) (rm : Room) (as' : Array Value) (h0 : Heap) (sf wl : List Addr) (Q : Option Value → Heap → List Addr → Prop) : Prop :=
  MetFree l y (head1 [Cond.code y bytes maxL ret] rm) (fun a U => a = as' ∧ Z.Warmed39 U.vm ∧ U.heap = h0 ∧ CHv Z EL U.vm h0 ∧ EW Z a0 EL ∧ Ext Z.heap h0 ∧ (∀ x ∈ wl, Z.heap.size ≤ x) ∧ ∀ x ∈ sf, x < h0.size ∧ Safe Z EL U.vm h0 x) (fun _ _ _ _ _ => True)
    (fun _ U o U' => Fin' U Z EL wl h0 rm Q o U')
theorem OW.start {y : MethodName} {as' : Array Value} {s₁ : State} {rm : Room} {ws : List Cond} (B : BodyLoose p l y (head1 (Cond.code y bytes maxL ret :: ws) rm) bytes maxL ret e s m as' below meth c s₁) (hml : c.maxLocals = maxL) (hZ : Z.Warmed39 s.vm) (hh : s.heap = h0) (H : CHv Z EL s.vm h0) (hE : EW Z a0 EL) (hX : Ext Z.heap h0) (hwl : ∀ x ∈ wl, Z.heap.size ≤ x) (hs : ∀ x ∈ sf, x < h0.size ∧ Safe Z EL s.vm h0 x) :
    OW p l e rm s m as' below meth c Z a0 EL y.cls y.name bytes maxL ret wl h0 sf s₁ h0 0 0 :=
  ⟨⟨B.exec, B.bytes, hml, B.returns, B.notSynchronized, (name_of_methodNamed B.named B.method).1, hE, hX.1, hwl⟩, s.vm, 0, [], Stand.of_body B, by rw [← hh, B.state]; rfl, State.WarmedH.since (State.WarmedH.refl s) 0, Nat.zero_le _, hZ, findClass_of_methodNamed B.named,
    (fun _ q => nomatch q), Keep.refl _ _, CHr.refl H, hX, hs⟩
theorem Con.of {y : MethodName} {rm : Room} {as' : Array Value} {Q : Option Value → Heap → List Addr → Prop} {L0 : Array Slot} (hp : plainFor y = true) (hef : ∀ m, entryFrame m as' maxL = mkF m 0 L0 [])
    (body : ∀ (p : Program) (e : Env) (s : State) (m : MethodId) (below : List Frame) (meth : Method) (c : Code) (T : State), OW p l e rm s m as' below meth c Z a0 EL y.cls y.name bytes maxL ret wl h0 sf T h0 0 0 → Go p.tables e below (Fin' s Z EL wl h0 rm Q) (T.setTop (mkF m 0 L0 []))) :
    Con l Z a0 EL y bytes maxL ret rm as' h0 sf wl Q := by
  refine MetFree.of_bodySF hp hisR ?_
  intro p e s m args below meth c s₁ Bd hml hP hK
  obtain ⟨rfl, hZ, hh, H, hE, hX, hwl, hs⟩ := hP
  obtain ⟨t, o, g1, g2, g3, g4⟩ := body p e s m below meth c s₁ (OW.start Bd hml hZ hh H hE hX hwl hs)
  exact ⟨t, o, castTop (hef m) g1, g2, g3, g4⟩
theorem OW.here (w : OW p l e R s m args below meth c Z a0 EL own nm bytes maxL ret wl h0 sf T h k n) : At T m c below := by obtain ⟨-, vm0, k0, L, X, -⟩ := w; exact X.here
theorem OW.exec (w : OW p l e R s m args below meth c Z a0 EL own nm bytes maxL ret wl h0 sf T h k n) : p.tables.exec = Jvm.exec := w.1.1
theorem OW.bt (w : OW p l e R s m args below meth c Z a0 EL own nm bytes maxL ret wl h0 sf T h k n) {pc : Nat} {r : Except DecodeError (Instr × Nat)} (hd : decode bytes pc = r) : decode c.code pc = r := hb w.1.2.1 hd
theorem OW.keep (w : OW p l e R s m args below meth c Z a0 EL own nm bytes maxL ret wl h0 sf T h k n) : Keep h0 h wl := by obtain ⟨-, vm0, k0, L, X, -, -, -, -, -, -, K, -⟩ := w; exact K
theorem OW.more {k' n' : Nat} (w : OW p l e R s m args below meth c Z a0 EL own nm bytes maxL ret wl h0 sf T h k n) (h1 : k ≤ k') (h2 : n ≤ n') : OW p l e R s m args below meth c Z a0 EL own nm bytes maxL ret wl h0 sf T h k' n' := by
  obtain ⟨w0, vm0, k0, L, X, r⟩ := w
  exact ⟨w0, vm0, k0, L, X.more h1 h2, r⟩
theorem OW.sub {sf' : List Addr} (w : OW p l e R s m args below meth c Z a0 EL own nm bytes maxL ret wl h0 sf T h k n) (q : ∀ x ∈ sf', x ∈ sf) : OW p l e R s m args below meth c Z a0 EL own nm bytes maxL ret wl h0 sf' T h k n := by
  obtain ⟨w0, vm0, k0, L, X, g1, g2, g3, g4, g5, g6, g7, g8, gE, g9⟩ := w
  exact ⟨w0, vm0, k0, L, X, g1, g2, g3, g4, g5, g6, g7, g8, gE, fun x hx => g9 x (q x hx)⟩
/-! plain steps -/

theorem g_iload (w : OW p l e R s m args below meth c Z a0 EL own nm bytes maxL ret wl h0 sf T h k n) {i : Nat} {v : Int32} (hd : decode bytes pc = .ok (.iload i, 2)) (hl : Ls[i]? = some (.val (.int v))) (nx : Go p.tables e below F (T.setTop (mkF m (pc + 2) Ls (.int v :: S)))) : Go p.tables e below F (T.setTop (mkF m pc Ls S)) := goS (fun t q => XS.iload w.here w.exec rfl (w.bt hd) hl q) nx
theorem g_iloadN (w : OW p l e R s m args below meth c Z a0 EL own nm bytes maxL ret wl h0 sf T h k n) {i : Fin 4} {v : Int32} (hd : decode bytes pc = .ok (.iload_n i, 1)) (hl : Ls[i.val]? = some (.val (.int v))) (nx : Go p.tables e below F (T.setTop (mkF m (pc + 1) Ls (.int v :: S)))) : Go p.tables e below F (T.setTop (mkF m pc Ls S)) := goS (fun t q => XS.iloadN w.here w.exec rfl (w.bt hd) hl q) nx
theorem g_aload (w : OW p l e R s m args below meth c Z a0 EL own nm bytes maxL ret wl h0 sf T h k n) {i : Nat} {v : Value} (hd : decode bytes pc = .ok (.aload i, 2)) (hl : Ls[i]? = some (.val v)) (hv : v.isRef = true) (nx : Go p.tables e below F (T.setTop (mkF m (pc + 2) Ls (v :: S)))) : Go p.tables e below F (T.setTop (mkF m pc Ls S)) := goS (fun t q => XS.aload w.here w.exec rfl (w.bt hd) hl hv q) nx
theorem g_aloadN (w : OW p l e R s m args below meth c Z a0 EL own nm bytes maxL ret wl h0 sf T h k n) {i : Fin 4} {v : Value} (hd : decode bytes pc = .ok (.aload_n i, 1)) (hl : Ls[i.val]? = some (.val v)) (hv : v.isRef = true) (nx : Go p.tables e below F (T.setTop (mkF m (pc + 1) Ls (v :: S)))) : Go p.tables e below F (T.setTop (mkF m pc Ls S)) := goS (fun t q => XS.aloadN w.here w.exec rfl (w.bt hd) hl hv q) nx
theorem g_lload (w : OW p l e R s m args below meth c Z a0 EL own nm bytes maxL ret wl h0 sf T h k n) {i : Nat} {v : Int64} (hd : decode bytes pc = .ok (.lload i, 2)) (hl : Ls[i]? = some (.val (.long v))) (nx : Go p.tables e below F (T.setTop (mkF m (pc + 2) Ls (.long v :: S)))) : Go p.tables e below F (T.setTop (mkF m pc Ls S)) := goS (fun t q => XS.lload w.here w.exec rfl (w.bt hd) hl q) nx
theorem g_lloadN (w : OW p l e R s m args below meth c Z a0 EL own nm bytes maxL ret wl h0 sf T h k n) {i : Fin 4} {v : Int64} (hd : decode bytes pc = .ok (.lload_n i, 1)) (hl : Ls[i.val]? = some (.val (.long v))) (nx : Go p.tables e below F (T.setTop (mkF m (pc + 1) Ls (.long v :: S)))) : Go p.tables e below F (T.setTop (mkF m pc Ls S)) := goS (fun t q => XS.lloadN w.here w.exec rfl (w.bt hd) hl q) nx
theorem g_istore (w : OW p l e R s m args below meth c Z a0 EL own nm bytes maxL ret wl h0 sf T h k n) {i : Nat} {x : Int32} {l' : Array Slot} (hd : decode bytes pc = .ok (.istore i, 2)) (hl : storeLocals Ls i (.int x) = some l') (nx : Go p.tables e below F (T.setTop (mkF m (pc + 2) l' S))) : Go p.tables e below F (T.setTop (mkF m pc Ls (.int x :: S))) := goS (fun t q => XS.istore w.here w.exec rfl (w.bt hd) rfl hl q) nx
theorem g_istoreN (w : OW p l e R s m args below meth c Z a0 EL own nm bytes maxL ret wl h0 sf T h k n) {i : Fin 4} {x : Int32} {l' : Array Slot} (hd : decode bytes pc = .ok (.istore_n i, 1)) (hl : storeLocals Ls i.val (.int x) = some l') (nx : Go p.tables e below F (T.setTop (mkF m (pc + 1) l' S))) : Go p.tables e below F (T.setTop (mkF m pc Ls (.int x :: S))) := goS (fun t q => XS.istoreN w.here w.exec rfl (w.bt hd) rfl hl q) nx
theorem g_astore (w : OW p l e R s m args below meth c Z a0 EL own nm bytes maxL ret wl h0 sf T h k n) {i : Nat} {x : Value} {l' : Array Slot} (hd : decode bytes pc = .ok (.astore i, 2)) (hv : x.isRef = true) (hl : storeLocals Ls i x = some l') (nx : Go p.tables e below F (T.setTop (mkF m (pc + 2) l' S))) : Go p.tables e below F (T.setTop (mkF m pc Ls (x :: S))) := goS (fun t q => XS.astore w.here w.exec rfl (w.bt hd) rfl hv hl q) nx
theorem g_astoreN (w : OW p l e R s m args below meth c Z a0 EL own nm bytes maxL ret wl h0 sf T h k n) {i : Fin 4} {x : Value} {l' : Array Slot} (hd : decode bytes pc = .ok (.astore_n i, 1)) (hv : x.isRef = true) (hl : storeLocals Ls i.val x = some l') (nx : Go p.tables e below F (T.setTop (mkF m (pc + 1) l' S))) : Go p.tables e below F (T.setTop (mkF m pc Ls (x :: S))) := goS (fun t q => XS.astoreN w.here w.exec rfl (w.bt hd) rfl hv hl q) nx
theorem g_lstore (w : OW p l e R s m args below meth c Z a0 EL own nm bytes maxL ret wl h0 sf T h k n) {i : Nat} {x : Int64} {l' : Array Slot} (hd : decode bytes pc = .ok (.lstore i, 2)) (hl : storeLocals Ls i (.long x) = some l') (nx : Go p.tables e below F (T.setTop (mkF m (pc + 2) l' S))) : Go p.tables e below F (T.setTop (mkF m pc Ls (.long x :: S))) := goS (fun t q => XS.lstore w.here w.exec rfl (w.bt hd) rfl hl q) nx
theorem g_lstoreN (w : OW p l e R s m args below meth c Z a0 EL own nm bytes maxL ret wl h0 sf T h k n) {i : Fin 4} {x : Int64} {l' : Array Slot} (hd : decode bytes pc = .ok (.lstore_n i, 1)) (hl : storeLocals Ls i.val (.long x) = some l') (nx : Go p.tables e below F (T.setTop (mkF m (pc + 1) l' S))) : Go p.tables e below F (T.setTop (mkF m pc Ls (.long x :: S))) := goS (fun t q => XS.lstoreN w.here w.exec rfl (w.bt hd) rfl hl q) nx
theorem g_iconst (w : OW p l e R s m args below meth c Z a0 EL own nm bytes maxL ret wl h0 sf T h k n) {i : Int} {z : Int32} (hd : decode bytes pc = .ok (.iconst i, 1)) (hz : Int32.ofInt i = z) (nx : Go p.tables e below F (T.setTop (mkF m (pc + 1) Ls (.int z :: S)))) : Go p.tables e below F (T.setTop (mkF m pc Ls S)) := goS (fun t q => XS.iconst w.here w.exec rfl (w.bt hd) (by rw [hz]; exact q)) nx
theorem g_bipush (w : OW p l e R s m args below meth c Z a0 EL own nm bytes maxL ret wl h0 sf T h k n) {i : Int} {z : Int32} (hd : decode bytes pc = .ok (.bipush i, 2)) (hz : (Int8.ofInt i).toInt32 = z) (nx : Go p.tables e below F (T.setTop (mkF m (pc + 2) Ls (.int z :: S)))) : Go p.tables e below F (T.setTop (mkF m pc Ls S)) := goS (fun t q => XS.bipush w.here w.exec rfl (w.bt hd) (by rw [hz]; exact q)) nx
theorem g_sipush (w : OW p l e R s m args below meth c Z a0 EL own nm bytes maxL ret wl h0 sf T h k n) {i : Int} {z : Int32} (hd : decode bytes pc = .ok (.sipush i, 3)) (hz : (Int16.ofInt i).toInt32 = z) (nx : Go p.tables e below F (T.setTop (mkF m (pc + 3) Ls (.int z :: S)))) : Go p.tables e below F (T.setTop (mkF m pc Ls S)) := goS (fun t q => XS.sipush w.here w.exec rfl (w.bt hd) (by rw [hz]; exact q)) nx
theorem g_lconst (w : OW p l e R s m args below meth c Z a0 EL own nm bytes maxL ret wl h0 sf T h k n) {i : Fin 2} {z : Int64} (hd : decode bytes pc = .ok (.lconst i, 1)) (hz : Int64.ofNat i = z) (nx : Go p.tables e below F (T.setTop (mkF m (pc + 1) Ls (.long z :: S)))) : Go p.tables e below F (T.setTop (mkF m pc Ls S)) := goS (fun t q => XS.lconst w.here w.exec rfl (w.bt hd) (by rw [hz]; exact q)) nx
theorem g_aconstNull (w : OW p l e R s m args below meth c Z a0 EL own nm bytes maxL ret wl h0 sf T h k n)  (hd : decode bytes pc = .ok (.aconst_null, 1))  (nx : Go p.tables e below F (T.setTop (mkF m (pc + 1) Ls (.null :: S)))) : Go p.tables e below F (T.setTop (mkF m pc Ls S)) := goS (fun t q => XS.aconstNull w.here w.exec rfl (w.bt hd) q) nx
theorem g_iadd (w : OW p l e R s m args below meth c Z a0 EL own nm bytes maxL ret wl h0 sf T h k n) {x y : Int32} (hd : decode bytes pc = .ok (.iadd, 1))  (nx : Go p.tables e below F (T.setTop (mkF m (pc + 1) Ls (.int (x + y) :: S)))) : Go p.tables e below F (T.setTop (mkF m pc Ls (.int y :: .int x :: S))) := goS (fun t q => XS.iadd w.here w.exec rfl (w.bt hd) rfl q) nx
theorem g_isub (w : OW p l e R s m args below meth c Z a0 EL own nm bytes maxL ret wl h0 sf T h k n) {x y : Int32} (hd : decode bytes pc = .ok (.isub, 1))  (nx : Go p.tables e below F (T.setTop (mkF m (pc + 1) Ls (.int (x - y) :: S)))) : Go p.tables e below F (T.setTop (mkF m pc Ls (.int y :: .int x :: S))) := goS (fun t q => XS.isub w.here w.exec rfl (w.bt hd) rfl q) nx
theorem g_imul (w : OW p l e R s m args below meth c Z a0 EL own nm bytes maxL ret wl h0 sf T h k n) {x y : Int32} (hd : decode bytes pc = .ok (.imul, 1))  (nx : Go p.tables e below F (T.setTop (mkF m (pc + 1) Ls (.int (x * y) :: S)))) : Go p.tables e below F (T.setTop (mkF m pc Ls (.int y :: .int x :: S))) := goS (fun t q => XS.imul w.here w.exec rfl (w.bt hd) rfl q) nx
theorem g_iand (w : OW p l e R s m args below meth c Z a0 EL own nm bytes maxL ret wl h0 sf T h k n) {x y : Int32} (hd : decode bytes pc = .ok (.iand, 1))  (nx : Go p.tables e below F (T.setTop (mkF m (pc + 1) Ls (.int (x &&& y) :: S)))) : Go p.tables e below F (T.setTop (mkF m pc Ls (.int y :: .int x :: S))) := goS (fun t q => XS.iand w.here w.exec rfl (w.bt hd) rfl q) nx
theorem g_ior (w : OW p l e R s m args below meth c Z a0 EL own nm bytes maxL ret wl h0 sf T h k n) {x y : Int32} (hd : decode bytes pc = .ok (.ior, 1))  (nx : Go p.tables e below F (T.setTop (mkF m (pc + 1) Ls (.int (x ||| y) :: S)))) : Go p.tables e below F (T.setTop (mkF m pc Ls (.int y :: .int x :: S))) := goS (fun t q => XS.ior w.here w.exec rfl (w.bt hd) rfl q) nx
theorem g_ixor (w : OW p l e R s m args below meth c Z a0 EL own nm bytes maxL ret wl h0 sf T h k n) {x y : Int32} (hd : decode bytes pc = .ok (.ixor, 1))  (nx : Go p.tables e below F (T.setTop (mkF m (pc + 1) Ls (.int (x ^^^ y) :: S)))) : Go p.tables e below F (T.setTop (mkF m pc Ls (.int y :: .int x :: S))) := goS (fun t q => XS.ixor w.here w.exec rfl (w.bt hd) rfl q) nx
theorem g_ishl (w : OW p l e R s m args below meth c Z a0 EL own nm bytes maxL ret wl h0 sf T h k n) {x y : Int32} (hd : decode bytes pc = .ok (.ishl, 1))  (nx : Go p.tables e below F (T.setTop (mkF m (pc + 1) Ls (.int (x <<< (y &&& 31)) :: S)))) : Go p.tables e below F (T.setTop (mkF m pc Ls (.int y :: .int x :: S))) := goS (fun t q => XS.ishl w.here w.exec rfl (w.bt hd) rfl q) nx
theorem g_ishr (w : OW p l e R s m args below meth c Z a0 EL own nm bytes maxL ret wl h0 sf T h k n) {x y : Int32} (hd : decode bytes pc = .ok (.ishr, 1))  (nx : Go p.tables e below F (T.setTop (mkF m (pc + 1) Ls (.int (x >>> (y &&& 31)) :: S)))) : Go p.tables e below F (T.setTop (mkF m pc Ls (.int y :: .int x :: S))) := goS (fun t q => XS.ishr w.here w.exec rfl (w.bt hd) rfl q) nx
theorem g_iushr (w : OW p l e R s m args below meth c Z a0 EL own nm bytes maxL ret wl h0 sf T h k n) {x y : Int32} (hd : decode bytes pc = .ok (.iushr, 1))  (nx : Go p.tables e below F (T.setTop (mkF m (pc + 1) Ls (.int ((x.toUInt32 >>> (y &&& 31).toUInt32).toInt32) :: S)))) : Go p.tables e below F (T.setTop (mkF m pc Ls (.int y :: .int x :: S))) := goS (fun t q => XS.iushr w.here w.exec rfl (w.bt hd) rfl q) nx
theorem g_ladd (w : OW p l e R s m args below meth c Z a0 EL own nm bytes maxL ret wl h0 sf T h k n) {x y : Int64} (hd : decode bytes pc = .ok (.ladd, 1))  (nx : Go p.tables e below F (T.setTop (mkF m (pc + 1) Ls (.long (x + y) :: S)))) : Go p.tables e below F (T.setTop (mkF m pc Ls (.long y :: .long x :: S))) := goS (fun t q => XS.ladd w.here w.exec rfl (w.bt hd) rfl q) nx
theorem g_lsub (w : OW p l e R s m args below meth c Z a0 EL own nm bytes maxL ret wl h0 sf T h k n) {x y : Int64} (hd : decode bytes pc = .ok (.lsub, 1))  (nx : Go p.tables e below F (T.setTop (mkF m (pc + 1) Ls (.long (x - y) :: S)))) : Go p.tables e below F (T.setTop (mkF m pc Ls (.long y :: .long x :: S))) := goS (fun t q => XS.lsub w.here w.exec rfl (w.bt hd) rfl q) nx
theorem g_lmul (w : OW p l e R s m args below meth c Z a0 EL own nm bytes maxL ret wl h0 sf T h k n) {x y : Int64} (hd : decode bytes pc = .ok (.lmul, 1))  (nx : Go p.tables e below F (T.setTop (mkF m (pc + 1) Ls (.long (x * y) :: S)))) : Go p.tables e below F (T.setTop (mkF m pc Ls (.long y :: .long x :: S))) := goS (fun t q => XS.lmul w.here w.exec rfl (w.bt hd) rfl q) nx
theorem g_land (w : OW p l e R s m args below meth c Z a0 EL own nm bytes maxL ret wl h0 sf T h k n) {x y : Int64} (hd : decode bytes pc = .ok (.land, 1))  (nx : Go p.tables e below F (T.setTop (mkF m (pc + 1) Ls (.long (x &&& y) :: S)))) : Go p.tables e below F (T.setTop (mkF m pc Ls (.long y :: .long x :: S))) := goS (fun t q => XS.land w.here w.exec rfl (w.bt hd) rfl q) nx
theorem g_lor (w : OW p l e R s m args below meth c Z a0 EL own nm bytes maxL ret wl h0 sf T h k n) {x y : Int64} (hd : decode bytes pc = .ok (.lor, 1))  (nx : Go p.tables e below F (T.setTop (mkF m (pc + 1) Ls (.long (x ||| y) :: S)))) : Go p.tables e below F (T.setTop (mkF m pc Ls (.long y :: .long x :: S))) := goS (fun t q => XS.lor w.here w.exec rfl (w.bt hd) rfl q) nx
theorem g_lxor (w : OW p l e R s m args below meth c Z a0 EL own nm bytes maxL ret wl h0 sf T h k n) {x y : Int64} (hd : decode bytes pc = .ok (.lxor, 1))  (nx : Go p.tables e below F (T.setTop (mkF m (pc + 1) Ls (.long (x ^^^ y) :: S)))) : Go p.tables e below F (T.setTop (mkF m pc Ls (.long y :: .long x :: S))) := goS (fun t q => XS.lxor w.here w.exec rfl (w.bt hd) rfl q) nx
theorem g_lshl (w : OW p l e R s m args below meth c Z a0 EL own nm bytes maxL ret wl h0 sf T h k n) {x : Int64} {y : Int32} (hd : decode bytes pc = .ok (.lshl, 1))  (nx : Go p.tables e below F (T.setTop (mkF m (pc + 1) Ls (.long (x <<< (y &&& 0x3f).toInt64) :: S)))) : Go p.tables e below F (T.setTop (mkF m pc Ls (.int y :: .long x :: S))) := goS (fun t q => XS.lshl w.here w.exec rfl (w.bt hd) rfl q) nx
theorem g_lshr (w : OW p l e R s m args below meth c Z a0 EL own nm bytes maxL ret wl h0 sf T h k n) {x : Int64} {y : Int32} (hd : decode bytes pc = .ok (.lshr, 1))  (nx : Go p.tables e below F (T.setTop (mkF m (pc + 1) Ls (.long (x >>> (y &&& 0x3f).toInt64) :: S)))) : Go p.tables e below F (T.setTop (mkF m pc Ls (.int y :: .long x :: S))) := goS (fun t q => XS.lshr w.here w.exec rfl (w.bt hd) rfl q) nx
theorem g_lushr (w : OW p l e R s m args below meth c Z a0 EL own nm bytes maxL ret wl h0 sf T h k n) {x : Int64} {y : Int32} (hd : decode bytes pc = .ok (.lushr, 1))  (nx : Go p.tables e below F (T.setTop (mkF m (pc + 1) Ls (.long ((x.toUInt64 >>> (y &&& 0x3f).toInt64.toUInt64).toInt64) :: S)))) : Go p.tables e below F (T.setTop (mkF m pc Ls (.int y :: .long x :: S))) := goS (fun t q => XS.lushr w.here w.exec rfl (w.bt hd) rfl q) nx
theorem g_lcmp (w : OW p l e R s m args below meth c Z a0 EL own nm bytes maxL ret wl h0 sf T h k n) {x y : Int64} (hd : decode bytes pc = .ok (.lcmp, 1))  (nx : Go p.tables e below F (T.setTop (mkF m (pc + 1) Ls (.int (lcmpW x y) :: S)))) : Go p.tables e below F (T.setTop (mkF m pc Ls (.long y :: .long x :: S))) := goS (fun t q => XS.lcmp w.here w.exec rfl (w.bt hd) rfl q) nx
theorem g_idiv (w : OW p l e R s m args below meth c Z a0 EL own nm bytes maxL ret wl h0 sf T h k n) {x y : Int32} (hd : decode bytes pc = .ok (.idiv, 1)) (hy : y ≠ 0) (nx : Go p.tables e below F (T.setTop (mkF m (pc + 1) Ls (.int (x / y) :: S)))) : Go p.tables e below F (T.setTop (mkF m pc Ls (.int y :: .int x :: S))) := goS (fun t q => XS.idiv w.here w.exec rfl (w.bt hd) rfl hy q) nx
theorem g_ldiv (w : OW p l e R s m args below meth c Z a0 EL own nm bytes maxL ret wl h0 sf T h k n) {x y : Int64} (hd : decode bytes pc = .ok (.ldiv, 1)) (hy : y ≠ 0) (nx : Go p.tables e below F (T.setTop (mkF m (pc + 1) Ls (.long (x / y) :: S)))) : Go p.tables e below F (T.setTop (mkF m pc Ls (.long y :: .long x :: S))) := goS (fun t q => XS.ldiv w.here w.exec rfl (w.bt hd) rfl hy q) nx
theorem g_lrem (w : OW p l e R s m args below meth c Z a0 EL own nm bytes maxL ret wl h0 sf T h k n) {x y : Int64} (hd : decode bytes pc = .ok (.lrem, 1)) (hy : y ≠ 0) (nx : Go p.tables e below F (T.setTop (mkF m (pc + 1) Ls (.long (x - (x / y) * y) :: S)))) : Go p.tables e below F (T.setTop (mkF m pc Ls (.long y :: .long x :: S))) := goS (fun t q => XS.lrem w.here w.exec rfl (w.bt hd) rfl hy q) nx
theorem g_irem (w : OW p l e R s m args below meth c Z a0 EL own nm bytes maxL ret wl h0 sf T h k n) {x y : Int32} (hd : decode bytes pc = .ok (.irem, 1)) (hy : y ≠ 0) (nx : Go p.tables e below F (T.setTop (mkF m (pc + 1) Ls (.int (x % y) :: S)))) : Go p.tables e below F (T.setTop (mkF m pc Ls (.int y :: .int x :: S))) := by
  have hx := w.exec
  have hd' := w.bt hd
  obtain ⟨-, vm0, k0, L, X, -⟩ := w
  exact goS (fun t q => iremM X hx rfl hd' rfl hy q) nx
theorem g_ineg (w : OW p l e R s m args below meth c Z a0 EL own nm bytes maxL ret wl h0 sf T h k n) {x : Int32} (hd : decode bytes pc = .ok (.ineg, 1))  (nx : Go p.tables e below F (T.setTop (mkF m (pc + 1) Ls (.int (-x) :: S)))) : Go p.tables e below F (T.setTop (mkF m pc Ls (.int x :: S))) := goS (fun t q => XS.ineg w.here w.exec rfl (w.bt hd) rfl q) nx
theorem g_lneg (w : OW p l e R s m args below meth c Z a0 EL own nm bytes maxL ret wl h0 sf T h k n) {x : Int64} (hd : decode bytes pc = .ok (.lneg, 1))  (nx : Go p.tables e below F (T.setTop (mkF m (pc + 1) Ls (.long (-x) :: S)))) : Go p.tables e below F (T.setTop (mkF m pc Ls (.long x :: S))) := goS (fun t q => XS.lneg w.here w.exec rfl (w.bt hd) rfl q) nx
theorem g_i2l (w : OW p l e R s m args below meth c Z a0 EL own nm bytes maxL ret wl h0 sf T h k n) {x : Int32} (hd : decode bytes pc = .ok (.i2l, 1))  (nx : Go p.tables e below F (T.setTop (mkF m (pc + 1) Ls (.long (x.toInt64) :: S)))) : Go p.tables e below F (T.setTop (mkF m pc Ls (.int x :: S))) := goS (fun t q => XS.i2l w.here w.exec rfl (w.bt hd) rfl q) nx
theorem g_l2i (w : OW p l e R s m args below meth c Z a0 EL own nm bytes maxL ret wl h0 sf T h k n) {x : Int64} (hd : decode bytes pc = .ok (.l2i, 1))  (nx : Go p.tables e below F (T.setTop (mkF m (pc + 1) Ls (.int (x.toInt32) :: S)))) : Go p.tables e below F (T.setTop (mkF m pc Ls (.long x :: S))) := goS (fun t q => XS.l2i w.here w.exec rfl (w.bt hd) rfl q) nx
theorem g_i2b (w : OW p l e R s m args below meth c Z a0 EL own nm bytes maxL ret wl h0 sf T h k n) {x : Int32} (hd : decode bytes pc = .ok (.i2b, 1))  (nx : Go p.tables e below F (T.setTop (mkF m (pc + 1) Ls (.int (x.toInt8.toInt32) :: S)))) : Go p.tables e below F (T.setTop (mkF m pc Ls (.int x :: S))) := goS (fun t q => XS.i2b w.here w.exec rfl (w.bt hd) rfl q) nx
theorem g_i2c (w : OW p l e R s m args below meth c Z a0 EL own nm bytes maxL ret wl h0 sf T h k n) {x : Int32} (hd : decode bytes pc = .ok (.i2c, 1))  (nx : Go p.tables e below F (T.setTop (mkF m (pc + 1) Ls (.int (x.toUInt32.toUInt16.toUInt32.toInt32) :: S)))) : Go p.tables e below F (T.setTop (mkF m pc Ls (.int x :: S))) := goS (fun t q => XS.i2c w.here w.exec rfl (w.bt hd) rfl q) nx
theorem g_i2s (w : OW p l e R s m args below meth c Z a0 EL own nm bytes maxL ret wl h0 sf T h k n) {x : Int32} (hd : decode bytes pc = .ok (.i2s, 1))  (nx : Go p.tables e below F (T.setTop (mkF m (pc + 1) Ls (.int (x.toInt16.toInt32) :: S)))) : Go p.tables e below F (T.setTop (mkF m pc Ls (.int x :: S))) := goS (fun t q => XS.i2s w.here w.exec rfl (w.bt hd) rfl q) nx
theorem g_iinc (w : OW p l e R s m args below meth c Z a0 EL own nm bytes maxL ret wl h0 sf T h k n) {i : Nat} {cst : Int} {x z : Int32} {l' : Array Slot} (hd : decode bytes pc = .ok (.iinc i cst, 3)) (hl : Ls[i]? = some (.val (.int x))) (hz : x + Int32.ofInt cst = z) (hl' : storeLocals Ls i (.int z) = some l') (nx : Go p.tables e below F (T.setTop (mkF m (pc + 3) l' S))) : Go p.tables e below F (T.setTop (mkF m pc Ls S)) := goS (fun t q => XS.iinc w.here w.exec rfl (w.bt hd) hl (by rw [hz]; exact hl') q) nx
theorem g_pop (w : OW p l e R s m args below meth c Z a0 EL own nm bytes maxL ret wl h0 sf T h k n) {x : Value} (hd : decode bytes pc = .ok (.pop, 1)) (hc : x.category = 1) (nx : Go p.tables e below F (T.setTop (mkF m (pc + 1) Ls S))) : Go p.tables e below F (T.setTop (mkF m pc Ls (x :: S))) := goS (fun t q => XS.pop w.here w.exec rfl (w.bt hd) rfl hc q) nx
theorem g_dup (w : OW p l e R s m args below meth c Z a0 EL own nm bytes maxL ret wl h0 sf T h k n) {x : Value} (hd : decode bytes pc = .ok (.dup, 1)) (hc : x.category = 1) (nx : Go p.tables e below F (T.setTop (mkF m (pc + 1) Ls (x :: x :: S)))) : Go p.tables e below F (T.setTop (mkF m pc Ls (x :: S))) := goS (fun t q => XS.dup w.here w.exec rfl (w.bt hd) rfl hc q) nx
theorem g_dupX1 (w : OW p l e R s m args below meth c Z a0 EL own nm bytes maxL ret wl h0 sf T h k n) {x y : Value} (hd : decode bytes pc = .ok (.dup_x1, 1)) (hc : x.category = 1) (hc' : y.category = 1) (nx : Go p.tables e below F (T.setTop (mkF m (pc + 1) Ls (x :: y :: x :: S)))) : Go p.tables e below F (T.setTop (mkF m pc Ls (x :: y :: S))) := goS (fun t q => XS.dupX1 w.here w.exec rfl (w.bt hd) rfl hc hc' q) nx
theorem g_dup2 (w : OW p l e R s m args below meth c Z a0 EL own nm bytes maxL ret wl h0 sf T h k n) {x y : Value} (hd : decode bytes pc = .ok (.dup2, 1)) (hc : x.category = 1) (hc' : y.category = 1) (nx : Go p.tables e below F (T.setTop (mkF m (pc + 1) Ls (x :: y :: x :: y :: S)))) : Go p.tables e below F (T.setTop (mkF m pc Ls (x :: y :: S))) := goS (fun t q => Jvm.Free.XT.dup2 w.here w.exec rfl (w.bt hd) rfl hc hc' q) nx
theorem g_dup2L (w : OW p l e R s m args below meth c Z a0 EL own nm bytes maxL ret wl h0 sf T h k n) {x : Int64} (hd : decode bytes pc = .ok (.dup2, 1))  (nx : Go p.tables e below F (T.setTop (mkF m (pc + 1) Ls (.long x :: .long x :: S)))) : Go p.tables e below F (T.setTop (mkF m pc Ls (.long x :: S))) := goS (fun t q => Jvm.Free.XT.dup2L w.here w.exec rfl (w.bt hd) rfl q) nx
theorem g_goto (w : OW p l e R s m args below meth c Z a0 EL own nm bytes maxL ret wl h0 sf T h k n)  {o : Int} {pc' : Nat} (hd : decode bytes pc = .ok (.goto o, 3))  (ho : 0 ≤ (pc : Int) + o) (hp : ((pc : Int) + o).toNat = pc') (nx : Go p.tables e below F (T.setTop (mkF m pc' Ls S))) : Go p.tables e below F (T.setTop (mkF m pc Ls S)) := goS (fun t q => XS.goto w.here w.exec rfl rfl (w.bt hd) ho hp q) nx
theorem g_ifYes (w : OW p l e R s m args below meth c Z a0 EL own nm bytes maxL ret wl h0 sf T h k n) {cd : ClassFile.Cond} {x : Int32} {o : Int} {pc' : Nat} (hd : decode bytes pc = .ok (.ifCond cd o, 3)) (hc : ifCond.holds cd x = true) (ho : 0 ≤ (pc : Int) + o) (hp : ((pc : Int) + o).toNat = pc') (nx : Go p.tables e below F (T.setTop (mkF m pc' Ls S))) : Go p.tables e below F (T.setTop (mkF m pc Ls (.int x :: S))) := goS (fun t q => XS.ifYes w.here w.exec rfl rfl (w.bt hd) rfl hc ho hp q) nx
theorem g_ifNo (w : OW p l e R s m args below meth c Z a0 EL own nm bytes maxL ret wl h0 sf T h k n) {cd : ClassFile.Cond} {x : Int32} {o : Int} (hd : decode bytes pc = .ok (.ifCond cd o, 3)) (hc : ifCond.holds cd x = false) (nx : Go p.tables e below F (T.setTop (mkF m (pc + 3) Ls S))) : Go p.tables e below F (T.setTop (mkF m pc Ls (.int x :: S))) := goS (fun t q => XS.ifNo w.here w.exec rfl (w.bt hd) rfl hc q) nx
theorem g_icmpYes (w : OW p l e R s m args below meth c Z a0 EL own nm bytes maxL ret wl h0 sf T h k n) {cd : ClassFile.Cond} {x y : Int32} {o : Int} {pc' : Nat} (hd : decode bytes pc = .ok (.if_icmp cd o, 3)) (hc : if_icmp.holds cd x y = true) (ho : 0 ≤ (pc : Int) + o) (hp : ((pc : Int) + o).toNat = pc') (nx : Go p.tables e below F (T.setTop (mkF m pc' Ls S))) : Go p.tables e below F (T.setTop (mkF m pc Ls (.int y :: .int x :: S))) := goS (fun t q => XS.icmpYes w.here w.exec rfl rfl (w.bt hd) rfl hc ho hp q) nx
theorem g_icmpNo (w : OW p l e R s m args below meth c Z a0 EL own nm bytes maxL ret wl h0 sf T h k n) {cd : ClassFile.Cond} {x y : Int32} {o : Int} (hd : decode bytes pc = .ok (.if_icmp cd o, 3)) (hc : if_icmp.holds cd x y = false) (nx : Go p.tables e below F (T.setTop (mkF m (pc + 3) Ls S))) : Go p.tables e below F (T.setTop (mkF m pc Ls (.int y :: .int x :: S))) := goS (fun t q => XS.icmpNo w.here w.exec rfl (w.bt hd) rfl hc q) nx
theorem g_ifnullYes (w : OW p l e R s m args below meth c Z a0 EL own nm bytes maxL ret wl h0 sf T h k n)  {o : Int} {pc' : Nat} (hd : decode bytes pc = .ok (.ifnull o, 3))  (ho : 0 ≤ (pc : Int) + o) (hp : ((pc : Int) + o).toNat = pc') (nx : Go p.tables e below F (T.setTop (mkF m pc' Ls S))) : Go p.tables e below F (T.setTop (mkF m pc Ls (.null :: S))) := goS (fun t q => XS.ifnullYes w.here w.exec rfl rfl (w.bt hd) rfl ho hp q) nx
theorem g_ifnullNo (w : OW p l e R s m args below meth c Z a0 EL own nm bytes maxL ret wl h0 sf T h k n) {b : Addr} {o : Int} (hd : decode bytes pc = .ok (.ifnull o, 3))  (nx : Go p.tables e below F (T.setTop (mkF m (pc + 3) Ls S))) : Go p.tables e below F (T.setTop (mkF m pc Ls (.ref b :: S))) := goS (fun t q => XS.ifnullNo w.here w.exec rfl (w.bt hd) rfl q) nx
theorem g_ifnonnullYes (w : OW p l e R s m args below meth c Z a0 EL own nm bytes maxL ret wl h0 sf T h k n) {b : Addr} {o : Int} {pc' : Nat} (hd : decode bytes pc = .ok (.ifnonnull o, 3))  (ho : 0 ≤ (pc : Int) + o) (hp : ((pc : Int) + o).toNat = pc') (nx : Go p.tables e below F (T.setTop (mkF m pc' Ls S))) : Go p.tables e below F (T.setTop (mkF m pc Ls (.ref b :: S))) := goS (fun t q => XS.ifnonnullYes w.here w.exec rfl rfl (w.bt hd) rfl ho hp q) nx
theorem g_ifnonnullNo (w : OW p l e R s m args below meth c Z a0 EL own nm bytes maxL ret wl h0 sf T h k n) {o : Int} (hd : decode bytes pc = .ok (.ifnonnull o, 3))  (nx : Go p.tables e below F (T.setTop (mkF m (pc + 3) Ls S))) : Go p.tables e below F (T.setTop (mkF m pc Ls (.null :: S))) := goS (fun t q => XS.ifnonnullNo w.here w.exec rfl (w.bt hd) rfl q) nx
theorem g_acmp (w : OW p l e R s m args below meth c Z a0 EL own nm bytes maxL ret wl h0 sf T h k n) {cd : ACond} {o : Int} {x y : Value} {pc' : Nat} {same : Bool} (hd : decode bytes pc = .ok (.if_acmp cd o, 3)) (h1 : x.isRef = true) (h2 : y.isRef = true) (hq : decide (x = y) = same) (ho : 0 ≤ (pc : Int) + o) (hp : pc' = if acV cd same = true then ((pc : Int) + o).toNat else pc + 3) (nx : Go p.tables e below F (T.setTop (mkF m pc' Ls S))) : Go p.tables e below F (T.setTop (mkF m pc Ls (y :: x :: S))) := by
  have hx := w.exec
  have hd' := w.bt hd
  obtain ⟨-, vm0, k0, L, X, -⟩ := w
  exact goS (fun t q => acmp X hx rfl h1 h2 rfl hd' rfl hq ho hp q) nx

theorem narrow_refv {t : FieldType} {v : Value} (ht : t.isReference = true) (hv : v.isRef = true) : narrow t v = v := by cases t <;> first | (cases ht; done) | (cases v <;> first | rfl | (cases hv; done))
theorem fits_refv {t : FieldType} {v : Value} (ht : t.isReference = true) (hv : v.isRef = true) : fits t v = true := by cases t <;> first | (cases ht; done) | (cases v <;> first | rfl | (cases hv; done))
/-! arrays, whole -/
def AR (Z : State) (h : Heap) (a : Addr) (ty : FieldType) (vs : List Value) : Prop := ∃ c : Cell, Arr Z h a c ty ∧ c.slots.toList = vs ∧ vs.length < 2147483648 ∧ ∀ v ∈ vs, fits ty v = true
abbrev AI (Z : State) (h : Heap) (a : Addr) (ty : FieldType) (xs : List Int32) : Prop := AR Z h a ty (xs.map Value.int)
theorem AR.ext {a : Addr} {ty : FieldType} {vs : List Value} {h' : Heap} (A : AR Z h a ty vs) (E : Ext h h') : AR Z h' a ty vs := by obtain ⟨c, A, r⟩ := A; exact ⟨c, A.ext E, r⟩
theorem AR.keep {a : Addr} {ty : FieldType} {vs : List Value} {h' : Heap} {ws : List Addr} (A : AR Z h a ty vs) (K : Keep h h' ws) (q : a ∉ ws) : AR Z h' a ty vs := by obtain ⟨c, A, r⟩ := A; exact ⟨c, ⟨K.2.1 a c A.1 q, A.2⟩, r⟩
theorem AR.other {a b : Addr} {ty : FieldType} {vs : List Value} {h' : Heap} {sl : Nat} {v : Value} (A : AR Z h b ty vs) (W : Wr h h' a sl v) (q : b ≠ a) : AR Z h' b ty vs := by obtain ⟨c, A, r⟩ := A; exact ⟨c, A.other W q, r⟩
theorem AR.lt {a : Addr} {ty : FieldType} {vs : List Value} (A : AR Z h a ty vs) : a < h.size := by obtain ⟨c, A, -⟩ := A; exact A.lt
theorem AR.len {a : Addr} {ty : FieldType} {vs : List Value} (A : AR Z h a ty vs) : vs.length < 2147483648 := by obtain ⟨c, -, -, r, -⟩ := A; exact r
theorem AR.fit {a : Addr} {ty : FieldType} {vs : List Value} (A : AR Z h a ty vs) : ∀ v ∈ vs, fits ty v = true := by obtain ⟨c, -, -, -, r⟩ := A; exact r
theorem AR.of_new {a : Addr} {ty : FieldType} {cA : ClassId} {z : Int32} (A : Arr Z h a (newA cA ty z) ty) (hz : ¬ z < 0) (hf : fits ty (defaultValue ty) = true) : AR Z h a ty (List.replicate z.toNatClampNeg (defaultValue ty)) := by
  refine ⟨_, A, ?_, ?_, ?_⟩
  · simp [newA]
  · have := (back32 hz).2; simp; omega
  · intro v hv; rw [List.eq_of_mem_replicate hv]; exact hf
theorem AR.of_arv {a : Addr} {ty : FieldType} {kk : ClassId} {z : Int32} {vs : List Value} {d : Value} (A : Arv Z h a kk ty z vs d) (hl : z.toNatClampNeg = vs.length) : AR Z h a ty vs := by
  obtain ⟨c, A, -, S, N, H, G⟩ := A
  have hs : c.slots.toList = vs := by
    apply List.ext_getElem?
    intro i
    rw [Array.getElem?_toList]
    by_cases hi : i < c.slots.size
    · rw [H i hi]
      have : i < vs.length := by omega
      simp [List.getD_eq_getElem?_getD, List.getElem?_eq_getElem this]
    · rw [Array.getElem?_eq_none (by omega), List.getElem?_eq_none (by omega)]
  refine ⟨c, A, hs, ?_, ?_⟩
  · have := (back32 N).2; omega
  · intro v hv
    obtain ⟨i, hi, rfl⟩ := List.mem_iff_getElem.mp hv
    have q := G i (by omega)
    rwa [List.getD_eq_getElem?_getD, List.getElem?_eq_getElem hi, Option.getD_some] at q
/-- an index inside -/
theorem idx_ok {j : Int32} {N : Nat} {c : Cell} {vs : List Value} (hc : c.slots.toList = vs) (h1 : ¬ j < 0) (h2 : j.toNatClampNeg < vs.length) : ¬ (j < 0 ∨ c.slots.size ≤ j.toNatClampNeg) := by
  have : c.slots.size = vs.length := by rw [← hc]; simp
  rintro (q | q)
  · exact h1 q
  · omega
theorem AR.set {a : Addr} {ty : FieldType} {vs : List Value} {h' : Heap} {i : Nat} {v : Value} (A : AR Z h a ty vs) (W : Wr h h' a i v) (hv : fits ty v = true) : AR Z h' a ty (vs.set i v) := by
  obtain ⟨c, A, hc, hl, hf⟩ := A
  refine ⟨_, A.same W, ?_, by simpa using hl, fun u hu => ?_⟩
  · subst hc; simp [Cell.setSlot]
  · rcases List.mem_or_eq_of_mem_set hu with q | q
    · exact hf u q
    · rw [q]; exact hv
/-! heap steps -/
theorem g_getF (w : OW p l e R s m args below meth c Z a0 EL own nm bytes maxL ret wl h0 sf T h k n) {R0 O f d host : String} {index : Nat} {a : Addr} {v : Value} (lk : (Cond.fieldLink own index R0 f d).before a0 Z = true ∨ (Cond.fieldLinkNest own index R0 f d host).before a0 Z = true) (via : Via Z R0 O f d) (FF : Fld Z h a O f d v)
    (hd : decode bytes pc = .ok (.getfield index, 3)) (nx : ∀ T' : State, OW p l e R s m args below meth c Z a0 EL own nm bytes maxL ret wl h0 sf T' h k n → Go p.tables e below F (T'.setTop (mkF m (pc + 3) Ls (v :: S)))) : Go p.tables e below F (T.setTop (mkF m pc Ls (.ref a :: S))) := by
  obtain ⟨w0, vm0, k0, L, X, g1, g2, g3, g4, g5, g6⟩ := w
  obtain ⟨T', X', e', st⟩ := getF X w0.1 g4 g5 lk via g1 FF (g := mkF m pc Ls (.ref a :: S)) rfl rfl (hb w0.2.1 hd)
  exact goS st (nx T' ⟨w0, vm0, k0, L, X', e', g2, g3, g4, g5, g6⟩)
theorem g_getS (w : OW p l e R s m args below meth c Z a0 EL own nm bytes maxL ret wl h0 sf T h k n) {R0 O f d host : String} {index : Nat} {v : Value} (lk : (Cond.fieldLink own index R0 f d).before a0 Z = true ∨ (Cond.fieldLinkNest own index R0 f d host).before a0 Z = true) (via : Via Z R0 O f d) (FF : Sta Z Z.heap O f d v)
    (hd : decode bytes pc = .ok (.getstatic index, 3)) (nx : ∀ T' : State, OW p l e R s m args below meth c Z a0 EL own nm bytes maxL ret wl h0 sf T' h k n → Go p.tables e below F (T'.setTop (mkF m (pc + 3) Ls (v :: S)))) : Go p.tables e below F (T.setTop (mkF m pc Ls S)) := by
  obtain ⟨w0, vm0, k0, L, X, g1, g2, g3, g4, g5, g6⟩ := w
  obtain ⟨T', X', e', st⟩ := getS2 X w0.1 g4 g5 lk via g1 (FF.ext g6.2.2.2.1) (g := mkF m pc Ls S) rfl (hb w0.2.1 hd)
  exact goS st (nx T' ⟨w0, vm0, k0, L, X', e', g2, g3, g4, g5, g6⟩)
theorem OW.wrote {T' : State} {h' : Heap} {a : Addr} {sl : Nat} {v : Value} (w0 : Cx p meth c Z a0 EL nm bytes maxL ret wl h0) {vm0 : Vm} {k0 : Nat} {L : List Loc} (X : Stand p l e R (s.setVm vm0) m args below meth c T' (L ++ [⟨a, sl⟩]) k n) (e1 : T'.heap = h') (W : Wr h h' a sl v)
    (g2 : s.Since vm0 k0) (g3 : k0 ≤ h.size) (g4 : Z.Warmed39 vm0) (g5 : vm0.findClass own = some m.cls) (g6 : ∀ y ∈ L, y.base ∈ wl ∨ h0.size ≤ y.base) (g7 : Keep h0 h wl) (g8 : CHr Z EL s.vm h0 vm0 h) (gE : Ext Z.heap h) (g9 : ∀ x ∈ sf, x < h.size ∧ Safe Z EL vm0 h x) (ha : a ∈ wl ∨ h0.size ≤ a) (hs : a ∈ sf) :
    OW p l e R s m args below meth c Z a0 EL own nm bytes maxL ret wl h0 sf T' h' k n := by
  have hw := W.size
  refine ⟨w0, vm0, k0, _, X, e1, g2, by rw [hw]; exact g3, g4, g5, ?_, g7.wr W ha, g8.trans (CHr.wr W (g9 a hs).2 g8.1), extKeep gE (Keep.of_wr W) (allS (w0.ge ha) all0), fun x hx => ⟨by rw [hw]; exact (g9 x hx).1, Safe.wr W (g9 a hs).2 g8.1 (g9 x hx).2⟩⟩
  intro y hy
  rcases List.mem_append.mp hy with q | q
  · exact g6 y q
  · cases List.mem_singleton.mp q; exact ha
theorem g_putF (w : OW p l e R s m args below meth c Z a0 EL own nm bytes maxL ret wl h0 sf T h k n) {R0 O f d host C : String} {index kk : Nat} {ty : FieldType} {a : Addr} {v old : Value} (lk : (Cond.fieldLink own index R0 f d).before a0 Z = true ∨ (Cond.fieldLinkNest own index R0 f d host).before a0 Z = true) (via : Via Z R0 O f d) (FF : Fld Z h a O f d old) (E : Exa Z h a C)
    (La : (Cond.lays C O f d).before a0 Z = true ∨ ((Cond.laysFinal C O f d).before a0 Z = true ∧ own = O ∧ nm = "<init>")) (wi : (Cond.instantiable C kk).before a0 Z = true) (hty : parseFieldDescriptor d = some ty) (hn : narrow ty v = v) (hf : fits ty v = true) (ha : a ∈ wl ∨ h0.size ≤ a) (hs : a ∈ sf)
    (hd : decode bytes pc = .ok (.putfield index, 3)) (nx : ∀ (T' : State) (h' : Heap), OW p l e R s m args below meth c Z a0 EL own nm bytes maxL ret wl h0 sf T' h' k n → Wr h h' a (slotOf Z O f d) v → Go p.tables e below F (T'.setTop (mkF m (pc + 3) Ls S))) : Go p.tables e below F (T.setTop (mkF m pc Ls (v :: .ref a :: S))) := by
  obtain ⟨w0, vm0, k0, L, X, g1, g2, g3, g4, g5, g6, g7, g8, gE, g9⟩ := w
  obtain ⟨T', h', X', e', W, st⟩ := putF X w0.1 g4 g5 lk via g1 FF E (La.imp id fun q => ⟨q.1, q.2.1, w0.2.2.2.2.2.1.trans q.2.2⟩) wi hty hn hf (g := mkF m pc Ls (v :: .ref a :: S)) rfl rfl (hb w0.2.1 hd)
  exact goS st (nx T' h' (OW.wrote w0 X' e' W g2 g3 g4 g5 g6 g7 g8 gE g9 ha hs) W)
theorem g_new (w : OW p l e R s m args below meth c Z a0 EL own nm bytes maxL ret wl h0 sf T h k n) {C : String} {index sz : Nat} (w1 : (Cond.classLink own index C).before a0 Z = true) (wi : (Cond.instantiable C sz).before a0 Z = true) (wz : (Cond.initialized C).before a0 Z = true) (hc : k + 1 ≤ R.cells) (hl : n + sz ≤ R.slots)
    (hd : decode bytes pc = .ok (.new index, 3)) (nx : ∀ (T' : State) (h' : Heap) (b : Addr), OW p l e R s m args below meth c Z a0 EL own nm bytes maxL ret wl h0 (b :: sf) T' h' (k + 1) (n + sz) → b = h.size → h0.size ≤ b → Ext h h' → Exa Z h' b C → (∀ {O f d : String} {ty : FieldType}, Laid Z a0 C O f d → parseFieldDescriptor d = some ty → Fld Z h' b O f d (defaultValue ty)) → Go p.tables e below F (T'.setTop (mkF m (pc + 3) Ls (.ref b :: S)))) : Go p.tables e below F (T.setTop (mkF m pc Ls S)) := by
  obtain ⟨w0, vm0, k0, L, X, g1, g2, g3, g4, g5, g6, g7, g8, gE, g9⟩ := w
  obtain ⟨T', h', X', e', E, A, D, ⟨cell, hcell, -⟩, st⟩ := newO X w0.1 g4 g5 w1 wi wz g1 (g := mkF m pc Ls S) rfl (hb w0.2.1 hd) hc hl
  refine goS st (nx T' h' h.size ⟨w0, vm0, k0, L, X', e', g2, Nat.le_trans g3 E.1, g4, g5, g6, g7.ext E, g8.trans (CHr.ext E g8.1), extExt gE E, fun x hx => ?_⟩ rfl g7.1 E A D)
  rcases List.mem_cons.mp hx with rfl | hx
  · exact ⟨(Array.getElem?_eq_some_iff.mp hcell).1, (Safe.new (Nat.le_refl _)).ext E g8.1⟩
  · exact ⟨Nat.lt_of_lt_of_le (g9 x hx).1 E.1, (g9 x hx).2.ext E g8.1⟩
theorem g_newP (w : OW p l e R s m args below meth c Z a0 EL own nm bytes maxL ret wl h0 sf T h k n) {aty : ArrayType} {z : Int32} {cap : Nat} (w1 : (Cond.arrayClass (newarray.typeOf aty)).before a0 Z = true) (hz : ¬ z < 0) (hcap : z.toNatClampNeg ≤ cap) (hcb : cap * 8 ≤ 536870912) (hc : k + 1 ≤ R.cells) (hl : n + cap ≤ R.slots)
    (hd : decode bytes pc = .ok (.newarray aty, 2)) (nx : ∀ (T' : State) (h' : Heap) (b : Addr), OW p l e R s m args below meth c Z a0 EL own nm bytes maxL ret wl h0 (b :: sf) T' h' (k + 1) (n + cap) → b = h.size → h0.size ≤ b → Ext h h' → AR Z h' b (newarray.typeOf aty) (List.replicate z.toNatClampNeg (defaultValue (newarray.typeOf aty))) → Go p.tables e below F (T'.setTop (mkF m (pc + 2) Ls (.ref b :: S)))) : Go p.tables e below F (T.setTop (mkF m pc Ls (.int z :: S))) := by
  obtain ⟨w0, vm0, k0, L, X, g1, g2, g3, g4, g5, g6, g7, g8, gE, g9⟩ := w
  obtain ⟨T', h', cA, X', e', E, A, st⟩ := newP X w0.1 g4 w1 g1 (g := mkF m pc Ls (.int z :: S)) rfl (hb w0.2.1 hd) rfl hz hcap hcb hc hl
  refine goS st (nx T' h' h.size ⟨w0, vm0, k0, L, X', e', g2, Nat.le_trans g3 E.1, g4, g5, g6, g7.ext E, g8.trans (CHr.ext E g8.1), extExt gE E, fun x hx => ?_⟩ rfl g7.1 E (AR.of_new A hz (by cases aty <;> rfl)))
  rcases List.mem_cons.mp hx with rfl | hx
  · exact ⟨A.lt, (Safe.new (Nat.le_refl _)).ext E g8.1⟩
  · exact ⟨Nat.lt_of_lt_of_le (g9 x hx).1 E.1, (g9 x hx).2.ext E g8.1⟩
theorem g_alen (w : OW p l e R s m args below meth c Z a0 EL own nm bytes maxL ret wl h0 sf T h k n) {a : Addr} {ty : FieldType} {vs : List Value} (A : AR Z h a ty vs) (hd : decode bytes pc = .ok (.arraylength, 1)) (nx : Go p.tables e below F (T.setTop (mkF m (pc + 1) Ls (.int vs.length.toInt32 :: S)))) : Go p.tables e below F (T.setTop (mkF m pc Ls (.ref a :: S))) := by
  obtain ⟨w0, vm0, k0, L, X, g1, g2, g3, g4, g5, g6⟩ := w
  obtain ⟨c', A, hc, -⟩ := A
  have hl : c'.slots.size = vs.length := by rw [← hc]; simp
  refine goS (fun t q => X.arraylength w0.1 (by rw [g1]; exact A.1) (State.isArrayOf_alike (T := s.setVm vm0) g4.alike A.2.1) (g := mkF m pc Ls (.ref a :: S)) rfl rfl (hb w0.2.1 hd) t q) ?_
  show Go p.tables e below F (T.setTop (mkF m (pc + 1) Ls (.int c'.slots.size.toInt32 :: S)))
  rw [hl]; exact nx
theorem g_caload (w : OW p l e R s m args below meth c Z a0 EL own nm bytes maxL ret wl h0 sf T h k n) {a : Addr} {vs : List Value} {j : Int32} {v : Value} (A : AR Z h a .char vs) (hj : ¬ j < 0) (hv : vs[j.toNatClampNeg]? = some v) (hd : decode bytes pc = .ok (.caload, 1)) (nx : Go p.tables e below F (T.setTop (mkF m (pc + 1) Ls (v :: S)))) : Go p.tables e below F (T.setTop (mkF m pc Ls (.int j :: .ref a :: S))) := by
  obtain ⟨w0, vm0, k0, L, X, g1, g2, g3, g4, g5, g6⟩ := w
  obtain ⟨c', A, hc, -⟩ := A
  exact goS (fun t q => X.caload w0.1 (by rw [g1]; exact A.1) (State.isArrayOf_alike (T := s.setVm vm0) g4.alike A.2.1) A.2.2 (idx_ok (N := 0) hc hj (List.getElem?_eq_some_iff.mp hv).1) (by rw [← Array.getElem?_toList, hc]; exact hv) (g := mkF m pc Ls (.int j :: .ref a :: S)) rfl rfl (hb w0.2.1 hd) t q) nx
theorem g_baload (w : OW p l e R s m args below meth c Z a0 EL own nm bytes maxL ret wl h0 sf T h k n) {a : Addr} {vs : List Value} {j : Int32} {v : Value} (A : AR Z h a .byte vs) (hj : ¬ j < 0) (hv : vs[j.toNatClampNeg]? = some v) (hd : decode bytes pc = .ok (.baload, 1)) (nx : Go p.tables e below F (T.setTop (mkF m (pc + 1) Ls (v :: S)))) : Go p.tables e below F (T.setTop (mkF m pc Ls (.int j :: .ref a :: S))) := by
  obtain ⟨w0, vm0, k0, L, X, g1, g2, g3, g4, g5, g6⟩ := w
  obtain ⟨c', A, hc, -⟩ := A
  exact goS (fun t q => X.baloadBytes w0.1 (by rw [g1]; exact A.1) (State.isArrayOf_alike (T := s.setVm vm0) g4.alike A.2.1) A.2.2 (idx_ok (N := 0) hc hj (List.getElem?_eq_some_iff.mp hv).1) (by rw [← Array.getElem?_toList, hc]; exact hv) (g := mkF m pc Ls (.int j :: .ref a :: S)) rfl rfl (hb w0.2.1 hd) t q) nx
theorem g_castore (w : OW p l e R s m args below meth c Z a0 EL own nm bytes maxL ret wl h0 sf T h k n) {a : Addr} {vs : List Value} {j x : Int32} (A : AR Z h a .char vs) (hj : ¬ j < 0) (hi : j.toNatClampNeg < vs.length) (ha : a ∈ wl ∨ h0.size ≤ a) (hs : a ∈ sf) (hd : decode bytes pc = .ok (.castore, 1))
    (nx : ∀ (T' : State) (h' : Heap), OW p l e R s m args below meth c Z a0 EL own nm bytes maxL ret wl h0 sf T' h' k n → Wr h h' a j.toNatClampNeg (.int (nar .char x)) → AR Z h' a .char (vs.set j.toNatClampNeg (.int (nar .char x))) → Go p.tables e below F (T'.setTop (mkF m (pc + 1) Ls S))) : Go p.tables e below F (T.setTop (mkF m pc Ls (.int x :: .int j :: .ref a :: S))) := by
  obtain ⟨w0, vm0, k0, L, X, g1, g2, g3, g4, g5, g6, g7, g8, gE, g9⟩ := w
  have A0 := A
  obtain ⟨c', A, hc, -⟩ := A
  obtain ⟨T', h', X', e', W, st⟩ := stC X w0.1 g4 g1 A (idx_ok (N := 0) hc hj hi) (g := mkF m pc Ls (.int x :: .int j :: .ref a :: S)) rfl rfl (hb w0.2.1 hd)
  exact goS st (nx T' h' (OW.wrote w0 X' e' W g2 g3 g4 g5 g6 g7 g8 gE g9 ha hs) W (A0.set W (fits_nar_char _)))
theorem g_bastore (w : OW p l e R s m args below meth c Z a0 EL own nm bytes maxL ret wl h0 sf T h k n) {a : Addr} {vs : List Value} {j x : Int32} (A : AR Z h a .byte vs) (hj : ¬ j < 0) (hi : j.toNatClampNeg < vs.length) (ha : a ∈ wl ∨ h0.size ≤ a) (hs : a ∈ sf) (hd : decode bytes pc = .ok (.bastore, 1))
    (nx : ∀ (T' : State) (h' : Heap), OW p l e R s m args below meth c Z a0 EL own nm bytes maxL ret wl h0 sf T' h' k n → Wr h h' a j.toNatClampNeg (.int x.toInt8.toInt32) → AR Z h' a .byte (vs.set j.toNatClampNeg (.int x.toInt8.toInt32)) → Go p.tables e below F (T'.setTop (mkF m (pc + 1) Ls S))) : Go p.tables e below F (T.setTop (mkF m pc Ls (.int x :: .int j :: .ref a :: S))) := by
  obtain ⟨w0, vm0, k0, L, X, g1, g2, g3, g4, g5, g6, g7, g8, gE, g9⟩ := w
  have A0 := A
  obtain ⟨c', A, hc, -⟩ := A
  obtain ⟨T', h', X', e', W, st⟩ := stB X w0.1 g4 g1 A (idx_ok (N := 0) hc hj hi) (g := mkF m pc Ls (.int x :: .int j :: .ref a :: S)) rfl rfl (hb w0.2.1 hd)
  exact goS st (nx T' h' (OW.wrote w0 X' e' W g2 g3 g4 g5 g6 g7 g8 gE g9 ha hs) W (A0.set W (fits_nar_byte _)))
theorem g_ldcO (w : OW p l e R s m args below meth c Z a0 EL own nm bytes maxL ret wl h0 sf T h k n) {text : String} {index sz : Nat} (w1 : (Cond.stringLink own index text).before a0 Z = true) (wS : ∀ a ∈ Bundle.stringAtoms, a.before a0 Z = true) (hn : 4 * text.toList.length ≤ sz) (hbig : sz ≤ 536870912) (hc : k + 2 ≤ R.cells) (hl : n + (sz + 4) ≤ R.slots)
    (hd : decode bytes pc = .ok (.ldc index, 2)) (nx : ∀ (T' : State) (h' : Heap) (b : Addr), OW p l e R s m args below meth c Z a0 EL own nm bytes maxL ret wl h0 sf T' h' (k + 2) (n + (sz + 4)) → Ext h h' → Go p.tables e below F (T'.setTop (mkF m (pc + 2) Ls (.ref b :: S)))) : Go p.tables e below F (T.setTop (mkF m pc Ls S)) := by
  obtain ⟨w0, vm0, k0, L, X, g1, g2, g3, g4, g5, g6, g7, g8, gE, g9⟩ := w
  obtain ⟨b, T', h', k1, X', e', E, hS, hk, hZ, ho, hC, -, st⟩ := ldcOH X w0.1 g4 g5 w1 wS g1 g2 g3 w0.ew g8.1 (g := mkF m pc Ls S) rfl (hb w0.2.1 hd) hn hbig hc hl
  exact goS st (nx T' h' b ⟨w0, T'.vm, k1, L, X', e', hS, hk, hZ, ho, g6, g7.ext E, g8.trans hC, extExt gE E, fun x hx => ⟨Nat.lt_of_lt_of_le (g9 x hx).1 E.1, hC.safe (g9 x hx).1 (g9 x hx).2⟩⟩ E)
/-- a literal of EL, its text read -/
theorem g_ldcR (w : OW p l e R s m args below meth c Z a0 EL own nm bytes maxL ret wl h0 sf T h k n) {text : String} {index sz : Nat} {vs : List Value} {z : Int32} (w1 : (Cond.stringLink own index text).before a0 Z = true) (wS : ∀ a ∈ Bundle.stringAtoms, a.before a0 Z = true) (hm : (own, index) ∈ EL) (ht : (∀ c ∈ text.toList, c.toNat < 256) ∧ text.toList.map (fun c => Value.int (Jvm.Lit.byteI c.toNat.toUInt16)) = vs) (hz : ¬ z < 0) (hzl : z.toNatClampNeg = vs.length)
    (hn : 4 * text.toList.length ≤ sz) (hbig : sz ≤ 536870912) (hc : k + 2 ≤ R.cells) (hl : n + (sz + 4) ≤ R.slots)
    (hd : decode bytes pc = .ok (.ldc index, 2)) (nx : ∀ (T' : State) (h' : Heap) (b t : Addr), OW p l e R s m args below meth c Z a0 EL own nm bytes maxL ret wl h0 sf T' h' (k + 2) (n + (sz + 4)) → Ext h h' → Exa Z h' b "java/lang/String" → Fld Z h' b "java/lang/String" "coder" "B" (.int 0) → Fld Z h' b "java/lang/String" "value" "[B" (.ref t) → AR Z h' t .byte vs → (∀ x ∈ sf, x ≠ b ∧ x ≠ t) → Go p.tables e below F (T'.setTop (mkF m (pc + 2) Ls (.ref b :: S)))) : Go p.tables e below F (T.setTop (mkF m pc Ls S)) := by
  obtain ⟨w0, vm0, k0, L, X, g1, g2, g3, g4, g5, g6, g7, g8, gE, g9⟩ := w
  obtain ⟨b, T', h', k1, t, kc, X', e', E, hS, hk, hZ, ho, q1, q2, q3, q4, -, -, hC, -, hne, st⟩ := ldcCH X w0.1 g4 g5 w1 wS g1 g2 g3 w0.ew hm g8.1 ht hz hzl (g := mkF m pc Ls S) rfl (hb w0.2.1 hd) hn hbig hc hl
  have hs' : ∀ x ∈ sf, x < h'.size ∧ Safe Z EL T'.vm h' x := fun x hx => ⟨Nat.lt_of_lt_of_le (g9 x hx).1 E.1, hC.safe (g9 x hx).1 (g9 x hx).2⟩
  exact goS st (nx T' h' b t ⟨w0, T'.vm, k1, L, X', e', hS, hk, hZ, ho, g6, g7.ext E, g8.trans hC, extExt gE E, hs'⟩ E q1 q2 q3 (AR.of_arv q4 hzl) fun x hx => hne x (hs' x hx).2)
theorem g_initO (w : OW p l e R s m args below meth c Z a0 EL own nm bytes maxL ret wl h0 sf T h k n) {idx : Nat} {a : Addr} (w1 : (Cond.methodLink own idx Lib.objectInit).before a0 Z = true) (w2 : (Cond.instanceMethod Lib.objectInit).before a0 Z = true) (w3 : (Cond.code Lib.objectInit ⟨#[0xb1]⟩ 1 none).before a0 Z = true) (hsz : Ls.size = maxL) (hf : 1 ≤ R.frames) {W : Nat} (hW : (S.map fun v => v.category).sum ≤ W) (hlo : W + 12 ≤ R.locals)
    (hd : decode bytes pc = .ok (.invokespecial idx, 3)) (nx : ∀ T' : State, OW p l e R s m args below meth c Z a0 EL own nm bytes maxL ret wl h0 sf T' h k n → Go p.tables e below F (T'.setTop (mkF m (pc + 3) Ls S))) : Go p.tables e below F (T.setTop (mkF m pc Ls (.ref a :: S))) := by
  obtain ⟨w0, vm0, k0, L, X, g1, g2, g3, g4, g5, g6⟩ := w
  obtain ⟨T', X', e', st⟩ := initO X w0.1 g4 g5 w1 w2 w3 g1 (g := mkF m pc Ls (.ref a :: S)) rfl (by rw [w0.2.2.1]; exact hsz) rfl (hb w0.2.1 hd) hf (W := W) (by show 2 * 0 + _ ≤ _; omega) hlo
  exact goS st (nx T' ⟨w0, vm0, k0, L, X', e', g2, g3, g4, g5, g6⟩)
theorem g_ldcI (w : OW p l e R s m args below meth c Z a0 EL own nm bytes maxL ret wl h0 sf T h k n) {index : Nat} {v : Int32} (w1 : (Cond.constant own index v).before a0 Z = true) (hd : decode bytes pc = .ok (.ldc index, 2)) (nx : Go p.tables e below F (T.setTop (mkF m (pc + 2) Ls (.int v :: S)))) : Go p.tables e below F (T.setTop (mkF m pc Ls S)) := by
  obtain ⟨w0, vm0, k0, L, X, g1, g2, g3, g4, g5, g6⟩ := w
  exact goS (fun t q => X.ldcInt w0.1 (own := own) g5 (mvT g4 w1) (g := mkF m pc Ls S) rfl (hb w0.2.1 hd) t q) nx
theorem g_ldcwI (w : OW p l e R s m args below meth c Z a0 EL own nm bytes maxL ret wl h0 sf T h k n) {index : Nat} {v : Int32} (w1 : (Cond.constant own index v).before a0 Z = true) (hd : decode bytes pc = .ok (.ldc_w index, 3)) (nx : Go p.tables e below F (T.setTop (mkF m (pc + 3) Ls (.int v :: S)))) : Go p.tables e below F (T.setTop (mkF m pc Ls S)) := by
  obtain ⟨w0, vm0, k0, L, X, g1, g2, g3, g4, g5, g6⟩ := w
  exact goS (fun t q => X.ldcwInt w0.1 (own := own) g5 (mvT g4 w1) (g := mkF m pc Ls S) rfl (hb w0.2.1 hd) t q) nx
theorem g_ldc2L (w : OW p l e R s m args below meth c Z a0 EL own nm bytes maxL ret wl h0 sf T h k n) {index : Nat} {v : Int64} (w1 : (Cond.constantLong own index v).before a0 Z = true) (hd : decode bytes pc = .ok (.ldc2_w index, 3)) (nx : Go p.tables e below F (T.setTop (mkF m (pc + 3) Ls (.long v :: S)))) : Go p.tables e below F (T.setTop (mkF m pc Ls S)) := by
  obtain ⟨w0, vm0, k0, L, X, g1, g2, g3, g4, g5, g6⟩ := w
  exact goS (fun t q => X.ldc2Long w0.1 (own := own) g5 (mvT g4 w1) (g := mkF m pc Ls S) rfl (hb w0.2.1 hd) t q) nx
theorem g_castY (w : OW p l e R s m args below meth c Z a0 EL own nm bytes maxL ret wl h0 sf T h k n) {K : String} {index : Nat} {a : Addr} (w1 : (Cond.classLink own index K).before a0 Z = true) (I : Ins Z h a K true) (hd : decode bytes pc = .ok (.checkcast index, 3)) (nx : ∀ T' : State, OW p l e R s m args below meth c Z a0 EL own nm bytes maxL ret wl h0 sf T' h k n → Go p.tables e below F (T'.setTop (mkF m (pc + 3) Ls (.ref a :: S)))) : Go p.tables e below F (T.setTop (mkF m pc Ls (.ref a :: S))) := by
  obtain ⟨w0, vm0, k0, L, X, g1, g2, g3, g4, g5, g6⟩ := w
  obtain ⟨T', X', e', st⟩ := castY X w0.1 g4 g5 w1 g1 I (g := mkF m pc Ls (.ref a :: S)) rfl rfl (hb w0.2.1 hd)
  exact goS st (nx T' ⟨w0, vm0, k0, L, X', e', g2, g3, g4, g5, g6⟩)
theorem g_instY (w : OW p l e R s m args below meth c Z a0 EL own nm bytes maxL ret wl h0 sf T h k n) {K : String} {index : Nat} {a : Addr} (w1 : (Cond.classLink own index K).before a0 Z = true) (I : Ins Z h a K true) (hd : decode bytes pc = .ok (.instanceof index, 3)) (nx : ∀ T' : State, OW p l e R s m args below meth c Z a0 EL own nm bytes maxL ret wl h0 sf T' h k n → Go p.tables e below F (T'.setTop (mkF m (pc + 3) Ls (.int 1 :: S)))) : Go p.tables e below F (T.setTop (mkF m pc Ls (.ref a :: S))) := by
  obtain ⟨w0, vm0, k0, L, X, g1, g2, g3, g4, g5, g6⟩ := w
  obtain ⟨T', X', e', st⟩ := instY X w0.1 g4 g5 w1 g1 I (g := mkF m pc Ls (.ref a :: S)) rfl rfl (hb w0.2.1 hd)
  exact goS st (nx T' ⟨w0, vm0, k0, L, X', e', g2, g3, g4, g5, g6⟩)
theorem g_instNo (w : OW p l e R s m args below meth c Z a0 EL own nm bytes maxL ret wl h0 sf T h k n) {K C : String} {index : Nat} {a : Addr} (w1 : (Cond.classLink own index K).before a0 Z = true) (E : Exa Z h a C) (N : ∃ c t, Z.vm.findClass C = some c ∧ Z.vm.findClass K = some t ∧ Z.vm.assignable c t = false) (hd : decode bytes pc = .ok (.instanceof index, 3)) (nx : ∀ T' : State, OW p l e R s m args below meth c Z a0 EL own nm bytes maxL ret wl h0 sf T' h k n → Go p.tables e below F (T'.setTop (mkF m (pc + 3) Ls (.int 0 :: S)))) : Go p.tables e below F (T.setTop (mkF m pc Ls (.ref a :: S))) := by
  obtain ⟨w0, vm0, k0, L, X, g1, g2, g3, g4, g5, g6⟩ := w
  obtain ⟨T', X', e', st⟩ := instNo X w0.1 g4 g5 w1 g1 E N (g := mkF m pc Ls (.ref a :: S)) rfl rfl (hb w0.2.1 hd)
  exact goS st (nx T' ⟨w0, vm0, k0, L, X', e', g2, g3, g4, g5, g6⟩)
/-! calls -/
theorem Con.back {y : MethodName} {by' : ByteArray} {mx : Nat} {rt : Option FieldType} {rm : Room} {len W : Nat} {as' : Array Value} {Q : Option Value → Heap → List Addr → Prop} {vm0 : Vm} {sf' wl' : List Addr}
    (hM : Con l Z a0 EL y by' mx rt rm as' h sf' wl' Q) (hZ : Z.Warmed39 vm0) (wc : (Cond.code y by' mx rt).before a0 Z = true) (wz : (Cond.initialized y.cls).before a0 Z = true) (hf : rm.frames + 1 ≤ R.frames) (hl : W + (mx + 11) + rm.locals ≤ R.locals) (hEL : EW Z a0 EL) (H : CHv Z EL vm0 h) (hX : Ext Z.heap h) (hwl : ∀ x ∈ wl', Z.heap.size ≤ x) (hs : ∀ x ∈ sf', x < h.size ∧ Safe Z EL vm0 h x) :
    BackS l R p e below (s.setVm vm0) args y len W (fun A a => a = as' ∧ A.U.heap = h ∧ A.cells + rm.cells ≤ R.cells ∧ A.slots + rm.slots ≤ R.slots)
      (fun A _ v B => ∃ (L : List Loc) (ns : List Addr), Q v B.U.heap ns ∧ Keep h B.U.heap wl' ∧ (∀ y ∈ L, y.base ∈ wl' ∨ h.size ≤ y.base) ∧ B.locs = A.locs ++ L ∧ B.cells = A.cells + rm.cells ∧ B.slots = A.slots + rm.slots ∧ CHr Z EL vm0 h B.U.vm B.U.heap ∧ ∀ x ∈ ns, x < B.U.heap.size ∧ Safe Z EL B.U.vm B.U.heap x) :=
  BackS.of_freeW (bytes := by') (maxL := mx) (ret := rt) (E := fun _ first o t L k n => k = rm.cells ∧ n = rm.slots ∧ ∃ (v : Option Value) (ns : List Addr), o = .returned v ∧ Q v t.heap ns ∧ Keep h t.heap wl' ∧ (∀ y ∈ L, y.base ∈ wl' ∨ h.size ≤ y.base) ∧ CHr Z EL first.vm h t.vm t.heap ∧ ∀ x ∈ ns, x < t.heap.size ∧ Safe Z EL t.vm t.heap x) hM hf hl
    (fun m meth c A a Y hp => have hU : Z.Warmed39 A.U.vm := wtrans (s := s.setVm vm0) hZ Y.warmed
      ⟨by show (Cond.and _ .tt).before a A.U = true; rw [Cond.before_and, mv hU wc]; rfl, mv hU wc, mv hU wz, hp.2.2.1, hp.2.2.2⟩)
    (fun m meth c A a g mk Y hp => have q := CHv.at Y hZ hEL H
      ⟨hp.1, wtrans (s := s.setVm vm0) hZ Y.warmed, hp.2.1, q.1, hEL, hX, hwl, fun x hx => ⟨(hs x hx).1, q.safe (hs x hx).1 (hs x hx).2⟩⟩) (fun _ _ _ _ _ _ _ _ _ => trivial)
    (fun _ _ _ _ ⟨v, L, ns, z1, z2, z3, z4, z5, z6, z7⟩ => ⟨L, _, _, z7, rfl, rfl, v, ns, z1, z2, z3, z4, z5, z6⟩)
    (fun m meth c A a g mk v t L k n Y hp _ _ ⟨e1, e2, v', ns, e3, z2, z3, z4, z5, z6⟩ => by
      cases e3; subst e1 e2
      exact ⟨L, ns, z2, z3, z4, rfl, rfl, rfl, (CHv.at Y hZ hEL H).trans z5, z6⟩)
theorem OW.called {Q : Option Value → Heap → List Addr → Prop} {v : Option Value} {rm : Room} {B : Pt} {vm0 : Vm} {k0 : Nat} {L : List Loc} {wl' : List Addr} (w0 : Cx p meth c Z a0 EL nm bytes maxL ret wl h0) (g2 : s.Since vm0 k0) (g3 : k0 ≤ h.size) (g4 : Z.Warmed39 vm0) (g5 : vm0.findClass own = some m.cls) (g6 : ∀ y ∈ L, y.base ∈ wl ∨ h0.size ≤ y.base) (g7 : Keep h0 h wl) (g8 : CHr Z EL s.vm h0 vm0 h) (gE : Ext Z.heap h) (g9 : ∀ x ∈ sf, x < h.size ∧ Safe Z EL vm0 h x)
    (hwl : ∀ x ∈ wl', x ∈ wl ∨ h0.size ≤ x) (X : Stand p l e R ((s.setVm vm0).setVm B.U.vm) m args below meth c B.U B.locs B.cells B.slots) (hS : (s.setVm vm0).Since B.U.vm B.U.heap.size) (hg : h.size ≤ B.U.heap.size)
    (hP : ∃ (L' : List Loc) (ns : List Addr), Q v B.U.heap ns ∧ Keep h B.U.heap wl' ∧ (∀ y ∈ L', y.base ∈ wl' ∨ h.size ≤ y.base) ∧ B.locs = L ++ L' ∧ B.cells = k + rm.cells ∧ B.slots = n + rm.slots ∧ CHr Z EL vm0 h B.U.vm B.U.heap ∧ ∀ x ∈ ns, x < B.U.heap.size ∧ Safe Z EL B.U.vm B.U.heap x) :
    ∃ ns, Q v B.U.heap ns ∧ Keep h B.U.heap wl' ∧ OW p l e R s m args below meth c Z a0 EL own nm bytes maxL ret wl h0 (ns ++ sf) B.U B.U.heap (k + rm.cells) (n + rm.slots) := by
  obtain ⟨L', ns, q1, q2, q3, q4, q5, q6, q7, q8⟩ := hP
  rw [q4, q5, q6] at X
  refine ⟨ns, q1, q2, w0, B.U.vm, B.U.heap.size, _, X, rfl, g2.trans hS (Nat.le_trans g3 hg), Nat.le_refl _, State.Warmed39.trans (t := s.setVm vm0) g4 hS.1, (hS.1.alike.findClass _ _).trans g5, ?_, g7.trans q2 hwl, g8.trans q7, extKeep gE q2 (fun x hx => w0.ge (hwl x hx)), ?_⟩
  · intro y hy
    rcases List.mem_append.mp hy with z | z
    · exact g6 y z
    · rcases q3 y z with z | z
      · exact hwl _ z
      · exact Or.inr (Nat.le_trans g7.1 z)
  · intro x hx
    rcases List.mem_append.mp hx with z | z
    · exact q8 x z
    · exact ⟨Nat.lt_of_lt_of_le (g9 x z).1 hg, q7.safe (g9 x z).1 (g9 x z).2⟩
theorem g_static (w : OW p l e R s m args below meth c Z a0 EL own nm bytes maxL ret wl h0 sf T h k n) {y : MethodName} {by' : ByteArray} {mx : Nat} {rt : Option FieldType} {rm : Room} {Q : Option Value → Heap → List Addr → Prop} {sf' wl' : List Addr} {argsL rest : List Value} {index : Nat} {W : Nat}  (w1 : (Cond.methodLink own index y).before a0 Z = true) (w2 : (Cond.static y).before a0 Z = true) (wz : (Cond.initialized y.cls).before a0 Z = true) (wc : (Cond.code y by' mx rt).before a0 Z = true) (hy : y.cls ≠ "java/lang/invoke/MethodHandle" ∧ y.cls ≠ "java/lang/invoke/VarHandle") (hM : Con l Z a0 EL y by' mx rt rm argsL.toArray h sf' wl' Q) (hsf : ∀ x ∈ sf', x ∈ sf) (hwl : ∀ x ∈ wl', x ∈ wl ∨ h0.size ≤ x) (hsz : Ls.size = maxL) (hlen : ∀ sig, parseMethodDescriptor y.desc = some sig → argsL.length = sig.parameters.length) (hst : S = argsL.reverse ++ rest)
    (hfr : rm.frames + 1 ≤ R.frames) (hW : (rest.map fun v => v.category).sum ≤ W) (hlo : W + (mx + 11) + rm.locals ≤ R.locals) (hce : k + rm.cells ≤ R.cells) (hsl : n + rm.slots ≤ R.slots) (hd : decode bytes pc = .ok (.invokestatic index, 3))
    (nx : ∀ (v : Option Value) (T' : State) (h' : Heap) (ns : List Addr), Q v h' ns → Keep h h' wl' → OW p l e R s m args below meth c Z a0 EL own nm bytes maxL ret wl h0 (ns ++ sf) T' h' (k + rm.cells) (n + rm.slots) → Go p.tables e below F (T'.setTop (mkF m (pc + 3) Ls (v.toList ++ rest)))) : Go p.tables e below F (T.setTop (mkF m pc Ls S)) := by
  subst hst
  obtain ⟨w0, vm0, k0, L, X, g1, g2, g3, g4, g5, g6, g7, g8, gE, g9⟩ := w
  have hK := fun (pp : Program) (ee : Env) (bl : List Frame) (ss : State) (aa : Array Value) => Con.back (p := pp) (e := ee) (below := bl) (s := ss) (args := aa) (R := R) (len := 3) (W := W) hM g4 wc wz hfr hlo w0.ew g8.1 gE (fun x hx => w0.ge (hwl x hx)) (fun x hx => g9 x (hsf x hx))
  obtain ⟨v, vm₁, B, -, X', hS, hgr, hpo, st⟩ := callSS X w0.1 (own := own) g5 (mvT g4 w1) (mvT g4 w2) (mvT g4 wz) (mvT g4 wc) hy (hK p e below s args) (g := mkF m pc Ls (argsL.reverse ++ rest)) rfl (by rw [w0.2.2.1]; exact hsz) (argsL := argsL) (rest := rest) hlen rfl (by show 2 * 0 + _ ≤ _; omega) (hb w0.2.1 hd) (fun vm₁ _ => ⟨rfl, g1, hce, hsl⟩)
  have hg' : h.size ≤ B.U.heap.size := by rw [← g1]; exact hgr
  obtain ⟨ns, q1, q2, q3⟩ := OW.called w0 g2 g3 g4 g5 g6 g7 g8 gE g9 hwl X' hS hg' hpo
  exact goS (fun t q => st.trans q) (nx v B.U B.U.heap ns q1 q2 q3)
theorem g_special (w : OW p l e R s m args below meth c Z a0 EL own nm bytes maxL ret wl h0 sf T h k n) {y : MethodName} {by' : ByteArray} {mx : Nat} {rt : Option FieldType} {rm : Room} {Q : Option Value → Heap → List Addr → Prop} {sf' wl' : List Addr} {argsL rest : List Value} {index : Nat} {W : Nat} {a : Addr} (hy1 : y.name = "<init>") (hrt : rt = none) (w1 : (Cond.methodLink own index y).before a0 Z = true) (w2 : (Cond.instanceMethod y).before a0 Z = true) (wz : (Cond.initialized y.cls).before a0 Z = true) (wc : (Cond.code y by' mx rt).before a0 Z = true) (hy : y.cls ≠ "java/lang/invoke/MethodHandle" ∧ y.cls ≠ "java/lang/invoke/VarHandle") (hM : Con l Z a0 EL y by' mx rt rm (.ref a :: argsL).toArray h sf' wl' Q) (hsf : ∀ x ∈ sf', x ∈ sf) (hwl : ∀ x ∈ wl', x ∈ wl ∨ h0.size ≤ x) (hsz : Ls.size = maxL) (hlen : ∀ sig, parseMethodDescriptor y.desc = some sig → argsL.length = sig.parameters.length) (hst : S = argsL.reverse ++ .ref a :: rest)
    (hfr : rm.frames + 1 ≤ R.frames) (hW : (rest.map fun v => v.category).sum ≤ W) (hlo : W + (mx + 11) + rm.locals ≤ R.locals) (hce : k + rm.cells ≤ R.cells) (hsl : n + rm.slots ≤ R.slots) (hd : decode bytes pc = .ok (.invokespecial index, 3))
    (nx : ∀ (v : Option Value) (T' : State) (h' : Heap) (ns : List Addr), Q v h' ns → Keep h h' wl' → OW p l e R s m args below meth c Z a0 EL own nm bytes maxL ret wl h0 (ns ++ sf) T' h' (k + rm.cells) (n + rm.slots) → Go p.tables e below F (T'.setTop (mkF m (pc + 3) Ls (v.toList ++ rest)))) : Go p.tables e below F (T.setTop (mkF m pc Ls S)) := by
  subst hst
  obtain ⟨w0, vm0, k0, L, X, g1, g2, g3, g4, g5, g6, g7, g8, gE, g9⟩ := w
  have hK := fun (pp : Program) (ee : Env) (bl : List Frame) (ss : State) (aa : Array Value) => Con.back (p := pp) (e := ee) (below := bl) (s := ss) (args := aa) (R := R) (len := 3) (W := W) hM g4 wc wz hfr hlo w0.ew g8.1 gE (fun x hx => w0.ge (hwl x hx)) (fun x hx => g9 x (hsf x hx))
  subst hrt
  obtain ⟨v, vm₁, B, -, X', hS, hgr, hpo, st⟩ := X.specialBackS w0.1 hy1 (own := own) g5 (mvT g4 w1) (mvT g4 w2) (mvT g4 wc) hy (hK p e below s args) (g := mkF m pc Ls (argsL.reverse ++ .ref a :: rest)) rfl (by rw [w0.2.2.1]; exact hsz) (Steps.refl _) (a := a) (argsL := argsL) (rest := rest) hlen rfl (by show 2 * 0 + _ ≤ _; omega) (hb w0.2.1 hd) (fun vm₁ _ => ⟨rfl, g1, hce, hsl⟩)
  have hg' : h.size ≤ B.U.heap.size := by rw [← g1]; exact hgr
  obtain ⟨ns, q1, q2, q3⟩ := OW.called w0 g2 g3 g4 g5 g6 g7 g8 gE g9 hwl X' hS hg' hpo
  exact goS (fun t q => st.trans q) (nx v B.U B.U.heap ns q1 q2 q3)
theorem g_virtual (w : OW p l e R s m args below meth c Z a0 EL own nm bytes maxL ret wl h0 sf T h k n) {y : MethodName} {by' : ByteArray} {mx : Nat} {rt : Option FieldType} {rm : Room} {Q : Option Value → Heap → List Addr → Prop} {sf' wl' : List Addr} {argsL rest : List Value} {index : Nat} {W : Nat} {x' : MethodName} {C : String} {a : Addr} (w1 : (Cond.methodLink own index x').before a0 Z = true) (w2 : (Cond.declares x').before a0 Z = true) (nf : ∀ (t : State), Z.Warmed39 t.vm → NotFace t x') (w3 : (Cond.selects C x' y).before a0 Z = true) (w4 : (Cond.instanceMethod y).before a0 Z = true) (wz : (Cond.initialized y.cls).before a0 Z = true) (wc : (Cond.code y by' mx rt).before a0 Z = true) (hy : x'.cls ≠ "java/lang/invoke/MethodHandle" ∧ x'.cls ≠ "java/lang/invoke/VarHandle") (E : Exa Z h a C) (hM : Con l Z a0 EL y by' mx rt rm (.ref a :: argsL).toArray h sf' wl' Q) (hsf : ∀ x ∈ sf', x ∈ sf) (hwl : ∀ x ∈ wl', x ∈ wl ∨ h0.size ≤ x) (hsz : Ls.size = maxL) (hlen : ∀ sig, parseMethodDescriptor x'.desc = some sig → argsL.length = sig.parameters.length) (hst : S = argsL.reverse ++ .ref a :: rest)
    (hfr : rm.frames + 1 ≤ R.frames) (hW : (rest.map fun v => v.category).sum ≤ W) (hlo : W + (mx + 11) + rm.locals ≤ R.locals) (hce : k + rm.cells ≤ R.cells) (hsl : n + rm.slots ≤ R.slots) (hd : decode bytes pc = .ok (.invokevirtual index, 3))
    (nx : ∀ (v : Option Value) (T' : State) (h' : Heap) (ns : List Addr), Q v h' ns → Keep h h' wl' → OW p l e R s m args below meth c Z a0 EL own nm bytes maxL ret wl h0 (ns ++ sf) T' h' (k + rm.cells) (n + rm.slots) → Go p.tables e below F (T'.setTop (mkF m (pc + 3) Ls (v.toList ++ rest)))) : Go p.tables e below F (T.setTop (mkF m pc Ls S)) := by
  subst hst
  obtain ⟨w0, vm0, k0, L, X, g1, g2, g3, g4, g5, g6, g7, g8, gE, g9⟩ := w
  have hK := fun (pp : Program) (ee : Env) (bl : List Frame) (ss : State) (aa : Array Value) => Con.back (p := pp) (e := ee) (below := bl) (s := ss) (args := aa) (R := R) (len := 3) (W := W) hM g4 wc wz hfr hlo w0.ew g8.1 gE (fun x hx => w0.ge (hwl x hx)) (fun x hx => g9 x (hsf x hx))
  obtain ⟨cB, kB, i1, i2, i3⟩ := isOf (s := s.setVm vm0) g4 g1 E
  obtain ⟨v, vm₁, B, -, X', hS, hgr, hpo, st⟩ := X.virtualBackS w0.1 (own := own) g5 (mvT g4 w1) (mvT g4 w2) (nf _ g4) (mvT g4 w3) (mvT g4 w4) hy (hK p e below s args) i1 i3 (g := mkF m pc Ls (argsL.reverse ++ .ref a :: rest)) rfl (by rw [w0.2.2.1]; exact hsz) (Steps.refl _) (argsL := argsL) (rest := rest) hlen rfl (by show 2 * 0 + _ ≤ _; omega) (hb w0.2.1 hd) (fun vm₁ _ => ⟨rfl, g1, hce, hsl⟩)
  have hg' : h.size ≤ B.U.heap.size := by rw [← g1]; exact hgr
  obtain ⟨ns, q1, q2, q3⟩ := OW.called w0 g2 g3 g4 g5 g6 g7 g8 gE g9 hwl X' hS hg' hpo
  exact goS (fun t q => st.trans q) (nx v B.U B.U.heap ns q1 q2 q3)
theorem g_face (w : OW p l e R s m args below meth c Z a0 EL own nm bytes maxL ret wl h0 sf T h k n) {y : MethodName} {by' : ByteArray} {mx : Nat} {rt : Option FieldType} {rm : Room} {Q : Option Value → Heap → List Addr → Prop} {sf' wl' : List Addr} {argsL rest : List Value} {index : Nat} {W : Nat} {x' : MethodName} {C : String} {a : Addr} {cnt : Nat} (w1 : (Cond.methodLink own index x').before a0 Z = true) (w2 : (Cond.declares x').before a0 Z = true) (w3 : ∀ (t : State) (aa : Array Value), Z.Warmed39 t.vm → (Cond.interfaceMethod x'.cls x'.cls x'.name x'.desc).before aa t = true) (w4 : (Cond.selects C x' y).before a0 Z = true) (w5 : (Cond.instanceMethod y).before a0 Z = true) (w6 : (Cond.publicMethod y).before a0 Z = true) (w7 : ∀ (t : State) (aa : Array Value), Z.Warmed39 t.vm → (Cond.unhidden C x'.name x'.desc).before aa t = true) (w8 : ∀ (t : State) (aa : Array Value), Z.Warmed39 t.vm → (Cond.castable C x'.cls).before aa t = true) (wz : (Cond.initialized y.cls).before a0 Z = true) (wc : (Cond.code y by' mx rt).before a0 Z = true) (hy : x'.cls ≠ "java/lang/invoke/MethodHandle" ∧ x'.cls ≠ "java/lang/invoke/VarHandle") (E : Exa Z h a C) (hM : Con l Z a0 EL y by' mx rt rm (.ref a :: argsL).toArray h sf' wl' Q) (hsf : ∀ x ∈ sf', x ∈ sf) (hwl : ∀ x ∈ wl', x ∈ wl ∨ h0.size ≤ x) (hsz : Ls.size = maxL) (hlen : ∀ sig, parseMethodDescriptor x'.desc = some sig → argsL.length = sig.parameters.length) (hst : S = argsL.reverse ++ .ref a :: rest)
    (hfr : rm.frames + 1 ≤ R.frames) (hW : (rest.map fun v => v.category).sum ≤ W) (hlo : W + (mx + 11) + rm.locals ≤ R.locals) (hce : k + rm.cells ≤ R.cells) (hsl : n + rm.slots ≤ R.slots) (hd : decode bytes pc = .ok (.invokeinterface index cnt, 5))
    (nx : ∀ (v : Option Value) (T' : State) (h' : Heap) (ns : List Addr), Q v h' ns → Keep h h' wl' → OW p l e R s m args below meth c Z a0 EL own nm bytes maxL ret wl h0 (ns ++ sf) T' h' (k + rm.cells) (n + rm.slots) → Go p.tables e below F (T'.setTop (mkF m (pc + 5) Ls (v.toList ++ rest)))) : Go p.tables e below F (T.setTop (mkF m pc Ls S)) := by
  subst hst
  obtain ⟨w0, vm0, k0, L, X, g1, g2, g3, g4, g5, g6, g7, g8, gE, g9⟩ := w
  have hK := fun (pp : Program) (ee : Env) (bl : List Frame) (ss : State) (aa : Array Value) => Con.back (p := pp) (e := ee) (below := bl) (s := ss) (args := aa) (R := R) (len := 5) (W := W) hM g4 wc wz hfr hlo w0.ew g8.1 gE (fun x hx => w0.ge (hwl x hx)) (fun x hx => g9 x (hsf x hx))
  obtain ⟨cB, kB, i1, i2, i3⟩ := isOf (s := s.setVm vm0) g4 g1 E
  obtain ⟨v, vm₁, B, -, X', hS, hgr, hpo, st⟩ := X.interfaceBackS w0.1 (own := own) g5 (mvT g4 w1) (mvT g4 w2) (w3 (s.setVm vm0) args g4) (mvT g4 w4) (mvT g4 w5) (mvT g4 w6) (w7 (s.setVm vm0) args g4) (w8 (s.setVm vm0) args g4) hy (hK p e below s args) i1 i2 i3 (g := mkF m pc Ls (argsL.reverse ++ .ref a :: rest)) rfl (by rw [w0.2.2.1]; exact hsz) (Steps.refl _) (argsL := argsL) (rest := rest) hlen rfl (by show 2 * 0 + _ ≤ _; omega) (hb w0.2.1 hd) (fun vm₁ _ => ⟨rfl, g1, hce, hsl⟩)
  have hg' : h.size ≤ B.U.heap.size := by rw [← g1]; exact hgr
  obtain ⟨ns, q1, q2, q3⟩ := OW.called w0 g2 g3 g4 g5 g6 g7 g8 gE g9 hwl X' hS hg' hpo
  exact goS (fun t q => st.trans q) (nx v B.U B.U.heap ns q1 q2 q3)
/-! the end -/
theorem OW.fin {Q : Option Value → Heap → List Addr → Prop} (w : OW p l e R s m args below meth c Z a0 EL own nm bytes maxL ret wl h0 sf T h k n) {v : Option Value} (hv : ret = none → v = none) (hk : k ≤ R.cells) (hn : n ≤ R.slots) {ns : List Addr} (hq : Q v h ns) (hns : ∀ x ∈ ns, x ∈ sf) :
    ∃ fs, (∀ (f : JFrame) (acts : List Action), f.method = m → f.locked = none → f.entered = [] → (doReturn e (T.setTop f) acts v).1 = T.setFrames fs) ∧ (T.setFrames fs).status = .running ∧ Ended (T.setFrames fs) below (.returned v) ∧ Fin' s Z EL wl h0 R Q (.returned v) (T.setFrames fs) := by
  obtain ⟨w0, vm0, k0, L, X, g1, g2, g3, g4, g5, g6, g7, g8, gE, g9⟩ := w
  subst g1
  obtain ⟨fs, h1, h2, h3, h4⟩ := (X.more hk hn).leaveW g2 g3 (v := v) (fun q => hv (w0.2.2.2.1 ▸ q)) (hlocks := w0.2.2.2.2.1)
  have q := CHv.at X g4 w0.ew g8.1
  exact ⟨fs, h1, h2, h3, v, L, ns, rfl, hq, g7, g6, g8.trans q, fun x hx => ⟨(g9 x (hns x hx)).1, q.safe (g9 x (hns x hx)).1 (g9 x (hns x hx)).2⟩, h4⟩
theorem g_ret0 {Q : Option Value → Heap → List Addr → Prop} (w : OW p l e R s m args below meth c Z a0 EL own nm bytes maxL ret wl h0 sf T h k n) (hr : ret = none) (hk : k ≤ R.cells) (hn : n ≤ R.slots) {ns : List Addr} (hns : ∀ x ∈ ns, x ∈ sf) (hd : decode bytes pc = .ok (.return_, 1)) (hq : Q none h ns) : Go p.tables e below (Fin' s Z EL wl h0 R Q) (T.setTop (mkF m pc Ls [])) := by
  obtain ⟨fs, h1, h2, h3, h4⟩ := w.fin (Q := Q) (v := none) (fun _ => rfl) hk hn hq hns
  obtain ⟨w0, vm0, k0, L, X, -⟩ := w
  exact ⟨_, _, X.returnOut w0.1 (w0.2.2.2.1.trans hr) (hb w0.2.1 hd) h1, h2, h3, h4⟩
theorem g_ret {Q : Option Value → Heap → List Addr → Prop} (w : OW p l e R s m args below meth c Z a0 EL own nm bytes maxL ret wl h0 sf T h k n) {t : FieldType} {v : Value} {i : Instr} (hr : ret = some t) (hnw : narrow t v = v)
    (hi : (i = .ireturn ∧ (t = .int ∨ t = .boolean ∨ t = .byte ∨ t = .char ∨ t = .short) ∧ ∃ z, v = .int z) ∨ (i = .lreturn ∧ t = .long ∧ ∃ z, v = .long z) ∨ (i = .dreturn ∧ t = .double ∧ ∃ z, v = .double z) ∨ (i = .freturn ∧ t = .float ∧ ∃ z, v = .float z) ∨ (i = .areturn ∧ t.isReference = true ∧ v.isRef = true))
    (hk : k ≤ R.cells) (hn : n ≤ R.slots) {ns : List Addr} (hns : ∀ x ∈ ns, x ∈ sf) (hd : decode bytes pc = .ok (i, 1)) (hq : Q (some v) h ns) : Go p.tables e below (Fin' s Z EL wl h0 R Q) (T.setTop (mkF m pc Ls (v :: S))) := by
  obtain ⟨fs, h1, h2, h3, h4⟩ := w.fin (Q := Q) (v := some v) (fun q => by rw [hr] at q; cases q) hk hn hq hns
  obtain ⟨w0, vm0, k0, L, X, -⟩ := w
  exact ⟨_, _, retOut X w0.1 (w0.2.2.2.1.trans hr) hnw hi (hb w0.2.1 hd) h1, h2, h3, h4⟩
theorem g_retI {Q : Option Value → Heap → List Addr → Prop} (w : OW p l e R s m args below meth c Z a0 EL own nm bytes maxL ret wl h0 sf T h k n) {z : Int32} (hr : ret = some .int) (hk : k ≤ R.cells) (hn : n ≤ R.slots) {ns : List Addr} (hns : ∀ x ∈ ns, x ∈ sf) (hd : decode bytes pc = .ok (.ireturn, 1)) (hq : Q (some (.int z)) h ns) : Go p.tables e below (Fin' s Z EL wl h0 R Q) (T.setTop (mkF m pc Ls (.int z :: S))) :=
  g_ret w hr rfl (Or.inl ⟨rfl, Or.inl rfl, z, rfl⟩) hk hn hns hd hq
theorem g_retJ {Q : Option Value → Heap → List Addr → Prop} (w : OW p l e R s m args below meth c Z a0 EL own nm bytes maxL ret wl h0 sf T h k n) {z : Int64} (hr : ret = some .long) (hk : k ≤ R.cells) (hn : n ≤ R.slots) {ns : List Addr} (hns : ∀ x ∈ ns, x ∈ sf) (hd : decode bytes pc = .ok (.lreturn, 1)) (hq : Q (some (.long z)) h ns) : Go p.tables e below (Fin' s Z EL wl h0 R Q) (T.setTop (mkF m pc Ls (.long z :: S))) :=
  g_ret w hr rfl (Or.inr (Or.inl ⟨rfl, rfl, z, rfl⟩)) hk hn hns hd hq
theorem g_retN {Q : Option Value → Heap → List Addr → Prop} (w : OW p l e R s m args below meth c Z a0 EL own nm bytes maxL ret wl h0 sf T h k n) {z : Int32} {t : FieldType} (hr : ret = some t) (ht : t = .boolean ∨ t = .byte ∨ t = .char ∨ t = .short) (hnw : narrow t (.int z) = .int z) (hk : k ≤ R.cells) (hn : n ≤ R.slots) {ns : List Addr} (hns : ∀ x ∈ ns, x ∈ sf) (hd : decode bytes pc = .ok (.ireturn, 1)) (hq : Q (some (.int z)) h ns) : Go p.tables e below (Fin' s Z EL wl h0 R Q) (T.setTop (mkF m pc Ls (.int z :: S))) :=
  g_ret w hr hnw (Or.inl ⟨rfl, Or.inr ht, z, rfl⟩) hk hn hns hd hq
theorem g_retA {Q : Option Value → Heap → List Addr → Prop} (w : OW p l e R s m args below meth c Z a0 EL own nm bytes maxL ret wl h0 sf T h k n) {v : Value} {t : FieldType} (hr : ret = some t) (ht : t.isReference = true) (hv : v.isRef = true) (hk : k ≤ R.cells) (hn : n ≤ R.slots) {ns : List Addr} (hns : ∀ x ∈ ns, x ∈ sf) (hd : decode bytes pc = .ok (.areturn, 1)) (hq : Q (some v) h ns) : Go p.tables e below (Fin' s Z EL wl h0 R Q) (T.setTop (mkF m pc Ls (v :: S))) :=
  g_ret w hr (narrow_refv ht hv) (Or.inr (Or.inr (Or.inr (Or.inr ⟨rfl, ht, hv⟩)))) hk hn hns hd hq
end OwnKit
end Jvm.RoadKit


namespace Jvm.RoadKit
open Sem ClassFile Op Lib Bundle Jvm.Stand Jvm.Free Jvm.LawKit
section OwnStr
theorem t32_int {i : Nat} (h : i < 2147483648) : i.toInt32.toInt = i := Int32.toInt_ofNat_of_lt h
theorem t32_nneg {i : Nat} (h : i < 2147483648) : ¬ i.toInt32 < 0 := by
  rw [Int32.lt_iff_toInt_lt, t32_int h]; have : (0 : Int32).toInt = 0 := rfl; omega
theorem t32_nat {i : Nat} (h : i < 2147483648) : i.toInt32.toNatClampNeg = i := by
  have := t32_int h
  show i.toInt32.toInt.toNat = i
  omega
theorem t32_lt {i j : Nat} (hi : i < 2147483648) (hj : j < 2147483648) : i.toInt32 < j.toInt32 ↔ i < j := by
  rw [Int32.lt_iff_toInt_lt, t32_int hi, t32_int hj]; omega
theorem t32_eq {i j : Nat} (hi : i < 2147483648) (hj : j < 2147483648) : i.toInt32 = j.toInt32 ↔ i = j := by
  rw [← Int32.toInt_inj, t32_int hi, t32_int hj]; omega
theorem t32_add (i j : Nat) : i.toInt32 + j.toInt32 = (i + j).toInt32 := (Int32.ofNat_add i j).symm
theorem t32_succ (i : Nat) : i.toInt32 + 1 = (i + 1).toInt32 := t32_add i 1
abbrev b8 (c : Int32) : Int32 := c.toInt8.toInt32
abbrev bv (c : Int32) : Value := .int (b8 c)
/-- how many chars stand ahead of the first above 255 -/
def lat (cs : List Int32) : Nat := (cs.takeWhile (fun c => !decide ((255 : Int32) < c))).length
theorem lat_le (cs : List Int32) : lat cs ≤ cs.length := by
  unfold lat; exact (List.takeWhile_prefix _).length_le
theorem lat_cons (c : Int32) (cs : List Int32) : lat (c :: cs) = if (255 : Int32) < c then 0 else lat cs + 1 := by
  unfold lat
  by_cases h : (255 : Int32) < c <;> simp [h]
theorem lat_all : ∀ {cs : List Int32}, (∀ c ∈ cs, ¬ (255 : Int32) < c) → lat cs = cs.length
  | [], _ => rfl
  | c :: cs, h => by
    rw [lat_cons, if_neg (h c (List.mem_cons_self ..)), lat_all fun d hd => h d (List.mem_cons_of_mem _ hd)]; rfl
theorem lat_go : ∀ {cs : List Int32} {i : Nat} {c : Int32}, i ≤ lat cs → cs[i]? = some c → ¬ (255 : Int32) < c → i + 1 ≤ lat cs
  | [], i, c, _, h, _ => by simp at h
  | d :: cs, 0, c, _, h, hc => by
    simp at h; subst h; rw [lat_cons, if_neg hc]; omega
  | d :: cs, i + 1, c, hi, h, hc => by
    rw [lat_cons] at hi ⊢
    split at hi
    · omega
    · rename_i hd
      rw [if_neg hd]
      have := lat_go (cs := cs) (i := i) (by omega) (by simpa using h) hc
      omega
theorem lat_stop : ∀ {cs : List Int32} {i : Nat} {c : Int32}, i ≤ lat cs → cs[i]? = some c → (255 : Int32) < c → lat cs = i
  | [], i, c, _, h, _ => by simp at h
  | d :: cs, 0, c, _, h, hc => by
    simp at h; subst h; rw [lat_cons, if_pos hc]
  | d :: cs, i + 1, c, hi, h, hc => by
    rw [lat_cons] at hi ⊢
    split at hi
    · omega
    · rename_i hd
      rw [if_neg hd]
      have := lat_stop (cs := cs) (i := i) (by omega) (by simpa using h) hc
      omega
theorem b8_b8 (c : Int32) : (b8 c).toInt8.toInt32 = b8 c := by simp [b8]
theorem put_next {A : Type} {xs : List Int32} {ds : List A} {f : Int32 → A} {i : Nat} {c : Int32} (hl : ds.length = xs.length) (hc : xs[i]? = some c) : ((xs.take i).map f ++ ds.drop i).set i (f c) = (xs.take (i + 1)).map f ++ ds.drop (i + 1) := by
  have hi : i < xs.length := (List.getElem?_eq_some_iff.mp hc).1
  have hL : ((xs.take i).map f).length = i := by simp; omega
  rw [List.set_append_right _ _ (by omega), hL, Nat.sub_self]
  have hd : ds.drop i = ds[i]'(by omega) :: ds.drop (i + 1) := List.drop_eq_getElem_cons (by omega)
  rw [hd, List.set_cons_zero]
  have ht : xs.take (i + 1) = xs.take i ++ [c] := by rw [List.take_add_one, hc]; rfl
  rw [ht]; simp
theorem get_map_int {xs : List Int32} {i : Nat} {c : Int32} (h : xs[i]? = some c) : (xs.map Value.int)[i]? = some (.int c) := by simp [h]
theorem all32n {P : Int32 → Prop} : ∀ x ∈ ([] : List Int32), P x := fun _ q => nomatch q
theorem all32 {P : Int32 → Prop} {y : Int32} {L : List Int32} (q : P y) (r : ∀ x ∈ L, P x) : ∀ x ∈ y :: L, P x := fun x z => (List.mem_cons.mp z).elim (fun u => u ▸ q) (r x)
theorem and255 (a : Int32) : 0 ≤ (a &&& 255).toInt ∧ (a &&& 255).toInt ≤ 255 := c_and a 255 (by decide)
theorem lat8 (a : Int32) : ¬ (255 : Int32) < (a &&& 255).toUInt32.toUInt16.toUInt32.toInt32 := by
  rw [i2c_mask, Int32.lt_iff_toInt_lt]; have := and255 a; have : (255 : Int32).toInt = 255 := rfl; omega
theorem lat8n (a : Int32) : ¬ (255 : Int32) < nar .char ((a &&& 255).toUInt32.toUInt16.toUInt32.toInt32) := by
  have e : nar .char ((a &&& 255).toUInt32.toUInt16.toUInt32.toInt32) = (a &&& 255) := by
    show ((a &&& 255).toUInt32.toUInt16.toUInt32.toInt32).toUInt32.toUInt16.toUInt32.toInt32 = _
    rw [i2c_mask, i2c_mask]
  rw [e, Int32.lt_iff_toInt_lt]; have := and255 a; have : (255 : Int32).toInt = 255 := rfl; omega
theorem shr0 (x : Int32) : x >>> ((0 : Int32) &&& 31) = x := by simp
end OwnStr
end Jvm.RoadKit

namespace Jvm.Pilot.@@N@@
open Jvm Jvm.ClassFile Sem Op Lib Jvm.Free Jvm.Stand Jvm.LawKit Jvm.RoadKit Bundle Jvm.Pilot.@@N@@.Jvm.D
theorem tw0 {a0 : Array Value} {Z : State} (hw : ∀ d ∈ tables_1, d.before a0 Z = true) : (Jvm.Cond.methodLink "com/example/cormorant/cormorant/CallOfPinLaw" (16 : Nat) ({ cls := "com/example/cormorant/cormorant/CallOfPinLaw", name := "drawn", desc := "(I)Ljava/lang/String;" } : Jvm.MethodName)).before a0 Z = true := hw _ (List.mem_of_getElem? (i := 0) rfl)
theorem tw1 {a0 : Array Value} {Z : State} (hw : ∀ d ∈ tables_1, d.before a0 Z = true) : (Jvm.Cond.static ({ cls := "com/example/cormorant/cormorant/CallOfPinLaw", name := "drawn", desc := "(I)Ljava/lang/String;" } : Jvm.MethodName)).before a0 Z = true := hw _ (List.mem_of_getElem? (i := 1) rfl)
theorem tw2 {a0 : Array Value} {Z : State} (hw : ∀ d ∈ tables_1, d.before a0 Z = true) : (Jvm.Cond.initialized "com/example/cormorant/cormorant/CallOfPinLaw").before a0 Z = true := hw _ (List.mem_of_getElem? (i := 2) rfl)
theorem tw3 {a0 : Array Value} {Z : State} (hw : ∀ d ∈ tables_1, d.before a0 Z = true) : (Jvm.Cond.code ({ cls := "com/example/cormorant/cormorant/CallOfPinLaw", name := "drawn", desc := "(I)Ljava/lang/String;" } : Jvm.MethodName) method_2_code (5 : Nat) (Option.some (Jvm.ClassFile.FieldType.object "java/lang/String"))).before a0 Z = true := hw _ (List.mem_of_getElem? (i := 3) rfl)
theorem tw4 {a0 : Array Value} {Z : State} (hw : ∀ d ∈ tables_1, d.before a0 Z = true) : (Jvm.Cond.classLink "com/example/cormorant/cormorant/CallOfPinLaw" (7 : Nat) "java/lang/String").before a0 Z = true := hw _ (List.mem_of_getElem? (i := 4) rfl)
theorem tw5 {a0 : Array Value} {Z : State} (hw : ∀ d ∈ tables_1, d.before a0 Z = true) : (Jvm.Cond.instantiable "java/lang/String" (4 : Nat)).before a0 Z = true := hw _ (List.mem_of_getElem? (i := 5) rfl)
theorem tw6 {a0 : Array Value} {Z : State} (hw : ∀ d ∈ tables_1, d.before a0 Z = true) : (Jvm.Cond.initialized "java/lang/String").before a0 Z = true := hw _ (List.mem_of_getElem? (i := 6) rfl)
theorem tw7 {a0 : Array Value} {Z : State} (hw : ∀ d ∈ tables_1, d.before a0 Z = true) : (Jvm.Cond.arrayClass Jvm.ClassFile.FieldType.char).before a0 Z = true := hw _ (List.mem_of_getElem? (i := 7) rfl)
theorem tw8 {a0 : Array Value} {Z : State} (hw : ∀ d ∈ tables_1, d.before a0 Z = true) : (Jvm.Cond.methodLink "com/example/cormorant/cormorant/CallOfPinLaw" (9 : Nat) ({ cls := "java/lang/String", name := "<init>", desc := "([C)V" } : Jvm.MethodName)).before a0 Z = true := hw _ (List.mem_of_getElem? (i := 8) rfl)
theorem tw9 {a0 : Array Value} {Z : State} (hw : ∀ d ∈ tables_1, d.before a0 Z = true) : (Jvm.Cond.instanceMethod ({ cls := "java/lang/String", name := "<init>", desc := "([C)V" } : Jvm.MethodName)).before a0 Z = true := hw _ (List.mem_of_getElem? (i := 9) rfl)
theorem tw10 {a0 : Array Value} {Z : State} (hw : ∀ d ∈ tables_1, d.before a0 Z = true) : (Jvm.Cond.code ({ cls := "java/lang/String", name := "<init>", desc := "([C)V" } : Jvm.MethodName) jdk_42_method_3_code (2 : Nat) (Option.none : Option Jvm.ClassFile.FieldType)).before a0 Z = true := hw _ (List.mem_of_getElem? (i := 10) rfl)
theorem tw11 {a0 : Array Value} {Z : State} (hw : ∀ d ∈ tables_1, d.before a0 Z = true) : (Jvm.Cond.methodLink "java/lang/String" (27 : Nat) ({ cls := "java/lang/String", name := "<init>", desc := "([CIILjava/lang/Void;)V" } : Jvm.MethodName)).before a0 Z = true := hw _ (List.mem_of_getElem? (i := 11) rfl)
theorem tw12 {a0 : Array Value} {Z : State} (hw : ∀ d ∈ tables_1, d.before a0 Z = true) : (Jvm.Cond.instanceMethod ({ cls := "java/lang/String", name := "<init>", desc := "([CIILjava/lang/Void;)V" } : Jvm.MethodName)).before a0 Z = true := hw _ (List.mem_of_getElem? (i := 12) rfl)
theorem tw14 {a0 : Array Value} {Z : State} (hw : ∀ d ∈ tables_1, d.before a0 Z = true) : (Jvm.Cond.code ({ cls := "java/lang/String", name := "<init>", desc := "([CIILjava/lang/Void;)V" } : Jvm.MethodName) jdk_42_method_149_code (6 : Nat) (Option.none : Option Jvm.ClassFile.FieldType)).before a0 Z = true := hw _ (List.mem_of_getElem? (i := 14) rfl)
theorem tw15 {a0 : Array Value} {Z : State} (hw : ∀ d ∈ tables_1, d.before a0 Z = true) : (Jvm.Cond.methodLink "java/lang/String" (1 : Nat) ({ cls := "java/lang/Object", name := "<init>", desc := "()V" } : Jvm.MethodName)).before a0 Z = true := hw _ (List.mem_of_getElem? (i := 15) rfl)
theorem tw16 {a0 : Array Value} {Z : State} (hw : ∀ d ∈ tables_1, d.before a0 Z = true) : (Jvm.Cond.instanceMethod ({ cls := "java/lang/Object", name := "<init>", desc := "()V" } : Jvm.MethodName)).before a0 Z = true := hw _ (List.mem_of_getElem? (i := 16) rfl)
theorem tw17 {a0 : Array Value} {Z : State} (hw : ∀ d ∈ tables_1, d.before a0 Z = true) : (Jvm.Cond.code ({ cls := "java/lang/Object", name := "<init>", desc := "()V" } : Jvm.MethodName) object_method_1_code (1 : Nat) (Option.none : Option Jvm.ClassFile.FieldType)).before a0 Z = true := hw _ (List.mem_of_getElem? (i := 17) rfl)
theorem tw18 {a0 : Array Value} {Z : State} (hw : ∀ d ∈ tables_1, d.before a0 Z = true) : (Jvm.Cond.stringLink "java/lang/String" (7 : Nat) "").before a0 Z = true := hw _ (List.mem_of_getElem? (i := 18) rfl)
theorem tw19 {a0 : Array Value} {Z : State} (hw : ∀ d ∈ tables_1, d.before a0 Z = true) : (Jvm.Cond.arrayClass Jvm.ClassFile.FieldType.byte).before a0 Z = true := hw _ (List.mem_of_getElem? (i := 19) rfl)
theorem tw20 {a0 : Array Value} {Z : State} (hw : ∀ d ∈ tables_1, d.before a0 Z = true) : (Jvm.Cond.laysFinal "java/lang/String" "java/lang/String" "value" "[B").before a0 Z = true := hw _ (List.mem_of_getElem? (i := 20) rfl)
theorem tw21 {a0 : Array Value} {Z : State} (hw : ∀ d ∈ tables_1, d.before a0 Z = true) : (Jvm.Cond.laysFinal "java/lang/String" "java/lang/String" "coder" "B").before a0 Z = true := hw _ (List.mem_of_getElem? (i := 21) rfl)
theorem tw22 {a0 : Array Value} {Z : State} (hw : ∀ d ∈ tables_1, d.before a0 Z = true) : (Jvm.Cond.soleField "java/lang/String" "value").before a0 Z = true := hw _ (List.mem_of_getElem? (i := 22) rfl)
theorem tw23 {a0 : Array Value} {Z : State} (hw : ∀ d ∈ tables_1, d.before a0 Z = true) : (Jvm.Cond.soleField "java/lang/String" "coder").before a0 Z = true := hw _ (List.mem_of_getElem? (i := 23) rfl)
theorem tw24 {a0 : Array Value} {Z : State} (hw : ∀ d ∈ tables_1, d.before a0 Z = true) : (Jvm.Cond.fieldLink "java/lang/String" (9 : Nat) "java/lang/String" "value" "[B").before a0 Z = true := hw _ (List.mem_of_getElem? (i := 24) rfl)
theorem tw25 {a0 : Array Value} {Z : State} (hw : ∀ d ∈ tables_1, d.before a0 Z = true) : (Jvm.Cond.fieldLink "java/lang/String" (15 : Nat) "java/lang/String" "coder" "B").before a0 Z = true := hw _ (List.mem_of_getElem? (i := 25) rfl)
theorem tw26 {a0 : Array Value} {Z : State} (hw : ∀ d ∈ tables_1, d.before a0 Z = true) : (Jvm.Cond.fieldLink "java/lang/String" (38 : Nat) "java/lang/String" "COMPACT_STRINGS" "Z").before a0 Z = true := hw _ (List.mem_of_getElem? (i := 26) rfl)
theorem tw27 {a0 : Array Value} {Z : State} (hw : ∀ d ∈ tables_1, d.before a0 Z = true) : (Jvm.Cond.methodLink "java/lang/String" (177 : Nat) ({ cls := "java/lang/StringUTF16", name := "compress", desc := "([CII)[B" } : Jvm.MethodName)).before a0 Z = true := hw _ (List.mem_of_getElem? (i := 27) rfl)
theorem tw28 {a0 : Array Value} {Z : State} (hw : ∀ d ∈ tables_1, d.before a0 Z = true) : (Jvm.Cond.static ({ cls := "java/lang/StringUTF16", name := "compress", desc := "([CII)[B" } : Jvm.MethodName)).before a0 Z = true := hw _ (List.mem_of_getElem? (i := 28) rfl)
theorem tw29 {a0 : Array Value} {Z : State} (hw : ∀ d ∈ tables_1, d.before a0 Z = true) : (Jvm.Cond.initialized "java/lang/StringUTF16").before a0 Z = true := hw _ (List.mem_of_getElem? (i := 29) rfl)
theorem tw30 {a0 : Array Value} {Z : State} (hw : ∀ d ∈ tables_1, d.before a0 Z = true) : (Jvm.Cond.code ({ cls := "java/lang/StringUTF16", name := "compress", desc := "([CII)[B" } : Jvm.MethodName) jdk_52_method_16_code (6 : Nat) (Option.some (Jvm.ClassFile.FieldType.array Jvm.ClassFile.FieldType.byte))).before a0 Z = true := hw _ (List.mem_of_getElem? (i := 30) rfl)
theorem tw31 {a0 : Array Value} {Z : State} (hw : ∀ d ∈ tables_1, d.before a0 Z = true) : (Jvm.Cond.methodLink "java/lang/StringUTF16" (115 : Nat) ({ cls := "java/lang/StringUTF16", name := "compress", desc := "([CI[BII)I" } : Jvm.MethodName)).before a0 Z = true := hw _ (List.mem_of_getElem? (i := 31) rfl)
theorem tw32 {a0 : Array Value} {Z : State} (hw : ∀ d ∈ tables_1, d.before a0 Z = true) : (Jvm.Cond.static ({ cls := "java/lang/StringUTF16", name := "compress", desc := "([CI[BII)I" } : Jvm.MethodName)).before a0 Z = true := hw _ (List.mem_of_getElem? (i := 32) rfl)
theorem tw33 {a0 : Array Value} {Z : State} (hw : ∀ d ∈ tables_1, d.before a0 Z = true) : (Jvm.Cond.code ({ cls := "java/lang/StringUTF16", name := "compress", desc := "([CI[BII)I" } : Jvm.MethodName) jdk_52_method_21_code (7 : Nat) (Option.some Jvm.ClassFile.FieldType.int)).before a0 Z = true := hw _ (List.mem_of_getElem? (i := 33) rfl)
theorem tw34 {a0 : Array Value} {Z : State} (hw : ∀ d ∈ tables_1, d.before a0 Z = true) : (Jvm.Cond.methodLink "java/lang/String" (47 : Nat) ({ cls := "java/lang/StringUTF16", name := "coderFromArrayLen", desc := "([BI)B" } : Jvm.MethodName)).before a0 Z = true := hw _ (List.mem_of_getElem? (i := 34) rfl)
theorem tw35 {a0 : Array Value} {Z : State} (hw : ∀ d ∈ tables_1, d.before a0 Z = true) : (Jvm.Cond.static ({ cls := "java/lang/StringUTF16", name := "coderFromArrayLen", desc := "([BI)B" } : Jvm.MethodName)).before a0 Z = true := hw _ (List.mem_of_getElem? (i := 35) rfl)
theorem tw36 {a0 : Array Value} {Z : State} (hw : ∀ d ∈ tables_1, d.before a0 Z = true) : (Jvm.Cond.code ({ cls := "java/lang/StringUTF16", name := "coderFromArrayLen", desc := "([BI)B" } : Jvm.MethodName) jdk_52_method_15_code (2 : Nat) (Option.some Jvm.ClassFile.FieldType.byte)).before a0 Z = true := hw _ (List.mem_of_getElem? (i := 36) rfl)
theorem tw37 {a0 : Array Value} {Z : State} (hw : ∀ d ∈ tables_1, d.before a0 Z = true) : (Jvm.Cond.methodLink "com/example/cormorant/cormorant/CallOfPinLaw" (22 : Nat) ({ cls := "com/example/cormorant/cormorant/Call", name := "of", desc := "(Ljava/lang/String;Ljava/lang/String;Ljava/lang/String;)Lcom/example/cormorant/cormorant/Call;" } : Jvm.MethodName)).before a0 Z = true := hw _ (List.mem_of_getElem? (i := 37) rfl)
theorem tw38 {a0 : Array Value} {Z : State} (hw : ∀ d ∈ tables_1, d.before a0 Z = true) : (Jvm.Cond.static ({ cls := "com/example/cormorant/cormorant/Call", name := "of", desc := "(Ljava/lang/String;Ljava/lang/String;Ljava/lang/String;)Lcom/example/cormorant/cormorant/Call;" } : Jvm.MethodName)).before a0 Z = true := hw _ (List.mem_of_getElem? (i := 38) rfl)
theorem tw39 {a0 : Array Value} {Z : State} (hw : ∀ d ∈ tables_1, d.before a0 Z = true) : (Jvm.Cond.initialized "com/example/cormorant/cormorant/Call").before a0 Z = true := hw _ (List.mem_of_getElem? (i := 39) rfl)
theorem tw40 {a0 : Array Value} {Z : State} (hw : ∀ d ∈ tables_1, d.before a0 Z = true) : (Jvm.Cond.code ({ cls := "com/example/cormorant/cormorant/Call", name := "of", desc := "(Ljava/lang/String;Ljava/lang/String;Ljava/lang/String;)Lcom/example/cormorant/cormorant/Call;" } : Jvm.MethodName) prog_12_method_3_code (3 : Nat) (Option.some (Jvm.ClassFile.FieldType.object "com/example/cormorant/cormorant/Call"))).before a0 Z = true := hw _ (List.mem_of_getElem? (i := 40) rfl)
theorem tw41 {a0 : Array Value} {Z : State} (hw : ∀ d ∈ tables_1, d.before a0 Z = true) : (Jvm.Cond.classLink "com/example/cormorant/cormorant/Call" (8 : Nat) "com/example/cormorant/cormorant/Call").before a0 Z = true := hw _ (List.mem_of_getElem? (i := 41) rfl)
theorem tw42 {a0 : Array Value} {Z : State} (hw : ∀ d ∈ tables_1, d.before a0 Z = true) : (Jvm.Cond.instantiable "com/example/cormorant/cormorant/Call" (3 : Nat)).before a0 Z = true := hw _ (List.mem_of_getElem? (i := 42) rfl)
theorem tw43 {a0 : Array Value} {Z : State} (hw : ∀ d ∈ tables_1, d.before a0 Z = true) : (Jvm.Cond.stringLink "com/example/cormorant/cormorant/Call" (71 : Nat) "from").before a0 Z = true := hw _ (List.mem_of_getElem? (i := 43) rfl)
theorem tw44 {a0 : Array Value} {Z : State} (hw : ∀ d ∈ tables_1, d.before a0 Z = true) : (Jvm.Cond.methodLink "com/example/cormorant/cormorant/Call" (21 : Nat) ({ cls := "java/util/Objects", name := "requireNonNull", desc := "(Ljava/lang/Object;Ljava/lang/String;)Ljava/lang/Object;" } : Jvm.MethodName)).before a0 Z = true := hw _ (List.mem_of_getElem? (i := 44) rfl)
theorem tw45 {a0 : Array Value} {Z : State} (hw : ∀ d ∈ tables_1, d.before a0 Z = true) : (Jvm.Cond.static ({ cls := "java/util/Objects", name := "requireNonNull", desc := "(Ljava/lang/Object;Ljava/lang/String;)Ljava/lang/Object;" } : Jvm.MethodName)).before a0 Z = true := hw _ (List.mem_of_getElem? (i := 45) rfl)
theorem tw46 {a0 : Array Value} {Z : State} (hw : ∀ d ∈ tables_1, d.before a0 Z = true) : (Jvm.Cond.initialized "java/util/Objects").before a0 Z = true := hw _ (List.mem_of_getElem? (i := 46) rfl)
theorem tw47 {a0 : Array Value} {Z : State} (hw : ∀ d ∈ tables_1, d.before a0 Z = true) : (Jvm.Cond.code ({ cls := "java/util/Objects", name := "requireNonNull", desc := "(Ljava/lang/Object;Ljava/lang/String;)Ljava/lang/Object;" } : Jvm.MethodName) jdk_31_method_11_code (2 : Nat) (Option.some (Jvm.ClassFile.FieldType.object "java/lang/Object"))).before a0 Z = true := hw _ (List.mem_of_getElem? (i := 47) rfl)
theorem tw48 {a0 : Array Value} {Z : State} (hw : ∀ d ∈ tables_1, d.before a0 Z = true) : (Jvm.Cond.classLink "com/example/cormorant/cormorant/Call" (30 : Nat) "java/lang/String").before a0 Z = true := hw _ (List.mem_of_getElem? (i := 48) rfl)
theorem tw49 {a0 : Array Value} {Z : State} (hw : ∀ d ∈ tables_1, d.before a0 Z = true) : (Jvm.Cond.stringLink "com/example/cormorant/cormorant/Call" (72 : Nat) "to").before a0 Z = true := hw _ (List.mem_of_getElem? (i := 49) rfl)
theorem tw50 {a0 : Array Value} {Z : State} (hw : ∀ d ∈ tables_1, d.before a0 Z = true) : (Jvm.Cond.stringLink "com/example/cormorant/cormorant/Call" (67 : Nat) "action").before a0 Z = true := hw _ (List.mem_of_getElem? (i := 50) rfl)
theorem tw51 {a0 : Array Value} {Z : State} (hw : ∀ d ∈ tables_1, d.before a0 Z = true) : (Jvm.Cond.methodLink "com/example/cormorant/cormorant/Call" (68 : Nat) ({ cls := "com/example/cormorant/cormorant/Call", name := "<init>", desc := "(Ljava/lang/String;Ljava/lang/String;Ljava/lang/String;)V" } : Jvm.MethodName)).before a0 Z = true := hw _ (List.mem_of_getElem? (i := 51) rfl)
theorem tw52 {a0 : Array Value} {Z : State} (hw : ∀ d ∈ tables_1, d.before a0 Z = true) : (Jvm.Cond.instanceMethod ({ cls := "com/example/cormorant/cormorant/Call", name := "<init>", desc := "(Ljava/lang/String;Ljava/lang/String;Ljava/lang/String;)V" } : Jvm.MethodName)).before a0 Z = true := hw _ (List.mem_of_getElem? (i := 52) rfl)
theorem tw53 {a0 : Array Value} {Z : State} (hw : ∀ d ∈ tables_1, d.before a0 Z = true) : (Jvm.Cond.code ({ cls := "com/example/cormorant/cormorant/Call", name := "<init>", desc := "(Ljava/lang/String;Ljava/lang/String;Ljava/lang/String;)V" } : Jvm.MethodName) prog_12_method_1_code (4 : Nat) (Option.none : Option Jvm.ClassFile.FieldType)).before a0 Z = true := hw _ (List.mem_of_getElem? (i := 53) rfl)
theorem tw54 {a0 : Array Value} {Z : State} (hw : ∀ d ∈ tables_1, d.before a0 Z = true) : (Jvm.Cond.methodLink "com/example/cormorant/cormorant/Call" (1 : Nat) ({ cls := "java/lang/Object", name := "<init>", desc := "()V" } : Jvm.MethodName)).before a0 Z = true := hw _ (List.mem_of_getElem? (i := 54) rfl)
theorem tw55 {a0 : Array Value} {Z : State} (hw : ∀ d ∈ tables_1, d.before a0 Z = true) : (Jvm.Cond.fieldLink "com/example/cormorant/cormorant/Call" (7 : Nat) "com/example/cormorant/cormorant/Call" "from" "Ljava/lang/String;").before a0 Z = true := hw _ (List.mem_of_getElem? (i := 55) rfl)
theorem tw56 {a0 : Array Value} {Z : State} (hw : ∀ d ∈ tables_1, d.before a0 Z = true) : (Jvm.Cond.laysFinal "com/example/cormorant/cormorant/Call" "com/example/cormorant/cormorant/Call" "from" "Ljava/lang/String;").before a0 Z = true := hw _ (List.mem_of_getElem? (i := 56) rfl)
theorem tw57 {a0 : Array Value} {Z : State} (hw : ∀ d ∈ tables_1, d.before a0 Z = true) : (Jvm.Cond.fieldLink "com/example/cormorant/cormorant/Call" (13 : Nat) "com/example/cormorant/cormorant/Call" "to" "Ljava/lang/String;").before a0 Z = true := hw _ (List.mem_of_getElem? (i := 57) rfl)
theorem tw58 {a0 : Array Value} {Z : State} (hw : ∀ d ∈ tables_1, d.before a0 Z = true) : (Jvm.Cond.laysFinal "com/example/cormorant/cormorant/Call" "com/example/cormorant/cormorant/Call" "to" "Ljava/lang/String;").before a0 Z = true := hw _ (List.mem_of_getElem? (i := 58) rfl)
theorem tw59 {a0 : Array Value} {Z : State} (hw : ∀ d ∈ tables_1, d.before a0 Z = true) : (Jvm.Cond.fieldLink "com/example/cormorant/cormorant/Call" (16 : Nat) "com/example/cormorant/cormorant/Call" "action" "Ljava/lang/String;").before a0 Z = true := hw _ (List.mem_of_getElem? (i := 59) rfl)
theorem tw60 {a0 : Array Value} {Z : State} (hw : ∀ d ∈ tables_1, d.before a0 Z = true) : (Jvm.Cond.laysFinal "com/example/cormorant/cormorant/Call" "com/example/cormorant/cormorant/Call" "action" "Ljava/lang/String;").before a0 Z = true := hw _ (List.mem_of_getElem? (i := 60) rfl)
theorem tw61 {a0 : Array Value} {Z : State} (hw : ∀ d ∈ tables_1, d.before a0 Z = true) : (Jvm.Cond.methodLink "com/example/cormorant/cormorant/CallOfPinLaw" (28 : Nat) ({ cls := "com/example/cormorant/cormorant/Call", name := "getFrom", desc := "()Ljava/lang/String;" } : Jvm.MethodName)).before a0 Z = true := hw _ (List.mem_of_getElem? (i := 61) rfl)
theorem tw62 {a0 : Array Value} {Z : State} (hw : ∀ d ∈ tables_1, d.before a0 Z = true) : (Jvm.Cond.declares ({ cls := "com/example/cormorant/cormorant/Call", name := "getFrom", desc := "()Ljava/lang/String;" } : Jvm.MethodName)).before a0 Z = true := hw _ (List.mem_of_getElem? (i := 62) rfl)
theorem tw63 {a0 : Array Value} {Z : State} (hw : ∀ d ∈ tables_1, d.before a0 Z = true) : (Jvm.Cond.instanceMethod ({ cls := "com/example/cormorant/cormorant/Call", name := "getFrom", desc := "()Ljava/lang/String;" } : Jvm.MethodName)).before a0 Z = true := hw _ (List.mem_of_getElem? (i := 63) rfl)
theorem tw64 {a0 : Array Value} {Z : State} (hw : ∀ d ∈ tables_1, d.before a0 Z = true) : (Jvm.Cond.selects "com/example/cormorant/cormorant/Call" ({ cls := "com/example/cormorant/cormorant/Call", name := "getFrom", desc := "()Ljava/lang/String;" } : Jvm.MethodName) ({ cls := "com/example/cormorant/cormorant/Call", name := "getFrom", desc := "()Ljava/lang/String;" } : Jvm.MethodName)).before a0 Z = true := hw _ (List.mem_of_getElem? (i := 64) rfl)
theorem tw65 {a0 : Array Value} {Z : State} (hw : ∀ d ∈ tables_1, d.before a0 Z = true) : (Jvm.Cond.code ({ cls := "com/example/cormorant/cormorant/Call", name := "getFrom", desc := "()Ljava/lang/String;" } : Jvm.MethodName) prog_12_method_6_code (1 : Nat) (Option.some (Jvm.ClassFile.FieldType.object "java/lang/String"))).before a0 Z = true := hw _ (List.mem_of_getElem? (i := 65) rfl)
theorem tw66 {a0 : Array Value} {Z : State} (hw : ∀ d ∈ tables_1, d.before a0 Z = true) : (Jvm.Cond.methodLink "com/example/cormorant/cormorant/CallOfPinLaw" (32 : Nat) ({ cls := "java/lang/String", name := "equals", desc := "(Ljava/lang/Object;)Z" } : Jvm.MethodName)).before a0 Z = true := hw _ (List.mem_of_getElem? (i := 66) rfl)
theorem tw67 {a0 : Array Value} {Z : State} (hw : ∀ d ∈ tables_1, d.before a0 Z = true) : (Jvm.Cond.declares ({ cls := "java/lang/String", name := "equals", desc := "(Ljava/lang/Object;)Z" } : Jvm.MethodName)).before a0 Z = true := hw _ (List.mem_of_getElem? (i := 67) rfl)
theorem tw68 {a0 : Array Value} {Z : State} (hw : ∀ d ∈ tables_1, d.before a0 Z = true) : (Jvm.Cond.instanceMethod ({ cls := "java/lang/String", name := "equals", desc := "(Ljava/lang/Object;)Z" } : Jvm.MethodName)).before a0 Z = true := hw _ (List.mem_of_getElem? (i := 68) rfl)
theorem tw69 {a0 : Array Value} {Z : State} (hw : ∀ d ∈ tables_1, d.before a0 Z = true) : (Jvm.Cond.selects "java/lang/String" ({ cls := "java/lang/String", name := "equals", desc := "(Ljava/lang/Object;)Z" } : Jvm.MethodName) ({ cls := "java/lang/String", name := "equals", desc := "(Ljava/lang/Object;)Z" } : Jvm.MethodName)).before a0 Z = true := hw _ (List.mem_of_getElem? (i := 69) rfl)
theorem tw70 {a0 : Array Value} {Z : State} (hw : ∀ d ∈ tables_1, d.before a0 Z = true) : (Jvm.Cond.code ({ cls := "java/lang/String", name := "equals", desc := "(Ljava/lang/Object;)Z" } : Jvm.MethodName) jdk_42_method_66_code (3 : Nat) (Option.some Jvm.ClassFile.FieldType.boolean)).before a0 Z = true := hw _ (List.mem_of_getElem? (i := 70) rfl)
theorem tw71 {a0 : Array Value} {Z : State} (hw : ∀ d ∈ tables_1, d.before a0 Z = true) : (Jvm.Cond.methodLink "com/example/cormorant/cormorant/CallOfPinLaw" (36 : Nat) ({ cls := "com/example/cormorant/cormorant/Call", name := "getTo", desc := "()Ljava/lang/String;" } : Jvm.MethodName)).before a0 Z = true := hw _ (List.mem_of_getElem? (i := 71) rfl)
theorem tw72 {a0 : Array Value} {Z : State} (hw : ∀ d ∈ tables_1, d.before a0 Z = true) : (Jvm.Cond.declares ({ cls := "com/example/cormorant/cormorant/Call", name := "getTo", desc := "()Ljava/lang/String;" } : Jvm.MethodName)).before a0 Z = true := hw _ (List.mem_of_getElem? (i := 72) rfl)
theorem tw73 {a0 : Array Value} {Z : State} (hw : ∀ d ∈ tables_1, d.before a0 Z = true) : (Jvm.Cond.instanceMethod ({ cls := "com/example/cormorant/cormorant/Call", name := "getTo", desc := "()Ljava/lang/String;" } : Jvm.MethodName)).before a0 Z = true := hw _ (List.mem_of_getElem? (i := 73) rfl)
theorem tw74 {a0 : Array Value} {Z : State} (hw : ∀ d ∈ tables_1, d.before a0 Z = true) : (Jvm.Cond.selects "com/example/cormorant/cormorant/Call" ({ cls := "com/example/cormorant/cormorant/Call", name := "getTo", desc := "()Ljava/lang/String;" } : Jvm.MethodName) ({ cls := "com/example/cormorant/cormorant/Call", name := "getTo", desc := "()Ljava/lang/String;" } : Jvm.MethodName)).before a0 Z = true := hw _ (List.mem_of_getElem? (i := 74) rfl)
theorem tw75 {a0 : Array Value} {Z : State} (hw : ∀ d ∈ tables_1, d.before a0 Z = true) : (Jvm.Cond.code ({ cls := "com/example/cormorant/cormorant/Call", name := "getTo", desc := "()Ljava/lang/String;" } : Jvm.MethodName) prog_12_method_7_code (1 : Nat) (Option.some (Jvm.ClassFile.FieldType.object "java/lang/String"))).before a0 Z = true := hw _ (List.mem_of_getElem? (i := 75) rfl)
theorem tw76 {a0 : Array Value} {Z : State} (hw : ∀ d ∈ tables_1, d.before a0 Z = true) : (Jvm.Cond.methodLink "com/example/cormorant/cormorant/CallOfPinLaw" (39 : Nat) ({ cls := "com/example/cormorant/cormorant/Call", name := "getAction", desc := "()Ljava/lang/String;" } : Jvm.MethodName)).before a0 Z = true := hw _ (List.mem_of_getElem? (i := 76) rfl)
theorem tw77 {a0 : Array Value} {Z : State} (hw : ∀ d ∈ tables_1, d.before a0 Z = true) : (Jvm.Cond.declares ({ cls := "com/example/cormorant/cormorant/Call", name := "getAction", desc := "()Ljava/lang/String;" } : Jvm.MethodName)).before a0 Z = true := hw _ (List.mem_of_getElem? (i := 77) rfl)
theorem tw78 {a0 : Array Value} {Z : State} (hw : ∀ d ∈ tables_1, d.before a0 Z = true) : (Jvm.Cond.instanceMethod ({ cls := "com/example/cormorant/cormorant/Call", name := "getAction", desc := "()Ljava/lang/String;" } : Jvm.MethodName)).before a0 Z = true := hw _ (List.mem_of_getElem? (i := 78) rfl)
theorem tw79 {a0 : Array Value} {Z : State} (hw : ∀ d ∈ tables_1, d.before a0 Z = true) : (Jvm.Cond.selects "com/example/cormorant/cormorant/Call" ({ cls := "com/example/cormorant/cormorant/Call", name := "getAction", desc := "()Ljava/lang/String;" } : Jvm.MethodName) ({ cls := "com/example/cormorant/cormorant/Call", name := "getAction", desc := "()Ljava/lang/String;" } : Jvm.MethodName)).before a0 Z = true := hw _ (List.mem_of_getElem? (i := 79) rfl)
theorem tw80 {a0 : Array Value} {Z : State} (hw : ∀ d ∈ tables_1, d.before a0 Z = true) : (Jvm.Cond.code ({ cls := "com/example/cormorant/cormorant/Call", name := "getAction", desc := "()Ljava/lang/String;" } : Jvm.MethodName) prog_12_method_8_code (1 : Nat) (Option.some (Jvm.ClassFile.FieldType.object "java/lang/String"))).before a0 Z = true := hw _ (List.mem_of_getElem? (i := 80) rfl)
theorem tw81 {a0 : Array Value} {Z : State} (hw : ∀ d ∈ tables_1, d.before a0 Z = true) : (Jvm.Cond.methodLink "com/example/cormorant/cormorant/CallOfPinLaw" (12 : Nat) ({ cls := "java/lang/String", name := "valueOf", desc := "(C)Ljava/lang/String;" } : Jvm.MethodName)).before a0 Z = true := hw _ (List.mem_of_getElem? (i := 81) rfl)
theorem tw82 {a0 : Array Value} {Z : State} (hw : ∀ d ∈ tables_1, d.before a0 Z = true) : (Jvm.Cond.static ({ cls := "java/lang/String", name := "valueOf", desc := "(C)Ljava/lang/String;" } : Jvm.MethodName)).before a0 Z = true := hw _ (List.mem_of_getElem? (i := 82) rfl)
theorem tw83 {a0 : Array Value} {Z : State} (hw : ∀ d ∈ tables_1, d.before a0 Z = true) : (Jvm.Cond.code ({ cls := "java/lang/String", name := "valueOf", desc := "(C)Ljava/lang/String;" } : Jvm.MethodName) jdk_42_method_139_code (1 : Nat) (Option.some (Jvm.ClassFile.FieldType.object "java/lang/String"))).before a0 Z = true := hw _ (List.mem_of_getElem? (i := 83) rfl)
theorem tw84 {a0 : Array Value} {Z : State} (hw : ∀ d ∈ tables_1, d.before a0 Z = true) : (Jvm.Cond.methodLink "java/lang/String" (1015 : Nat) ({ cls := "java/lang/StringLatin1", name := "canEncode", desc := "(C)Z" } : Jvm.MethodName)).before a0 Z = true := hw _ (List.mem_of_getElem? (i := 84) rfl)
theorem tw85 {a0 : Array Value} {Z : State} (hw : ∀ d ∈ tables_1, d.before a0 Z = true) : (Jvm.Cond.static ({ cls := "java/lang/StringLatin1", name := "canEncode", desc := "(C)Z" } : Jvm.MethodName)).before a0 Z = true := hw _ (List.mem_of_getElem? (i := 85) rfl)
theorem tw86 {a0 : Array Value} {Z : State} (hw : ∀ d ∈ tables_1, d.before a0 Z = true) : (Jvm.Cond.initialized "java/lang/StringLatin1").before a0 Z = true := hw _ (List.mem_of_getElem? (i := 86) rfl)
theorem tw87 {a0 : Array Value} {Z : State} (hw : ∀ d ∈ tables_1, d.before a0 Z = true) : (Jvm.Cond.code ({ cls := "java/lang/StringLatin1", name := "canEncode", desc := "(C)Z" } : Jvm.MethodName) jdk_43_method_3_code (1 : Nat) (Option.some Jvm.ClassFile.FieldType.boolean)).before a0 Z = true := hw _ (List.mem_of_getElem? (i := 87) rfl)
theorem tw88 {a0 : Array Value} {Z : State} (hw : ∀ d ∈ tables_1, d.before a0 Z = true) : (Jvm.Cond.classLink "java/lang/String" (10 : Nat) "java/lang/String").before a0 Z = true := hw _ (List.mem_of_getElem? (i := 88) rfl)
theorem tw89 {a0 : Array Value} {Z : State} (hw : ∀ d ∈ tables_1, d.before a0 Z = true) : (Jvm.Cond.methodLink "java/lang/String" (1018 : Nat) ({ cls := "java/lang/StringLatin1", name := "toBytes", desc := "(C)[B" } : Jvm.MethodName)).before a0 Z = true := hw _ (List.mem_of_getElem? (i := 89) rfl)
theorem tw90 {a0 : Array Value} {Z : State} (hw : ∀ d ∈ tables_1, d.before a0 Z = true) : (Jvm.Cond.static ({ cls := "java/lang/StringLatin1", name := "toBytes", desc := "(C)[B" } : Jvm.MethodName)).before a0 Z = true := hw _ (List.mem_of_getElem? (i := 90) rfl)
theorem tw91 {a0 : Array Value} {Z : State} (hw : ∀ d ∈ tables_1, d.before a0 Z = true) : (Jvm.Cond.code ({ cls := "java/lang/StringLatin1", name := "toBytes", desc := "(C)[B" } : Jvm.MethodName) jdk_43_method_46_code (1 : Nat) (Option.some (Jvm.ClassFile.FieldType.array Jvm.ClassFile.FieldType.byte))).before a0 Z = true := hw _ (List.mem_of_getElem? (i := 91) rfl)
theorem tw92 {a0 : Array Value} {Z : State} (hw : ∀ d ∈ tables_1, d.before a0 Z = true) : (Jvm.Cond.methodLink "java/lang/String" (209 : Nat) ({ cls := "java/lang/String", name := "<init>", desc := "([BB)V" } : Jvm.MethodName)).before a0 Z = true := hw _ (List.mem_of_getElem? (i := 92) rfl)
theorem tw93 {a0 : Array Value} {Z : State} (hw : ∀ d ∈ tables_1, d.before a0 Z = true) : (Jvm.Cond.instanceMethod ({ cls := "java/lang/String", name := "<init>", desc := "([BB)V" } : Jvm.MethodName)).before a0 Z = true := hw _ (List.mem_of_getElem? (i := 93) rfl)
theorem tw94 {a0 : Array Value} {Z : State} (hw : ∀ d ∈ tables_1, d.before a0 Z = true) : (Jvm.Cond.code ({ cls := "java/lang/String", name := "<init>", desc := "([BB)V" } : Jvm.MethodName) jdk_42_method_151_code (3 : Nat) (Option.none : Option Jvm.ClassFile.FieldType)).before a0 Z = true := hw _ (List.mem_of_getElem? (i := 94) rfl)
theorem d_jdk_31_method_11_code_0 : decode jdk_31_method_11_code 0 = .ok (.aload_n 0, 1) := by decide +kernel
theorem d_jdk_31_method_11_code_1 : decode jdk_31_method_11_code 1 = .ok (.ifnonnull 12, 3) := by decide +kernel
theorem d_jdk_31_method_11_code_13 : decode jdk_31_method_11_code 13 = .ok (.aload_n 0, 1) := by decide +kernel
theorem d_jdk_31_method_11_code_14 : decode jdk_31_method_11_code 14 = .ok (.areturn, 1) := by decide +kernel
theorem d_jdk_42_method_139_code_0 : decode jdk_42_method_139_code 0 = .ok (.getstatic 38, 3) := by decide +kernel
theorem d_jdk_42_method_139_code_3 : decode jdk_42_method_139_code 3 = .ok (.ifCond .eq 23, 3) := by decide +kernel
theorem d_jdk_42_method_139_code_6 : decode jdk_42_method_139_code 6 = .ok (.iload_n 0, 1) := by decide +kernel
theorem d_jdk_42_method_139_code_7 : decode jdk_42_method_139_code 7 = .ok (.invokestatic 1015, 3) := by decide +kernel
theorem d_jdk_42_method_139_code_10 : decode jdk_42_method_139_code 10 = .ok (.ifCond .eq 16, 3) := by decide +kernel
theorem d_jdk_42_method_139_code_13 : decode jdk_42_method_139_code 13 = .ok (.new 10, 3) := by decide +kernel
theorem d_jdk_42_method_139_code_16 : decode jdk_42_method_139_code 16 = .ok (.dup, 1) := by decide +kernel
theorem d_jdk_42_method_139_code_17 : decode jdk_42_method_139_code 17 = .ok (.iload_n 0, 1) := by decide +kernel
theorem d_jdk_42_method_139_code_18 : decode jdk_42_method_139_code 18 = .ok (.invokestatic 1018, 3) := by decide +kernel
theorem d_jdk_42_method_139_code_21 : decode jdk_42_method_139_code 21 = .ok (.iconst 0, 1) := by decide +kernel
theorem d_jdk_42_method_139_code_22 : decode jdk_42_method_139_code 22 = .ok (.invokespecial 209, 3) := by decide +kernel
theorem d_jdk_42_method_139_code_25 : decode jdk_42_method_139_code 25 = .ok (.areturn, 1) := by decide +kernel
theorem d_jdk_42_method_149_code_0 : decode jdk_42_method_149_code 0 = .ok (.aload_n 0, 1) := by decide +kernel
theorem d_jdk_42_method_149_code_1 : decode jdk_42_method_149_code 1 = .ok (.invokespecial 1, 3) := by decide +kernel
theorem d_jdk_42_method_149_code_4 : decode jdk_42_method_149_code 4 = .ok (.iload_n 3, 1) := by decide +kernel
theorem d_jdk_42_method_149_code_5 : decode jdk_42_method_149_code 5 = .ok (.ifCond .ne 22, 3) := by decide +kernel
theorem d_jdk_42_method_149_code_8 : decode jdk_42_method_149_code 8 = .ok (.aload_n 0, 1) := by decide +kernel
theorem d_jdk_42_method_149_code_9 : decode jdk_42_method_149_code 9 = .ok (.ldc 7, 2) := by decide +kernel
theorem d_jdk_42_method_149_code_11 : decode jdk_42_method_149_code 11 = .ok (.getfield 9, 3) := by decide +kernel
theorem d_jdk_42_method_149_code_14 : decode jdk_42_method_149_code 14 = .ok (.putfield 9, 3) := by decide +kernel
theorem d_jdk_42_method_149_code_17 : decode jdk_42_method_149_code 17 = .ok (.aload_n 0, 1) := by decide +kernel
theorem d_jdk_42_method_149_code_18 : decode jdk_42_method_149_code 18 = .ok (.ldc 7, 2) := by decide +kernel
theorem d_jdk_42_method_149_code_20 : decode jdk_42_method_149_code 20 = .ok (.getfield 15, 3) := by decide +kernel
theorem d_jdk_42_method_149_code_23 : decode jdk_42_method_149_code 23 = .ok (.putfield 15, 3) := by decide +kernel
theorem d_jdk_42_method_149_code_26 : decode jdk_42_method_149_code 26 = .ok (.return_, 1) := by decide +kernel
theorem d_jdk_42_method_149_code_27 : decode jdk_42_method_149_code 27 = .ok (.getstatic 38, 3) := by decide +kernel
theorem d_jdk_42_method_149_code_30 : decode jdk_42_method_149_code 30 = .ok (.ifCond .eq 28, 3) := by decide +kernel
theorem d_jdk_42_method_149_code_33 : decode jdk_42_method_149_code 33 = .ok (.aload_n 1, 1) := by decide +kernel
theorem d_jdk_42_method_149_code_34 : decode jdk_42_method_149_code 34 = .ok (.iload_n 2, 1) := by decide +kernel
theorem d_jdk_42_method_149_code_35 : decode jdk_42_method_149_code 35 = .ok (.iload_n 3, 1) := by decide +kernel
theorem d_jdk_42_method_149_code_36 : decode jdk_42_method_149_code 36 = .ok (.invokestatic 177, 3) := by decide +kernel
theorem d_jdk_42_method_149_code_39 : decode jdk_42_method_149_code 39 = .ok (.astore 5, 2) := by decide +kernel
theorem d_jdk_42_method_149_code_41 : decode jdk_42_method_149_code 41 = .ok (.aload_n 0, 1) := by decide +kernel
theorem d_jdk_42_method_149_code_42 : decode jdk_42_method_149_code 42 = .ok (.aload 5, 2) := by decide +kernel
theorem d_jdk_42_method_149_code_44 : decode jdk_42_method_149_code 44 = .ok (.iload_n 3, 1) := by decide +kernel
theorem d_jdk_42_method_149_code_45 : decode jdk_42_method_149_code 45 = .ok (.invokestatic 47, 3) := by decide +kernel
theorem d_jdk_42_method_149_code_48 : decode jdk_42_method_149_code 48 = .ok (.putfield 15, 3) := by decide +kernel
theorem d_jdk_42_method_149_code_51 : decode jdk_42_method_149_code 51 = .ok (.aload_n 0, 1) := by decide +kernel
theorem d_jdk_42_method_149_code_52 : decode jdk_42_method_149_code 52 = .ok (.aload 5, 2) := by decide +kernel
theorem d_jdk_42_method_149_code_54 : decode jdk_42_method_149_code 54 = .ok (.putfield 9, 3) := by decide +kernel
theorem d_jdk_42_method_149_code_57 : decode jdk_42_method_149_code 57 = .ok (.return_, 1) := by decide +kernel
theorem d_jdk_42_method_151_code_0 : decode jdk_42_method_151_code 0 = .ok (.aload_n 0, 1) := by decide +kernel
theorem d_jdk_42_method_151_code_1 : decode jdk_42_method_151_code 1 = .ok (.invokespecial 1, 3) := by decide +kernel
theorem d_jdk_42_method_151_code_4 : decode jdk_42_method_151_code 4 = .ok (.aload_n 0, 1) := by decide +kernel
theorem d_jdk_42_method_151_code_5 : decode jdk_42_method_151_code 5 = .ok (.aload_n 1, 1) := by decide +kernel
theorem d_jdk_42_method_151_code_6 : decode jdk_42_method_151_code 6 = .ok (.putfield 9, 3) := by decide +kernel
theorem d_jdk_42_method_151_code_9 : decode jdk_42_method_151_code 9 = .ok (.aload_n 0, 1) := by decide +kernel
theorem d_jdk_42_method_151_code_10 : decode jdk_42_method_151_code 10 = .ok (.iload_n 2, 1) := by decide +kernel
theorem d_jdk_42_method_151_code_11 : decode jdk_42_method_151_code 11 = .ok (.putfield 15, 3) := by decide +kernel
theorem d_jdk_42_method_151_code_14 : decode jdk_42_method_151_code 14 = .ok (.return_, 1) := by decide +kernel
theorem d_jdk_42_method_3_code_0 : decode jdk_42_method_3_code 0 = .ok (.aload_n 0, 1) := by decide +kernel
theorem d_jdk_42_method_3_code_1 : decode jdk_42_method_3_code 1 = .ok (.aload_n 1, 1) := by decide +kernel
theorem d_jdk_42_method_3_code_2 : decode jdk_42_method_3_code 2 = .ok (.iconst 0, 1) := by decide +kernel
theorem d_jdk_42_method_3_code_3 : decode jdk_42_method_3_code 3 = .ok (.aload_n 1, 1) := by decide +kernel
theorem d_jdk_42_method_3_code_4 : decode jdk_42_method_3_code 4 = .ok (.arraylength, 1) := by decide +kernel
theorem d_jdk_42_method_3_code_5 : decode jdk_42_method_3_code 5 = .ok (.aconst_null, 1) := by decide +kernel
theorem d_jdk_42_method_3_code_6 : decode jdk_42_method_3_code 6 = .ok (.invokespecial 27, 3) := by decide +kernel
theorem d_jdk_42_method_3_code_9 : decode jdk_42_method_3_code 9 = .ok (.return_, 1) := by decide +kernel
theorem d_jdk_42_method_66_code_0 : decode jdk_42_method_66_code 0 = .ok (.aload_n 0, 1) := by decide +kernel
theorem d_jdk_42_method_66_code_1 : decode jdk_42_method_66_code 1 = .ok (.aload_n 1, 1) := by decide +kernel
theorem d_jdk_42_method_66_code_2 : decode jdk_42_method_66_code 2 = .ok (.if_acmp .ne 5, 3) := by decide +kernel
theorem d_jdk_42_method_66_code_5 : decode jdk_42_method_66_code 5 = .ok (.iconst 1, 1) := by decide +kernel
theorem d_jdk_42_method_66_code_6 : decode jdk_42_method_66_code 6 = .ok (.ireturn, 1) := by decide +kernel
theorem d_jdk_43_method_3_code_0 : decode jdk_43_method_3_code 0 = .ok (.iload_n 0, 1) := by decide +kernel
theorem d_jdk_43_method_3_code_1 : decode jdk_43_method_3_code 1 = .ok (.sipush 255, 3) := by decide +kernel
theorem d_jdk_43_method_3_code_4 : decode jdk_43_method_3_code 4 = .ok (.if_icmp .gt 7, 3) := by decide +kernel
theorem d_jdk_43_method_3_code_7 : decode jdk_43_method_3_code 7 = .ok (.iconst 1, 1) := by decide +kernel
theorem d_jdk_43_method_3_code_8 : decode jdk_43_method_3_code 8 = .ok (.goto 4, 3) := by decide +kernel
theorem d_jdk_43_method_3_code_12 : decode jdk_43_method_3_code 12 = .ok (.ireturn, 1) := by decide +kernel
theorem d_jdk_43_method_46_code_0 : decode jdk_43_method_46_code 0 = .ok (.iconst 1, 1) := by decide +kernel
theorem d_jdk_43_method_46_code_1 : decode jdk_43_method_46_code 1 = .ok (.newarray .byte, 2) := by decide +kernel
theorem d_jdk_43_method_46_code_3 : decode jdk_43_method_46_code 3 = .ok (.dup, 1) := by decide +kernel
theorem d_jdk_43_method_46_code_4 : decode jdk_43_method_46_code 4 = .ok (.iconst 0, 1) := by decide +kernel
theorem d_jdk_43_method_46_code_5 : decode jdk_43_method_46_code 5 = .ok (.iload_n 0, 1) := by decide +kernel
theorem d_jdk_43_method_46_code_6 : decode jdk_43_method_46_code 6 = .ok (.i2b, 1) := by decide +kernel
theorem d_jdk_43_method_46_code_7 : decode jdk_43_method_46_code 7 = .ok (.bastore, 1) := by decide +kernel
theorem d_jdk_43_method_46_code_8 : decode jdk_43_method_46_code 8 = .ok (.areturn, 1) := by decide +kernel
theorem d_jdk_52_method_15_code_0 : decode jdk_52_method_15_code 0 = .ok (.iload_n 1, 1) := by decide +kernel
theorem d_jdk_52_method_15_code_1 : decode jdk_52_method_15_code 1 = .ok (.aload_n 0, 1) := by decide +kernel
theorem d_jdk_52_method_15_code_2 : decode jdk_52_method_15_code 2 = .ok (.arraylength, 1) := by decide +kernel
theorem d_jdk_52_method_15_code_3 : decode jdk_52_method_15_code 3 = .ok (.isub, 1) := by decide +kernel
theorem d_jdk_52_method_15_code_4 : decode jdk_52_method_15_code 4 = .ok (.bipush 31, 2) := by decide +kernel
theorem d_jdk_52_method_15_code_6 : decode jdk_52_method_15_code 6 = .ok (.iushr, 1) := by decide +kernel
theorem d_jdk_52_method_15_code_7 : decode jdk_52_method_15_code 7 = .ok (.i2b, 1) := by decide +kernel
theorem d_jdk_52_method_15_code_8 : decode jdk_52_method_15_code 8 = .ok (.ireturn, 1) := by decide +kernel
theorem d_jdk_52_method_16_code_0 : decode jdk_52_method_16_code 0 = .ok (.iload_n 2, 1) := by decide +kernel
theorem d_jdk_52_method_16_code_1 : decode jdk_52_method_16_code 1 = .ok (.newarray .byte, 2) := by decide +kernel
theorem d_jdk_52_method_16_code_3 : decode jdk_52_method_16_code 3 = .ok (.astore_n 3, 1) := by decide +kernel
theorem d_jdk_52_method_16_code_4 : decode jdk_52_method_16_code 4 = .ok (.aload_n 0, 1) := by decide +kernel
theorem d_jdk_52_method_16_code_5 : decode jdk_52_method_16_code 5 = .ok (.iload_n 1, 1) := by decide +kernel
theorem d_jdk_52_method_16_code_6 : decode jdk_52_method_16_code 6 = .ok (.aload_n 3, 1) := by decide +kernel
theorem d_jdk_52_method_16_code_7 : decode jdk_52_method_16_code 7 = .ok (.iconst 0, 1) := by decide +kernel
theorem d_jdk_52_method_16_code_8 : decode jdk_52_method_16_code 8 = .ok (.iload_n 2, 1) := by decide +kernel
theorem d_jdk_52_method_16_code_9 : decode jdk_52_method_16_code 9 = .ok (.invokestatic 115, 3) := by decide +kernel
theorem d_jdk_52_method_16_code_12 : decode jdk_52_method_16_code 12 = .ok (.istore 4, 2) := by decide +kernel
theorem d_jdk_52_method_16_code_14 : decode jdk_52_method_16_code 14 = .ok (.iload 4, 2) := by decide +kernel
theorem d_jdk_52_method_16_code_16 : decode jdk_52_method_16_code 16 = .ok (.iload_n 2, 1) := by decide +kernel
theorem d_jdk_52_method_16_code_17 : decode jdk_52_method_16_code 17 = .ok (.if_icmp .eq 40, 3) := by decide +kernel
theorem d_jdk_52_method_16_code_57 : decode jdk_52_method_16_code 57 = .ok (.aload_n 3, 1) := by decide +kernel
theorem d_jdk_52_method_16_code_58 : decode jdk_52_method_16_code 58 = .ok (.areturn, 1) := by decide +kernel
theorem d_jdk_52_method_21_code_0 : decode jdk_52_method_21_code 0 = .ok (.iconst 0, 1) := by decide +kernel
theorem d_jdk_52_method_21_code_1 : decode jdk_52_method_21_code 1 = .ok (.istore 5, 2) := by decide +kernel
theorem d_jdk_52_method_21_code_3 : decode jdk_52_method_21_code 3 = .ok (.iload 5, 2) := by decide +kernel
theorem d_jdk_52_method_21_code_5 : decode jdk_52_method_21_code 5 = .ok (.iload 4, 2) := by decide +kernel
theorem d_jdk_52_method_21_code_7 : decode jdk_52_method_21_code 7 = .ok (.if_icmp .ge 37, 3) := by decide +kernel
theorem d_jdk_52_method_21_code_10 : decode jdk_52_method_21_code 10 = .ok (.aload_n 0, 1) := by decide +kernel
theorem d_jdk_52_method_21_code_11 : decode jdk_52_method_21_code 11 = .ok (.iload_n 1, 1) := by decide +kernel
theorem d_jdk_52_method_21_code_12 : decode jdk_52_method_21_code 12 = .ok (.caload, 1) := by decide +kernel
theorem d_jdk_52_method_21_code_13 : decode jdk_52_method_21_code 13 = .ok (.istore 6, 2) := by decide +kernel
theorem d_jdk_52_method_21_code_15 : decode jdk_52_method_21_code 15 = .ok (.iload 6, 2) := by decide +kernel
theorem d_jdk_52_method_21_code_17 : decode jdk_52_method_21_code 17 = .ok (.sipush 255, 3) := by decide +kernel
theorem d_jdk_52_method_21_code_20 : decode jdk_52_method_21_code 20 = .ok (.if_icmp .le 6, 3) := by decide +kernel
theorem d_jdk_52_method_21_code_23 : decode jdk_52_method_21_code 23 = .ok (.iload 5, 2) := by decide +kernel
theorem d_jdk_52_method_21_code_25 : decode jdk_52_method_21_code 25 = .ok (.ireturn, 1) := by decide +kernel
theorem d_jdk_52_method_21_code_26 : decode jdk_52_method_21_code 26 = .ok (.aload_n 2, 1) := by decide +kernel
theorem d_jdk_52_method_21_code_27 : decode jdk_52_method_21_code 27 = .ok (.iload_n 3, 1) := by decide +kernel
theorem d_jdk_52_method_21_code_28 : decode jdk_52_method_21_code 28 = .ok (.iload 6, 2) := by decide +kernel
theorem d_jdk_52_method_21_code_30 : decode jdk_52_method_21_code 30 = .ok (.i2b, 1) := by decide +kernel
theorem d_jdk_52_method_21_code_31 : decode jdk_52_method_21_code 31 = .ok (.bastore, 1) := by decide +kernel
theorem d_jdk_52_method_21_code_32 : decode jdk_52_method_21_code 32 = .ok (.iinc 1 1, 3) := by decide +kernel
theorem d_jdk_52_method_21_code_35 : decode jdk_52_method_21_code 35 = .ok (.iinc 3 1, 3) := by decide +kernel
theorem d_jdk_52_method_21_code_38 : decode jdk_52_method_21_code 38 = .ok (.iinc 5 1, 3) := by decide +kernel
theorem d_jdk_52_method_21_code_41 : decode jdk_52_method_21_code 41 = .ok (.goto (-38), 3) := by decide +kernel
theorem d_jdk_52_method_21_code_44 : decode jdk_52_method_21_code 44 = .ok (.iload 4, 2) := by decide +kernel
theorem d_jdk_52_method_21_code_46 : decode jdk_52_method_21_code 46 = .ok (.ireturn, 1) := by decide +kernel
theorem d_method_2_code_0 : decode method_2_code 0 = .ok (.iload_n 0, 1) := by decide +kernel
theorem d_method_2_code_1 : decode method_2_code 1 = .ok (.iconst 3, 1) := by decide +kernel
theorem d_method_2_code_2 : decode method_2_code 2 = .ok (.iand, 1) := by decide +kernel
theorem d_method_2_code_3 : decode method_2_code 3 = .ok (.istore_n 1, 1) := by decide +kernel
theorem d_method_2_code_4 : decode method_2_code 4 = .ok (.iload_n 0, 1) := by decide +kernel
theorem d_method_2_code_5 : decode method_2_code 5 = .ok (.iconst 2, 1) := by decide +kernel
theorem d_method_2_code_6 : decode method_2_code 6 = .ok (.iushr, 1) := by decide +kernel
theorem d_method_2_code_7 : decode method_2_code 7 = .ok (.sipush 255, 3) := by decide +kernel
theorem d_method_2_code_10 : decode method_2_code 10 = .ok (.iand, 1) := by decide +kernel
theorem d_method_2_code_11 : decode method_2_code 11 = .ok (.i2c, 1) := by decide +kernel
theorem d_method_2_code_12 : decode method_2_code 12 = .ok (.istore_n 2, 1) := by decide +kernel
theorem d_method_2_code_13 : decode method_2_code 13 = .ok (.iload_n 0, 1) := by decide +kernel
theorem d_method_2_code_14 : decode method_2_code 14 = .ok (.bipush 10, 2) := by decide +kernel
theorem d_method_2_code_16 : decode method_2_code 16 = .ok (.iushr, 1) := by decide +kernel
theorem d_method_2_code_17 : decode method_2_code 17 = .ok (.sipush 255, 3) := by decide +kernel
theorem d_method_2_code_20 : decode method_2_code 20 = .ok (.iand, 1) := by decide +kernel
theorem d_method_2_code_21 : decode method_2_code 21 = .ok (.i2c, 1) := by decide +kernel
theorem d_method_2_code_22 : decode method_2_code 22 = .ok (.istore_n 3, 1) := by decide +kernel
theorem d_method_2_code_23 : decode method_2_code 23 = .ok (.iload_n 0, 1) := by decide +kernel
theorem d_method_2_code_24 : decode method_2_code 24 = .ok (.bipush 18, 2) := by decide +kernel
theorem d_method_2_code_26 : decode method_2_code 26 = .ok (.iushr, 1) := by decide +kernel
theorem d_method_2_code_27 : decode method_2_code 27 = .ok (.sipush 255, 3) := by decide +kernel
theorem d_method_2_code_30 : decode method_2_code 30 = .ok (.iand, 1) := by decide +kernel
theorem d_method_2_code_31 : decode method_2_code 31 = .ok (.i2c, 1) := by decide +kernel
theorem d_method_2_code_32 : decode method_2_code 32 = .ok (.istore 4, 2) := by decide +kernel
theorem d_method_2_code_34 : decode method_2_code 34 = .ok (.iload_n 1, 1) := by decide +kernel
theorem d_method_2_code_35 : decode method_2_code 35 = .ok (.ifCond .ne 14, 3) := by decide +kernel
theorem d_method_2_code_38 : decode method_2_code 38 = .ok (.new 7, 3) := by decide +kernel
theorem d_method_2_code_41 : decode method_2_code 41 = .ok (.dup, 1) := by decide +kernel
theorem d_method_2_code_42 : decode method_2_code 42 = .ok (.iconst 0, 1) := by decide +kernel
theorem d_method_2_code_43 : decode method_2_code 43 = .ok (.newarray .char, 2) := by decide +kernel
theorem d_method_2_code_45 : decode method_2_code 45 = .ok (.invokespecial 9, 3) := by decide +kernel
theorem d_method_2_code_48 : decode method_2_code 48 = .ok (.areturn, 1) := by decide +kernel
theorem d_method_2_code_49 : decode method_2_code 49 = .ok (.iload_n 1, 1) := by decide +kernel
theorem d_method_2_code_50 : decode method_2_code 50 = .ok (.iconst 1, 1) := by decide +kernel
theorem d_method_2_code_51 : decode method_2_code 51 = .ok (.if_icmp .ne 8, 3) := by decide +kernel
theorem d_method_2_code_54 : decode method_2_code 54 = .ok (.iload_n 2, 1) := by decide +kernel
theorem d_method_2_code_55 : decode method_2_code 55 = .ok (.invokestatic 12, 3) := by decide +kernel
theorem d_method_2_code_58 : decode method_2_code 58 = .ok (.areturn, 1) := by decide +kernel
theorem d_method_2_code_59 : decode method_2_code 59 = .ok (.iload_n 1, 1) := by decide +kernel
theorem d_method_2_code_60 : decode method_2_code 60 = .ok (.iconst 2, 1) := by decide +kernel
theorem d_method_2_code_61 : decode method_2_code 61 = .ok (.if_icmp .ne 22, 3) := by decide +kernel
theorem d_method_2_code_64 : decode method_2_code 64 = .ok (.new 7, 3) := by decide +kernel
theorem d_method_2_code_67 : decode method_2_code 67 = .ok (.dup, 1) := by decide +kernel
theorem d_method_2_code_68 : decode method_2_code 68 = .ok (.iconst 2, 1) := by decide +kernel
theorem d_method_2_code_69 : decode method_2_code 69 = .ok (.newarray .char, 2) := by decide +kernel
theorem d_method_2_code_71 : decode method_2_code 71 = .ok (.dup, 1) := by decide +kernel
theorem d_method_2_code_72 : decode method_2_code 72 = .ok (.iconst 0, 1) := by decide +kernel
theorem d_method_2_code_73 : decode method_2_code 73 = .ok (.iload_n 2, 1) := by decide +kernel
theorem d_method_2_code_74 : decode method_2_code 74 = .ok (.castore, 1) := by decide +kernel
theorem d_method_2_code_75 : decode method_2_code 75 = .ok (.dup, 1) := by decide +kernel
theorem d_method_2_code_76 : decode method_2_code 76 = .ok (.iconst 1, 1) := by decide +kernel
theorem d_method_2_code_77 : decode method_2_code 77 = .ok (.iload_n 3, 1) := by decide +kernel
theorem d_method_2_code_78 : decode method_2_code 78 = .ok (.castore, 1) := by decide +kernel
theorem d_method_2_code_79 : decode method_2_code 79 = .ok (.invokespecial 9, 3) := by decide +kernel
theorem d_method_2_code_82 : decode method_2_code 82 = .ok (.areturn, 1) := by decide +kernel
theorem d_method_2_code_83 : decode method_2_code 83 = .ok (.new 7, 3) := by decide +kernel
theorem d_method_2_code_86 : decode method_2_code 86 = .ok (.dup, 1) := by decide +kernel
theorem d_method_2_code_87 : decode method_2_code 87 = .ok (.iconst 3, 1) := by decide +kernel
theorem d_method_2_code_88 : decode method_2_code 88 = .ok (.newarray .char, 2) := by decide +kernel
theorem d_method_2_code_90 : decode method_2_code 90 = .ok (.dup, 1) := by decide +kernel
theorem d_method_2_code_91 : decode method_2_code 91 = .ok (.iconst 0, 1) := by decide +kernel
theorem d_method_2_code_92 : decode method_2_code 92 = .ok (.iload_n 2, 1) := by decide +kernel
theorem d_method_2_code_93 : decode method_2_code 93 = .ok (.castore, 1) := by decide +kernel
theorem d_method_2_code_94 : decode method_2_code 94 = .ok (.dup, 1) := by decide +kernel
theorem d_method_2_code_95 : decode method_2_code 95 = .ok (.iconst 1, 1) := by decide +kernel
theorem d_method_2_code_96 : decode method_2_code 96 = .ok (.iload_n 3, 1) := by decide +kernel
theorem d_method_2_code_97 : decode method_2_code 97 = .ok (.castore, 1) := by decide +kernel
theorem d_method_2_code_98 : decode method_2_code 98 = .ok (.dup, 1) := by decide +kernel
theorem d_method_2_code_99 : decode method_2_code 99 = .ok (.iconst 2, 1) := by decide +kernel
theorem d_method_2_code_100 : decode method_2_code 100 = .ok (.iload 4, 2) := by decide +kernel
theorem d_method_2_code_102 : decode method_2_code 102 = .ok (.castore, 1) := by decide +kernel
theorem d_method_2_code_103 : decode method_2_code 103 = .ok (.invokespecial 9, 3) := by decide +kernel
theorem d_method_2_code_106 : decode method_2_code 106 = .ok (.areturn, 1) := by decide +kernel
theorem d_prog_12_method_1_code_0 : decode prog_12_method_1_code 0 = .ok (.aload_n 0, 1) := by decide +kernel
theorem d_prog_12_method_1_code_1 : decode prog_12_method_1_code 1 = .ok (.invokespecial 1, 3) := by decide +kernel
theorem d_prog_12_method_1_code_4 : decode prog_12_method_1_code 4 = .ok (.aload_n 0, 1) := by decide +kernel
theorem d_prog_12_method_1_code_5 : decode prog_12_method_1_code 5 = .ok (.aload_n 1, 1) := by decide +kernel
theorem d_prog_12_method_1_code_6 : decode prog_12_method_1_code 6 = .ok (.putfield 7, 3) := by decide +kernel
theorem d_prog_12_method_1_code_9 : decode prog_12_method_1_code 9 = .ok (.aload_n 0, 1) := by decide +kernel
theorem d_prog_12_method_1_code_10 : decode prog_12_method_1_code 10 = .ok (.aload_n 2, 1) := by decide +kernel
theorem d_prog_12_method_1_code_11 : decode prog_12_method_1_code 11 = .ok (.putfield 13, 3) := by decide +kernel
theorem d_prog_12_method_1_code_14 : decode prog_12_method_1_code 14 = .ok (.aload_n 0, 1) := by decide +kernel
theorem d_prog_12_method_1_code_15 : decode prog_12_method_1_code 15 = .ok (.aload_n 3, 1) := by decide +kernel
theorem d_prog_12_method_1_code_16 : decode prog_12_method_1_code 16 = .ok (.putfield 16, 3) := by decide +kernel
theorem d_prog_12_method_1_code_19 : decode prog_12_method_1_code 19 = .ok (.return_, 1) := by decide +kernel
theorem d_prog_12_method_3_code_0 : decode prog_12_method_3_code 0 = .ok (.new 8, 3) := by decide +kernel
theorem d_prog_12_method_3_code_3 : decode prog_12_method_3_code 3 = .ok (.dup, 1) := by decide +kernel
theorem d_prog_12_method_3_code_4 : decode prog_12_method_3_code 4 = .ok (.aload_n 0, 1) := by decide +kernel
theorem d_prog_12_method_3_code_5 : decode prog_12_method_3_code 5 = .ok (.ldc 71, 2) := by decide +kernel
theorem d_prog_12_method_3_code_7 : decode prog_12_method_3_code 7 = .ok (.invokestatic 21, 3) := by decide +kernel
theorem d_prog_12_method_3_code_10 : decode prog_12_method_3_code 10 = .ok (.checkcast 30, 3) := by decide +kernel
theorem d_prog_12_method_3_code_13 : decode prog_12_method_3_code 13 = .ok (.aload_n 1, 1) := by decide +kernel
theorem d_prog_12_method_3_code_14 : decode prog_12_method_3_code 14 = .ok (.ldc 72, 2) := by decide +kernel
theorem d_prog_12_method_3_code_16 : decode prog_12_method_3_code 16 = .ok (.invokestatic 21, 3) := by decide +kernel
theorem d_prog_12_method_3_code_19 : decode prog_12_method_3_code 19 = .ok (.checkcast 30, 3) := by decide +kernel
theorem d_prog_12_method_3_code_22 : decode prog_12_method_3_code 22 = .ok (.aload_n 2, 1) := by decide +kernel
theorem d_prog_12_method_3_code_23 : decode prog_12_method_3_code 23 = .ok (.ldc 67, 2) := by decide +kernel
theorem d_prog_12_method_3_code_25 : decode prog_12_method_3_code 25 = .ok (.invokestatic 21, 3) := by decide +kernel
theorem d_prog_12_method_3_code_28 : decode prog_12_method_3_code 28 = .ok (.checkcast 30, 3) := by decide +kernel
theorem d_prog_12_method_3_code_31 : decode prog_12_method_3_code 31 = .ok (.invokespecial 68, 3) := by decide +kernel
theorem d_prog_12_method_3_code_34 : decode prog_12_method_3_code 34 = .ok (.areturn, 1) := by decide +kernel
theorem d_prog_12_method_6_code_0 : decode prog_12_method_6_code 0 = .ok (.aload_n 0, 1) := by decide +kernel
theorem d_prog_12_method_6_code_1 : decode prog_12_method_6_code 1 = .ok (.getfield 7, 3) := by decide +kernel
theorem d_prog_12_method_6_code_4 : decode prog_12_method_6_code 4 = .ok (.areturn, 1) := by decide +kernel
theorem d_prog_12_method_7_code_0 : decode prog_12_method_7_code 0 = .ok (.aload_n 0, 1) := by decide +kernel
theorem d_prog_12_method_7_code_1 : decode prog_12_method_7_code 1 = .ok (.getfield 13, 3) := by decide +kernel
theorem d_prog_12_method_7_code_4 : decode prog_12_method_7_code 4 = .ok (.areturn, 1) := by decide +kernel
theorem d_prog_12_method_8_code_0 : decode prog_12_method_8_code 0 = .ok (.aload_n 0, 1) := by decide +kernel
theorem d_prog_12_method_8_code_1 : decode prog_12_method_8_code 1 = .ok (.getfield 16, 3) := by decide +kernel
theorem d_prog_12_method_8_code_4 : decode prog_12_method_8_code 4 = .ok (.areturn, 1) := by decide +kernel
theorem pd0 : parseMethodDescriptor "([CI[BII)I" = some ⟨[(.array .char), .int, (.array .byte), .int, .int], some .int⟩ := by decide +kernel
theorem pd1 : parseMethodDescriptor "([CII)[B" = some ⟨[(.array .char), .int, .int], some (.array .byte)⟩ := by decide +kernel
theorem pd2 : parseMethodDescriptor "([BI)B" = some ⟨[(.array .byte), .int], some .byte⟩ := by decide +kernel
theorem pd3 : parseMethodDescriptor "([CIILjava/lang/Void;)V" = some ⟨[(.array .char), .int, .int, (.object "java/lang/Void")], none⟩ := by decide +kernel
theorem pd4 : parseMethodDescriptor "(C)Z" = some ⟨[.char], some .boolean⟩ := by decide +kernel
theorem pd5 : parseMethodDescriptor "(C)[B" = some ⟨[.char], some (.array .byte)⟩ := by decide +kernel
theorem pd6 : parseMethodDescriptor "([BB)V" = some ⟨[(.array .byte), .byte], none⟩ := by decide +kernel
theorem pd7 : parseMethodDescriptor "([C)V" = some ⟨[(.array .char)], none⟩ := by decide +kernel
theorem pd8 : parseMethodDescriptor "(C)Ljava/lang/String;" = some ⟨[.char], some (.object "java/lang/String")⟩ := by decide +kernel
theorem pd9 : parseMethodDescriptor "(Ljava/lang/Object;Ljava/lang/String;)Ljava/lang/Object;" = some ⟨[(.object "java/lang/Object"), (.object "java/lang/String")], some (.object "java/lang/Object")⟩ := by decide +kernel
theorem pd10 : parseMethodDescriptor "(Ljava/lang/String;Ljava/lang/String;Ljava/lang/String;)V" = some ⟨[(.object "java/lang/String"), (.object "java/lang/String"), (.object "java/lang/String")], none⟩ := by decide +kernel
theorem pd11 : parseMethodDescriptor "(I)Ljava/lang/String;" = some ⟨[.int], some (.object "java/lang/String")⟩ := by decide +kernel
theorem pd12 : parseMethodDescriptor "(Ljava/lang/String;Ljava/lang/String;Ljava/lang/String;)Lcom/example/cormorant/cormorant/Call;" = some ⟨[(.object "java/lang/String"), (.object "java/lang/String"), (.object "java/lang/String")], some (.object "com/example/cormorant/cormorant/Call")⟩ := by decide +kernel
theorem pd13 : parseMethodDescriptor "()Ljava/lang/String;" = some ⟨[], some (.object "java/lang/String")⟩ := by decide +kernel
theorem pd14 : parseMethodDescriptor "(Ljava/lang/Object;)Z" = some ⟨[(.object "java/lang/Object")], some .boolean⟩ := by decide +kernel
def EL0 : List (String × Nat) := [("com/example/cormorant/cormorant/Call", (67 : Nat)), ("com/example/cormorant/cormorant/Call", (71 : Nat)), ("com/example/cormorant/cormorant/Call", (72 : Nat)), ("java/lang/String", (7 : Nat))]
def Sts (Z : State) : Prop := (∃ z : Int32, Sta Z Z.heap "java/lang/String" "COMPACT_STRINGS" "Z" (.int z) ∧ ¬ z = 0) ∧ True
theorem strAt {a0 : Array Value} {Z : State} (hw : ∀ d ∈ tables_1, d.before a0 Z = true) : ∀ a ∈ Bundle.stringAtoms, a.before a0 Z = true := by
  intro a ha
  simp only [Bundle.stringAtoms, List.mem_cons, List.not_mem_nil, or_false] at ha
  rcases ha with rfl | rfl | rfl | rfl | rfl | rfl | rfl
  · exact (tw6 hw)
  · exact (tw5 hw)
  · exact (tw19 hw)
  · exact (tw20 hw)
  · exact (tw21 hw)
  · exact (tw22 hw)
  · exact (tw23 hw)

set_option maxRecDepth 65536 in
set_option maxHeartbeats 40000000 in
theorem c_compress5 {l : Launch} {Z : State} {a0 : Array Value} (hw : ∀ d ∈ tables_1, d.before a0 Z = true) {va da : Addr} {cs : List Int32} {ds : List Value} {h0 : Heap} (A_va : AR Z h0 va .char (cs.map Value.int)) (A_da : AR Z h0 da .byte ds) (hl : ds.length = cs.length) (ne : va ≠ da) :
    Con l Z a0 EL0 (⟨"java/lang/StringUTF16", "compress", "([CI[BII)I"⟩ : MethodName) jdk_52_method_21_code 7 (Option.some Jvm.ClassFile.FieldType.int) ({ frames := 0, cells := 0, slots := 0, locals := 0 } : Room) #[(.ref va), (.int (0 : Int32)), (.ref da), (.int (0 : Int32)), (.int cs.length.toInt32)] h0 [da] [da] (fun v h ns => v = some (.int (lat cs).toInt32) ∧ ns = [] ∧ AR Z h da .byte ((cs.take (lat cs)).map bv ++ ds.drop (lat cs))) := by
  refine Con.of (L0 := #[.val (.ref va), .val (.int (0 : Int32)), .val (.ref da), .val (.int (0 : Int32)), .val (.int cs.length.toInt32), .unset, .unset]) (by decide +kernel) (fun m => by first | rfl | (simp [entryFrame, mkF, argsToLocals, Value.category]; done)) ?_
  intro p e s m below meth c T w
  refine g_iconst (pc := 0) w d_jdk_52_method_21_code_0 (z := (0 : Int32)) (by decide) ?_
  refine g_istore (pc := 1) w d_jdk_52_method_21_code_1 (l' := #[.val (.ref va), .val (.int (0 : Int32)), .val (.ref da), .val (.int (0 : Int32)), .val (.int cs.length.toInt32), .val (.int (0 : Int32)), .unset]) rfl ?_
  have hcl : cs.length < 2147483648 := by have := A_va.len; simpa using this
  have loop : ∀ (r i : Nat) (T : State) (h : Heap) (s6 : Slot), i + r = cs.length → i ≤ lat cs → One s6 → OW p l e ({ frames := 0, cells := 0, slots := 0, locals := 0 } : Room) s m #[(.ref va), (.int (0 : Int32)), (.ref da), (.int (0 : Int32)), (.int cs.length.toInt32)] below meth c Z a0 EL0 "java/lang/StringUTF16" "compress" jdk_52_method_21_code 7 (Option.some Jvm.ClassFile.FieldType.int) [da] h0 [da] T h 0 0 → AR Z h va .char (cs.map Value.int) → AR Z h da .byte ((cs.take i).map bv ++ ds.drop i) → Go p.tables e below (Fin' s Z EL0 [da] h0 ({ frames := 0, cells := 0, slots := 0, locals := 0 } : Room) (fun v h ns => v = some (.int (lat cs).toInt32) ∧ ns = [] ∧ AR Z h da .byte ((cs.take (lat cs)).map bv ++ ds.drop (lat cs)))) (T.setTop (mkF m 3 #[.val (.ref va), .val (.int i.toInt32), .val (.ref da), .val (.int i.toInt32), .val (.int cs.length.toInt32), .val (.int i.toInt32), s6] [])) := by
    intro r
    induction r with
    | zero =>
      intro i T h s6 hi hj h6 w A_va A_da
      have hii : i = cs.length := by omega
      have hlat : lat cs = i := Nat.le_antisymm (hii ▸ lat_le cs) hj
      refine g_iload (pc := 3) w d_jdk_52_method_21_code_3 rfl ?_
      refine g_iload (pc := 5) w d_jdk_52_method_21_code_5 rfl ?_
      refine g_icmpYes (pc := 7) w d_jdk_52_method_21_code_7 ((flt ((by rw [hii]; exact Int32.lt_irrefl) : ¬ i.toInt32 < cs.length.toInt32)).2.1) (by decide) (pc' := 44) (by decide) ?_
      refine g_iload (pc := 44) w d_jdk_52_method_21_code_44 rfl ?_
      exact g_retI (pc := 46) w rfl (by decide) (by decide) (ns := []) (fun _ q => nomatch q) d_jdk_52_method_21_code_46 ⟨by rw [hlat, hii], rfl, by rw [hlat]; exact A_da⟩
    | succ r ih =>
      intro i T h s6 hi hj h6 w A_va A_da
      have hil : i < cs.length := by omega
      have hi31 : i < 2147483648 := by omega
      obtain ⟨ch, hc⟩ : ∃ ch, cs[i]? = some ch := ⟨_, List.getElem?_eq_getElem hil⟩
      refine g_iload (pc := 3) w d_jdk_52_method_21_code_3 rfl ?_
      refine g_iload (pc := 5) w d_jdk_52_method_21_code_5 rfl ?_
      refine g_icmpNo (pc := 7) w d_jdk_52_method_21_code_7 ((tlt (((t32_lt hi31 hcl).mpr hil) : i.toInt32 < cs.length.toInt32)).2.1) ?_
      refine g_aloadN (pc := 10) w d_jdk_52_method_21_code_10 rfl rfl ?_
      refine g_iloadN (pc := 11) w d_jdk_52_method_21_code_11 rfl ?_
      refine g_caload (pc := 12) w A_va (t32_nneg hi31) (by rw [t32_nat hi31]; exact get_map_int hc) d_jdk_52_method_21_code_12 ?_
      refine g_istore (pc := 13) w d_jdk_52_method_21_code_13 (l' := #[.val (.ref va), .val (.int i.toInt32), .val (.ref da), .val (.int i.toInt32), .val (.int cs.length.toInt32), .val (.int i.toInt32), .val (.int ch)]) (XS.store1 (o := s6) rfl h6 rfl) ?_
      refine g_iload (pc := 15) w d_jdk_52_method_21_code_15 rfl ?_
      refine g_sipush (pc := 17) w d_jdk_52_method_21_code_17 (z := (255 : Int32)) (by decide) ?_
      by_cases hbig : (255 : Int32) < ch
      · refine g_icmpNo (pc := 20) w d_jdk_52_method_21_code_20 ((tlt (hbig : (255 : Int32) < ch)).2.2.2) ?_
        refine g_iload (pc := 23) w d_jdk_52_method_21_code_23 rfl ?_
        have hlat : lat cs = i := lat_stop hj hc hbig
        exact g_retI (pc := 25) w rfl (by decide) (by decide) (ns := []) (fun _ q => nomatch q) d_jdk_52_method_21_code_25 ⟨by rw [hlat], rfl, by rw [hlat]; exact A_da⟩
      · refine g_icmpYes (pc := 20) w d_jdk_52_method_21_code_20 ((flt (hbig : ¬ (255 : Int32) < ch)).2.2.2) (by decide) (pc' := 26) (by decide) ?_
        refine g_aloadN (pc := 26) w d_jdk_52_method_21_code_26 rfl rfl ?_
        refine g_iloadN (pc := 27) w d_jdk_52_method_21_code_27 rfl ?_
        refine g_iload (pc := 28) w d_jdk_52_method_21_code_28 rfl ?_
        refine g_i2b (pc := 30) w d_jdk_52_method_21_code_30 ?_
        refine g_bastore (pc := 31) w A_da (t32_nneg hi31) (by rw [t32_nat hi31]; simp; omega) (Or.inl (by simp)) (by simp) d_jdk_52_method_21_code_31 ?_
        intro T1 h1 w1 W1 A_da
        have A_va := A_va.other W1 ne
        have A_da : AR Z h1 da .byte ((cs.take (i + 1)).map bv ++ ds.drop (i + 1)) := (by rw [t32_nat hi31, b8_b8] at A_da; rw [put_next (f := bv) hl hc] at A_da; exact A_da)
        refine g_iinc (pc := 32) w1 d_jdk_52_method_21_code_32 rfl (z := (i + 1).toInt32) (t32_succ i) (l' := #[.val (.ref va), .val (.int (i + 1).toInt32), .val (.ref da), .val (.int i.toInt32), .val (.int cs.length.toInt32), .val (.int i.toInt32), .val (.int ch)]) rfl ?_
        refine g_iinc (pc := 35) w1 d_jdk_52_method_21_code_35 rfl (z := (i + 1).toInt32) (t32_succ i) (l' := #[.val (.ref va), .val (.int (i + 1).toInt32), .val (.ref da), .val (.int (i + 1).toInt32), .val (.int cs.length.toInt32), .val (.int i.toInt32), .val (.int ch)]) rfl ?_
        refine g_iinc (pc := 38) w1 d_jdk_52_method_21_code_38 rfl (z := (i + 1).toInt32) (t32_succ i) (l' := #[.val (.ref va), .val (.int (i + 1).toInt32), .val (.ref da), .val (.int (i + 1).toInt32), .val (.int cs.length.toInt32), .val (.int (i + 1).toInt32), .val (.int ch)]) rfl ?_
        refine g_goto (pc := 41) w1 d_jdk_52_method_21_code_41 (by decide) (pc' := 3) (by decide) ?_
        exact ih (i + 1) T1 h1 _ (by omega) (lat_go hj hc hbig) (One.val rfl) w1 A_va A_da
  exact loop cs.length 0 T h0 _ (by omega) (Nat.zero_le _) One.u w A_va (by simpa using A_da)

set_option maxRecDepth 65536 in
set_option maxHeartbeats 40000000 in
theorem c_compress3 {l : Launch} {Z : State} {a0 : Array Value} (hw : ∀ d ∈ tables_1, d.before a0 Z = true) {va : Addr} {cs : List Int32} {h0 : Heap} (A_va : AR Z h0 va .char (cs.map Value.int)) (hc : ∀ x ∈ cs, ¬ (255 : Int32) < x) (hcap : cs.length ≤ 3) :
    Con l Z a0 EL0 (⟨"java/lang/StringUTF16", "compress", "([CII)[B"⟩ : MethodName) jdk_52_method_16_code 6 (Option.some (Jvm.ClassFile.FieldType.array Jvm.ClassFile.FieldType.byte)) ({ frames := 1, cells := 1, slots := 3, locals := 18 } : Room) #[(.ref va), (.int (0 : Int32)), (.int cs.length.toInt32)] h0 [] [] (fun v h ns => ∃ t, v = some (.ref t) ∧ ns = [t] ∧ h0.size ≤ t ∧ AR Z h t .byte (cs.map bv)) := by
  refine Con.of (L0 := #[.val (.ref va), .val (.int (0 : Int32)), .val (.int cs.length.toInt32), .unset, .unset, .unset]) (by decide +kernel) (fun m => by first | rfl | (simp [entryFrame, mkF, argsToLocals, Value.category]; done)) ?_
  intro p e s m below meth c T w
  have hcl : cs.length < 2147483648 := by have := A_va.len; simpa using this
  have hlat : lat cs = cs.length := lat_all hc
  refine g_iloadN (pc := 0) w d_jdk_52_method_16_code_0 rfl ?_
  refine g_newP (pc := 1) (aty := .byte) w (tw19 hw) (t32_nneg hcl) (cap := 3) (by rw [t32_nat hcl]; exact hcap) (by decide) (by decide) (by decide) d_jdk_52_method_16_code_1 ?_
  intro T1 h1 b1 w1 eq_b1 fr_b1 E1 A_b1
  have ne_va_b1 : va ≠ b1 := Nat.ne_of_lt (by rw [eq_b1]; exact A_va.lt)
  have A_va := A_va.ext E1
  have A_b1 : AR Z h1 b1 .byte (List.replicate cs.length (.int (0 : Int32))) := (by rw [t32_nat hcl] at A_b1; exact A_b1)
  refine g_astoreN (pc := 3) w1 d_jdk_52_method_16_code_3 rfl (l' := #[.val (.ref va), .val (.int (0 : Int32)), .val (.int cs.length.toInt32), .val (.ref b1), .unset, .unset]) rfl ?_
  refine g_aloadN (pc := 4) w1 d_jdk_52_method_16_code_4 rfl rfl ?_
  refine g_iloadN (pc := 5) w1 d_jdk_52_method_16_code_5 rfl ?_
  refine g_aloadN (pc := 6) w1 d_jdk_52_method_16_code_6 rfl rfl ?_
  refine g_iconst (pc := 7) w1 d_jdk_52_method_16_code_7 (z := (0 : Int32)) (by decide) ?_
  refine g_iloadN (pc := 8) w1 d_jdk_52_method_16_code_8 rfl ?_
  refine g_static (pc := 9) w1 (argsL := [(.ref va), (.int (0 : Int32)), (.ref b1), (.int (0 : Int32)), (.int cs.length.toInt32)]) (rest := []) (W := 0) (tw31 hw) (tw32 hw) (tw29 hw) (tw33 hw) (by decide) (c_compress5 hw A_va A_b1 (by simp) ne_va_b1) (by simp) (allS (Or.inr fr_b1) all0) rfl (lenOf pd0 rfl) rfl (by decide) (Nat.le_of_eq rfl) (by decide) (by decide) (by decide) d_jdk_52_method_16_code_9 ?_
  rintro _ T2 h2 ns2 ⟨rfl, rfl, A_b1⟩ K2 w2
  have A_va := A_va.keep K2 (ninS ne_va_b1 nin0)
  refine g_istore (pc := 12) w2 d_jdk_52_method_16_code_12 (l' := #[.val (.ref va), .val (.int (0 : Int32)), .val (.int cs.length.toInt32), .val (.ref b1), .val (.int (lat cs).toInt32), .unset]) rfl ?_
  refine g_iload (pc := 14) w2 d_jdk_52_method_16_code_14 rfl ?_
  refine g_iloadN (pc := 16) w2 d_jdk_52_method_16_code_16 rfl ?_
  have A_b1 : AR Z h2 b1 .byte (cs.map bv) := by rw [hlat] at A_b1; simpa using A_b1
  refine g_icmpYes (pc := 17) w2 d_jdk_52_method_16_code_17 ((teq ((by rw [hlat]) : (lat cs).toInt32 = cs.length.toInt32)).1) (by decide) (pc' := 57) (by decide) ?_
  refine g_aloadN (pc := 57) w2 d_jdk_52_method_16_code_57 rfl rfl ?_
  exact g_retA (pc := 58) w2 (t := (.array .byte)) rfl rfl rfl (by decide) (by decide) (ns := [b1]) (by simp) d_jdk_52_method_16_code_58 ⟨b1, rfl, rfl, fr_b1, A_b1⟩

set_option maxRecDepth 65536 in
set_option maxHeartbeats 40000000 in
theorem c_coder {l : Launch} {Z : State} {a0 : Array Value} (hw : ∀ d ∈ tables_1, d.before a0 Z = true) {ta : Addr} {cs : List Int32} {h0 : Heap} (A_ta : AR Z h0 ta .byte (cs.map bv)) :
    Con l Z a0 EL0 (⟨"java/lang/StringUTF16", "coderFromArrayLen", "([BI)B"⟩ : MethodName) jdk_52_method_15_code 2 (Option.some Jvm.ClassFile.FieldType.byte) ({ frames := 0, cells := 0, slots := 0, locals := 0 } : Room) #[(.ref ta), (.int cs.length.toInt32)] h0 [] [] (fun v h ns => v = some (.int 0) ∧ ns = []) := by
  refine Con.of (L0 := #[.val (.ref ta), .val (.int cs.length.toInt32)]) (by decide +kernel) (fun m => by first | rfl | (simp [entryFrame, mkF, argsToLocals, Value.category]; done)) ?_
  intro p e s m below meth c T w
  refine g_iloadN (pc := 0) w d_jdk_52_method_15_code_0 rfl ?_
  refine g_aloadN (pc := 1) w d_jdk_52_method_15_code_1 rfl rfl ?_
  refine g_alen (pc := 2) w A_ta d_jdk_52_method_15_code_2 ?_
  refine g_isub (pc := 3) w d_jdk_52_method_15_code_3 ?_
  refine g_bipush (pc := 4) w d_jdk_52_method_15_code_4 (z := (31 : Int32)) (by decide) ?_
  refine g_iushr (pc := 6) w d_jdk_52_method_15_code_6 ?_
  refine g_i2b (pc := 7) w d_jdk_52_method_15_code_7 ?_
  have hz : (((cs.length.toInt32 - (cs.map bv).length.toInt32).toUInt32 >>> ((31 : Int32) &&& 31).toUInt32).toInt32.toInt8.toInt32) = (0 : Int32) := by rw [List.length_map, Int32.sub_self]; decide
  rw [hz]
  exact g_retN (pc := 8) w (t := .byte) rfl (by simp) rfl (by decide) (by decide) (ns := []) (fun _ q => nomatch q) d_jdk_52_method_15_code_8 ⟨rfl, rfl⟩

set_option maxRecDepth 65536 in
set_option maxHeartbeats 40000000 in
theorem c_strinit4 {l : Launch} {Z : State} {a0 : Array Value} (hw : ∀ d ∈ tables_1, d.before a0 Z = true) (st : Sts Z) {sa va : Addr} {cs : List Int32} {h0 : Heap} (E_sa : Exa Z h0 sa "java/lang/String") (F_coder_sa : Fld Z h0 sa "java/lang/String" "coder" "B" (.int (0 : Int32))) (F_value_sa : Fld Z h0 sa "java/lang/String" "value" "[B" .null) (A_va : AR Z h0 va .char (cs.map Value.int)) (hc : ∀ x ∈ cs, ¬ (255 : Int32) < x) (hcap : cs.length ≤ 3) (ne : va ≠ sa) :
    Con l Z a0 EL0 (⟨"java/lang/String", "<init>", "([CIILjava/lang/Void;)V"⟩ : MethodName) jdk_42_method_149_code 6 (Option.none : Option Jvm.ClassFile.FieldType) ({ frames := 2, cells := 4, slots := 8, locals := 35 } : Room) #[(.ref sa), (.ref va), (.int (0 : Int32)), (.int cs.length.toInt32), .null] h0 [sa] [sa] (fun v h ns => v = none ∧ ns = [] ∧ ∃ t, Exa Z h sa "java/lang/String" ∧ Fld Z h sa "java/lang/String" "coder" "B" (.int (0 : Int32)) ∧ Fld Z h sa "java/lang/String" "value" "[B" (.ref t) ∧ AR Z h t .byte (cs.map bv)) := by
  refine Con.of (L0 := #[.val (.ref sa), .val (.ref va), .val (.int (0 : Int32)), .val (.int cs.length.toInt32), .val .null, .unset]) (by decide +kernel) (fun m => by first | rfl | (simp [entryFrame, mkF, argsToLocals, Value.category]; done)) ?_
  intro p e s m below meth c T w
  have hcl : cs.length < 2147483648 := by have := A_va.len; simpa using this
  obtain ⟨zc, O_c, O_n⟩ := st.1
  refine g_aloadN (pc := 0) w d_jdk_42_method_149_code_0 rfl rfl ?_
  refine g_initO (pc := 1) w (tw15 hw) (tw16 hw) (tw17 hw) rfl (by decide) (W := 0) (Nat.le_of_eq rfl) (by decide) d_jdk_42_method_149_code_1 ?_
  intro T1 w1
  refine g_iloadN (pc := 4) w1 d_jdk_42_method_149_code_4 rfl ?_
  by_cases h1 : cs.length = 0
  · have hcs : cs = [] := List.eq_nil_of_length_eq_zero h1
    refine g_ifNo (pc := 5) w1 d_jdk_42_method_149_code_5 ((if0 _ _).trans (teq ((by rw [hcs]; rfl) : cs.length.toInt32 = (0 : Int32))).2) ?_
    refine g_aloadN (pc := 8) w1 d_jdk_42_method_149_code_8 rfl rfl ?_
    refine g_ldcR (pc := 9) w1 (sz := 0) (vs := []) (z := (0 : Int32)) (tw18 hw) (strAt hw) (by simp [EL0]) ⟨by decide, rfl⟩ (by decide) (by decide) (by decide) (by decide) (by decide) (by decide) d_jdk_42_method_149_code_9 ?_
    intro T2 h2 b2 t2 w2 E2 E_b2 F_coder_b2 F_value_b2 A_t2 nl2
    have A_va := A_va.ext E2
    have E_sa := E_sa.ext E2
    have F_coder_sa := F_coder_sa.ext E2
    have F_value_sa := F_value_sa.ext E2
    have ne_sa_b2 : sa ≠ b2 := (nl2 sa (by simp)).1
    have ne_sa_t2 : sa ≠ t2 := (nl2 sa (by simp)).2
    refine g_getF (pc := 11) w2 (host := "") (Or.inl (tw24 hw)) Via.refl F_value_b2 d_jdk_42_method_149_code_11 ?_
    intro T3 w3
    refine g_putF (pc := 14) w3 (host := "") (Or.inl (tw24 hw)) Via.refl F_value_sa E_sa (Or.inr ⟨(tw20 hw), rfl, rfl⟩) (tw5 hw) (ty := (.array .byte)) (by decide) rfl rfl (Or.inl (by simp)) (by simp) d_jdk_42_method_149_code_14 ?_
    intro T4 h4 w4 W4
    have F_value_sa := F_value_sa.same W4
    have A_va := A_va.other W4 ne
    have E_sa := E_sa.wr W4
    have F_coder_sa := F_coder_sa.other W4 (Or.inr (slot_ne (Or.inr (tw21 hw)) (Or.inr (tw20 hw)) (by decide) (t := .byte) (t' := (.array .byte)) (by decide) (by decide)))
    have E_b2 := E_b2.wr W4
    have F_coder_b2 := F_coder_b2.other W4 (Or.inl (Ne.symm ne_sa_b2))
    have F_value_b2 := F_value_b2.other W4 (Or.inl (Ne.symm ne_sa_b2))
    have A_t2 := A_t2.other W4 (Ne.symm ne_sa_t2)
    refine g_aloadN (pc := 17) w4 d_jdk_42_method_149_code_17 rfl rfl ?_
    refine g_ldcR (pc := 18) w4 (sz := 0) (vs := []) (z := (0 : Int32)) (tw18 hw) (strAt hw) (by simp [EL0]) ⟨by decide, rfl⟩ (by decide) (by decide) (by decide) (by decide) (by decide) (by decide) d_jdk_42_method_149_code_18 ?_
    intro T5 h5 b5 t5 w5 E5 E_b5 F_coder_b5 F_value_b5 A_t5 nl5
    have A_va := A_va.ext E5
    have E_sa := E_sa.ext E5
    have F_coder_sa := F_coder_sa.ext E5
    have E_b2 := E_b2.ext E5
    have F_coder_b2 := F_coder_b2.ext E5
    have F_value_b2 := F_value_b2.ext E5
    have A_t2 := A_t2.ext E5
    have F_value_sa := F_value_sa.ext E5
    have ne_sa_b5 : sa ≠ b5 := (nl5 sa (by simp)).1
    have ne_sa_t5 : sa ≠ t5 := (nl5 sa (by simp)).2
    refine g_getF (pc := 20) w5 (host := "") (Or.inl (tw25 hw)) Via.refl F_coder_b5 d_jdk_42_method_149_code_20 ?_
    intro T6 w6
    refine g_putF (pc := 23) w6 (host := "") (Or.inl (tw25 hw)) Via.refl F_coder_sa E_sa (Or.inr ⟨(tw21 hw), rfl, rfl⟩) (tw5 hw) (ty := .byte) (by decide) (by first | rfl | decide) (by first | rfl | decide) (Or.inl (by simp)) (by simp) d_jdk_42_method_149_code_23 ?_
    intro T7 h7 w7 W7
    have F_coder_sa := F_coder_sa.same W7
    have A_va := A_va.other W7 ne
    have E_sa := E_sa.wr W7
    have E_b2 := E_b2.wr W7
    have F_coder_b2 := F_coder_b2.other W7 (Or.inl (Ne.symm ne_sa_b2))
    have F_value_b2 := F_value_b2.other W7 (Or.inl (Ne.symm ne_sa_b2))
    have A_t2 := A_t2.other W7 (Ne.symm ne_sa_t2)
    have F_value_sa := F_value_sa.other W7 (Or.inr (slot_ne (Or.inr (tw20 hw)) (Or.inr (tw21 hw)) (by decide) (t := (.array .byte)) (t' := .byte) (by decide) (by decide)))
    have E_b5 := E_b5.wr W7
    have F_coder_b5 := F_coder_b5.other W7 (Or.inl (Ne.symm ne_sa_b5))
    have F_value_b5 := F_value_b5.other W7 (Or.inl (Ne.symm ne_sa_b5))
    have A_t5 := A_t5.other W7 (Ne.symm ne_sa_t5)
    exact g_ret0 (pc := 26) w7 rfl (by decide) (by decide) (ns := []) (fun _ q => nomatch q) d_jdk_42_method_149_code_26 ⟨rfl, rfl, t2, E_sa, F_coder_sa, F_value_sa, by rw [hcs]; exact A_t2⟩
  · refine g_ifYes (pc := 5) w1 d_jdk_42_method_149_code_5 ((if0 _ _).trans (feq ((fun q => by have := (t32_eq (j := 0) hcl (by omega)).mp q; omega) : ¬ cs.length.toInt32 = (0 : Int32))).2) (by decide) (pc' := 27) (by decide) ?_
    refine g_getS (pc := 27) w1 (host := "") (Or.inl (tw26 hw)) Via.refl O_c d_jdk_42_method_149_code_27 ?_
    intro T8 w8
    refine g_ifNo (pc := 30) w8 d_jdk_42_method_149_code_30 ((if0 _ _).trans (feq (O_n : ¬ zc = (0 : Int32))).1) ?_
    refine g_aloadN (pc := 33) w8 d_jdk_42_method_149_code_33 rfl rfl ?_
    refine g_iloadN (pc := 34) w8 d_jdk_42_method_149_code_34 rfl ?_
    refine g_iloadN (pc := 35) w8 d_jdk_42_method_149_code_35 rfl ?_
    have lt_sa := E_sa.lt
    refine g_static (pc := 36) w8 (argsL := [(.ref va), (.int (0 : Int32)), (.int cs.length.toInt32)]) (rest := []) (W := 0) (tw27 hw) (tw28 hw) (tw29 hw) (tw30 hw) (by decide) (c_compress3 hw A_va hc hcap) (by simp) all0 rfl (lenOf pd1 rfl) rfl (by decide) (Nat.le_of_eq rfl) (by decide) (by decide) (by decide) d_jdk_42_method_149_code_36 ?_
    rintro _ T9 h9 ns9 ⟨t9, rfl, rfl, fq_t9, A_t9⟩ K9 w9
    have A_va := A_va.keep K9 nin0
    have E_sa := E_sa.keep K9
    have F_coder_sa := F_coder_sa.keep K9 nin0
    have F_value_sa := F_value_sa.keep K9 nin0
    have ne_t9_sa : t9 ≠ sa := Ne.symm (Nat.ne_of_lt (Nat.lt_of_lt_of_le lt_sa fq_t9))
    refine g_astore (pc := 39) w9 d_jdk_42_method_149_code_39 rfl (l' := #[.val (.ref sa), .val (.ref va), .val (.int (0 : Int32)), .val (.int cs.length.toInt32), .val .null, .val (.ref t9)]) rfl ?_
    refine g_aloadN (pc := 41) w9 d_jdk_42_method_149_code_41 rfl rfl ?_
    refine g_aload (pc := 42) w9 d_jdk_42_method_149_code_42 rfl rfl ?_
    refine g_iloadN (pc := 44) w9 d_jdk_42_method_149_code_44 rfl ?_
    refine g_static (pc := 45) w9 (argsL := [(.ref t9), (.int cs.length.toInt32)]) (rest := [(.ref sa)]) (W := 1) (tw34 hw) (tw35 hw) (tw29 hw) (tw36 hw) (by decide) (c_coder hw A_t9) (by simp) all0 rfl (lenOf pd2 rfl) rfl (by decide) (Nat.le_of_eq rfl) (by decide) (by decide) (by decide) d_jdk_42_method_149_code_45 ?_
    rintro _ T10 h10 ns10 ⟨rfl, rfl⟩ K10 w10
    have A_va := A_va.keep K10 nin0
    have E_sa := E_sa.keep K10
    have F_coder_sa := F_coder_sa.keep K10 nin0
    have F_value_sa := F_value_sa.keep K10 nin0
    have A_t9 := A_t9.keep K10 nin0
    refine g_putF (pc := 48) w10 (host := "") (Or.inl (tw25 hw)) Via.refl F_coder_sa E_sa (Or.inr ⟨(tw21 hw), rfl, rfl⟩) (tw5 hw) (ty := .byte) (by decide) (by first | rfl | decide) (by first | rfl | decide) (Or.inl (by simp)) (by simp) d_jdk_42_method_149_code_48 ?_
    intro T11 h11 w11 W11
    have F_coder_sa := F_coder_sa.same W11
    have A_va := A_va.other W11 ne
    have E_sa := E_sa.wr W11
    have F_value_sa := F_value_sa.other W11 (Or.inr (slot_ne (Or.inr (tw20 hw)) (Or.inr (tw21 hw)) (by decide) (t := (.array .byte)) (t' := .byte) (by decide) (by decide)))
    have A_t9 := A_t9.other W11 ne_t9_sa
    refine g_aloadN (pc := 51) w11 d_jdk_42_method_149_code_51 rfl rfl ?_
    refine g_aload (pc := 52) w11 d_jdk_42_method_149_code_52 rfl rfl ?_
    refine g_putF (pc := 54) w11 (host := "") (Or.inl (tw24 hw)) Via.refl F_value_sa E_sa (Or.inr ⟨(tw20 hw), rfl, rfl⟩) (tw5 hw) (ty := (.array .byte)) (by decide) rfl rfl (Or.inl (by simp)) (by simp) d_jdk_42_method_149_code_54 ?_
    intro T12 h12 w12 W12
    have F_value_sa := F_value_sa.same W12
    have A_va := A_va.other W12 ne
    have E_sa := E_sa.wr W12
    have A_t9 := A_t9.other W12 ne_t9_sa
    have F_coder_sa := F_coder_sa.other W12 (Or.inr (slot_ne (Or.inr (tw21 hw)) (Or.inr (tw20 hw)) (by decide) (t := .byte) (t' := (.array .byte)) (by decide) (by decide)))
    exact g_ret0 (pc := 57) w12 rfl (by decide) (by decide) (ns := []) (fun _ q => nomatch q) d_jdk_42_method_149_code_57 ⟨rfl, rfl, t9, E_sa, F_coder_sa, F_value_sa, A_t9⟩

set_option maxRecDepth 65536 in
set_option maxHeartbeats 40000000 in
theorem c_strinit {l : Launch} {Z : State} {a0 : Array Value} (hw : ∀ d ∈ tables_1, d.before a0 Z = true) (st : Sts Z) {sa va : Addr} {cs : List Int32} {h0 : Heap} (E_sa : Exa Z h0 sa "java/lang/String") (F_coder_sa : Fld Z h0 sa "java/lang/String" "coder" "B" (.int (0 : Int32))) (F_value_sa : Fld Z h0 sa "java/lang/String" "value" "[B" .null) (A_va : AR Z h0 va .char (cs.map Value.int)) (hc : ∀ x ∈ cs, ¬ (255 : Int32) < x) (hcap : cs.length ≤ 3) (ne : va ≠ sa) :
    Con l Z a0 EL0 (⟨"java/lang/String", "<init>", "([C)V"⟩ : MethodName) jdk_42_method_3_code 2 (Option.none : Option Jvm.ClassFile.FieldType) ({ frames := 3, cells := 4, slots := 8, locals := 52 } : Room) #[(.ref sa), (.ref va)] h0 [sa] [sa] (fun v h ns => v = none ∧ ns = [] ∧ ∃ t, Exa Z h sa "java/lang/String" ∧ Fld Z h sa "java/lang/String" "coder" "B" (.int (0 : Int32)) ∧ Fld Z h sa "java/lang/String" "value" "[B" (.ref t) ∧ AR Z h t .byte (cs.map bv)) := by
  refine Con.of (L0 := #[.val (.ref sa), .val (.ref va)]) (by decide +kernel) (fun m => by first | rfl | (simp [entryFrame, mkF, argsToLocals, Value.category]; done)) ?_
  intro p e s m below meth c T w
  refine g_aloadN (pc := 0) w d_jdk_42_method_3_code_0 rfl rfl ?_
  refine g_aloadN (pc := 1) w d_jdk_42_method_3_code_1 rfl rfl ?_
  refine g_iconst (pc := 2) w d_jdk_42_method_3_code_2 (z := (0 : Int32)) (by decide) ?_
  refine g_aloadN (pc := 3) w d_jdk_42_method_3_code_3 rfl rfl ?_
  refine g_alen (pc := 4) w A_va d_jdk_42_method_3_code_4 ?_
  rw [List.length_map]
  refine g_aconstNull (pc := 5) w d_jdk_42_method_3_code_5 ?_
  refine g_special (pc := 6) w (argsL := [(.ref va), (.int (0 : Int32)), (.int cs.length.toInt32), .null]) (rest := []) (W := 0) rfl rfl (tw11 hw) (tw12 hw) (tw6 hw) (tw14 hw) (by decide) (c_strinit4 hw st E_sa F_coder_sa F_value_sa A_va hc hcap ne) (by simp) (allS (Or.inl (by simp)) all0) rfl (lenOf pd3 rfl) rfl (by decide) (Nat.le_of_eq rfl) (by decide) (by decide) (by decide) d_jdk_42_method_3_code_6 ?_
  rintro _ T1 h1 ns1 ⟨rfl, rfl, t, E_sa, F_coder_sa, F_value_sa, A_t⟩ K1 w1
  have A_va := A_va.keep K1 (ninS ne nin0)
  exact g_ret0 (pc := 9) w1 rfl (by decide) (by decide) (ns := []) (fun _ q => nomatch q) d_jdk_42_method_3_code_9 ⟨rfl, rfl, t, E_sa, F_coder_sa, F_value_sa, A_t⟩

set_option maxRecDepth 65536 in
set_option maxHeartbeats 40000000 in
theorem c_canEncode {l : Launch} {Z : State} {a0 : Array Value} (hw : ∀ d ∈ tables_1, d.before a0 Z = true) {ch : Int32} {h0 : Heap} (hc : ¬ (255 : Int32) < ch) :
    Con l Z a0 EL0 (⟨"java/lang/StringLatin1", "canEncode", "(C)Z"⟩ : MethodName) jdk_43_method_3_code 1 (Option.some Jvm.ClassFile.FieldType.boolean) ({ frames := 0, cells := 0, slots := 0, locals := 0 } : Room) #[(.int ch)] h0 [] [] (fun v h ns => v = some (.int (1 : Int32)) ∧ ns = []) := by
  refine Con.of (L0 := #[.val (.int ch)]) (by decide +kernel) (fun m => by first | rfl | (simp [entryFrame, mkF, argsToLocals, Value.category]; done)) ?_
  intro p e s m below meth c T w
  refine g_iloadN (pc := 0) w d_jdk_43_method_3_code_0 rfl ?_
  refine g_sipush (pc := 1) w d_jdk_43_method_3_code_1 (z := (255 : Int32)) (by decide) ?_
  refine g_icmpNo (pc := 4) w d_jdk_43_method_3_code_4 ((flt (hc : ¬ (255 : Int32) < ch)).2.2.1) ?_
  refine g_iconst (pc := 7) w d_jdk_43_method_3_code_7 (z := (1 : Int32)) (by decide) ?_
  refine g_goto (pc := 8) w d_jdk_43_method_3_code_8 (by decide) (pc' := 12) (by decide) ?_
  exact g_retN (pc := 12) w (t := .boolean) rfl (by simp) rfl (by decide) (by decide) (ns := []) (fun _ q => nomatch q) d_jdk_43_method_3_code_12 ⟨rfl, rfl⟩

set_option maxRecDepth 65536 in
set_option maxHeartbeats 40000000 in
theorem c_toBytes {l : Launch} {Z : State} {a0 : Array Value} (hw : ∀ d ∈ tables_1, d.before a0 Z = true) {ch : Int32} {h0 : Heap} :
    Con l Z a0 EL0 (⟨"java/lang/StringLatin1", "toBytes", "(C)[B"⟩ : MethodName) jdk_43_method_46_code 1 (Option.some (Jvm.ClassFile.FieldType.array Jvm.ClassFile.FieldType.byte)) ({ frames := 0, cells := 1, slots := 1, locals := 0 } : Room) #[(.int ch)] h0 [] [] (fun v h ns => ∃ t, v = some (.ref t) ∧ ns = [t] ∧ h0.size ≤ t ∧ AR Z h t .byte [bv ch]) := by
  refine Con.of (L0 := #[.val (.int ch)]) (by decide +kernel) (fun m => by first | rfl | (simp [entryFrame, mkF, argsToLocals, Value.category]; done)) ?_
  intro p e s m below meth c T w
  refine g_iconst (pc := 0) w d_jdk_43_method_46_code_0 (z := (1 : Int32)) (by decide) ?_
  refine g_newP (pc := 1) (aty := .byte) w (tw19 hw) (by decide) (cap := 1) (by decide) (by decide) (by decide) (by decide) d_jdk_43_method_46_code_1 ?_
  intro T1 h1 b1 w1 eq_b1 fr_b1 E1 A_b1
  have A_b1 : AR Z h1 b1 .byte [(.int (0 : Int32))] := A_b1
  refine g_dup (pc := 3) w1 d_jdk_43_method_46_code_3 rfl ?_
  refine g_iconst (pc := 4) w1 d_jdk_43_method_46_code_4 (z := (0 : Int32)) (by decide) ?_
  refine g_iloadN (pc := 5) w1 d_jdk_43_method_46_code_5 rfl ?_
  refine g_i2b (pc := 6) w1 d_jdk_43_method_46_code_6 ?_
  refine g_bastore (pc := 7) w1 A_b1 (by decide) (Nat.le_of_ble_eq_true rfl) (Or.inr fr_b1) (by simp) d_jdk_43_method_46_code_7 ?_
  intro T2 h2 w2 W2 A_b1
  have A_b1 : AR Z h2 b1 .byte [(.int (ch.toInt8.toInt32).toInt8.toInt32)] := A_b1
  have A_b1 : AR Z h2 b1 .byte [bv ch] := by rw [b8_b8] at A_b1; exact A_b1
  exact g_retA (pc := 8) w2 (t := (.array .byte)) rfl rfl rfl (by decide) (by decide) (ns := [b1]) (by simp) d_jdk_43_method_46_code_8 ⟨b1, rfl, rfl, fr_b1, A_b1⟩

set_option maxRecDepth 65536 in
set_option maxHeartbeats 40000000 in
theorem c_strinitBB {l : Launch} {Z : State} {a0 : Array Value} (hw : ∀ d ∈ tables_1, d.before a0 Z = true) {sa ta : Addr} {h0 : Heap} (E_sa : Exa Z h0 sa "java/lang/String") (F_coder_sa : Fld Z h0 sa "java/lang/String" "coder" "B" (.int (0 : Int32))) (F_value_sa : Fld Z h0 sa "java/lang/String" "value" "[B" .null) :
    Con l Z a0 EL0 (⟨"java/lang/String", "<init>", "([BB)V"⟩ : MethodName) jdk_42_method_151_code 3 (Option.none : Option Jvm.ClassFile.FieldType) ({ frames := 1, cells := 0, slots := 0, locals := 12 } : Room) #[(.ref sa), (.ref ta), (.int (0 : Int32))] h0 [sa] [sa] (fun v h ns => v = none ∧ ns = [] ∧ Exa Z h sa "java/lang/String" ∧ Fld Z h sa "java/lang/String" "coder" "B" (.int (0 : Int32)) ∧ Fld Z h sa "java/lang/String" "value" "[B" (.ref ta)) := by
  refine Con.of (L0 := #[.val (.ref sa), .val (.ref ta), .val (.int (0 : Int32))]) (by decide +kernel) (fun m => by first | rfl | (simp [entryFrame, mkF, argsToLocals, Value.category]; done)) ?_
  intro p e s m below meth c T w
  refine g_aloadN (pc := 0) w d_jdk_42_method_151_code_0 rfl rfl ?_
  refine g_initO (pc := 1) w (tw15 hw) (tw16 hw) (tw17 hw) rfl (by decide) (W := 0) (Nat.le_of_eq rfl) (by decide) d_jdk_42_method_151_code_1 ?_
  intro T1 w1
  refine g_aloadN (pc := 4) w1 d_jdk_42_method_151_code_4 rfl rfl ?_
  refine g_aloadN (pc := 5) w1 d_jdk_42_method_151_code_5 rfl rfl ?_
  refine g_putF (pc := 6) w1 (host := "") (Or.inl (tw24 hw)) Via.refl F_value_sa E_sa (Or.inr ⟨(tw20 hw), rfl, rfl⟩) (tw5 hw) (ty := (.array .byte)) (by decide) rfl rfl (Or.inl (by simp)) (by simp) d_jdk_42_method_151_code_6 ?_
  intro T2 h2 w2 W2
  have F_value_sa := F_value_sa.same W2
  have E_sa := E_sa.wr W2
  have F_coder_sa := F_coder_sa.other W2 (Or.inr (slot_ne (Or.inr (tw21 hw)) (Or.inr (tw20 hw)) (by decide) (t := .byte) (t' := (.array .byte)) (by decide) (by decide)))
  refine g_aloadN (pc := 9) w2 d_jdk_42_method_151_code_9 rfl rfl ?_
  refine g_iloadN (pc := 10) w2 d_jdk_42_method_151_code_10 rfl ?_
  refine g_putF (pc := 11) w2 (host := "") (Or.inl (tw25 hw)) Via.refl F_coder_sa E_sa (Or.inr ⟨(tw21 hw), rfl, rfl⟩) (tw5 hw) (ty := .byte) (by decide) (by first | rfl | decide) (by first | rfl | decide) (Or.inl (by simp)) (by simp) d_jdk_42_method_151_code_11 ?_
  intro T3 h3 w3 W3
  have F_coder_sa := F_coder_sa.same W3
  have E_sa := E_sa.wr W3
  have F_value_sa := F_value_sa.other W3 (Or.inr (slot_ne (Or.inr (tw20 hw)) (Or.inr (tw21 hw)) (by decide) (t := (.array .byte)) (t' := .byte) (by decide) (by decide)))
  exact g_ret0 (pc := 14) w3 rfl (by decide) (by decide) (ns := []) (fun _ q => nomatch q) d_jdk_42_method_151_code_14 ⟨rfl, rfl, E_sa, F_coder_sa, F_value_sa⟩

set_option maxRecDepth 65536 in
set_option maxHeartbeats 40000000 in
theorem c_valueOf {l : Launch} {Z : State} {a0 : Array Value} (hw : ∀ d ∈ tables_1, d.before a0 Z = true) (st : Sts Z) {ch : Int32} {h0 : Heap} (hc : ¬ (255 : Int32) < ch) :
    Con l Z a0 EL0 (⟨"java/lang/String", "valueOf", "(C)Ljava/lang/String;"⟩ : MethodName) jdk_42_method_139_code 1 (Option.some (Jvm.ClassFile.FieldType.object "java/lang/String")) ({ frames := 2, cells := 2, slots := 5, locals := 27 } : Room) #[(.int ch)] h0 [] [] (fun v h ns => ∃ sa, v = some (.ref sa) ∧ ns = [] ∧ h0.size ≤ sa ∧ ∃ t, Exa Z h sa "java/lang/String" ∧ Fld Z h sa "java/lang/String" "coder" "B" (.int (0 : Int32)) ∧ Fld Z h sa "java/lang/String" "value" "[B" (.ref t) ∧ AR Z h t .byte [bv ch]) := by
  refine Con.of (L0 := #[.val (.int ch)]) (by decide +kernel) (fun m => by first | rfl | (simp [entryFrame, mkF, argsToLocals, Value.category]; done)) ?_
  intro p e s m below meth c T w
  obtain ⟨zc, O_c, O_n⟩ := st.1
  refine g_getS (pc := 0) w (host := "") (Or.inl (tw26 hw)) Via.refl O_c d_jdk_42_method_139_code_0 ?_
  intro T1 w1
  refine g_ifNo (pc := 3) w1 d_jdk_42_method_139_code_3 ((if0 _ _).trans (feq (O_n : ¬ zc = (0 : Int32))).1) ?_
  refine g_iloadN (pc := 6) w1 d_jdk_42_method_139_code_6 rfl ?_
  refine g_static (pc := 7) w1 (argsL := [(.int ch)]) (rest := []) (W := 0) (tw84 hw) (tw85 hw) (tw86 hw) (tw87 hw) (by decide) (c_canEncode hw hc) (by simp) all0 rfl (lenOf pd4 rfl) rfl (by decide) (Nat.le_of_eq rfl) (by decide) (by decide) (by decide) d_jdk_42_method_139_code_7 ?_
  rintro _ T2 h2 ns2 ⟨rfl, rfl⟩ K2 w2
  refine g_ifNo (pc := 10) w2 d_jdk_42_method_139_code_10 ((if0 _ _).trans (feq ((by decide) : ¬ (1 : Int32) = (0 : Int32))).1) ?_
  refine g_new (pc := 13) w2 (tw88 hw) (tw5 hw) (tw6 hw) (by decide) (by decide) d_jdk_42_method_139_code_13 ?_
  intro T3 h3 b3 w3 eq_b3 fr_b3 E3 E_b3 D3
  have F_value_b3 : Fld Z h3 b3 "java/lang/String" "value" "[B" .null := D3 (Or.inr (tw20 hw)) (ty := (.array .byte)) (by decide)
  have F_coder_b3 : Fld Z h3 b3 "java/lang/String" "coder" "B" (.int (0 : Int32)) := D3 (Or.inr (tw21 hw)) (ty := .byte) (by decide)
  clear D3
  refine g_dup (pc := 16) w3 d_jdk_42_method_139_code_16 rfl ?_
  refine g_iloadN (pc := 17) w3 d_jdk_42_method_139_code_17 rfl ?_
  have lt_b3 := E_b3.lt
  refine g_static (pc := 18) w3 (argsL := [(.int ch)]) (rest := [(.ref b3), (.ref b3)]) (W := 2) (tw89 hw) (tw90 hw) (tw86 hw) (tw91 hw) (by decide) (c_toBytes hw) (by simp) all0 rfl (lenOf pd5 rfl) rfl (by decide) (Nat.le_of_eq rfl) (by decide) (by decide) (by decide) d_jdk_42_method_139_code_18 ?_
  rintro _ T4 h4 ns4 ⟨t4, rfl, rfl, fq_t4, A_t4⟩ K4 w4
  have E_b3 := E_b3.keep K4
  have F_value_b3 := F_value_b3.keep K4 nin0
  have F_coder_b3 := F_coder_b3.keep K4 nin0
  have ne_b3_t4 : b3 ≠ t4 := Nat.ne_of_lt (Nat.lt_of_lt_of_le lt_b3 fq_t4)
  refine g_iconst (pc := 21) w4 d_jdk_42_method_139_code_21 (z := (0 : Int32)) (by decide) ?_
  refine g_special (pc := 22) w4 (argsL := [(.ref t4), (.int (0 : Int32))]) (rest := [(.ref b3)]) (W := 1) rfl rfl (tw92 hw) (tw93 hw) (tw6 hw) (tw94 hw) (by decide) (c_strinitBB hw E_b3 F_coder_b3 F_value_b3) (by simp) (allS (Or.inr fr_b3) all0) rfl (lenOf pd6 rfl) rfl (by decide) (Nat.le_of_eq rfl) (by decide) (by decide) (by decide) d_jdk_42_method_139_code_22 ?_
  rintro _ T5 h5 ns5 ⟨rfl, rfl, E_b3, F_coder_b3, F_value_b3⟩ K5 w5
  have A_t4 := A_t4.keep K5 (ninS (Ne.symm ne_b3_t4) nin0)
  exact g_retA (pc := 25) w5 (t := (.object "java/lang/String")) rfl rfl rfl (by decide) (by decide) (ns := []) (fun _ q => nomatch q) d_jdk_42_method_139_code_25 ⟨b3, rfl, rfl, fr_b3, t4, E_b3, F_coder_b3, F_value_b3, A_t4⟩

set_option maxRecDepth 65536 in
set_option maxHeartbeats 40000000 in
theorem c_drawn {l : Launch} {Z : State} {a0 : Array Value} (hw : ∀ d ∈ tables_1, d.before a0 Z = true) (st : Sts Z) {px : Int32} {h0 : Heap} :
    Con l Z a0 EL0 (⟨"com/example/cormorant/cormorant/CallOfPinLaw", "drawn", "(I)Ljava/lang/String;"⟩ : MethodName) method_2_code 5 (Option.some (Jvm.ClassFile.FieldType.object "java/lang/String")) ({ frames := 4, cells := 6, slots := 15, locals := 66 } : Room) #[(.int px)] h0 [] [] (fun v h ns => ∃ sa, v = some (.ref sa) ∧ ns = [] ∧ Exa Z h sa "java/lang/String") := by
  refine Con.of (L0 := #[.val (.int px), .unset, .unset, .unset, .unset]) (by decide +kernel) (fun m => by first | rfl | (simp [entryFrame, mkF, argsToLocals, Value.category]; done)) ?_
  intro p e s m below meth c T w
  refine g_iloadN (pc := 0) w d_method_2_code_0 rfl ?_
  refine g_iconst (pc := 1) w d_method_2_code_1 (z := (3 : Int32)) (by decide) ?_
  refine g_iand (pc := 2) w d_method_2_code_2 ?_
  refine g_istoreN (pc := 3) w d_method_2_code_3 (l' := #[.val (.int px), .val (.int (px &&& (3 : Int32))), .unset, .unset, .unset]) rfl ?_
  refine g_iloadN (pc := 4) w d_method_2_code_4 rfl ?_
  refine g_iconst (pc := 5) w d_method_2_code_5 (z := (2 : Int32)) (by decide) ?_
  refine g_iushr (pc := 6) w d_method_2_code_6 ?_
  refine g_sipush (pc := 7) w d_method_2_code_7 (z := (255 : Int32)) (by decide) ?_
  refine g_iand (pc := 10) w d_method_2_code_10 ?_
  refine g_i2c (pc := 11) w d_method_2_code_11 ?_
  refine g_istoreN (pc := 12) w d_method_2_code_12 (l' := #[.val (.int px), .val (.int (px &&& (3 : Int32))), .val (.int ((((px.toUInt32 >>> ((2 : Int32) &&& 31).toUInt32).toInt32) &&& (255 : Int32)).toUInt32.toUInt16.toUInt32.toInt32)), .unset, .unset]) rfl ?_
  refine g_iloadN (pc := 13) w d_method_2_code_13 rfl ?_
  refine g_bipush (pc := 14) w d_method_2_code_14 (z := (10 : Int32)) (by decide) ?_
  refine g_iushr (pc := 16) w d_method_2_code_16 ?_
  refine g_sipush (pc := 17) w d_method_2_code_17 (z := (255 : Int32)) (by decide) ?_
  refine g_iand (pc := 20) w d_method_2_code_20 ?_
  refine g_i2c (pc := 21) w d_method_2_code_21 ?_
  refine g_istoreN (pc := 22) w d_method_2_code_22 (l' := #[.val (.int px), .val (.int (px &&& (3 : Int32))), .val (.int ((((px.toUInt32 >>> ((2 : Int32) &&& 31).toUInt32).toInt32) &&& (255 : Int32)).toUInt32.toUInt16.toUInt32.toInt32)), .val (.int ((((px.toUInt32 >>> ((10 : Int32) &&& 31).toUInt32).toInt32) &&& (255 : Int32)).toUInt32.toUInt16.toUInt32.toInt32)), .unset]) rfl ?_
  refine g_iloadN (pc := 23) w d_method_2_code_23 rfl ?_
  refine g_bipush (pc := 24) w d_method_2_code_24 (z := (18 : Int32)) (by decide) ?_
  refine g_iushr (pc := 26) w d_method_2_code_26 ?_
  refine g_sipush (pc := 27) w d_method_2_code_27 (z := (255 : Int32)) (by decide) ?_
  refine g_iand (pc := 30) w d_method_2_code_30 ?_
  refine g_i2c (pc := 31) w d_method_2_code_31 ?_
  refine g_istore (pc := 32) w d_method_2_code_32 (l' := #[.val (.int px), .val (.int (px &&& (3 : Int32))), .val (.int ((((px.toUInt32 >>> ((2 : Int32) &&& 31).toUInt32).toInt32) &&& (255 : Int32)).toUInt32.toUInt16.toUInt32.toInt32)), .val (.int ((((px.toUInt32 >>> ((10 : Int32) &&& 31).toUInt32).toInt32) &&& (255 : Int32)).toUInt32.toUInt16.toUInt32.toInt32)), .val (.int ((((px.toUInt32 >>> ((18 : Int32) &&& 31).toUInt32).toInt32) &&& (255 : Int32)).toUInt32.toUInt16.toUInt32.toInt32))]) rfl ?_
  refine g_iloadN (pc := 34) w d_method_2_code_34 rfl ?_
  by_cases hk0 : (px &&& (3 : Int32)) = (0 : Int32)
  · refine g_ifNo (pc := 35) w d_method_2_code_35 ((if0 _ _).trans (teq (hk0 : (px &&& (3 : Int32)) = (0 : Int32))).2) ?_
    refine g_new (pc := 38) w (tw4 hw) (tw5 hw) (tw6 hw) (by decide) (by decide) d_method_2_code_38 ?_
    intro T1 h1 b1 w1 eq_b1 fr_b1 E1 E_b1 D1
    have F_value_b1 : Fld Z h1 b1 "java/lang/String" "value" "[B" .null := D1 (Or.inr (tw20 hw)) (ty := (.array .byte)) (by decide)
    have F_coder_b1 : Fld Z h1 b1 "java/lang/String" "coder" "B" (.int (0 : Int32)) := D1 (Or.inr (tw21 hw)) (ty := .byte) (by decide)
    clear D1
    refine g_dup (pc := 41) w1 d_method_2_code_41 rfl ?_
    refine g_iconst (pc := 42) w1 d_method_2_code_42 (z := (0 : Int32)) (by decide) ?_
    refine g_newP (pc := 43) (aty := .char) w1 (tw7 hw) (by decide) (cap := 0) (by decide) (by decide) (by decide) (by decide) d_method_2_code_43 ?_
    intro T2 h2 b2 w2 eq_b2 fr_b2 E2 A_b2
    have ne_b1_b2 : b1 ≠ b2 := Nat.ne_of_lt (by rw [eq_b2]; exact E_b1.lt)
    have E_b1 := E_b1.ext E2
    have F_value_b1 := F_value_b1.ext E2
    have F_coder_b1 := F_coder_b1.ext E2
    have A_b2 : AR Z h2 b2 .char [] := A_b2
    refine g_special (pc := 45) w2 (argsL := [(.ref b2)]) (rest := [(.ref b1)]) (W := 1) rfl rfl (tw8 hw) (tw9 hw) (tw6 hw) (tw10 hw) (by decide) (c_strinit hw st (cs := ([] : List Int32)) E_b1 F_coder_b1 F_value_b1 A_b2 (fun _ q => nomatch q) (Nat.le_of_ble_eq_true rfl) (Ne.symm ne_b1_b2)) (by simp) (allS (Or.inr fr_b1) all0) rfl (lenOf pd7 rfl) rfl (by decide) (Nat.le_of_eq rfl) (by decide) (by decide) (by decide) d_method_2_code_45 ?_
    rintro _ T3 h3 ns3 ⟨rfl, rfl, t3, E_b1, F_coder_b1, F_value_b1, A_t3⟩ K3 w3
    have A_b2 := A_b2.keep K3 (ninS (Ne.symm ne_b1_b2) nin0)
    exact g_retA (pc := 48) w3 (t := (.object "java/lang/String")) rfl rfl rfl (by decide) (by decide) (ns := []) (fun _ q => nomatch q) d_method_2_code_48 ⟨_, rfl, rfl, E_b1⟩
  · refine g_ifYes (pc := 35) w d_method_2_code_35 ((if0 _ _).trans (feq (hk0 : ¬ (px &&& (3 : Int32)) = (0 : Int32))).2) (by decide) (pc' := 49) (by decide) ?_
    refine g_iloadN (pc := 49) w d_method_2_code_49 rfl ?_
    refine g_iconst (pc := 50) w d_method_2_code_50 (z := (1 : Int32)) (by decide) ?_
    by_cases hk1 : (px &&& (3 : Int32)) = (1 : Int32)
    · refine g_icmpNo (pc := 51) w d_method_2_code_51 ((teq (hk1 : (px &&& (3 : Int32)) = (1 : Int32))).2) ?_
      refine g_iloadN (pc := 54) w d_method_2_code_54 rfl ?_
      refine g_static (pc := 55) w (argsL := [(.int ((((px.toUInt32 >>> ((2 : Int32) &&& 31).toUInt32).toInt32) &&& (255 : Int32)).toUInt32.toUInt16.toUInt32.toInt32))]) (rest := []) (W := 0) (tw81 hw) (tw82 hw) (tw6 hw) (tw83 hw) (by decide) (c_valueOf hw st (ch := ((((px.toUInt32 >>> ((2 : Int32) &&& 31).toUInt32).toInt32) &&& (255 : Int32)).toUInt32.toUInt16.toUInt32.toInt32)) (lat8 _)) (by simp) all0 rfl (lenOf pd8 rfl) rfl (by decide) (Nat.le_of_eq rfl) (by decide) (by decide) (by decide) d_method_2_code_55 ?_
      rintro _ T4 h4 ns4 ⟨sv, rfl, rfl, -, tv, E_sv, -⟩ K4 w4
      exact g_retA (pc := 58) w4 (t := (.object "java/lang/String")) rfl rfl rfl (by decide) (by decide) (ns := []) (fun _ q => nomatch q) d_method_2_code_58 ⟨_, rfl, rfl, E_sv⟩
    · refine g_icmpYes (pc := 51) w d_method_2_code_51 ((feq (hk1 : ¬ (px &&& (3 : Int32)) = (1 : Int32))).2) (by decide) (pc' := 59) (by decide) ?_
      refine g_iloadN (pc := 59) w d_method_2_code_59 rfl ?_
      refine g_iconst (pc := 60) w d_method_2_code_60 (z := (2 : Int32)) (by decide) ?_
      by_cases hk2 : (px &&& (3 : Int32)) = (2 : Int32)
      · refine g_icmpNo (pc := 61) w d_method_2_code_61 ((teq (hk2 : (px &&& (3 : Int32)) = (2 : Int32))).2) ?_
        refine g_new (pc := 64) w (tw4 hw) (tw5 hw) (tw6 hw) (by decide) (by decide) d_method_2_code_64 ?_
        intro T5 h5 b5 w5 eq_b5 fr_b5 E5 E_b5 D5
        have F_value_b5 : Fld Z h5 b5 "java/lang/String" "value" "[B" .null := D5 (Or.inr (tw20 hw)) (ty := (.array .byte)) (by decide)
        have F_coder_b5 : Fld Z h5 b5 "java/lang/String" "coder" "B" (.int (0 : Int32)) := D5 (Or.inr (tw21 hw)) (ty := .byte) (by decide)
        clear D5
        refine g_dup (pc := 67) w5 d_method_2_code_67 rfl ?_
        refine g_iconst (pc := 68) w5 d_method_2_code_68 (z := (2 : Int32)) (by decide) ?_
        refine g_newP (pc := 69) (aty := .char) w5 (tw7 hw) (by decide) (cap := 2) (by decide) (by decide) (by decide) (by decide) d_method_2_code_69 ?_
        intro T6 h6 b6 w6 eq_b6 fr_b6 E6 A_b6
        have ne_b5_b6 : b5 ≠ b6 := Nat.ne_of_lt (by rw [eq_b6]; exact E_b5.lt)
        have E_b5 := E_b5.ext E6
        have F_value_b5 := F_value_b5.ext E6
        have F_coder_b5 := F_coder_b5.ext E6
        have A_b6 : AR Z h6 b6 .char [(.int (0 : Int32)), (.int (0 : Int32))] := A_b6
        refine g_dup (pc := 71) w6 d_method_2_code_71 rfl ?_
        refine g_iconst (pc := 72) w6 d_method_2_code_72 (z := (0 : Int32)) (by decide) ?_
        refine g_iloadN (pc := 73) w6 d_method_2_code_73 rfl ?_
        refine g_castore (pc := 74) w6 A_b6 (by decide) (Nat.le_of_ble_eq_true rfl) (Or.inr fr_b6) (by simp) d_method_2_code_74 ?_
        intro T7 h7 w7 W7 A_b6
        have E_b5 := E_b5.wr W7
        have F_value_b5 := F_value_b5.other W7 (Or.inl ne_b5_b6)
        have F_coder_b5 := F_coder_b5.other W7 (Or.inl ne_b5_b6)
        have A_b6 : AR Z h7 b6 .char [(.int (nar .char ((((px.toUInt32 >>> ((2 : Int32) &&& 31).toUInt32).toInt32) &&& (255 : Int32)).toUInt32.toUInt16.toUInt32.toInt32))), (.int (0 : Int32))] := A_b6
        refine g_dup (pc := 75) w7 d_method_2_code_75 rfl ?_
        refine g_iconst (pc := 76) w7 d_method_2_code_76 (z := (1 : Int32)) (by decide) ?_
        refine g_iloadN (pc := 77) w7 d_method_2_code_77 rfl ?_
        refine g_castore (pc := 78) w7 A_b6 (by decide) (Nat.le_of_ble_eq_true rfl) (Or.inr fr_b6) (by simp) d_method_2_code_78 ?_
        intro T8 h8 w8 W8 A_b6
        have E_b5 := E_b5.wr W8
        have F_value_b5 := F_value_b5.other W8 (Or.inl ne_b5_b6)
        have F_coder_b5 := F_coder_b5.other W8 (Or.inl ne_b5_b6)
        have A_b6 : AR Z h8 b6 .char [(.int (nar .char ((((px.toUInt32 >>> ((2 : Int32) &&& 31).toUInt32).toInt32) &&& (255 : Int32)).toUInt32.toUInt16.toUInt32.toInt32))), (.int (nar .char ((((px.toUInt32 >>> ((10 : Int32) &&& 31).toUInt32).toInt32) &&& (255 : Int32)).toUInt32.toUInt16.toUInt32.toInt32)))] := A_b6
        refine g_special (pc := 79) w8 (argsL := [(.ref b6)]) (rest := [(.ref b5)]) (W := 1) rfl rfl (tw8 hw) (tw9 hw) (tw6 hw) (tw10 hw) (by decide) (c_strinit hw st (cs := [nar .char ((((px.toUInt32 >>> ((2 : Int32) &&& 31).toUInt32).toInt32) &&& (255 : Int32)).toUInt32.toUInt16.toUInt32.toInt32), nar .char ((((px.toUInt32 >>> ((10 : Int32) &&& 31).toUInt32).toInt32) &&& (255 : Int32)).toUInt32.toUInt16.toUInt32.toInt32)]) E_b5 F_coder_b5 F_value_b5 A_b6 (all32 (lat8n _) (all32 (lat8n _) all32n)) (Nat.le_of_ble_eq_true rfl) (Ne.symm ne_b5_b6)) (by simp) (allS (Or.inr fr_b5) all0) rfl (lenOf pd7 rfl) rfl (by decide) (Nat.le_of_eq rfl) (by decide) (by decide) (by decide) d_method_2_code_79 ?_
        rintro _ T9 h9 ns9 ⟨rfl, rfl, t9, E_b5, F_coder_b5, F_value_b5, A_t9⟩ K9 w9
        have A_b6 := A_b6.keep K9 (ninS (Ne.symm ne_b5_b6) nin0)
        exact g_retA (pc := 82) w9 (t := (.object "java/lang/String")) rfl rfl rfl (by decide) (by decide) (ns := []) (fun _ q => nomatch q) d_method_2_code_82 ⟨_, rfl, rfl, E_b5⟩
      · refine g_icmpYes (pc := 61) w d_method_2_code_61 ((feq (hk2 : ¬ (px &&& (3 : Int32)) = (2 : Int32))).2) (by decide) (pc' := 83) (by decide) ?_
        refine g_new (pc := 83) w (tw4 hw) (tw5 hw) (tw6 hw) (by decide) (by decide) d_method_2_code_83 ?_
        intro T10 h10 b10 w10 eq_b10 fr_b10 E10 E_b10 D10
        have F_value_b10 : Fld Z h10 b10 "java/lang/String" "value" "[B" .null := D10 (Or.inr (tw20 hw)) (ty := (.array .byte)) (by decide)
        have F_coder_b10 : Fld Z h10 b10 "java/lang/String" "coder" "B" (.int (0 : Int32)) := D10 (Or.inr (tw21 hw)) (ty := .byte) (by decide)
        clear D10
        refine g_dup (pc := 86) w10 d_method_2_code_86 rfl ?_
        refine g_iconst (pc := 87) w10 d_method_2_code_87 (z := (3 : Int32)) (by decide) ?_
        refine g_newP (pc := 88) (aty := .char) w10 (tw7 hw) (by decide) (cap := 3) (by decide) (by decide) (by decide) (by decide) d_method_2_code_88 ?_
        intro T11 h11 b11 w11 eq_b11 fr_b11 E11 A_b11
        have ne_b10_b11 : b10 ≠ b11 := Nat.ne_of_lt (by rw [eq_b11]; exact E_b10.lt)
        have E_b10 := E_b10.ext E11
        have F_value_b10 := F_value_b10.ext E11
        have F_coder_b10 := F_coder_b10.ext E11
        have A_b11 : AR Z h11 b11 .char [(.int (0 : Int32)), (.int (0 : Int32)), (.int (0 : Int32))] := A_b11
        refine g_dup (pc := 90) w11 d_method_2_code_90 rfl ?_
        refine g_iconst (pc := 91) w11 d_method_2_code_91 (z := (0 : Int32)) (by decide) ?_
        refine g_iloadN (pc := 92) w11 d_method_2_code_92 rfl ?_
        refine g_castore (pc := 93) w11 A_b11 (by decide) (Nat.le_of_ble_eq_true rfl) (Or.inr fr_b11) (by simp) d_method_2_code_93 ?_
        intro T12 h12 w12 W12 A_b11
        have E_b10 := E_b10.wr W12
        have F_value_b10 := F_value_b10.other W12 (Or.inl ne_b10_b11)
        have F_coder_b10 := F_coder_b10.other W12 (Or.inl ne_b10_b11)
        have A_b11 : AR Z h12 b11 .char [(.int (nar .char ((((px.toUInt32 >>> ((2 : Int32) &&& 31).toUInt32).toInt32) &&& (255 : Int32)).toUInt32.toUInt16.toUInt32.toInt32))), (.int (0 : Int32)), (.int (0 : Int32))] := A_b11
        refine g_dup (pc := 94) w12 d_method_2_code_94 rfl ?_
        refine g_iconst (pc := 95) w12 d_method_2_code_95 (z := (1 : Int32)) (by decide) ?_
        refine g_iloadN (pc := 96) w12 d_method_2_code_96 rfl ?_
        refine g_castore (pc := 97) w12 A_b11 (by decide) (Nat.le_of_ble_eq_true rfl) (Or.inr fr_b11) (by simp) d_method_2_code_97 ?_
        intro T13 h13 w13 W13 A_b11
        have E_b10 := E_b10.wr W13
        have F_value_b10 := F_value_b10.other W13 (Or.inl ne_b10_b11)
        have F_coder_b10 := F_coder_b10.other W13 (Or.inl ne_b10_b11)
        have A_b11 : AR Z h13 b11 .char [(.int (nar .char ((((px.toUInt32 >>> ((2 : Int32) &&& 31).toUInt32).toInt32) &&& (255 : Int32)).toUInt32.toUInt16.toUInt32.toInt32))), (.int (nar .char ((((px.toUInt32 >>> ((10 : Int32) &&& 31).toUInt32).toInt32) &&& (255 : Int32)).toUInt32.toUInt16.toUInt32.toInt32))), (.int (0 : Int32))] := A_b11
        refine g_dup (pc := 98) w13 d_method_2_code_98 rfl ?_
        refine g_iconst (pc := 99) w13 d_method_2_code_99 (z := (2 : Int32)) (by decide) ?_
        refine g_iload (pc := 100) w13 d_method_2_code_100 rfl ?_
        refine g_castore (pc := 102) w13 A_b11 (by decide) (Nat.le_of_ble_eq_true rfl) (Or.inr fr_b11) (by simp) d_method_2_code_102 ?_
        intro T14 h14 w14 W14 A_b11
        have E_b10 := E_b10.wr W14
        have F_value_b10 := F_value_b10.other W14 (Or.inl ne_b10_b11)
        have F_coder_b10 := F_coder_b10.other W14 (Or.inl ne_b10_b11)
        have A_b11 : AR Z h14 b11 .char [(.int (nar .char ((((px.toUInt32 >>> ((2 : Int32) &&& 31).toUInt32).toInt32) &&& (255 : Int32)).toUInt32.toUInt16.toUInt32.toInt32))), (.int (nar .char ((((px.toUInt32 >>> ((10 : Int32) &&& 31).toUInt32).toInt32) &&& (255 : Int32)).toUInt32.toUInt16.toUInt32.toInt32))), (.int (nar .char ((((px.toUInt32 >>> ((18 : Int32) &&& 31).toUInt32).toInt32) &&& (255 : Int32)).toUInt32.toUInt16.toUInt32.toInt32)))] := A_b11
        refine g_special (pc := 103) w14 (argsL := [(.ref b11)]) (rest := [(.ref b10)]) (W := 1) rfl rfl (tw8 hw) (tw9 hw) (tw6 hw) (tw10 hw) (by decide) (c_strinit hw st (cs := [nar .char ((((px.toUInt32 >>> ((2 : Int32) &&& 31).toUInt32).toInt32) &&& (255 : Int32)).toUInt32.toUInt16.toUInt32.toInt32), nar .char ((((px.toUInt32 >>> ((10 : Int32) &&& 31).toUInt32).toInt32) &&& (255 : Int32)).toUInt32.toUInt16.toUInt32.toInt32), nar .char ((((px.toUInt32 >>> ((18 : Int32) &&& 31).toUInt32).toInt32) &&& (255 : Int32)).toUInt32.toUInt16.toUInt32.toInt32)]) E_b10 F_coder_b10 F_value_b10 A_b11 (all32 (lat8n _) (all32 (lat8n _) (all32 (lat8n _) all32n))) (Nat.le_of_ble_eq_true rfl) (Ne.symm ne_b10_b11)) (by simp) (allS (Or.inr fr_b10) all0) rfl (lenOf pd7 rfl) rfl (by decide) (Nat.le_of_eq rfl) (by decide) (by decide) (by decide) d_method_2_code_103 ?_
        rintro _ T15 h15 ns15 ⟨rfl, rfl, t15, E_b10, F_coder_b10, F_value_b10, A_t15⟩ K15 w15
        have A_b11 := A_b11.keep K15 (ninS (Ne.symm ne_b10_b11) nin0)
        exact g_retA (pc := 106) w15 (t := (.object "java/lang/String")) rfl rfl rfl (by decide) (by decide) (ns := []) (fun _ q => nomatch q) d_method_2_code_106 ⟨_, rfl, rfl, E_b10⟩

set_option maxRecDepth 65536 in
set_option maxHeartbeats 40000000 in
theorem c_rnn {l : Launch} {Z : State} {a0 : Array Value} (hw : ∀ d ∈ tables_1, d.before a0 Z = true) {oa ma : Addr} {h0 : Heap} :
    Con l Z a0 EL0 (⟨"java/util/Objects", "requireNonNull", "(Ljava/lang/Object;Ljava/lang/String;)Ljava/lang/Object;"⟩ : MethodName) jdk_31_method_11_code 2 (Option.some (Jvm.ClassFile.FieldType.object "java/lang/Object")) ({ frames := 0, cells := 0, slots := 0, locals := 0 } : Room) #[(.ref oa), (.ref ma)] h0 [] [] (fun v h ns => v = some (.ref oa) ∧ ns = []) := by
  refine Con.of (L0 := #[.val (.ref oa), .val (.ref ma)]) (by decide +kernel) (fun m => by first | rfl | (simp [entryFrame, mkF, argsToLocals, Value.category]; done)) ?_
  intro p e s m below meth c T w
  refine g_aloadN (pc := 0) w d_jdk_31_method_11_code_0 rfl rfl ?_
  refine g_ifnonnullYes (pc := 1) w d_jdk_31_method_11_code_1 (by decide) (pc' := 13) (by decide) ?_
  refine g_aloadN (pc := 13) w d_jdk_31_method_11_code_13 rfl rfl ?_
  exact g_retA (pc := 14) w (t := (.object "java/lang/Object")) rfl rfl rfl (by decide) (by decide) (ns := []) (fun _ q => nomatch q) d_jdk_31_method_11_code_14 ⟨rfl, rfl⟩

set_option maxRecDepth 65536 in
set_option maxHeartbeats 40000000 in
theorem c_callinit {l : Launch} {Z : State} {a0 : Array Value} (hw : ∀ d ∈ tables_1, d.before a0 Z = true) {oa s1 s2 s3 : Addr} {h0 : Heap} (E_oa : Exa Z h0 oa "com/example/cormorant/cormorant/Call") (F_from_oa : Fld Z h0 oa "com/example/cormorant/cormorant/Call" "from" "Ljava/lang/String;" .null) (F_to_oa : Fld Z h0 oa "com/example/cormorant/cormorant/Call" "to" "Ljava/lang/String;" .null) (F_action_oa : Fld Z h0 oa "com/example/cormorant/cormorant/Call" "action" "Ljava/lang/String;" .null) :
    Con l Z a0 EL0 (⟨"com/example/cormorant/cormorant/Call", "<init>", "(Ljava/lang/String;Ljava/lang/String;Ljava/lang/String;)V"⟩ : MethodName) prog_12_method_1_code 4 (Option.none : Option Jvm.ClassFile.FieldType) ({ frames := 1, cells := 0, slots := 0, locals := 12 } : Room) #[(.ref oa), (.ref s1), (.ref s2), (.ref s3)] h0 [oa] [oa] (fun v h ns => v = none ∧ ns = [] ∧ Exa Z h oa "com/example/cormorant/cormorant/Call" ∧ Fld Z h oa "com/example/cormorant/cormorant/Call" "from" "Ljava/lang/String;" (.ref s1) ∧ Fld Z h oa "com/example/cormorant/cormorant/Call" "to" "Ljava/lang/String;" (.ref s2) ∧ Fld Z h oa "com/example/cormorant/cormorant/Call" "action" "Ljava/lang/String;" (.ref s3)) := by
  refine Con.of (L0 := #[.val (.ref oa), .val (.ref s1), .val (.ref s2), .val (.ref s3)]) (by decide +kernel) (fun m => by first | rfl | (simp [entryFrame, mkF, argsToLocals, Value.category]; done)) ?_
  intro p e s m below meth c T w
  refine g_aloadN (pc := 0) w d_prog_12_method_1_code_0 rfl rfl ?_
  refine g_initO (pc := 1) w (tw54 hw) (tw16 hw) (tw17 hw) rfl (by decide) (W := 0) (Nat.le_of_eq rfl) (by decide) d_prog_12_method_1_code_1 ?_
  intro T1 w1
  refine g_aloadN (pc := 4) w1 d_prog_12_method_1_code_4 rfl rfl ?_
  refine g_aloadN (pc := 5) w1 d_prog_12_method_1_code_5 rfl rfl ?_
  refine g_putF (pc := 6) w1 (host := "") (Or.inl (tw55 hw)) Via.refl F_from_oa E_oa (Or.inr ⟨(tw56 hw), rfl, rfl⟩) (tw42 hw) (ty := (.object "java/lang/String")) (by decide) rfl rfl (Or.inl (by simp)) (by simp) d_prog_12_method_1_code_6 ?_
  intro T2 h2 w2 W2
  have F_from_oa := F_from_oa.same W2
  have E_oa := E_oa.wr W2
  have F_to_oa := F_to_oa.other W2 (Or.inr (slot_ne (Or.inr (tw58 hw)) (Or.inr (tw56 hw)) (by decide) (t := (.object "java/lang/String")) (t' := (.object "java/lang/String")) (by decide) (by decide)))
  have F_action_oa := F_action_oa.other W2 (Or.inr (slot_ne (Or.inr (tw60 hw)) (Or.inr (tw56 hw)) (by decide) (t := (.object "java/lang/String")) (t' := (.object "java/lang/String")) (by decide) (by decide)))
  refine g_aloadN (pc := 9) w2 d_prog_12_method_1_code_9 rfl rfl ?_
  refine g_aloadN (pc := 10) w2 d_prog_12_method_1_code_10 rfl rfl ?_
  refine g_putF (pc := 11) w2 (host := "") (Or.inl (tw57 hw)) Via.refl F_to_oa E_oa (Or.inr ⟨(tw58 hw), rfl, rfl⟩) (tw42 hw) (ty := (.object "java/lang/String")) (by decide) rfl rfl (Or.inl (by simp)) (by simp) d_prog_12_method_1_code_11 ?_
  intro T3 h3 w3 W3
  have F_to_oa := F_to_oa.same W3
  have E_oa := E_oa.wr W3
  have F_action_oa := F_action_oa.other W3 (Or.inr (slot_ne (Or.inr (tw60 hw)) (Or.inr (tw58 hw)) (by decide) (t := (.object "java/lang/String")) (t' := (.object "java/lang/String")) (by decide) (by decide)))
  have F_from_oa := F_from_oa.other W3 (Or.inr (slot_ne (Or.inr (tw56 hw)) (Or.inr (tw58 hw)) (by decide) (t := (.object "java/lang/String")) (t' := (.object "java/lang/String")) (by decide) (by decide)))
  refine g_aloadN (pc := 14) w3 d_prog_12_method_1_code_14 rfl rfl ?_
  refine g_aloadN (pc := 15) w3 d_prog_12_method_1_code_15 rfl rfl ?_
  refine g_putF (pc := 16) w3 (host := "") (Or.inl (tw59 hw)) Via.refl F_action_oa E_oa (Or.inr ⟨(tw60 hw), rfl, rfl⟩) (tw42 hw) (ty := (.object "java/lang/String")) (by decide) rfl rfl (Or.inl (by simp)) (by simp) d_prog_12_method_1_code_16 ?_
  intro T4 h4 w4 W4
  have F_action_oa := F_action_oa.same W4
  have E_oa := E_oa.wr W4
  have F_from_oa := F_from_oa.other W4 (Or.inr (slot_ne (Or.inr (tw56 hw)) (Or.inr (tw60 hw)) (by decide) (t := (.object "java/lang/String")) (t' := (.object "java/lang/String")) (by decide) (by decide)))
  have F_to_oa := F_to_oa.other W4 (Or.inr (slot_ne (Or.inr (tw58 hw)) (Or.inr (tw60 hw)) (by decide) (t := (.object "java/lang/String")) (t' := (.object "java/lang/String")) (by decide) (by decide)))
  exact g_ret0 (pc := 19) w4 rfl (by decide) (by decide) (ns := []) (fun _ q => nomatch q) d_prog_12_method_1_code_19 ⟨rfl, rfl, E_oa, F_from_oa, F_to_oa, F_action_oa⟩

set_option maxRecDepth 65536 in
set_option maxHeartbeats 40000000 in
theorem c_of {l : Launch} {Z : State} {a0 : Array Value} (hw : ∀ d ∈ tables_1, d.before a0 Z = true) {s1 s2 s3 : Addr} {h0 : Heap} (E_s1 : Exa Z h0 s1 "java/lang/String") (E_s2 : Exa Z h0 s2 "java/lang/String") (E_s3 : Exa Z h0 s3 "java/lang/String") :
    Con l Z a0 EL0 (⟨"com/example/cormorant/cormorant/Call", "of", "(Ljava/lang/String;Ljava/lang/String;Ljava/lang/String;)Lcom/example/cormorant/cormorant/Call;"⟩ : MethodName) prog_12_method_3_code 3 (Option.some (Jvm.ClassFile.FieldType.object "com/example/cormorant/cormorant/Call")) ({ frames := 2, cells := 7, slots := 63, locals := 28 } : Room) #[(.ref s1), (.ref s2), (.ref s3)] h0 [] [] (fun v h ns => ∃ oa, v = some (.ref oa) ∧ ns = [] ∧ Exa Z h oa "com/example/cormorant/cormorant/Call" ∧ Fld Z h oa "com/example/cormorant/cormorant/Call" "from" "Ljava/lang/String;" (.ref s1) ∧ Fld Z h oa "com/example/cormorant/cormorant/Call" "to" "Ljava/lang/String;" (.ref s2) ∧ Fld Z h oa "com/example/cormorant/cormorant/Call" "action" "Ljava/lang/String;" (.ref s3)) := by
  refine Con.of (L0 := #[.val (.ref s1), .val (.ref s2), .val (.ref s3)]) (by decide +kernel) (fun m => by first | rfl | (simp [entryFrame, mkF, argsToLocals, Value.category]; done)) ?_
  intro p e s m below meth c T w
  refine g_new (pc := 0) w (tw41 hw) (tw42 hw) (tw39 hw) (by decide) (by decide) d_prog_12_method_3_code_0 ?_
  intro T1 h1 b1 w1 eq_b1 fr_b1 E1 E_b1 D1
  have ne_s1_b1 : s1 ≠ b1 := Nat.ne_of_lt (by rw [eq_b1]; exact E_s1.lt)
  have ne_s2_b1 : s2 ≠ b1 := Nat.ne_of_lt (by rw [eq_b1]; exact E_s2.lt)
  have ne_s3_b1 : s3 ≠ b1 := Nat.ne_of_lt (by rw [eq_b1]; exact E_s3.lt)
  have E_s1 := E_s1.ext E1
  have E_s2 := E_s2.ext E1
  have E_s3 := E_s3.ext E1
  have F_from_b1 : Fld Z h1 b1 "com/example/cormorant/cormorant/Call" "from" "Ljava/lang/String;" .null := D1 (Or.inr (tw56 hw)) (ty := (.object "java/lang/String")) (by decide)
  have F_to_b1 : Fld Z h1 b1 "com/example/cormorant/cormorant/Call" "to" "Ljava/lang/String;" .null := D1 (Or.inr (tw58 hw)) (ty := (.object "java/lang/String")) (by decide)
  have F_action_b1 : Fld Z h1 b1 "com/example/cormorant/cormorant/Call" "action" "Ljava/lang/String;" .null := D1 (Or.inr (tw60 hw)) (ty := (.object "java/lang/String")) (by decide)
  clear D1
  refine g_dup (pc := 3) w1 d_prog_12_method_3_code_3 rfl ?_
  refine g_aloadN (pc := 4) w1 d_prog_12_method_3_code_4 rfl rfl ?_
  refine g_ldcO (pc := 5) w1 (sz := 16) (tw43 hw) (strAt hw) (by decide) (by decide) (by decide) (by decide) d_prog_12_method_3_code_5 ?_
  intro T2 h2 b2 w2 E2
  have E_s1 := E_s1.ext E2
  have E_s2 := E_s2.ext E2
  have E_s3 := E_s3.ext E2
  have E_b1 := E_b1.ext E2
  have F_from_b1 := F_from_b1.ext E2
  have F_to_b1 := F_to_b1.ext E2
  have F_action_b1 := F_action_b1.ext E2
  refine g_static (pc := 7) w2 (argsL := [(.ref s1), (.ref b2)]) (rest := [(.ref b1), (.ref b1)]) (W := 2) (tw44 hw) (tw45 hw) (tw46 hw) (tw47 hw) (by decide) (c_rnn hw) (by simp) all0 rfl (lenOf pd9 rfl) rfl (by decide) (Nat.le_of_eq rfl) (by decide) (by decide) (by decide) d_prog_12_method_3_code_7 ?_
  rintro _ T3 h3 ns3 ⟨rfl, rfl⟩ K3 w3
  have E_s1 := E_s1.keep K3
  have E_s2 := E_s2.keep K3
  have E_s3 := E_s3.keep K3
  have E_b1 := E_b1.keep K3
  have F_from_b1 := F_from_b1.keep K3 nin0
  have F_to_b1 := F_to_b1.keep K3 nin0
  have F_action_b1 := F_action_b1.keep K3 nin0
  refine g_castY (pc := 10) w3 (tw48 hw) (Ins.self E_s1) d_prog_12_method_3_code_10 ?_
  intro T4 w4
  refine g_aloadN (pc := 13) w4 d_prog_12_method_3_code_13 rfl rfl ?_
  refine g_ldcO (pc := 14) w4 (sz := 8) (tw49 hw) (strAt hw) (by decide) (by decide) (by decide) (by decide) d_prog_12_method_3_code_14 ?_
  intro T5 h5 b5 w5 E5
  have E_s1 := E_s1.ext E5
  have E_s2 := E_s2.ext E5
  have E_s3 := E_s3.ext E5
  have E_b1 := E_b1.ext E5
  have F_from_b1 := F_from_b1.ext E5
  have F_to_b1 := F_to_b1.ext E5
  have F_action_b1 := F_action_b1.ext E5
  refine g_static (pc := 16) w5 (argsL := [(.ref s2), (.ref b5)]) (rest := [(.ref s1), (.ref b1), (.ref b1)]) (W := 3) (tw44 hw) (tw45 hw) (tw46 hw) (tw47 hw) (by decide) (c_rnn hw) (by simp) all0 rfl (lenOf pd9 rfl) rfl (by decide) (Nat.le_of_eq rfl) (by decide) (by decide) (by decide) d_prog_12_method_3_code_16 ?_
  rintro _ T6 h6 ns6 ⟨rfl, rfl⟩ K6 w6
  have E_s1 := E_s1.keep K6
  have E_s2 := E_s2.keep K6
  have E_s3 := E_s3.keep K6
  have E_b1 := E_b1.keep K6
  have F_from_b1 := F_from_b1.keep K6 nin0
  have F_to_b1 := F_to_b1.keep K6 nin0
  have F_action_b1 := F_action_b1.keep K6 nin0
  refine g_castY (pc := 19) w6 (tw48 hw) (Ins.self E_s2) d_prog_12_method_3_code_19 ?_
  intro T7 w7
  refine g_aloadN (pc := 22) w7 d_prog_12_method_3_code_22 rfl rfl ?_
  refine g_ldcO (pc := 23) w7 (sz := 24) (tw50 hw) (strAt hw) (by decide) (by decide) (by decide) (by decide) d_prog_12_method_3_code_23 ?_
  intro T8 h8 b8 w8 E8
  have E_s1 := E_s1.ext E8
  have E_s2 := E_s2.ext E8
  have E_s3 := E_s3.ext E8
  have E_b1 := E_b1.ext E8
  have F_from_b1 := F_from_b1.ext E8
  have F_to_b1 := F_to_b1.ext E8
  have F_action_b1 := F_action_b1.ext E8
  refine g_static (pc := 25) w8 (argsL := [(.ref s3), (.ref b8)]) (rest := [(.ref s2), (.ref s1), (.ref b1), (.ref b1)]) (W := 4) (tw44 hw) (tw45 hw) (tw46 hw) (tw47 hw) (by decide) (c_rnn hw) (by simp) all0 rfl (lenOf pd9 rfl) rfl (by decide) (Nat.le_of_eq rfl) (by decide) (by decide) (by decide) d_prog_12_method_3_code_25 ?_
  rintro _ T9 h9 ns9 ⟨rfl, rfl⟩ K9 w9
  have E_s1 := E_s1.keep K9
  have E_s2 := E_s2.keep K9
  have E_s3 := E_s3.keep K9
  have E_b1 := E_b1.keep K9
  have F_from_b1 := F_from_b1.keep K9 nin0
  have F_to_b1 := F_to_b1.keep K9 nin0
  have F_action_b1 := F_action_b1.keep K9 nin0
  refine g_castY (pc := 28) w9 (tw48 hw) (Ins.self E_s3) d_prog_12_method_3_code_28 ?_
  intro T10 w10
  refine g_special (pc := 31) w10 (argsL := [(.ref s1), (.ref s2), (.ref s3)]) (rest := [(.ref b1)]) (W := 1) rfl rfl (tw51 hw) (tw52 hw) (tw39 hw) (tw53 hw) (by decide) (c_callinit hw E_b1 F_from_b1 F_to_b1 F_action_b1) (by simp) (allS (Or.inr fr_b1) all0) rfl (lenOf pd10 rfl) rfl (by decide) (Nat.le_of_eq rfl) (by decide) (by decide) (by decide) d_prog_12_method_3_code_31 ?_
  rintro _ T11 h11 ns11 ⟨rfl, rfl, E_b1, F_from_b1, F_to_b1, F_action_b1⟩ K11 w11
  have E_s1 := E_s1.keep K11
  have E_s2 := E_s2.keep K11
  have E_s3 := E_s3.keep K11
  exact g_retA (pc := 34) w11 (t := (.object "com/example/cormorant/cormorant/Call")) rfl rfl rfl (by decide) (by decide) (ns := []) (fun _ q => nomatch q) d_prog_12_method_3_code_34 ⟨b1, rfl, rfl, E_b1, F_from_b1, F_to_b1, F_action_b1⟩

set_option maxRecDepth 65536 in
set_option maxHeartbeats 40000000 in
theorem c_getFrom {l : Launch} {Z : State} {a0 : Array Value} (hw : ∀ d ∈ tables_1, d.before a0 Z = true) {oa sa : Addr} {h0 : Heap} (F_from_oa : Fld Z h0 oa "com/example/cormorant/cormorant/Call" "from" "Ljava/lang/String;" (.ref sa)) :
    Con l Z a0 EL0 (⟨"com/example/cormorant/cormorant/Call", "getFrom", "()Ljava/lang/String;"⟩ : MethodName) prog_12_method_6_code 1 (Option.some (Jvm.ClassFile.FieldType.object "java/lang/String")) ({ frames := 0, cells := 0, slots := 0, locals := 0 } : Room) #[(.ref oa)] h0 [] [] (fun v h ns => v = some (.ref sa) ∧ ns = []) := by
  refine Con.of (L0 := #[.val (.ref oa)]) (by decide +kernel) (fun m => by first | rfl | (simp [entryFrame, mkF, argsToLocals, Value.category]; done)) ?_
  intro p e s m below meth c T w
  refine g_aloadN (pc := 0) w d_prog_12_method_6_code_0 rfl rfl ?_
  refine g_getF (pc := 1) w (host := "") (Or.inl (tw55 hw)) Via.refl F_from_oa d_prog_12_method_6_code_1 ?_
  intro T1 w1
  exact g_retA (pc := 4) w1 (t := (.object "java/lang/String")) rfl rfl rfl (by decide) (by decide) (ns := []) (fun _ q => nomatch q) d_prog_12_method_6_code_4 ⟨rfl, rfl⟩

set_option maxRecDepth 65536 in
set_option maxHeartbeats 40000000 in
theorem c_getTo {l : Launch} {Z : State} {a0 : Array Value} (hw : ∀ d ∈ tables_1, d.before a0 Z = true) {oa sa : Addr} {h0 : Heap} (F_to_oa : Fld Z h0 oa "com/example/cormorant/cormorant/Call" "to" "Ljava/lang/String;" (.ref sa)) :
    Con l Z a0 EL0 (⟨"com/example/cormorant/cormorant/Call", "getTo", "()Ljava/lang/String;"⟩ : MethodName) prog_12_method_7_code 1 (Option.some (Jvm.ClassFile.FieldType.object "java/lang/String")) ({ frames := 0, cells := 0, slots := 0, locals := 0 } : Room) #[(.ref oa)] h0 [] [] (fun v h ns => v = some (.ref sa) ∧ ns = []) := by
  refine Con.of (L0 := #[.val (.ref oa)]) (by decide +kernel) (fun m => by first | rfl | (simp [entryFrame, mkF, argsToLocals, Value.category]; done)) ?_
  intro p e s m below meth c T w
  refine g_aloadN (pc := 0) w d_prog_12_method_7_code_0 rfl rfl ?_
  refine g_getF (pc := 1) w (host := "") (Or.inl (tw57 hw)) Via.refl F_to_oa d_prog_12_method_7_code_1 ?_
  intro T1 w1
  exact g_retA (pc := 4) w1 (t := (.object "java/lang/String")) rfl rfl rfl (by decide) (by decide) (ns := []) (fun _ q => nomatch q) d_prog_12_method_7_code_4 ⟨rfl, rfl⟩

set_option maxRecDepth 65536 in
set_option maxHeartbeats 40000000 in
theorem c_getAction {l : Launch} {Z : State} {a0 : Array Value} (hw : ∀ d ∈ tables_1, d.before a0 Z = true) {oa sa : Addr} {h0 : Heap} (F_action_oa : Fld Z h0 oa "com/example/cormorant/cormorant/Call" "action" "Ljava/lang/String;" (.ref sa)) :
    Con l Z a0 EL0 (⟨"com/example/cormorant/cormorant/Call", "getAction", "()Ljava/lang/String;"⟩ : MethodName) prog_12_method_8_code 1 (Option.some (Jvm.ClassFile.FieldType.object "java/lang/String")) ({ frames := 0, cells := 0, slots := 0, locals := 0 } : Room) #[(.ref oa)] h0 [] [] (fun v h ns => v = some (.ref sa) ∧ ns = []) := by
  refine Con.of (L0 := #[.val (.ref oa)]) (by decide +kernel) (fun m => by first | rfl | (simp [entryFrame, mkF, argsToLocals, Value.category]; done)) ?_
  intro p e s m below meth c T w
  refine g_aloadN (pc := 0) w d_prog_12_method_8_code_0 rfl rfl ?_
  refine g_getF (pc := 1) w (host := "") (Or.inl (tw59 hw)) Via.refl F_action_oa d_prog_12_method_8_code_1 ?_
  intro T1 w1
  exact g_retA (pc := 4) w1 (t := (.object "java/lang/String")) rfl rfl rfl (by decide) (by decide) (ns := []) (fun _ q => nomatch q) d_prog_12_method_8_code_4 ⟨rfl, rfl⟩

set_option maxRecDepth 65536 in
set_option maxHeartbeats 40000000 in
theorem c_equalsSame {l : Launch} {Z : State} {a0 : Array Value} (hw : ∀ d ∈ tables_1, d.before a0 Z = true) {sa : Addr} {h0 : Heap} :
    Con l Z a0 EL0 (⟨"java/lang/String", "equals", "(Ljava/lang/Object;)Z"⟩ : MethodName) jdk_42_method_66_code 3 (Option.some Jvm.ClassFile.FieldType.boolean) ({ frames := 0, cells := 0, slots := 0, locals := 0 } : Room) #[(.ref sa), (.ref sa)] h0 [] [] (fun v h ns => v = some (.int (1 : Int32)) ∧ ns = []) := by
  refine Con.of (L0 := #[.val (.ref sa), .val (.ref sa), .unset]) (by decide +kernel) (fun m => by first | rfl | (simp [entryFrame, mkF, argsToLocals, Value.category]; done)) ?_
  intro p e s m below meth c T w
  refine g_aloadN (pc := 0) w d_jdk_42_method_66_code_0 rfl rfl ?_
  refine g_aloadN (pc := 1) w d_jdk_42_method_66_code_1 rfl rfl ?_
  refine g_acmp (pc := 2) w (same := true) d_jdk_42_method_66_code_2 rfl rfl (decide_eq_true rfl) (by decide) (pc' := 5) (by decide) ?_
  refine g_iconst (pc := 5) w d_jdk_42_method_66_code_5 (z := (1 : Int32)) (by decide) ?_
  exact g_retN (pc := 6) w (t := .boolean) rfl (by simp) rfl (by decide) (by decide) (ns := []) (fun _ q => nomatch q) d_jdk_42_method_66_code_6 ⟨rfl, rfl⟩

set_option maxRecDepth 65536 in
set_option maxHeartbeats 40000000 in
theorem c_law {l : Launch} {Z : State} {a0 : Array Value} (hw : ∀ d ∈ tables_1, d.before a0 Z = true) (st : Sts Z) {p0 p1 p2 : Int32} {h0 : Heap} :
    Con l Z a0 EL0 x code maxLocals ret room_1 #[(.int p0), (.int p1), (.int p2)] h0 [] [] (fun v h ns => v = some (.int (1 : Int32)) ∧ ns = []) := by
  refine Con.of (L0 := #[.val (.int p0), .val (.int p1), .val (.int p2), .unset, .unset, .unset, .unset]) (by decide +kernel) (fun m => by first | rfl | (simp [entryFrame, mkF, argsToLocals, Value.category]; done)) ?_
  intro p e s m below meth c T w
  refine g_iloadN (pc := 0) w at_0 rfl ?_
  refine g_static (pc := 1) w (argsL := [(.int p0)]) (rest := []) (W := 0) (tw0 hw) (tw1 hw) (tw2 hw) (tw3 hw) (by decide) (c_drawn hw st) (by simp) all0 rfl (lenOf pd11 rfl) rfl (by decide) (Nat.le_of_eq rfl) (by decide) (by decide) (by decide) at_1 ?_
  rintro _ T1 h1 ns1 ⟨s1, rfl, rfl, E_s1⟩ K1 w1
  refine g_astoreN (pc := 4) w1 at_4 rfl (l' := #[.val (.int p0), .val (.int p1), .val (.int p2), .val (.ref s1), .unset, .unset, .unset]) rfl ?_
  refine g_iloadN (pc := 5) w1 at_5 rfl ?_
  refine g_static (pc := 6) w1 (argsL := [(.int p1)]) (rest := []) (W := 0) (tw0 hw) (tw1 hw) (tw2 hw) (tw3 hw) (by decide) (c_drawn hw st) (by simp) all0 rfl (lenOf pd11 rfl) rfl (by decide) (Nat.le_of_eq rfl) (by decide) (by decide) (by decide) at_6 ?_
  rintro _ T2 h2 ns2 ⟨s2, rfl, rfl, E_s2⟩ K2 w2
  have E_s1 := E_s1.keep K2
  refine g_astore (pc := 9) w2 at_9 rfl (l' := #[.val (.int p0), .val (.int p1), .val (.int p2), .val (.ref s1), .val (.ref s2), .unset, .unset]) rfl ?_
  refine g_iloadN (pc := 11) w2 at_11 rfl ?_
  refine g_static (pc := 12) w2 (argsL := [(.int p2)]) (rest := []) (W := 0) (tw0 hw) (tw1 hw) (tw2 hw) (tw3 hw) (by decide) (c_drawn hw st) (by simp) all0 rfl (lenOf pd11 rfl) rfl (by decide) (Nat.le_of_eq rfl) (by decide) (by decide) (by decide) at_12 ?_
  rintro _ T3 h3 ns3 ⟨s3, rfl, rfl, E_s3⟩ K3 w3
  have E_s1 := E_s1.keep K3
  have E_s2 := E_s2.keep K3
  refine g_astore (pc := 15) w3 at_15 rfl (l' := #[.val (.int p0), .val (.int p1), .val (.int p2), .val (.ref s1), .val (.ref s2), .val (.ref s3), .unset]) rfl ?_
  refine g_aloadN (pc := 17) w3 at_17 rfl rfl ?_
  refine g_aload (pc := 18) w3 at_18 rfl rfl ?_
  refine g_aload (pc := 20) w3 at_20 rfl rfl ?_
  refine g_static (pc := 22) w3 (argsL := [(.ref s1), (.ref s2), (.ref s3)]) (rest := []) (W := 0) (tw37 hw) (tw38 hw) (tw39 hw) (tw40 hw) (by decide) (c_of hw E_s1 E_s2 E_s3) (by simp) all0 rfl (lenOf pd12 rfl) rfl (by decide) (Nat.le_of_eq rfl) (by decide) (by decide) (by decide) at_22 ?_
  rintro _ T4 h4 ns4 ⟨oc, rfl, rfl, E_oc, F_from_oc, F_to_oc, F_action_oc⟩ K4 w4
  have E_s1 := E_s1.keep K4
  have E_s2 := E_s2.keep K4
  have E_s3 := E_s3.keep K4
  refine g_astore (pc := 25) w4 at_25 rfl (l' := #[.val (.int p0), .val (.int p1), .val (.int p2), .val (.ref s1), .val (.ref s2), .val (.ref s3), .val (.ref oc)]) rfl ?_
  refine g_aload (pc := 27) w4 at_27 rfl rfl ?_
  refine g_virtual (pc := 29) w4 (argsL := []) (rest := []) (W := 0) (tw61 hw) (tw62 hw) (fun t q => notFace_of_selects (args := #[]) (mvT q (tw64 hw))) (tw64 hw) (tw63 hw) (tw39 hw) (tw65 hw) (by decide) E_oc (c_getFrom hw F_from_oc) (by simp) all0 rfl (lenOf pd13 rfl) rfl (by decide) (Nat.le_of_eq rfl) (by decide) (by decide) (by decide) at_29 ?_
  rintro _ T5 h5 ns5 ⟨rfl, rfl⟩ K5 w5
  have E_s1 := E_s1.keep K5
  have E_s2 := E_s2.keep K5
  have E_s3 := E_s3.keep K5
  have E_oc := E_oc.keep K5
  have F_from_oc := F_from_oc.keep K5 nin0
  have F_to_oc := F_to_oc.keep K5 nin0
  have F_action_oc := F_action_oc.keep K5 nin0
  refine g_aloadN (pc := 32) w5 at_32 rfl rfl ?_
  refine g_virtual (pc := 33) w5 (argsL := [(.ref s1)]) (rest := []) (W := 0) (tw66 hw) (tw67 hw) (fun t q => notFace_of_selects (args := #[]) (mvT q (tw69 hw))) (tw69 hw) (tw68 hw) (tw6 hw) (tw70 hw) (by decide) E_s1 (c_equalsSame hw) (by simp) all0 rfl (lenOf pd14 rfl) rfl (by decide) (Nat.le_of_eq rfl) (by decide) (by decide) (by decide) at_33 ?_
  rintro _ T6 h6 ns6 ⟨rfl, rfl⟩ K6 w6
  have E_s1 := E_s1.keep K6
  have E_s2 := E_s2.keep K6
  have E_s3 := E_s3.keep K6
  have E_oc := E_oc.keep K6
  have F_from_oc := F_from_oc.keep K6 nin0
  have F_to_oc := F_to_oc.keep K6 nin0
  have F_action_oc := F_action_oc.keep K6 nin0
  refine g_ifNo (pc := 36) w6 at_36 ((if0 _ _).trans (feq ((by decide) : ¬ (1 : Int32) = (0 : Int32))).1) ?_
  refine g_aload (pc := 39) w6 at_39 rfl rfl ?_
  refine g_virtual (pc := 41) w6 (argsL := []) (rest := []) (W := 0) (tw71 hw) (tw72 hw) (fun t q => notFace_of_selects (args := #[]) (mvT q (tw74 hw))) (tw74 hw) (tw73 hw) (tw39 hw) (tw75 hw) (by decide) E_oc (c_getTo hw F_to_oc) (by simp) all0 rfl (lenOf pd13 rfl) rfl (by decide) (Nat.le_of_eq rfl) (by decide) (by decide) (by decide) at_41 ?_
  rintro _ T7 h7 ns7 ⟨rfl, rfl⟩ K7 w7
  have E_s1 := E_s1.keep K7
  have E_s2 := E_s2.keep K7
  have E_s3 := E_s3.keep K7
  have E_oc := E_oc.keep K7
  have F_from_oc := F_from_oc.keep K7 nin0
  have F_to_oc := F_to_oc.keep K7 nin0
  have F_action_oc := F_action_oc.keep K7 nin0
  refine g_aload (pc := 44) w7 at_44 rfl rfl ?_
  refine g_virtual (pc := 46) w7 (argsL := [(.ref s2)]) (rest := []) (W := 0) (tw66 hw) (tw67 hw) (fun t q => notFace_of_selects (args := #[]) (mvT q (tw69 hw))) (tw69 hw) (tw68 hw) (tw6 hw) (tw70 hw) (by decide) E_s2 (c_equalsSame hw) (by simp) all0 rfl (lenOf pd14 rfl) rfl (by decide) (Nat.le_of_eq rfl) (by decide) (by decide) (by decide) at_46 ?_
  rintro _ T8 h8 ns8 ⟨rfl, rfl⟩ K8 w8
  have E_s1 := E_s1.keep K8
  have E_s2 := E_s2.keep K8
  have E_s3 := E_s3.keep K8
  have E_oc := E_oc.keep K8
  have F_from_oc := F_from_oc.keep K8 nin0
  have F_to_oc := F_to_oc.keep K8 nin0
  have F_action_oc := F_action_oc.keep K8 nin0
  refine g_ifNo (pc := 49) w8 at_49 ((if0 _ _).trans (feq ((by decide) : ¬ (1 : Int32) = (0 : Int32))).1) ?_
  refine g_aload (pc := 52) w8 at_52 rfl rfl ?_
  refine g_virtual (pc := 54) w8 (argsL := []) (rest := []) (W := 0) (tw76 hw) (tw77 hw) (fun t q => notFace_of_selects (args := #[]) (mvT q (tw79 hw))) (tw79 hw) (tw78 hw) (tw39 hw) (tw80 hw) (by decide) E_oc (c_getAction hw F_action_oc) (by simp) all0 rfl (lenOf pd13 rfl) rfl (by decide) (Nat.le_of_eq rfl) (by decide) (by decide) (by decide) at_54 ?_
  rintro _ T9 h9 ns9 ⟨rfl, rfl⟩ K9 w9
  have E_s1 := E_s1.keep K9
  have E_s2 := E_s2.keep K9
  have E_s3 := E_s3.keep K9
  have E_oc := E_oc.keep K9
  have F_from_oc := F_from_oc.keep K9 nin0
  have F_to_oc := F_to_oc.keep K9 nin0
  have F_action_oc := F_action_oc.keep K9 nin0
  refine g_aload (pc := 57) w9 at_57 rfl rfl ?_
  refine g_virtual (pc := 59) w9 (argsL := [(.ref s3)]) (rest := []) (W := 0) (tw66 hw) (tw67 hw) (fun t q => notFace_of_selects (args := #[]) (mvT q (tw69 hw))) (tw69 hw) (tw68 hw) (tw6 hw) (tw70 hw) (by decide) E_s3 (c_equalsSame hw) (by simp) all0 rfl (lenOf pd14 rfl) rfl (by decide) (Nat.le_of_eq rfl) (by decide) (by decide) (by decide) at_59 ?_
  rintro _ T10 h10 ns10 ⟨rfl, rfl⟩ K10 w10
  have E_s1 := E_s1.keep K10
  have E_s2 := E_s2.keep K10
  have E_s3 := E_s3.keep K10
  have E_oc := E_oc.keep K10
  have F_from_oc := F_from_oc.keep K10 nin0
  have F_to_oc := F_to_oc.keep K10 nin0
  have F_action_oc := F_action_oc.keep K10 nin0
  refine g_ifNo (pc := 62) w10 at_62 ((if0 _ _).trans (feq ((by decide) : ¬ (1 : Int32) = (0 : Int32))).1) ?_
  refine g_iconst (pc := 65) w10 at_65 (z := (1 : Int32)) (by decide) ?_
  refine g_goto (pc := 66) w10 at_66 (by decide) (pc' := 70) (by decide) ?_
  exact g_retN (pc := 70) w10 (t := .boolean) rfl (by simp) rfl (by decide) (by decide) (ns := []) (fun _ q => nomatch q) at_70 ⟨rfl, rfl⟩

set_option maxRecDepth 65536 in
set_option maxHeartbeats 40000000 in
theorem comes_1 {Post : Tables → Env → Array Value → State → Outcome → State → Prop} (hpost : ∀ tb e args s v u, (limb_1_1.after args s (.returned v) u = true ∧ limb_1_2.after args s (.returned v) u = true ∧ True) → ReturnedEndW s (.returned v) u (Jvm.fieldLocs frame_1_writes args s ++ Jvm.arrayLocs frame_1_arrays args s ++ Jvm.staticLocs frame_1_statics s) 40 4288 → Post tb e args s (.returned v) u) :
    ArmFor flags0 classFile x code maxLocals ret World_1 tables_1 room_1 Calls_1 rest_1 Pre_1 Post := by
  intro l hfl _ _ p e ha hc hk s m args below hf hA hF happ hP
  obtain ⟨hcalls, hrest, hpre⟩ := hP
  obtain ⟨-, -, -, hnamed, -, -, -, hat⟩ := (Spec.applies_iff hf).mp happ
  obtain ⟨hg, hn⟩ := and_e (Cond.before_iff.mp (show (Jvm.Cond.and given_1 narrow_1).before args s = true from hpre))
  obtain ⟨gc, gg0⟩ := and_e hg
  obtain ⟨ga0, gg1⟩ := and_e gg0
  obtain ⟨ga1, gg2⟩ := and_e gg1
  obtain ⟨w0, w1, w2, rfl⟩ : ∃ w0 w1 w2 : Value, args = #[w0, w1, w2] := by
    have hs : args.size = 3 := by simpa [Cond.value, given_1] using gc
    obtain ⟨L⟩ := args
    match L, hs with
    | [w0, w1, w2], _ => exact ⟨w0, w1, w2, rfl⟩
  have hw := fun d (hd : d ∈ tables_1) => atoms_spec (ws := Jvm.Cond.code x code maxLocals ret :: tables_1) hat d (List.mem_cons_of_mem _ hd)
  have hcode := atoms_spec (ws := Jvm.Cond.code x code maxLocals ret :: tables_1) hat (Jvm.Cond.code x code maxLocals ret) (List.mem_cons_self ..)
  have hfit : Fit s := fun {y c} hc i hi => by
    obtain ⟨ha, rfl⟩ := Array.getElem?_eq_some_iff.mp hc
    have q := List.all_eq_true.mp ((Array.all_eq_true_iff_forall_mem.mp hF) _ (Array.getElem_mem ha)) i (List.mem_range.mpr hi)
    simpa [Array.getElem?_eq_getElem hi] using q
  obtain ⟨hsets, hown0⟩ := atoms_of _ (rest_1_c_eq ▸ (show rest_1_c.before _ s = true from hrest))
  obtain ⟨i0, ei0⟩ := is_v ga0
  obtain rfl : w0 = (.int i0) := Option.some.inj ei0
  obtain ⟨i1, ei1⟩ := is_v ga1
  obtain rfl : w1 = (.int i1) := Option.some.inj ei1
  obtain ⟨i2, ei2⟩ := is_v gg2
  obtain rfl : w2 = (.int i2) := Option.some.inj ei2
  obtain ⟨zc, ezc⟩ := is_v (Cond.before_iff.mp (hsets _ (List.mem_of_getElem? (i := 1) rfl)))
  have nzc : ¬ zc = 0 := fun q => by
    have z1 := not_v (Cond.before_iff.mp (hsets _ (List.mem_of_getElem? (i := 2) rfl)))
    rw [eq_i ezc (Term.int_eval 0) (by rw [q])] at z1
    cases z1
  have st1 : ∃ z : Int32, Sta s s.heap "java/lang/String" "COMPACT_STRINGS" "Z" (.int z) ∧ ¬ z = 0 := ⟨zc, Sta.start ezc (Or.inl (hsets _ (List.mem_of_getElem? (i := 0) rfl))), nzc⟩
  have st : Sts s := ⟨st1, trivial⟩
  have hE : EW s _ EL0 := (EW.cons (tw50 hw) (by decide) (EW.cons (tw43 hw) (by decide) (EW.cons (tw49 hw) (by decide) (EW.cons (tw18 hw) (by decide) EW.nil))))
  have H : CHv s EL0 s.vm s.heap := CHv.start hE (fun p hp => hcalls.1 p hp) (hsets _ (List.mem_of_getElem? (i := 2) rfl)) (tw19 hw) (tw5 hw)
  obtain ⟨z1, z2, z3, z4, z5, z6, z7, z8⟩ := (Spec.appliesLoose_iff hf).mp ((Spec.applies_iff_loose hf).mp happ).1
  have hl : (head1 [Cond.code x code maxLocals ret] room_1).appliesLoose x e.platform s = true := (Spec.appliesLoose_iff hf).mpr ⟨z1, z2, z3, z4, z5, z6, z7, by show (Cond.and _ .tt).before _ s = true; rw [Cond.before_and, hcode]; rfl⟩
  obtain ⟨n, o, h1, h2, h3, v, L, ns, rfl, ⟨rfl, -⟩, -, hL, -, -, hR⟩ := (c_law (l := l) hw st (h0 := s.heap)) p e ha hc hk s m _ below hf hl ⟨rfl, State.Warmed39.refl s, rfl, H, hE, ⟨Nat.le_refl _, fun _ _ q => q⟩, (fun _ q => nomatch q), (fun _ q => nomatch q)⟩ trivial
  have hN : ∀ y ∈ L, s.heap.size ≤ y.base := fun y hy => (hL y hy).elim (fun q => nomatch q) id
  refine ⟨n, _, h1, h2, h3, hpost _ _ _ _ _ _ ⟨Cond.after_iff.mpr rfl, Cond.after_iff.mpr (eq_i res_at (Term.int_eval (1)) rfl), trivial⟩ ⟨hR.1, hR.2.1, hR.2.2.1, (hR.2.2.2.sift fun y hy => Or.inr (hN y hy)).mono (by decide) (by decide)⟩⟩
theorem main_1_1 : Claimed_1_1 := comes_1 fun _ _ _ _ _ _ h hF => ⟨h.1, hF⟩
theorem main_1_2 : Claimed_1_2 := comes_1 fun _ _ _ _ _ _ h hF => ⟨h.2.1, hF⟩
end Jvm.Pilot.@@N@@
namespace Jvm.Pilot.@@N@@
open Jvm Jvm.ClassFile Sem Op Lib Jvm.Free Jvm.Stand Jvm.Pilot.@@N@@.Jvm.D
/-! MADE BY PROGRAM (witnessworld.py) out of the Statement's table words and the real class files: 21 classes; the members and pool entries that the words name. The judged class is class 1, her method 2. -/
namespace start1
open Jvm.ClassFile
def u (s : String) : CpInfo := .utf8 (stringToUtf16 s)
/-- a pool by its gaps: so many unusable entries, then the entry; so many at the end -/
def gap : Nat → List CpInfo → List CpInfo
  | 0, r => r
  | n + 1, r => .unusable :: gap n r
def poolList (es : List (Nat × CpInfo)) (last : Nat) : List CpInfo := es.foldr (fun e r => gap e.1 (e.2 :: r)) (gap last [])
def pool (es : List (Nat × CpInfo)) (last : Nat) : Array CpInfo := ⟨poolList es last⟩
def fileOf (pool : Array CpInfo) (this : Nat) (attrs : Array Attribute := #[]) (ms : Array MethodInfo := #[]) (fl : Nat := 33) (sup : Nat := 0) (ifs : Array Nat := #[]) (fds : Array FieldInfo := #[]) : ClassFile where
  minorVersion := 0
  majorVersion := 65
  constantPool := pool
  accessFlags := fl
  thisClass := this
  superClass := sup
  interfaces := ifs
  fields := fds
  methods := ms
  attributes := attrs
def plain (name : String) (sup : Option ClassId) : Class where
  name := name
  kind := .ordinary
  loader := none
  accessFlags := 33
  super := sup
  interfaces := #[]
  cf := none
  fields := #[]
  methods := #[]
  instanceTypes := #[]
  staticTypes := #[]
  resolved := #[]
  callSites := []
  init := .initialized
  statics := none
  mirror := none

def pool0 : Array CpInfo := pool [(5, u "<init>"), (0, u "()V"), (1, .class_ 10), (1, u "java/lang/Object")] 113

def k0c0 : Code := { maxStack := 0, maxLocals := 1, code := object_method_1_code, exceptionTable := #[], attributes := #[] }
def k0m0 : Method := { name := "<init>", desc := "()V", sig := { parameters := [], returnType := none }, accessFlags := 1, code := some k0c0 }
/-- java/lang/Object -/
def k0 : Class := { plain "java/lang/Object" none with
  accessFlags := 33
  interfaces := #[]
  cf := some (fileOf pool0 8 #[] #[{ accessFlags := 1, nameIndex := 5, descriptorIndex := 6, attributes := #[] }] 33 0 #[] #[])
  fields := #[]
  methods := #[k0m0]
  instanceTypes := #[]
  staticTypes := #[]
  resolved := Array.replicate 124 none
  statics := none }

def pool1 : Array CpInfo := pool [(2, .class_ 4), (1, u "java/lang/Object"), (0, u "<init>"), (0, u "()V"), (0, .class_ 8), (0, u "java/lang/String"), (0, .methodref 7 10), (0, .nameAndType 5 11), (0, u "([C)V"), (0, .methodref 7 13), (0, .nameAndType 14 15), (0, u "valueOf"), (0, u "(C)Ljava/lang/String;"), (0, .methodref 17 18), (0, .class_ 19), (0, .nameAndType 20 21), (0, u "com/example/cormorant/cormorant/CallOfPinLaw"), (0, u "drawn"), (0, u "(I)Ljava/lang/String;"), (0, .methodref 23 24), (0, .class_ 25), (0, .nameAndType 26 27), (0, u "com/example/cormorant/cormorant/Call"), (0, u "of"), (0, u "(Ljava/lang/String;Ljava/lang/String;Ljava/lang/String;)Lcom/example/cormorant/cormorant/Call;"), (0, .methodref 23 29), (0, .nameAndType 30 31), (0, u "getFrom"), (0, u "()Ljava/lang/String;"), (0, .methodref 7 33), (0, .nameAndType 34 35), (0, u "equals"), (0, u "(Ljava/lang/Object;)Z"), (0, .methodref 23 37), (0, .nameAndType 38 31), (0, u "getTo"), (0, .methodref 23 40), (0, .nameAndType 41 31), (0, u "getAction"), (3, u "law"), (0, u "(III)Z")] 2

def k1m0 : Method := { name := "<init>", desc := "()V", sig := { parameters := [], returnType := none }, accessFlags := 2, code := none }
def k1c1 : Code := { maxStack := 6, maxLocals := 5, code := method_2_code, exceptionTable := #[], attributes := #[] }
def k1m1 : Method := { name := "drawn", desc := "(I)Ljava/lang/String;", sig := { parameters := [.int], returnType := some (.object "java/lang/String") }, accessFlags := 10, code := some k1c1 }
def k1c2 : Code := { maxStack := 3, maxLocals := 7, code := code, exceptionTable := #[], attributes := #[] }
def k1m2 : Method := { name := "law", desc := "(III)Z", sig := { parameters := [.int, .int, .int], returnType := some .boolean }, accessFlags := 9, code := some k1c2 }
/-- com/example/cormorant/cormorant/CallOfPinLaw -/
def k1 : Class := { plain "com/example/cormorant/cormorant/CallOfPinLaw" (some 0) with
  accessFlags := 49
  interfaces := #[]
  cf := some (fileOf pool1 17 #[] #[{ accessFlags := 2, nameIndex := 5, descriptorIndex := 6, attributes := #[] }, { accessFlags := 10, nameIndex := 20, descriptorIndex := 21, attributes := #[] }, { accessFlags := 9, nameIndex := 45, descriptorIndex := 46, attributes := #[] }] 49 2 #[] #[])
  fields := #[]
  methods := #[k1m0, k1m1, k1m2]
  instanceTypes := #[]
  staticTypes := #[]
  resolved := Array.replicate 49 none
  statics := none }

def pool2 : Array CpInfo := pool [(1, .class_ 2), (0, u "java/io/Serializable"), (0, .class_ 4), (0, u "java/lang/Object")] 2

/-- java/io/Serializable -/
def k2 : Class := { plain "java/io/Serializable" (some 0) with
  accessFlags := 1537
  interfaces := #[]
  cf := some (fileOf pool2 1 #[] #[] 1537 3 #[] #[])
  fields := #[]
  methods := #[]
  instanceTypes := #[]
  staticTypes := #[]
  resolved := Array.replicate 7 none
  statics := none }

def pool3 : Array CpInfo := pool [(1, .class_ 2), (0, u "java/lang/Comparable"), (0, .class_ 4), (0, u "java/lang/Object")] 7

/-- java/lang/Comparable -/
def k3 : Class := { plain "java/lang/Comparable" (some 0) with
  accessFlags := 1537
  interfaces := #[]
  cf := some (fileOf pool3 1 #[] #[] 1537 3 #[] #[])
  fields := #[]
  methods := #[]
  instanceTypes := #[]
  staticTypes := #[]
  resolved := Array.replicate 12 none
  statics := none }

def pool4 : Array CpInfo := pool [(2, .class_ 4), (1, u "java/lang/CharSequence"), (42, .class_ 48), (0, u "java/lang/CharSequence$1CodePointIterator"), (10, .class_ 60), (0, u "java/lang/CharSequence$1CharIterator"), (5, .class_ 67), (0, u "java/lang/Object")] 63

/-- java/lang/CharSequence -/
def k4 : Class := { plain "java/lang/CharSequence" (some 0) with
  accessFlags := 1537
  interfaces := #[]
  cf := some (fileOf pool4 2 #[.nestMembers #[47, 59]] #[] 1537 66 #[] #[])
  fields := #[]
  methods := #[]
  instanceTypes := #[]
  staticTypes := #[]
  resolved := Array.replicate 131 none
  statics := none }

def pool5 : Array CpInfo := pool [(1, .class_ 2), (0, u "java/lang/constant/Constable"), (0, .class_ 4), (0, u "java/lang/Object")] 6

/-- java/lang/constant/Constable -/
def k5 : Class := { plain "java/lang/constant/Constable" (some 0) with
  accessFlags := 1537
  interfaces := #[]
  cf := some (fileOf pool5 1 #[] #[] 1537 3 #[] #[])
  fields := #[]
  methods := #[]
  instanceTypes := #[]
  staticTypes := #[]
  resolved := Array.replicate 11 none
  statics := none }

def pool6 : Array CpInfo := pool [(1, .class_ 2), (0, u "java/lang/constant/ConstantDesc"), (0, .class_ 4), (0, u "java/lang/Object")] 32

/-- java/lang/constant/ConstantDesc -/
def k6 : Class := { plain "java/lang/constant/ConstantDesc" (some 0) with
  accessFlags := 1537
  interfaces := #[]
  cf := some (fileOf pool6 1 #[] #[] 1537 3 #[] #[])
  fields := #[]
  methods := #[]
  instanceTypes := #[]
  staticTypes := #[]
  resolved := Array.replicate 37 none
  statics := none }

def pool7 : Array CpInfo := pool [(1, .methodref 2 3), (0, .class_ 4), (0, .nameAndType 5 6), (0, u "java/lang/Object"), (0, u "<init>"), (0, u "()V"), (0, .string 8), (0, u ""), (0, .fieldref 10 11), (0, .class_ 12), (0, .nameAndType 13 14), (0, u "java/lang/String"), (0, u "value"), (0, u "[B"), (0, .fieldref 10 16), (0, .nameAndType 17 18), (0, u "coder"), (0, u "B"), (2, u "hash"), (0, u "I"), (2, u "hashIsZero"), (0, u "Z"), (0, .methodref 10 28), (0, .nameAndType 5 29), (0, u "([CIILjava/lang/Void;)V"), (8, .fieldref 10 39), (0, .nameAndType 40 26), (0, u "COMPACT_STRINGS"), (1, .class_ 44), (1, u "java/lang/StringUTF16"), (0, u "compress"), (1, .methodref 42 48), (0, .nameAndType 49 50), (0, u "coderFromArrayLen"), (0, u "([BI)B"), (2, u "toBytes"), (53, .class_ 109), (1, u "java/lang/StringLatin1"), (67, .methodref 42 178), (0, .nameAndType 45 179), (0, u "([CII)[B"), (29, .methodref 10 210), (0, .nameAndType 5 211), (0, u "([BB)V"), (157, u "(C)Z"), (173, u "equals"), (29, u "(Ljava/lang/Object;)Z"), (1, .class_ 576), (0, u "java/lang/CharSequence"), (22, u "CASE_INSENSITIVE_ORDER"), (0, u "Ljava/util/Comparator;"), (181, u "valueOf"), (0, u "(C)Ljava/lang/String;"), (226, u "([C)V"), (4, .methodref 107 1016), (0, .nameAndType 1017 369), (0, u "canEncode"), (0, .methodref 107 1019), (0, .nameAndType 53 1020), (0, u "(C)[B"), (80, u "serialPersistentFields"), (0, u "[Ljava/io/ObjectStreamField;"), (0, .class_ 1104), (0, u "java/lang/String$CaseInsensitiveComparator"), (1, .class_ 1107), (0, u "java/io/Serializable"), (0, .class_ 1109), (0, u "java/lang/Comparable"), (0, .class_ 1111), (0, u "java/lang/constant/Constable"), (0, .class_ 1113), (0, u "java/lang/constant/ConstantDesc"), (2, u "serialVersionUID"), (0, u "J"), (3, u "REPL"), (0, u "C"), (2, u "LATIN1"), (1, u "UTF16")] 323

def k7m0 : Method := { name := "<init>", desc := "()V", sig := { parameters := [], returnType := none }, accessFlags := 1, code := none }
def k7c1 : Code := { maxStack := 5, maxLocals := 2, code := jdk_42_method_3_code, exceptionTable := #[], attributes := #[] }
def k7m1 : Method := { name := "<init>", desc := "([C)V", sig := { parameters := [(.array .char)], returnType := none }, accessFlags := 1, code := some k7c1 }
def k7c2 : Code := { maxStack := 2, maxLocals := 3, code := jdk_42_method_66_code, exceptionTable := #[], attributes := #[] }
def k7m2 : Method := { name := "equals", desc := "(Ljava/lang/Object;)Z", sig := { parameters := [(.object "java/lang/Object")], returnType := some .boolean }, accessFlags := 1, code := some k7c2 }
def k7c3 : Code := { maxStack := 4, maxLocals := 1, code := jdk_42_method_139_code, exceptionTable := #[], attributes := #[] }
def k7m3 : Method := { name := "valueOf", desc := "(C)Ljava/lang/String;", sig := { parameters := [.char], returnType := some (.object "java/lang/String") }, accessFlags := 9, code := some k7c3 }
def k7c4 : Code := { maxStack := 4, maxLocals := 6, code := jdk_42_method_149_code, exceptionTable := #[], attributes := #[] }
def k7m4 : Method := { name := "<init>", desc := "([CIILjava/lang/Void;)V", sig := { parameters := [(.array .char), .int, .int, (.object "java/lang/Void")], returnType := none }, accessFlags := 2, code := some k7c4 }
def k7c5 : Code := { maxStack := 2, maxLocals := 3, code := jdk_42_method_151_code, exceptionTable := #[], attributes := #[] }
def k7m5 : Method := { name := "<init>", desc := "([BB)V", sig := { parameters := [(.array .byte), .byte], returnType := none }, accessFlags := 0, code := some k7c5 }
/-- java/lang/String -/
def k7 : Class := { plain "java/lang/String" (some 0) with
  accessFlags := 49
  interfaces := #[2, 3, 4, 5, 6]
  cf := some (fileOf pool7 10 #[.nestMembers #[1103]] #[{ accessFlags := 1, nameIndex := 5, descriptorIndex := 6, attributes := #[] }, { accessFlags := 1, nameIndex := 5, descriptorIndex := 1010, attributes := #[] }, { accessFlags := 1, nameIndex := 543, descriptorIndex := 573, attributes := #[] }, { accessFlags := 9, nameIndex := 782, descriptorIndex := 783, attributes := #[] }, { accessFlags := 2, nameIndex := 5, descriptorIndex := 29, attributes := #[] }, { accessFlags := 0, nameIndex := 5, descriptorIndex := 211, attributes := #[] }] 49 2 #[1106, 1108, 575, 1110, 1112] #[{ accessFlags := 18, nameIndex := 13, descriptorIndex := 14, attributes := #[] }, { accessFlags := 18, nameIndex := 17, descriptorIndex := 18, attributes := #[] }, { accessFlags := 2, nameIndex := 21, descriptorIndex := 22, attributes := #[] }, { accessFlags := 2, nameIndex := 25, descriptorIndex := 26, attributes := #[] }, { accessFlags := 26, nameIndex := 1116, descriptorIndex := 1117, attributes := #[] }, { accessFlags := 24, nameIndex := 40, descriptorIndex := 26, attributes := #[] }, { accessFlags := 26, nameIndex := 1101, descriptorIndex := 1102, attributes := #[] }, { accessFlags := 26, nameIndex := 1121, descriptorIndex := 1122, attributes := #[] }, { accessFlags := 25, nameIndex := 599, descriptorIndex := 600, attributes := #[] }, { accessFlags := 24, nameIndex := 1125, descriptorIndex := 18, attributes := #[] }, { accessFlags := 24, nameIndex := 1127, descriptorIndex := 18, attributes := #[] }])
  fields := #[{ name := "value", type := (.array .byte), accessFlags := 18, slot := 0, constantValue := 0 }, { name := "coder", type := .byte, accessFlags := 18, slot := 1, constantValue := 0 }, { name := "hash", type := .int, accessFlags := 2, slot := 2, constantValue := 0 }, { name := "hashIsZero", type := .boolean, accessFlags := 2, slot := 3, constantValue := 0 }, { name := "serialVersionUID", type := .long, accessFlags := 26, slot := 0, constantValue := 0 }, { name := "COMPACT_STRINGS", type := .boolean, accessFlags := 24, slot := 1, constantValue := 0 }, { name := "serialPersistentFields", type := (.array (.object "java/io/ObjectStreamField")), accessFlags := 26, slot := 2, constantValue := 0 }, { name := "REPL", type := .char, accessFlags := 26, slot := 3, constantValue := 0 }, { name := "CASE_INSENSITIVE_ORDER", type := (.object "java/util/Comparator"), accessFlags := 25, slot := 4, constantValue := 0 }, { name := "LATIN1", type := .byte, accessFlags := 24, slot := 5, constantValue := 0 }, { name := "UTF16", type := .byte, accessFlags := 24, slot := 6, constantValue := 0 }]
  methods := #[k7m0, k7m1, k7m2, k7m3, k7m4, k7m5]
  instanceTypes := #[(.array .byte), .byte, .int, .boolean]
  staticTypes := #[.long, .boolean, (.array (.object "java/io/ObjectStreamField")), .char, (.object "java/util/Comparator"), .byte, .byte]
  resolved := Array.replicate 1451 none
  statics := some 0 }

def pool8 : Array CpInfo := pool [(6, .class_ 8), (1, u "java/lang/Object"), (0, u "<init>"), (0, u "()V"), (1, .class_ 14), (1, u "java/lang/StringUTF16"), (31, u "$assertionsDisabled"), (0, u "Z"), (13, u "HI_BYTE_SHIFT"), (0, u "I"), (2, u "LO_BYTE_SHIFT"), (49, .methodref 12 116), (0, .nameAndType 117 118), (0, u "compress"), (0, u "([CI[BII)I"), (3, u "([CII)[B"), (138, u "coderFromArrayLen"), (0, u "([BI)B"), (106, .class_ 371), (1, u "java/lang/StringUTF16$LinesSpliterator"), (58, u "MAX_LENGTH"), (196, .class_ 628), (0, u "java/lang/StringUTF16$CodePointsSpliterator"), (0, .class_ 630), (0, u "java/lang/StringUTF16$CharsSpliterator")] 4

def k8m0 : Method := { name := "<init>", desc := "()V", sig := { parameters := [], returnType := none }, accessFlags := 0, code := none }
def k8c1 : Code := { maxStack := 2, maxLocals := 2, code := jdk_52_method_15_code, exceptionTable := #[], attributes := #[] }
def k8m1 : Method := { name := "coderFromArrayLen", desc := "([BI)B", sig := { parameters := [(.array .byte), .int], returnType := some .byte }, accessFlags := 8, code := some k8c1 }
def k8c2 : Code := { maxStack := 5, maxLocals := 6, code := jdk_52_method_16_code, exceptionTable := #[], attributes := #[] }
def k8m2 : Method := { name := "compress", desc := "([CII)[B", sig := { parameters := [(.array .char), .int, .int], returnType := some (.array .byte) }, accessFlags := 9, code := some k8c2 }
def k8c3 : Code := { maxStack := 3, maxLocals := 7, code := jdk_52_method_21_code, exceptionTable := #[], attributes := #[] }
def k8m3 : Method := { name := "compress", desc := "([CI[BII)I", sig := { parameters := [(.array .char), .int, (.array .byte), .int, .int], returnType := some .int }, accessFlags := 9, code := some k8c3 }
/-- java/lang/StringUTF16 -/
def k8 : Class := { plain "java/lang/StringUTF16" (some 0) with
  accessFlags := 48
  interfaces := #[]
  cf := some (fileOf pool8 12 #[.nestMembers #[627, 629, 369]] #[{ accessFlags := 0, nameIndex := 9, descriptorIndex := 10, attributes := #[] }, { accessFlags := 8, nameIndex := 261, descriptorIndex := 262, attributes := #[] }, { accessFlags := 9, nameIndex := 117, descriptorIndex := 122, attributes := #[] }, { accessFlags := 9, nameIndex := 117, descriptorIndex := 118, attributes := #[] }] 48 6 #[] #[{ accessFlags := 26, nameIndex := 61, descriptorIndex := 62, attributes := #[] }, { accessFlags := 26, nameIndex := 65, descriptorIndex := 62, attributes := #[] }, { accessFlags := 24, nameIndex := 430, descriptorIndex := 62, attributes := #[] }, { accessFlags := 4120, nameIndex := 46, descriptorIndex := 47, attributes := #[] }])
  fields := #[{ name := "HI_BYTE_SHIFT", type := .int, accessFlags := 26, slot := 0, constantValue := 0 }, { name := "LO_BYTE_SHIFT", type := .int, accessFlags := 26, slot := 1, constantValue := 0 }, { name := "MAX_LENGTH", type := .int, accessFlags := 24, slot := 2, constantValue := 0 }, { name := "$assertionsDisabled", type := .boolean, accessFlags := 4120, slot := 3, constantValue := 0 }]
  methods := #[k8m0, k8m1, k8m2, k8m3]
  instanceTypes := #[]
  staticTypes := #[.int, .int, .int, .boolean]
  resolved := Array.replicate 635 none
  statics := none }

def pool9 : Array CpInfo := pool [(1, .methodref 2 3), (0, .class_ 4), (0, .nameAndType 5 6), (0, u "java/lang/Object"), (0, u "<init>"), (0, u "()V"), (0, .fieldref 8 9), (0, .class_ 10), (0, .nameAndType 11 12), (0, u "com/example/cormorant/cormorant/Call"), (0, u "from"), (0, u "Ljava/lang/String;"), (0, .fieldref 8 14), (0, .nameAndType 15 12), (0, u "to"), (0, .fieldref 8 17), (0, .nameAndType 18 12), (0, u "action"), (2, .methodref 22 23), (0, .class_ 24), (0, .nameAndType 25 26), (0, u "java/util/Objects"), (0, u "requireNonNull"), (0, u "(Ljava/lang/Object;Ljava/lang/String;)Ljava/lang/Object;"), (3, .class_ 32), (1, u "java/lang/String"), (34, .string 18), (0, .methodref 8 69), (0, .nameAndType 5 70), (0, u "(Ljava/lang/String;Ljava/lang/String;Ljava/lang/String;)V"), (0, .string 11), (0, .string 15), (3, u "()Ljava/lang/String;"), (22, u "ARROW"), (1, u "COLON"), (0, u "FORM"), (8, u "of"), (0, u "(Ljava/lang/String;Ljava/lang/String;Ljava/lang/String;)Lcom/example/cormorant/cormorant/Call;"), (0, u "getFrom"), (0, u "getTo"), (0, u "getAction")] 23

def k9c0 : Code := { maxStack := 2, maxLocals := 4, code := prog_12_method_1_code, exceptionTable := #[], attributes := #[] }
def k9m0 : Method := { name := "<init>", desc := "(Ljava/lang/String;Ljava/lang/String;Ljava/lang/String;)V", sig := { parameters := [(.object "java/lang/String"), (.object "java/lang/String"), (.object "java/lang/String")], returnType := none }, accessFlags := 2, code := some k9c0 }
def k9c1 : Code := { maxStack := 6, maxLocals := 3, code := prog_12_method_3_code, exceptionTable := #[], attributes := #[] }
def k9m1 : Method := { name := "of", desc := "(Ljava/lang/String;Ljava/lang/String;Ljava/lang/String;)Lcom/example/cormorant/cormorant/Call;", sig := { parameters := [(.object "java/lang/String"), (.object "java/lang/String"), (.object "java/lang/String")], returnType := some (.object "com/example/cormorant/cormorant/Call") }, accessFlags := 9, code := some k9c1 }
def k9c2 : Code := { maxStack := 1, maxLocals := 1, code := prog_12_method_6_code, exceptionTable := #[], attributes := #[] }
def k9m2 : Method := { name := "getFrom", desc := "()Ljava/lang/String;", sig := { parameters := [], returnType := some (.object "java/lang/String") }, accessFlags := 1, code := some k9c2 }
def k9c3 : Code := { maxStack := 1, maxLocals := 1, code := prog_12_method_7_code, exceptionTable := #[], attributes := #[] }
def k9m3 : Method := { name := "getTo", desc := "()Ljava/lang/String;", sig := { parameters := [], returnType := some (.object "java/lang/String") }, accessFlags := 1, code := some k9c3 }
def k9c4 : Code := { maxStack := 1, maxLocals := 1, code := prog_12_method_8_code, exceptionTable := #[], attributes := #[] }
def k9m4 : Method := { name := "getAction", desc := "()Ljava/lang/String;", sig := { parameters := [], returnType := some (.object "java/lang/String") }, accessFlags := 1, code := some k9c4 }
/-- com/example/cormorant/cormorant/Call -/
def k9 : Class := { plain "com/example/cormorant/cormorant/Call" (some 0) with
  accessFlags := 49
  interfaces := #[]
  cf := some (fileOf pool9 8 #[] #[{ accessFlags := 2, nameIndex := 5, descriptorIndex := 70, attributes := #[] }, { accessFlags := 9, nameIndex := 111, descriptorIndex := 112, attributes := #[] }, { accessFlags := 1, nameIndex := 113, descriptorIndex := 76, attributes := #[] }, { accessFlags := 1, nameIndex := 114, descriptorIndex := 76, attributes := #[] }, { accessFlags := 1, nameIndex := 115, descriptorIndex := 76, attributes := #[] }] 49 2 #[] #[{ accessFlags := 26, nameIndex := 99, descriptorIndex := 12, attributes := #[] }, { accessFlags := 26, nameIndex := 101, descriptorIndex := 12, attributes := #[] }, { accessFlags := 26, nameIndex := 102, descriptorIndex := 12, attributes := #[] }, { accessFlags := 18, nameIndex := 11, descriptorIndex := 12, attributes := #[] }, { accessFlags := 18, nameIndex := 15, descriptorIndex := 12, attributes := #[] }, { accessFlags := 18, nameIndex := 18, descriptorIndex := 12, attributes := #[] }])
  fields := #[{ name := "ARROW", type := (.object "java/lang/String"), accessFlags := 26, slot := 0, constantValue := 0 }, { name := "COLON", type := (.object "java/lang/String"), accessFlags := 26, slot := 1, constantValue := 0 }, { name := "FORM", type := (.object "java/lang/String"), accessFlags := 26, slot := 2, constantValue := 0 }, { name := "from", type := (.object "java/lang/String"), accessFlags := 18, slot := 0, constantValue := 0 }, { name := "to", type := (.object "java/lang/String"), accessFlags := 18, slot := 1, constantValue := 0 }, { name := "action", type := (.object "java/lang/String"), accessFlags := 18, slot := 2, constantValue := 0 }]
  methods := #[k9m0, k9m1, k9m2, k9m3, k9m4]
  instanceTypes := #[(.object "java/lang/String"), (.object "java/lang/String"), (.object "java/lang/String")]
  staticTypes := #[(.object "java/lang/String"), (.object "java/lang/String"), (.object "java/lang/String")]
  resolved := Array.replicate 139 none
  statics := none }

def pool10 : Array CpInfo := pool [(2, .class_ 4), (1, u "java/lang/Object"), (0, u "<init>"), (0, u "()V"), (35, .class_ 44), (1, u "java/util/Objects"), (0, u "requireNonNull"), (48, u "(Ljava/lang/Object;Ljava/lang/String;)Ljava/lang/Object;")] 89

def k10m0 : Method := { name := "<init>", desc := "()V", sig := { parameters := [], returnType := none }, accessFlags := 2, code := none }
def k10c1 : Code := { maxStack := 3, maxLocals := 2, code := jdk_31_method_11_code, exceptionTable := #[], attributes := #[] }
def k10m1 : Method := { name := "requireNonNull", desc := "(Ljava/lang/Object;Ljava/lang/String;)Ljava/lang/Object;", sig := { parameters := [(.object "java/lang/Object"), (.object "java/lang/String")], returnType := some (.object "java/lang/Object") }, accessFlags := 9, code := some k10c1 }
/-- java/util/Objects -/
def k10 : Class := { plain "java/util/Objects" (some 0) with
  accessFlags := 49
  interfaces := #[]
  cf := some (fileOf pool10 42 #[] #[{ accessFlags := 2, nameIndex := 5, descriptorIndex := 6, attributes := #[] }, { accessFlags := 9, nameIndex := 45, descriptorIndex := 94, attributes := #[] }] 49 2 #[] #[])
  fields := #[]
  methods := #[k10m0, k10m1]
  instanceTypes := #[]
  staticTypes := #[]
  resolved := Array.replicate 184 none
  statics := none }

def pool11 : Array CpInfo := pool [(4, .class_ 6), (1, u "java/lang/Object"), (0, u "<init>"), (0, u "()V"), (5, .class_ 16), (1, u "java/lang/StringLatin1"), (73, u "canEncode"), (14, u "(C)Z"), (15, u "$assertionsDisabled"), (0, u "Z"), (98, .class_ 223), (1, u "java/lang/StringLatin1$LinesSpliterator"), (156, u "toBytes"), (1, u "(C)[B"), (7, .class_ 391), (0, u "java/lang/StringLatin1$CharsSpliterator")] 3

def k11m0 : Method := { name := "<init>", desc := "()V", sig := { parameters := [], returnType := none }, accessFlags := 0, code := none }
def k11c1 : Code := { maxStack := 2, maxLocals := 1, code := jdk_43_method_3_code, exceptionTable := #[], attributes := #[] }
def k11m1 : Method := { name := "canEncode", desc := "(C)Z", sig := { parameters := [.char], returnType := some .boolean }, accessFlags := 9, code := some k11c1 }
def k11c2 : Code := { maxStack := 4, maxLocals := 1, code := jdk_43_method_46_code, exceptionTable := #[], attributes := #[] }
def k11m2 : Method := { name := "toBytes", desc := "(C)[B", sig := { parameters := [.char], returnType := some (.array .byte) }, accessFlags := 9, code := some k11c2 }
/-- java/lang/StringLatin1 -/
def k11 : Class := { plain "java/lang/StringLatin1" (some 0) with
  accessFlags := 48
  interfaces := #[]
  cf := some (fileOf pool11 14 #[.nestMembers #[390, 221]] #[{ accessFlags := 0, nameIndex := 7, descriptorIndex := 8, attributes := #[] }, { accessFlags := 9, nameIndex := 90, descriptorIndex := 105, attributes := #[] }, { accessFlags := 9, nameIndex := 380, descriptorIndex := 382, attributes := #[] }] 48 4 #[] #[{ accessFlags := 4120, nameIndex := 121, descriptorIndex := 122, attributes := #[] }])
  fields := #[{ name := "$assertionsDisabled", type := .boolean, accessFlags := 4120, slot := 0, constantValue := 0 }]
  methods := #[k11m0, k11m1, k11m2]
  instanceTypes := #[]
  staticTypes := #[.boolean]
  resolved := Array.replicate 395 none
  statics := none }

def pool12 : Array CpInfo := pool [(2, .class_ 4), (1, u "java/lang/Object"), (0, u "<init>"), (0, u "()V"), (17, .class_ 26), (1, u "jdk/internal/util/Preconditions"), (28, .class_ 56), (0, u "jdk/internal/util/Preconditions$4"), (57, .class_ 115), (0, u "jdk/internal/util/Preconditions$1"), (7, u "SIOOBE_FORMATTER"), (0, u "Ljava/util/function/BiFunction;"), (0, .class_ 126), (0, u "jdk/internal/util/Preconditions$2"), (3, u "AIOOBE_FORMATTER"), (0, .class_ 132), (0, u "jdk/internal/util/Preconditions$3"), (3, u "IOOBE_FORMATTER")] 57

def k12m0 : Method := { name := "<init>", desc := "()V", sig := { parameters := [], returnType := none }, accessFlags := 1, code := none }
/-- jdk/internal/util/Preconditions -/
def k12 : Class := { plain "jdk/internal/util/Preconditions" (some 0) with
  accessFlags := 33
  interfaces := #[]
  cf := some (fileOf pool12 24 #[.nestMembers #[55, 131, 125, 114]] #[{ accessFlags := 1, nameIndex := 5, descriptorIndex := 6, attributes := #[] }] 33 2 #[] #[{ accessFlags := 25, nameIndex := 123, descriptorIndex := 124, attributes := #[] }, { accessFlags := 25, nameIndex := 130, descriptorIndex := 124, attributes := #[] }, { accessFlags := 25, nameIndex := 136, descriptorIndex := 124, attributes := #[] }])
  fields := #[{ name := "SIOOBE_FORMATTER", type := (.object "java/util/function/BiFunction"), accessFlags := 25, slot := 0, constantValue := 0 }, { name := "AIOOBE_FORMATTER", type := (.object "java/util/function/BiFunction"), accessFlags := 25, slot := 1, constantValue := 0 }, { name := "IOOBE_FORMATTER", type := (.object "java/util/function/BiFunction"), accessFlags := 25, slot := 2, constantValue := 0 }]
  methods := #[k12m0]
  instanceTypes := #[]
  staticTypes := #[(.object "java/util/function/BiFunction"), (.object "java/util/function/BiFunction"), (.object "java/util/function/BiFunction")]
  resolved := Array.replicate 194 none
  statics := some 1 }

def pool13 : Array CpInfo := pool [(9, u "<init>"), (6, .class_ 18), (1, u "java/lang/Object"), (0, u "()V"), (1, .class_ 23), (1, u "jdk/internal/util/ArraysSupport"), (0, u "LOG2_ARRAY_LONG_INDEX_SCALE"), (0, u "I"), (2, u "U"), (0, u "Ljdk/internal/misc/Unsafe;"), (8, u "BIG_ENDIAN"), (0, u "Z"), (8, u "LOG2_BYTE_BIT_SIZE"), (4, u "LOG2_ARRAY_INT_INDEX_SCALE"), (54, u "JLA"), (0, u "Ljdk/internal/access/JavaLangAccess;"), (11, u "LOG2_ARRAY_BOOLEAN_INDEX_SCALE"), (9, u "LOG2_ARRAY_BYTE_INDEX_SCALE"), (5, u "LOG2_ARRAY_CHAR_INDEX_SCALE"), (5, u "LOG2_ARRAY_SHORT_INDEX_SCALE"), (18, u "LOG2_ARRAY_FLOAT_INDEX_SCALE"), (24, u "LOG2_ARRAY_DOUBLE_INDEX_SCALE"), (89, u "T_BOOLEAN"), (2, u "T_CHAR"), (1, u "T_FLOAT"), (1, u "T_DOUBLE"), (1, u "T_BYTE"), (1, u "T_SHORT"), (1, u "T_INT"), (1, u "T_LONG"), (1, u "SOFT_MAX_ARRAY_LENGTH")] 83

def k13m0 : Method := { name := "<init>", desc := "()V", sig := { parameters := [], returnType := none }, accessFlags := 2, code := none }
/-- jdk/internal/util/ArraysSupport -/
def k13 : Class := { plain "jdk/internal/util/ArraysSupport" (some 0) with
  accessFlags := 33
  interfaces := #[]
  cf := some (fileOf pool13 21 #[] #[{ accessFlags := 2, nameIndex := 9, descriptorIndex := 19, attributes := #[] }] 33 16 #[] #[{ accessFlags := 24, nameIndex := 28, descriptorIndex := 29, attributes := #[] }, { accessFlags := 26, nameIndex := 38, descriptorIndex := 39, attributes := #[] }, { accessFlags := 25, nameIndex := 121, descriptorIndex := 25, attributes := #[] }, { accessFlags := 25, nameIndex := 131, descriptorIndex := 25, attributes := #[] }, { accessFlags := 25, nameIndex := 137, descriptorIndex := 25, attributes := #[] }, { accessFlags := 25, nameIndex := 143, descriptorIndex := 25, attributes := #[] }, { accessFlags := 25, nameIndex := 53, descriptorIndex := 25, attributes := #[] }, { accessFlags := 25, nameIndex := 24, descriptorIndex := 25, attributes := #[] }, { accessFlags := 25, nameIndex := 162, descriptorIndex := 25, attributes := #[] }, { accessFlags := 25, nameIndex := 187, descriptorIndex := 25, attributes := #[] }, { accessFlags := 26, nameIndex := 48, descriptorIndex := 25, attributes := #[] }, { accessFlags := 25, nameIndex := 277, descriptorIndex := 25, attributes := #[] }, { accessFlags := 25, nameIndex := 280, descriptorIndex := 25, attributes := #[] }, { accessFlags := 25, nameIndex := 282, descriptorIndex := 25, attributes := #[] }, { accessFlags := 25, nameIndex := 284, descriptorIndex := 25, attributes := #[] }, { accessFlags := 25, nameIndex := 286, descriptorIndex := 25, attributes := #[] }, { accessFlags := 25, nameIndex := 288, descriptorIndex := 25, attributes := #[] }, { accessFlags := 25, nameIndex := 290, descriptorIndex := 25, attributes := #[] }, { accessFlags := 25, nameIndex := 292, descriptorIndex := 25, attributes := #[] }, { accessFlags := 26, nameIndex := 108, descriptorIndex := 109, attributes := #[] }, { accessFlags := 25, nameIndex := 294, descriptorIndex := 25, attributes := #[] }])
  fields := #[{ name := "U", type := (.object "jdk/internal/misc/Unsafe"), accessFlags := 24, slot := 0, constantValue := 0 }, { name := "BIG_ENDIAN", type := .boolean, accessFlags := 26, slot := 1, constantValue := 0 }, { name := "LOG2_ARRAY_BOOLEAN_INDEX_SCALE", type := .int, accessFlags := 25, slot := 2, constantValue := 0 }, { name := "LOG2_ARRAY_BYTE_INDEX_SCALE", type := .int, accessFlags := 25, slot := 3, constantValue := 0 }, { name := "LOG2_ARRAY_CHAR_INDEX_SCALE", type := .int, accessFlags := 25, slot := 4, constantValue := 0 }, { name := "LOG2_ARRAY_SHORT_INDEX_SCALE", type := .int, accessFlags := 25, slot := 5, constantValue := 0 }, { name := "LOG2_ARRAY_INT_INDEX_SCALE", type := .int, accessFlags := 25, slot := 6, constantValue := 0 }, { name := "LOG2_ARRAY_LONG_INDEX_SCALE", type := .int, accessFlags := 25, slot := 7, constantValue := 0 }, { name := "LOG2_ARRAY_FLOAT_INDEX_SCALE", type := .int, accessFlags := 25, slot := 8, constantValue := 0 }, { name := "LOG2_ARRAY_DOUBLE_INDEX_SCALE", type := .int, accessFlags := 25, slot := 9, constantValue := 0 }, { name := "LOG2_BYTE_BIT_SIZE", type := .int, accessFlags := 26, slot := 10, constantValue := 0 }, { name := "T_BOOLEAN", type := .int, accessFlags := 25, slot := 11, constantValue := 0 }, { name := "T_CHAR", type := .int, accessFlags := 25, slot := 12, constantValue := 0 }, { name := "T_FLOAT", type := .int, accessFlags := 25, slot := 13, constantValue := 0 }, { name := "T_DOUBLE", type := .int, accessFlags := 25, slot := 14, constantValue := 0 }, { name := "T_BYTE", type := .int, accessFlags := 25, slot := 15, constantValue := 0 }, { name := "T_SHORT", type := .int, accessFlags := 25, slot := 16, constantValue := 0 }, { name := "T_INT", type := .int, accessFlags := 25, slot := 17, constantValue := 0 }, { name := "T_LONG", type := .int, accessFlags := 25, slot := 18, constantValue := 0 }, { name := "JLA", type := (.object "jdk/internal/access/JavaLangAccess"), accessFlags := 26, slot := 19, constantValue := 0 }, { name := "SOFT_MAX_ARRAY_LENGTH", type := .int, accessFlags := 25, slot := 20, constantValue := 0 }]
  methods := #[k13m0]
  instanceTypes := #[]
  staticTypes := #[(.object "jdk/internal/misc/Unsafe"), .boolean, .int, .int, .int, .int, .int, .int, .int, .int, .int, .int, .int, .int, .int, .int, .int, .int, .int, (.object "jdk/internal/access/JavaLangAccess"), .int]
  resolved := Array.replicate 378 none
  statics := none }

def pool14 : Array CpInfo := pool [(1, u "java/lang/Cloneable"), (0, .class_ 1), (0, u "java/lang/Object"), (0, .class_ 3)] 3

/-- java/lang/Cloneable -/
def k14 : Class := { plain "java/lang/Cloneable" (some 0) with
  accessFlags := 1537
  interfaces := #[]
  cf := some (fileOf pool14 2 #[] #[] 1537 4 #[] #[])
  fields := #[]
  methods := #[]
  instanceTypes := #[]
  staticTypes := #[]
  resolved := Array.replicate 8 none
  statics := none }

/-- the primitive byte -/
def k15 : Class := { plain "byte" none with kind := .primitive 'B', accessFlags := 0x411 }
/-- [B -/
def k16 : Class := { plain "[B" (some 0) with kind := .array 15 .byte, interfaces := #[14, 2], accessFlags := 1041 }

/-- the primitive char -/
def k17 : Class := { plain "char" none with kind := .primitive 'C', accessFlags := 0x411 }
/-- [C -/
def k18 : Class := { plain "[C" (some 0) with kind := .array 17 .char, interfaces := #[14, 2], accessFlags := 1041 }

/-- the primitive int -/
def k19 : Class := { plain "int" none with kind := .primitive 'I', accessFlags := 0x411 }
/-- [I -/
def k20 : Class := { plain "[I" (some 0) with kind := .array 19 .int, interfaces := #[14, 2], accessFlags := 1041 }

def heap : Heap := #[{ cls := 7, slots := #[.long 0, .int 1, .null, .int 0, .null, .int 0, .int 0], vm := .statics 7 },
  { cls := 12, slots := #[.null, .null, .null], vm := .statics 12 }]
def classes : Array Class := #[k0, k1, k2, k3, k4, k5, k6, k7, k8, k9, k10, k11, k12, k13, k14, k15, k16, k17, k18, k19, k20]
def interned : List (Array UInt16 × Addr) := []
def slotsUsed : Nat := 10
def theMethod : MethodId := ⟨1, 2⟩
def args0 : Array Value := #[.int 5, .int 6, .int 7]
def aboutOver (below : List Frame) : State where
  vm := { classes := classes, interned := interned.toArray }
  heap := heap
  slotsUsed := slotsUsed
  threads := #[{ frames := .invoking theMethod args0 :: below }]
def below0 : List Frame := [.native { method := ⟨0, 0⟩, args := #[] }]
def about1 : State := aboutOver below0
def p0 : Program := .bare "" "" ""
def e0 : Env := launch0.env 0 0 0
theorem w_frames : about1.frames = Frame.invoking theMethod args0 :: below0 := rfl
set_option maxRecDepth 65536 in
theorem w_args : argsFit about1.vm theMethod args0 = true := by decide +kernel
set_option maxRecDepth 65536 in
theorem w_heap : heapFits about1 = true := by decide +kernel
set_option maxRecDepth 65536 in
theorem w_runnable : about1.curStatus? = some .runnable := by decide +kernel
set_option maxRecDepth 65536 in
theorem w_alone : about1.alone = true := by decide +kernel
set_option maxRecDepth 65536 in
theorem w_named : about1.methodNamed? x = some theMethod := by decide +kernel
set_option maxRecDepth 65536 in
theorem w_hears : about1.hears theMethod below0 = true := by decide +kernel
set_option maxRecDepth 65536 in
theorem w_ripe : about1.ripe theMethod args0 below0 = true := by decide +kernel
theorem w_running : about1.status = .running := rfl
set_option maxRecDepth 65536 in
theorem w_room : about1.hasRoom e0.platform room_1 = true :=
  launch0.hasRoom_least _ room_1 (by decide +kernel) (by decide +kernel) (by decide +kernel) (by decide +kernel) (by decide +kernel) (by decide +kernel)
theorem allAtoms_all (ts : List Jvm.Cond) (a : Array Jvm.Value) (st : Jvm.State) : (allAtoms ts).before a st = ts.all (fun c => c.before a st) := by
  induction ts with
  | nil => rfl
  | cons c t ih =>
    show (Jvm.Cond.and c (allAtoms t)).before a st = _
    rw [Jvm.Cond.before_and, ih, List.all_cons]
def words1 : List Jvm.Cond := Jvm.Cond.code x code maxLocals ret :: tables_1
/-- a 'code' word, met by the world's own term for the bytes: nothing is compared byte by byte -/
theorem code_word {y : MethodName} {bytes : ByteArray} {mx : Nat} {rt : Option FieldType} {a : Array Value} {s : State} {m : MethodId} {meth : Method} {c : Code} (h1 : s.methodNamed? y = some m) (h2 : s.vm.method? m = some meth) (h3 : meth.code = some c) (h4 : c.code = bytes)
    (h5 : (c.maxLocals == mx && c.exceptionTable.isEmpty && decide (c.maxStack ≤ mostOperands) && decide (meth.sig.returnType = rt) && !meth.locks && decide (parseMethodDescriptor y.desc = some meth.sig)) = true) : (Jvm.Cond.code y bytes mx rt).before a s = true := by
  simp only [Bool.and_eq_true, beq_iff_eq, Bool.not_eq_true', decide_eq_true_eq] at h5
  obtain ⟨⟨⟨⟨⟨g1, g2⟩, g3⟩, g4⟩, g5⟩, g6⟩ := h5
  simp [Cond.before, Cond.holds, Cond.value, h1, h2, h3, h4, g1, g2, g3, g4, g5, g6]
def isCode : Jvm.Cond → Bool
  | .code _ _ _ _ => true
  | _ => false
theorem all_split {L : List Jvm.Cond} {P : Jvm.Cond → Bool} (h1 : L.all (fun c => isCode c || P c) = true) (h2 : ∀ c ∈ L.filter isCode, P c = true) : L.all P = true := by
  refine List.all_eq_true.mpr fun c hc => ?_
  have h := List.all_eq_true.mp h1 c hc
  rcases Bool.eq_false_or_eq_true (isCode c) with hi | hi
  · exact h2 c (List.mem_filter.mpr ⟨hc, hi⟩)
  · simpa [hi] using h
set_option maxRecDepth 65536 in
theorem w_c0 : (Jvm.Cond.code x code maxLocals ret).before args0 about1 = true := code_word (m := ⟨1, 2⟩) (meth := k1m2) (c := k1c2) (by decide +kernel) rfl rfl rfl (by decide +kernel)
set_option maxRecDepth 65536 in
theorem w_c1 : (Jvm.Cond.code ({ cls := "com/example/cormorant/cormorant/CallOfPinLaw", name := "drawn", desc := "(I)Ljava/lang/String;" } : Jvm.MethodName) method_2_code (5 : Nat) (Option.some (Jvm.ClassFile.FieldType.object "java/lang/String"))).before args0 about1 = true := code_word (m := ⟨1, 1⟩) (meth := k1m1) (c := k1c1) (by decide +kernel) rfl rfl rfl (by decide +kernel)
set_option maxRecDepth 65536 in
theorem w_c2 : (Jvm.Cond.code ({ cls := "java/lang/String", name := "<init>", desc := "([C)V" } : Jvm.MethodName) jdk_42_method_3_code (2 : Nat) (Option.none : Option Jvm.ClassFile.FieldType)).before args0 about1 = true := code_word (m := ⟨7, 1⟩) (meth := k7m1) (c := k7c1) (by decide +kernel) rfl rfl rfl (by decide +kernel)
set_option maxRecDepth 65536 in
theorem w_c3 : (Jvm.Cond.code ({ cls := "java/lang/String", name := "<init>", desc := "([CIILjava/lang/Void;)V" } : Jvm.MethodName) jdk_42_method_149_code (6 : Nat) (Option.none : Option Jvm.ClassFile.FieldType)).before args0 about1 = true := code_word (m := ⟨7, 4⟩) (meth := k7m4) (c := k7c4) (by decide +kernel) rfl rfl rfl (by decide +kernel)
set_option maxRecDepth 65536 in
theorem w_c4 : (Jvm.Cond.code ({ cls := "java/lang/Object", name := "<init>", desc := "()V" } : Jvm.MethodName) object_method_1_code (1 : Nat) (Option.none : Option Jvm.ClassFile.FieldType)).before args0 about1 = true := code_word (m := ⟨0, 0⟩) (meth := k0m0) (c := k0c0) (by decide +kernel) rfl rfl rfl (by decide +kernel)
set_option maxRecDepth 65536 in
theorem w_c5 : (Jvm.Cond.code ({ cls := "java/lang/StringUTF16", name := "compress", desc := "([CII)[B" } : Jvm.MethodName) jdk_52_method_16_code (6 : Nat) (Option.some (Jvm.ClassFile.FieldType.array Jvm.ClassFile.FieldType.byte))).before args0 about1 = true := code_word (m := ⟨8, 2⟩) (meth := k8m2) (c := k8c2) (by decide +kernel) rfl rfl rfl (by decide +kernel)
set_option maxRecDepth 65536 in
theorem w_c6 : (Jvm.Cond.code ({ cls := "java/lang/StringUTF16", name := "compress", desc := "([CI[BII)I" } : Jvm.MethodName) jdk_52_method_21_code (7 : Nat) (Option.some Jvm.ClassFile.FieldType.int)).before args0 about1 = true := code_word (m := ⟨8, 3⟩) (meth := k8m3) (c := k8c3) (by decide +kernel) rfl rfl rfl (by decide +kernel)
set_option maxRecDepth 65536 in
theorem w_c7 : (Jvm.Cond.code ({ cls := "java/lang/StringUTF16", name := "coderFromArrayLen", desc := "([BI)B" } : Jvm.MethodName) jdk_52_method_15_code (2 : Nat) (Option.some Jvm.ClassFile.FieldType.byte)).before args0 about1 = true := code_word (m := ⟨8, 1⟩) (meth := k8m1) (c := k8c1) (by decide +kernel) rfl rfl rfl (by decide +kernel)
set_option maxRecDepth 65536 in
theorem w_c8 : (Jvm.Cond.code ({ cls := "com/example/cormorant/cormorant/Call", name := "of", desc := "(Ljava/lang/String;Ljava/lang/String;Ljava/lang/String;)Lcom/example/cormorant/cormorant/Call;" } : Jvm.MethodName) prog_12_method_3_code (3 : Nat) (Option.some (Jvm.ClassFile.FieldType.object "com/example/cormorant/cormorant/Call"))).before args0 about1 = true := code_word (m := ⟨9, 1⟩) (meth := k9m1) (c := k9c1) (by decide +kernel) rfl rfl rfl (by decide +kernel)
set_option maxRecDepth 65536 in
theorem w_c9 : (Jvm.Cond.code ({ cls := "java/util/Objects", name := "requireNonNull", desc := "(Ljava/lang/Object;Ljava/lang/String;)Ljava/lang/Object;" } : Jvm.MethodName) jdk_31_method_11_code (2 : Nat) (Option.some (Jvm.ClassFile.FieldType.object "java/lang/Object"))).before args0 about1 = true := code_word (m := ⟨10, 1⟩) (meth := k10m1) (c := k10c1) (by decide +kernel) rfl rfl rfl (by decide +kernel)
set_option maxRecDepth 65536 in
theorem w_c10 : (Jvm.Cond.code ({ cls := "com/example/cormorant/cormorant/Call", name := "<init>", desc := "(Ljava/lang/String;Ljava/lang/String;Ljava/lang/String;)V" } : Jvm.MethodName) prog_12_method_1_code (4 : Nat) (Option.none : Option Jvm.ClassFile.FieldType)).before args0 about1 = true := code_word (m := ⟨9, 0⟩) (meth := k9m0) (c := k9c0) (by decide +kernel) rfl rfl rfl (by decide +kernel)
set_option maxRecDepth 65536 in
theorem w_c11 : (Jvm.Cond.code ({ cls := "com/example/cormorant/cormorant/Call", name := "getFrom", desc := "()Ljava/lang/String;" } : Jvm.MethodName) prog_12_method_6_code (1 : Nat) (Option.some (Jvm.ClassFile.FieldType.object "java/lang/String"))).before args0 about1 = true := code_word (m := ⟨9, 2⟩) (meth := k9m2) (c := k9c2) (by decide +kernel) rfl rfl rfl (by decide +kernel)
set_option maxRecDepth 65536 in
theorem w_c12 : (Jvm.Cond.code ({ cls := "java/lang/String", name := "equals", desc := "(Ljava/lang/Object;)Z" } : Jvm.MethodName) jdk_42_method_66_code (3 : Nat) (Option.some Jvm.ClassFile.FieldType.boolean)).before args0 about1 = true := code_word (m := ⟨7, 2⟩) (meth := k7m2) (c := k7c2) (by decide +kernel) rfl rfl rfl (by decide +kernel)
set_option maxRecDepth 65536 in
theorem w_c13 : (Jvm.Cond.code ({ cls := "com/example/cormorant/cormorant/Call", name := "getTo", desc := "()Ljava/lang/String;" } : Jvm.MethodName) prog_12_method_7_code (1 : Nat) (Option.some (Jvm.ClassFile.FieldType.object "java/lang/String"))).before args0 about1 = true := code_word (m := ⟨9, 3⟩) (meth := k9m3) (c := k9c3) (by decide +kernel) rfl rfl rfl (by decide +kernel)
set_option maxRecDepth 65536 in
theorem w_c14 : (Jvm.Cond.code ({ cls := "com/example/cormorant/cormorant/Call", name := "getAction", desc := "()Ljava/lang/String;" } : Jvm.MethodName) prog_12_method_8_code (1 : Nat) (Option.some (Jvm.ClassFile.FieldType.object "java/lang/String"))).before args0 about1 = true := code_word (m := ⟨9, 4⟩) (meth := k9m4) (c := k9c4) (by decide +kernel) rfl rfl rfl (by decide +kernel)
set_option maxRecDepth 65536 in
theorem w_c15 : (Jvm.Cond.code ({ cls := "java/lang/String", name := "valueOf", desc := "(C)Ljava/lang/String;" } : Jvm.MethodName) jdk_42_method_139_code (1 : Nat) (Option.some (Jvm.ClassFile.FieldType.object "java/lang/String"))).before args0 about1 = true := code_word (m := ⟨7, 3⟩) (meth := k7m3) (c := k7c3) (by decide +kernel) rfl rfl rfl (by decide +kernel)
set_option maxRecDepth 65536 in
theorem w_c16 : (Jvm.Cond.code ({ cls := "java/lang/StringLatin1", name := "canEncode", desc := "(C)Z" } : Jvm.MethodName) jdk_43_method_3_code (1 : Nat) (Option.some Jvm.ClassFile.FieldType.boolean)).before args0 about1 = true := code_word (m := ⟨11, 1⟩) (meth := k11m1) (c := k11c1) (by decide +kernel) rfl rfl rfl (by decide +kernel)
set_option maxRecDepth 65536 in
theorem w_c17 : (Jvm.Cond.code ({ cls := "java/lang/StringLatin1", name := "toBytes", desc := "(C)[B" } : Jvm.MethodName) jdk_43_method_46_code (1 : Nat) (Option.some (Jvm.ClassFile.FieldType.array Jvm.ClassFile.FieldType.byte))).before args0 about1 = true := code_word (m := ⟨11, 2⟩) (meth := k11m2) (c := k11c2) (by decide +kernel) rfl rfl rfl (by decide +kernel)
set_option maxRecDepth 65536 in
theorem w_c18 : (Jvm.Cond.code ({ cls := "java/lang/String", name := "<init>", desc := "([BB)V" } : Jvm.MethodName) jdk_42_method_151_code (3 : Nat) (Option.none : Option Jvm.ClassFile.FieldType)).before args0 about1 = true := code_word (m := ⟨7, 5⟩) (meth := k7m5) (c := k7c5) (by decide +kernel) rfl rfl rfl (by decide +kernel)
def codes1 : List Jvm.Cond := [Jvm.Cond.code x code maxLocals ret, Jvm.Cond.code ({ cls := "com/example/cormorant/cormorant/CallOfPinLaw", name := "drawn", desc := "(I)Ljava/lang/String;" } : Jvm.MethodName) method_2_code (5 : Nat) (Option.some (Jvm.ClassFile.FieldType.object "java/lang/String")), Jvm.Cond.code ({ cls := "java/lang/String", name := "<init>", desc := "([C)V" } : Jvm.MethodName) jdk_42_method_3_code (2 : Nat) (Option.none : Option Jvm.ClassFile.FieldType), Jvm.Cond.code ({ cls := "java/lang/String", name := "<init>", desc := "([CIILjava/lang/Void;)V" } : Jvm.MethodName) jdk_42_method_149_code (6 : Nat) (Option.none : Option Jvm.ClassFile.FieldType), Jvm.Cond.code ({ cls := "java/lang/Object", name := "<init>", desc := "()V" } : Jvm.MethodName) object_method_1_code (1 : Nat) (Option.none : Option Jvm.ClassFile.FieldType), Jvm.Cond.code ({ cls := "java/lang/StringUTF16", name := "compress", desc := "([CII)[B" } : Jvm.MethodName) jdk_52_method_16_code (6 : Nat) (Option.some (Jvm.ClassFile.FieldType.array Jvm.ClassFile.FieldType.byte)), Jvm.Cond.code ({ cls := "java/lang/StringUTF16", name := "compress", desc := "([CI[BII)I" } : Jvm.MethodName) jdk_52_method_21_code (7 : Nat) (Option.some Jvm.ClassFile.FieldType.int), Jvm.Cond.code ({ cls := "java/lang/StringUTF16", name := "coderFromArrayLen", desc := "([BI)B" } : Jvm.MethodName) jdk_52_method_15_code (2 : Nat) (Option.some Jvm.ClassFile.FieldType.byte), Jvm.Cond.code ({ cls := "com/example/cormorant/cormorant/Call", name := "of", desc := "(Ljava/lang/String;Ljava/lang/String;Ljava/lang/String;)Lcom/example/cormorant/cormorant/Call;" } : Jvm.MethodName) prog_12_method_3_code (3 : Nat) (Option.some (Jvm.ClassFile.FieldType.object "com/example/cormorant/cormorant/Call")), Jvm.Cond.code ({ cls := "java/util/Objects", name := "requireNonNull", desc := "(Ljava/lang/Object;Ljava/lang/String;)Ljava/lang/Object;" } : Jvm.MethodName) jdk_31_method_11_code (2 : Nat) (Option.some (Jvm.ClassFile.FieldType.object "java/lang/Object")), Jvm.Cond.code ({ cls := "com/example/cormorant/cormorant/Call", name := "<init>", desc := "(Ljava/lang/String;Ljava/lang/String;Ljava/lang/String;)V" } : Jvm.MethodName) prog_12_method_1_code (4 : Nat) (Option.none : Option Jvm.ClassFile.FieldType), Jvm.Cond.code ({ cls := "com/example/cormorant/cormorant/Call", name := "getFrom", desc := "()Ljava/lang/String;" } : Jvm.MethodName) prog_12_method_6_code (1 : Nat) (Option.some (Jvm.ClassFile.FieldType.object "java/lang/String")), Jvm.Cond.code ({ cls := "java/lang/String", name := "equals", desc := "(Ljava/lang/Object;)Z" } : Jvm.MethodName) jdk_42_method_66_code (3 : Nat) (Option.some Jvm.ClassFile.FieldType.boolean), Jvm.Cond.code ({ cls := "com/example/cormorant/cormorant/Call", name := "getTo", desc := "()Ljava/lang/String;" } : Jvm.MethodName) prog_12_method_7_code (1 : Nat) (Option.some (Jvm.ClassFile.FieldType.object "java/lang/String")), Jvm.Cond.code ({ cls := "com/example/cormorant/cormorant/Call", name := "getAction", desc := "()Ljava/lang/String;" } : Jvm.MethodName) prog_12_method_8_code (1 : Nat) (Option.some (Jvm.ClassFile.FieldType.object "java/lang/String")), Jvm.Cond.code ({ cls := "java/lang/String", name := "valueOf", desc := "(C)Ljava/lang/String;" } : Jvm.MethodName) jdk_42_method_139_code (1 : Nat) (Option.some (Jvm.ClassFile.FieldType.object "java/lang/String")), Jvm.Cond.code ({ cls := "java/lang/StringLatin1", name := "canEncode", desc := "(C)Z" } : Jvm.MethodName) jdk_43_method_3_code (1 : Nat) (Option.some Jvm.ClassFile.FieldType.boolean), Jvm.Cond.code ({ cls := "java/lang/StringLatin1", name := "toBytes", desc := "(C)[B" } : Jvm.MethodName) jdk_43_method_46_code (1 : Nat) (Option.some (Jvm.ClassFile.FieldType.array Jvm.ClassFile.FieldType.byte)), Jvm.Cond.code ({ cls := "java/lang/String", name := "<init>", desc := "([BB)V" } : Jvm.MethodName) jdk_42_method_151_code (3 : Nat) (Option.none : Option Jvm.ClassFile.FieldType)]
set_option maxRecDepth 65536 in
theorem codes_eq : words1.filter isCode = codes1 := rfl
theorem w_codes : ∀ c ∈ words1.filter isCode, c.before args0 about1 = true := by
  rw [codes_eq]
  intro c hc
  simp only [codes1, List.mem_cons, List.not_mem_nil, or_false] at hc
  rcases hc with rfl | rfl | rfl | rfl | rfl | rfl | rfl | rfl | rfl | rfl | rfl | rfl | rfl | rfl | rfl | rfl | rfl | rfl | rfl
  · exact w_c0
  · exact w_c1
  · exact w_c2
  · exact w_c3
  · exact w_c4
  · exact w_c5
  · exact w_c6
  · exact w_c7
  · exact w_c8
  · exact w_c9
  · exact w_c10
  · exact w_c11
  · exact w_c12
  · exact w_c13
  · exact w_c14
  · exact w_c15
  · exact w_c16
  · exact w_c17
  · exact w_c18
set_option maxRecDepth 65536 in
theorem w_t1 : (words1.take 24).all (fun c => isCode c || c.before args0 about1) = true := by decide +kernel
set_option maxRecDepth 65536 in
theorem w_t2 : ((words1.drop 24).take 24).all (fun c => isCode c || c.before args0 about1) = true := by decide +kernel
set_option maxRecDepth 65536 in
theorem w_t3 : (((words1.drop 24).drop 24).take 24).all (fun c => isCode c || c.before args0 about1) = true := by decide +kernel
set_option maxRecDepth 65536 in
theorem w_t4 : (((words1.drop 24).drop 24).drop 24).all (fun c => isCode c || c.before args0 about1) = true := by decide +kernel
theorem w_tables : (allAtoms (Jvm.Cond.code x code maxLocals ret :: tables_1)).before args0 about1 = true := by
  rw [allAtoms_all]
  show words1.all (fun c => c.before args0 about1) = true
  refine all_split ?_ w_codes
  rw [← List.take_append_drop 24 words1, List.all_append, w_t1, ← List.take_append_drop 24 (words1.drop 24), List.all_append, w_t2, ← List.take_append_drop 24 ((words1.drop 24).drop 24), List.all_append, w_t3, w_t4]
  rfl
set_option maxRecDepth 65536 in
theorem w_rest : rest_1_c.before args0 about1 = true := by decide +kernel
set_option maxRecDepth 65536 in
theorem w_case : (Jvm.Cond.and given_1 narrow_1).before args0 about1 = true := by decide +kernel
set_option maxRecDepth 65536 in
theorem w_consts : constsHeld consts_1 about1 := Jvm.Lit.constsHeldB_iff.mp (by decide +kernel)
theorem w_applies : (headSpec (Jvm.Cond.code x code maxLocals ret :: tables_1) room_1).applies x e0.platform about1 = true :=
  (Spec.applies_iff w_frames).mpr ⟨w_running, w_runnable, w_alone, w_named, w_hears, w_ripe, w_room, w_tables⟩
theorem atStart : AtStart classFile x code maxLocals ret World_1 tables_1 room_1 Calls_1 rest_1 Pre_1 launch0 p0 e0 about1 theMethod args0 below0 :=
  ⟨lists_1, trivial, launch0.admits_env _ _ _, launch0.least_env, fairChoices_fair.cas, fairChoices_fair.clock, w_frames, w_args, w_heap, w_applies, ⟨w_consts, trivial⟩, w_rest, w_case⟩
end start1
theorem witness_1 : WitnessClaimed_1 := ⟨start1.p0, start1.e0, start1.about1, start1.theMethod, start1.args0, start1.below0, start1.atStart⟩
end Jvm.Pilot.@@N@@
