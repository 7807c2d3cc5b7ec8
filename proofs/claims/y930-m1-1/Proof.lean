import JvmDerived
import JvmDerived.Pilot.@@N@@Statement
import JvmDerived.Pilot.@@N@@Code
set_option linter.unusedVariables false
set_option linter.unusedSimpArgs false
namespace Jvm.RoadKit
open Sem ClassFile Op Lib Bundle Jvm.Stand Jvm.Free Jvm.LawKit
section OwnKit
variable {p : Program} {l : Launch} {e : Env} {R : Room} {s : State} {m : MethodId} {args : Array Value} {below : List Frame} {meth : Method} {c : Code} {T : State} {Z : State} {a0 : Array Value} {EL : List (String × Nat)} {own nm : String} {bytes : ByteArray} {maxL : Nat} {ret : Option FieldType} {wl sf : List Addr} {h0 h : Heap} {k n : Nat} {F : Outcome → State → Prop} {Ls : Array Slot} {S : List Value} {pc : Nat}
def Go (tb : Tables) (e : Env) (below : List Frame) (F : Outcome → State → Prop) (A : State) : Prop := ∃ (t : State) (o : Outcome), Steps tb e below A t ∧ t.status = .running ∧ Ended t below o ∧ F o t
theorem goS {tb : Tables} {A B : State} (q : ∀ t, Steps tb e below B t → Steps tb e below A t) (g : Go tb e below F B) : Go tb e below F A := by
  obtain ⟨t, o, h1, h2⟩ := g
  exact ⟨t, o, q t h1, h2⟩
def Cx (p : Program) (meth : Method) (c : Code) (Z : State) (a0 : Array Value) (EL : List (String × Nat)) (nm : String) (bytes : ByteArray) (maxL : Nat) (ret : Option FieldType) (wl : List Addr) (h0 : Heap) : Prop :=
  p.tables.exec = Jvm.exec ∧ c.code = bytes ∧ c.maxLocals = maxL ∧ meth.sig.returnType = ret ∧ meth.locks = false ∧ meth.name = nm ∧ EW Z a0 EL ∧ Z.heap.size ≤ h0.size ∧ ∀ x ∈ wl, Z.heap.size ≤ x
theorem Cx.ew (w : Cx p meth c Z a0 EL nm bytes maxL ret wl h0) : EW Z a0 EL := w.2.2.2.2.2.2.1
theorem Cx.le (w : Cx p meth c Z a0 EL nm bytes maxL ret wl h0) : Z.heap.size ≤ h0.size := w.2.2.2.2.2.2.2.1
theorem Cx.ge (w : Cx p meth c Z a0 EL nm bytes maxL ret wl h0) {a : Addr} (h : a ∈ wl ∨ h0.size ≤ a) : Z.heap.size ≤ a := h.elim (w.2.2.2.2.2.2.2.2 a) (Nat.le_trans w.le)
theorem extKeep {A h h' : Heap} {ws : List Addr} (E : Ext A h) (K : Keep h h' ws) (q : ∀ x ∈ ws, A.size ≤ x) : Ext A h' := ⟨Nat.le_trans E.1 K.1, fun a c r => K.2.1 a c (E.2 a c r) fun z => absurd (Array.getElem?_eq_some_iff.mp r).1 (Nat.not_lt.mpr (q a z))⟩
theorem extExt {A h h' : Heap} (E : Ext A h) (K : Ext h h') : Ext A h' := ⟨Nat.le_trans E.1 K.1, fun a c r => K.2 a c (E.2 a c r)⟩
/-- where a walk stands: the heap h, what it has written and made, that the literals of EL are as they should be, what is none of their cells -/
def OW (p : Program) (l : Launch) (e : Env) (R : Room) (s : State) (m : MethodId) (args : Array Value) (below : List Frame) (meth : Method) (c : Code) (Z : State) (a0 : Array Value) (EL : List (String × Nat)) (own nm : String) (bytes : ByteArray) (maxL : Nat) (ret : Option FieldType) (wl : List Addr) (h0 : Heap) (sf : List Addr) (T : State) (h : Heap) (k n : Nat) : Prop :=
  Cx p meth c Z a0 EL nm bytes maxL ret wl h0 ∧
  ∃ (vm0 : Vm) (k0 : Nat) (L : List Loc), Stand p l e R (s.setVm vm0) m args below meth c T L k n ∧ T.heap = h ∧ s.Since vm0 k0 ∧ k0 ≤ h.size ∧ Z.Warmed39 vm0 ∧ vm0.findClass own = some m.cls ∧
    (∀ y ∈ L, y.base ∈ wl ∨ h0.size ≤ y.base) ∧ Keep h0 h wl ∧ CHr Z EL s.vm h0 vm0 h ∧ Ext Z.heap h ∧ ∀ x ∈ sf, x < h.size ∧ Safe Z EL vm0 h x
/-- what a body leaves behind -/
def Fin' (s : State) (Z : State) (EL : List (String × Nat)) (wl : List Addr) (h0 : Heap) (R : Room) (Q : Option Value → Heap → List Addr → Prop) (o : Outcome) (t : State) : Prop :=
  ∃ (v : Option Value) (L : List Loc) (ns : List Addr), o = .returned v ∧ Q v t.heap ns ∧ Keep h0 t.heap wl ∧ (∀ y ∈ L, y.base ∈ wl ∨ h0.size ≤ y.base) ∧ CHr Z EL s.vm h0 t.vm t.heap ∧ (∀ x ∈ ns, x < t.heap.size ∧ Safe Z EL t.vm t.heap x) ∧ ReturnedEndW s o t L R.cells R.slots
/-- the contract of a body -/
def Con (l : Launch) (Z : State) (a0 : Array Value) (EL : List (String × Nat)) (y : MethodName) (bytes : ByteArray) (maxL : Nat) (ret : Option FieldType) (rm : Room) (as' : Array Value) (h0 : Heap) (sf wl : List Addr) (Q : Option Value → Heap → List Addr → Prop) : Prop :=
  MetFree l y (head1 [Cond.code y bytes maxL ret] rm) (fun a U => a = as' ∧ Z.Warmed39 U.vm ∧ U.heap = h0 ∧ CHv Z EL U.vm h0 ∧ EW Z a0 EL ∧ Ext Z.heap h0 ∧ (∀ x ∈ wl, Z.heap.size ≤ x) ∧ ∀ x ∈ sf, x < h0.size ∧ Safe Z EL U.vm h0 x) (fun _ _ _ _ _ => True)
    (fun _ U o U' => Fin' U Z EL wl h0 rm Q o U')
theorem OW.start {y : MethodName} {as' : Array Value} {s₁ : State} {rm : Room} {ws : List Cond} (B : BodyLoose p l y (head1 (Cond.code y bytes maxL ret :: ws) rm) bytes maxL ret e s m as' below meth c s₁) (hml : c.maxLocals = maxL) (hZ : Z.Warmed39 s.vm) (hh : s.heap = h0) (H : CHv Z EL s.vm h0) (hE : EW Z a0 EL) (hX : Ext Z.heap h0) (hwl : ∀ x ∈ wl, Z.heap.size ≤ x) (hs : ∀ x ∈ sf, x < h0.size ∧ Safe Z EL s.vm h0 x) :
    OW p l e rm s m as' below meth c Z a0 EL y.cls y.name bytes maxL ret wl h0 sf s₁ h0 0 0 :=
  ⟨⟨B.exec, B.bytes, hml, B.returns, B.notSynchronized, (name_of_methodNamed B.named B.method).1, hE, hX.1, hwl⟩, s.vm, 0, [], Stand.of_body B, by rw [← hh, B.state]; rfl, State.WarmedH.since (State.WarmedH.refl s) 0, Nat.zero_le _, hZ, findClass_of_methodNamed B.named,
    (fun _ q => nomatch q), Keep.refl _ _, CHr.refl H, hX, hs⟩
theorem Con.of {y : MethodName} {rm : Room} {as' : Array Value} {Q : Option Value → Heap → List Addr → Prop} {L0 : Array Slot} (hp : plainFor y = true) (hef : ∀ m, entryFrame m as' maxL = mkF m 0 L0 [])
    (body : ∀ (p : Program) (e : Env) (s : State) (m : MethodId) (below : List Frame) (meth : Method) (c : Code) (T : State), OW p l e rm s m as' below meth c Z a0 EL y.cls y.name bytes maxL ret wl h0 sf T h0 0 0 → Go p.tables e below (Fin' s Z EL wl h0 rm Q) (T.setTop (mkF m 0 L0 []))) :
    Con l Z a0 EL y bytes maxL ret rm as' h0 sf wl Q := by
  refine MetFree.of_bodySF hp hisR ?_
  intro p e s m args below meth c s₁ Bd hml hP hK
  obtain ⟨rfl, hZ, hh, H, hE, hX, hwl, hs⟩ := hP
  obtain ⟨t, o, g1, g2, g3, g4⟩ := body p e s m below meth c s₁ (OW.start Bd hml hZ hh H hE hX hwl hs)
  exact ⟨t, o, castTop (hef m) g1, g2, g3, g4⟩
theorem OW.here (w : OW p l e R s m args below meth c Z a0 EL own nm bytes maxL ret wl h0 sf T h k n) : At T m c below := by obtain ⟨-, vm0, k0, L, X, -⟩ := w; exact X.here
theorem OW.exec (w : OW p l e R s m args below meth c Z a0 EL own nm bytes maxL ret wl h0 sf T h k n) : p.tables.exec = Jvm.exec := w.1.1
theorem OW.bt (w : OW p l e R s m args below meth c Z a0 EL own nm bytes maxL ret wl h0 sf T h k n) {pc : Nat} {r : Except DecodeError (Instr × Nat)} (hd : decode bytes pc = r) : decode c.code pc = r := hb w.1.2.1 hd
theorem OW.keep (w : OW p l e R s m args below meth c Z a0 EL own nm bytes maxL ret wl h0 sf T h k n) : Keep h0 h wl := by obtain ⟨-, vm0, k0, L, X, -, -, -, -, -, -, K, -⟩ := w; exact K
theorem OW.more {k' n' : Nat} (w : OW p l e R s m args below meth c Z a0 EL own nm bytes maxL ret wl h0 sf T h k n) (h1 : k ≤ k') (h2 : n ≤ n') : OW p l e R s m args below meth c Z a0 EL own nm bytes maxL ret wl h0 sf T h k' n' := by
  obtain ⟨w0, vm0, k0, L, X, r⟩ := w
  exact ⟨w0, vm0, k0, L, X.more h1 h2, r⟩
theorem OW.sub {sf' : List Addr} (w : OW p l e R s m args below meth c Z a0 EL own nm bytes maxL ret wl h0 sf T h k n) (q : ∀ x ∈ sf', x ∈ sf) : OW p l e R s m args below meth c Z a0 EL own nm bytes maxL ret wl h0 sf' T h k n := by
  obtain ⟨w0, vm0, k0, L, X, g1, g2, g3, g4, g5, g6, g7, g8, gE, g9⟩ := w
  exact ⟨w0, vm0, k0, L, X, g1, g2, g3, g4, g5, g6, g7, g8, gE, fun x hx => g9 x (q x hx)⟩
/-! plain steps -/

theorem g_iload (w : OW p l e R s m args below meth c Z a0 EL own nm bytes maxL ret wl h0 sf T h k n) {i : Nat} {v : Int32} (hd : decode bytes pc = .ok (.iload i, 2)) (hl : Ls[i]? = some (.val (.int v))) (nx : Go p.tables e below F (T.setTop (mkF m (pc + 2) Ls (.int v :: S)))) : Go p.tables e below F (T.setTop (mkF m pc Ls S)) := goS (fun t q => XS.iload w.here w.exec rfl (w.bt hd) hl q) nx
theorem g_iloadN (w : OW p l e R s m args below meth c Z a0 EL own nm bytes maxL ret wl h0 sf T h k n) {i : Fin 4} {v : Int32} (hd : decode bytes pc = .ok (.iload_n i, 1)) (hl : Ls[i.val]? = some (.val (.int v))) (nx : Go p.tables e below F (T.setTop (mkF m (pc + 1) Ls (.int v :: S)))) : Go p.tables e below F (T.setTop (mkF m pc Ls S)) := goS (fun t q => XS.iloadN w.here w.exec rfl (w.bt hd) hl q) nx
theorem g_aload (w : OW p l e R s m args below meth c Z a0 EL own nm bytes maxL ret wl h0 sf T h k n) {i : Nat} {v : Value} (hd : decode bytes pc = .ok (.aload i, 2)) (hl : Ls[i]? = some (.val v)) (hv : v.isRef = true) (nx : Go p.tables e below F (T.setTop (mkF m (pc + 2) Ls (v :: S)))) : Go p.tables e below F (T.setTop (mkF m pc Ls S)) := goS (fun t q => XS.aload w.here w.exec rfl (w.bt hd) hl hv q) nx
theorem g_aloadN (w : OW p l e R s m args below meth c Z a0 EL own nm bytes maxL ret wl h0 sf T h k n) {i : Fin 4} {v : Value} (hd : decode bytes pc = .ok (.aload_n i, 1)) (hl : Ls[i.val]? = some (.val v)) (hv : v.isRef = true) (nx : Go p.tables e below F (T.setTop (mkF m (pc + 1) Ls (v :: S)))) : Go p.tables e below F (T.setTop (mkF m pc Ls S)) := goS (fun t q => XS.aloadN w.here w.exec rfl (w.bt hd) hl hv q) nx
theorem g_lload (w : OW p l e R s m args below meth c Z a0 EL own nm bytes maxL ret wl h0 sf T h k n) {i : Nat} {v : Int64} (hd : decode bytes pc = .ok (.lload i, 2)) (hl : Ls[i]? = some (.val (.long v))) (nx : Go p.tables e below F (T.setTop (mkF m (pc + 2) Ls (.long v :: S)))) : Go p.tables e below F (T.setTop (mkF m pc Ls S)) := goS (fun t q => XS.lload w.here w.exec rfl (w.bt hd) hl q) nx
theorem g_lloadN (w : OW p l e R s m args below meth c Z a0 EL own nm bytes maxL ret wl h0 sf T h k n) {i : Fin 4} {v : Int64} (hd : decode bytes pc = .ok (.lload_n i, 1)) (hl : Ls[i.val]? = some (.val (.long v))) (nx : Go p.tables e below F (T.setTop (mkF m (pc + 1) Ls (.long v :: S)))) : Go p.tables e below F (T.setTop (mkF m pc Ls S)) := goS (fun t q => XS.lloadN w.here w.exec rfl (w.bt hd) hl q) nx
theorem g_istore (w : OW p l e R s m args below meth c Z a0 EL own nm bytes maxL ret wl h0 sf T h k n) {i : Nat} {x : Int32} {l' : Array Slot} (hd : decode bytes pc = .ok (.istore i, 2)) (hl : storeLocals Ls i (.int x) = some l') (nx : Go p.tables e below F (T.setTop (mkF m (pc + 2) l' S))) : Go p.tables e below F (T.setTop (mkF m pc Ls (.int x :: S))) := goS (fun t q => XS.istore w.here w.exec rfl (w.bt hd) rfl hl q) nx
theorem g_istoreN (w : OW p l e R s m args below meth c Z a0 EL own nm bytes maxL ret wl h0 sf T h k n) {i : Fin 4} {x : Int32} {l' : Array Slot} (hd : decode bytes pc = .ok (.istore_n i, 1)) (hl : storeLocals Ls i.val (.int x) = some l') (nx : Go p.tables e below F (T.setTop (mkF m (pc + 1) l' S))) : Go p.tables e below F (T.setTop (mkF m pc Ls (.int x :: S))) := goS (fun t q => XS.istoreN w.here w.exec rfl (w.bt hd) rfl hl q) nx
theorem g_astore (w : OW p l e R s m args below meth c Z a0 EL own nm bytes maxL ret wl h0 sf T h k n) {i : Nat} {x : Value} {l' : Array Slot} (hd : decode bytes pc = .ok (.astore i, 2)) (hv : x.isRef = true) (hl : storeLocals Ls i x = some l') (nx : Go p.tables e below F (T.setTop (mkF m (pc + 2) l' S))) : Go p.tables e below F (T.setTop (mkF m pc Ls (x :: S))) := goS (fun t q => XS.astore w.here w.exec rfl (w.bt hd) rfl hv hl q) nx
theorem g_astoreN (w : OW p l e R s m args below meth c Z a0 EL own nm bytes maxL ret wl h0 sf T h k n) {i : Fin 4} {x : Value} {l' : Array Slot} (hd : decode bytes pc = .ok (.astore_n i, 1)) (hv : x.isRef = true) (hl : storeLocals Ls i.val x = some l') (nx : Go p.tables e below F (T.setTop (mkF m (pc + 1) l' S))) : Go p.tables e below F (T.setTop (mkF m pc Ls (x :: S))) := goS (fun t q => XS.astoreN w.here w.exec rfl (w.bt hd) rfl hv hl q) nx
theorem g_lstore (w : OW p l e R s m args below meth c Z a0 EL own nm bytes maxL ret wl h0 sf T h k n) {i : Nat} {x : Int64} {l' : Array Slot} (hd : decode bytes pc = .ok (.lstore i, 2)) (hl : storeLocals Ls i (.long x) = some l') (nx : Go p.tables e below F (T.setTop (mkF m (pc + 2) l' S))) : Go p.tables e below F (T.setTop (mkF m pc Ls (.long x :: S))) := goS (fun t q => XS.lstore w.here w.exec rfl (w.bt hd) rfl hl q) nx
theorem g_lstoreN (w : OW p l e R s m args below meth c Z a0 EL own nm bytes maxL ret wl h0 sf T h k n) {i : Fin 4} {x : Int64} {l' : Array Slot} (hd : decode bytes pc = .ok (.lstore_n i, 1)) (hl : storeLocals Ls i.val (.long x) = some l') (nx : Go p.tables e below F (T.setTop (mkF m (pc + 1) l' S))) : Go p.tables e below F (T.setTop (mkF m pc Ls (.long x :: S))) := goS (fun t q => XS.lstoreN w.here w.exec rfl (w.bt hd) rfl hl q) nx
theorem g_iconst (w : OW p l e R s m args below meth c Z a0 EL own nm bytes maxL ret wl h0 sf T h k n) {i : Int} {z : Int32} (hd : decode bytes pc = .ok (.iconst i, 1)) (hz : Int32.ofInt i = z) (nx : Go p.tables e below F (T.setTop (mkF m (pc + 1) Ls (.int z :: S)))) : Go p.tables e below F (T.setTop (mkF m pc Ls S)) := goS (fun t q => XS.iconst w.here w.exec rfl (w.bt hd) (by rw [hz]; exact q)) nx
theorem g_bipush (w : OW p l e R s m args below meth c Z a0 EL own nm bytes maxL ret wl h0 sf T h k n) {i : Int} {z : Int32} (hd : decode bytes pc = .ok (.bipush i, 2)) (hz : (Int8.ofInt i).toInt32 = z) (nx : Go p.tables e below F (T.setTop (mkF m (pc + 2) Ls (.int z :: S)))) : Go p.tables e below F (T.setTop (mkF m pc Ls S)) := goS (fun t q => XS.bipush w.here w.exec rfl (w.bt hd) (by rw [hz]; exact q)) nx
theorem g_sipush (w : OW p l e R s m args below meth c Z a0 EL own nm bytes maxL ret wl h0 sf T h k n) {i : Int} {z : Int32} (hd : decode bytes pc = .ok (.sipush i, 3)) (hz : (Int16.ofInt i).toInt32 = z) (nx : Go p.tables e below F (T.setTop (mkF m (pc + 3) Ls (.int z :: S)))) : Go p.tables e below F (T.setTop (mkF m pc Ls S)) := goS (fun t q => XS.sipush w.here w.exec rfl (w.bt hd) (by rw [hz]; exact q)) nx
theorem g_lconst (w : OW p l e R s m args below meth c Z a0 EL own nm bytes maxL ret wl h0 sf T h k n) {i : Fin 2} {z : Int64} (hd : decode bytes pc = .ok (.lconst i, 1)) (hz : Int64.ofNat i = z) (nx : Go p.tables e below F (T.setTop (mkF m (pc + 1) Ls (.long z :: S)))) : Go p.tables e below F (T.setTop (mkF m pc Ls S)) := goS (fun t q => XS.lconst w.here w.exec rfl (w.bt hd) (by rw [hz]; exact q)) nx
theorem g_aconstNull (w : OW p l e R s m args below meth c Z a0 EL own nm bytes maxL ret wl h0 sf T h k n)  (hd : decode bytes pc = .ok (.aconst_null, 1))  (nx : Go p.tables e below F (T.setTop (mkF m (pc + 1) Ls (.null :: S)))) : Go p.tables e below F (T.setTop (mkF m pc Ls S)) := goS (fun t q => XS.aconstNull w.here w.exec rfl (w.bt hd) q) nx
theorem g_iadd (w : OW p l e R s m args below meth c Z a0 EL own nm bytes maxL ret wl h0 sf T h k n) {x y : Int32} (hd : decode bytes pc = .ok (.iadd, 1))  (nx : Go p.tables e below F (T.setTop (mkF m (pc + 1) Ls (.int (x + y) :: S)))) : Go p.tables e below F (T.setTop (mkF m pc Ls (.int y :: .int x :: S))) := goS (fun t q => XS.iadd w.here w.exec rfl (w.bt hd) rfl q) nx
theorem g_isub (w : OW p l e R s m args below meth c Z a0 EL own nm bytes maxL ret wl h0 sf T h k n) {x y : Int32} (hd : decode bytes pc = .ok (.isub, 1))  (nx : Go p.tables e below F (T.setTop (mkF m (pc + 1) Ls (.int (x - y) :: S)))) : Go p.tables e below F (T.setTop (mkF m pc Ls (.int y :: .int x :: S))) := goS (fun t q => XS.isub w.here w.exec rfl (w.bt hd) rfl q) nx
theorem g_imul (w : OW p l e R s m args below meth c Z a0 EL own nm bytes maxL ret wl h0 sf T h k n) {x y : Int32} (hd : decode bytes pc = .ok (.imul, 1))  (nx : Go p.tables e below F (T.setTop (mkF m (pc + 1) Ls (.int (x * y) :: S)))) : Go p.tables e below F (T.setTop (mkF m pc Ls (.int y :: .int x :: S))) := goS (fun t q => XS.imul w.here w.exec rfl (w.bt hd) rfl q) nx
theorem g_iand (w : OW p l e R s m args below meth c Z a0 EL own nm bytes maxL ret wl h0 sf T h k n) {x y : Int32} (hd : decode bytes pc = .ok (.iand, 1))  (nx : Go p.tables e below F (T.setTop (mkF m (pc + 1) Ls (.int (x &&& y) :: S)))) : Go p.tables e below F (T.setTop (mkF m pc Ls (.int y :: .int x :: S))) := goS (fun t q => XS.iand w.here w.exec rfl (w.bt hd) rfl q) nx
theorem g_ior (w : OW p l e R s m args below meth c Z a0 EL own nm bytes maxL ret wl h0 sf T h k n) {x y : Int32} (hd : decode bytes pc = .ok (.ior, 1))  (nx : Go p.tables e below F (T.setTop (mkF m (pc + 1) Ls (.int (x ||| y) :: S)))) : Go p.tables e below F (T.setTop (mkF m pc Ls (.int y :: .int x :: S))) := goS (fun t q => XS.ior w.here w.exec rfl (w.bt hd) rfl q) nx
theorem g_ixor (w : OW p l e R s m args below meth c Z a0 EL own nm bytes maxL ret wl h0 sf T h k n) {x y : Int32} (hd : decode bytes pc = .ok (.ixor, 1))  (nx : Go p.tables e below F (T.setTop (mkF m (pc + 1) Ls (.int (x ^^^ y) :: S)))) : Go p.tables e below F (T.setTop (mkF m pc Ls (.int y :: .int x :: S))) := goS (fun t q => XS.ixor w.here w.exec rfl (w.bt hd) rfl q) nx
theorem g_ishl (w : OW p l e R s m args below meth c Z a0 EL own nm bytes maxL ret wl h0 sf T h k n) {x y : Int32} (hd : decode bytes pc = .ok (.ishl, 1))  (nx : Go p.tables e below F (T.setTop (mkF m (pc + 1) Ls (.int (x <<< (y &&& 31)) :: S)))) : Go p.tables e below F (T.setTop (mkF m pc Ls (.int y :: .int x :: S))) := goS (fun t q => XS.ishl w.here w.exec rfl (w.bt hd) rfl q) nx
theorem g_ishr (w : OW p l e R s m args below meth c Z a0 EL own nm bytes maxL ret wl h0 sf T h k n) {x y : Int32} (hd : decode bytes pc = .ok (.ishr, 1))  (nx : Go p.tables e below F (T.setTop (mkF m (pc + 1) Ls (.int (x >>> (y &&& 31)) :: S)))) : Go p.tables e below F (T.setTop (mkF m pc Ls (.int y :: .int x :: S))) := goS (fun t q => XS.ishr w.here w.exec rfl (w.bt hd) rfl q) nx
theorem g_iushr (w : OW p l e R s m args below meth c Z a0 EL own nm bytes maxL ret wl h0 sf T h k n) {x y : Int32} (hd : decode bytes pc = .ok (.iushr, 1))  (nx : Go p.tables e below F (T.setTop (mkF m (pc + 1) Ls (.int ((x.toUInt32 >>> (y &&& 31).toUInt32).toInt32) :: S)))) : Go p.tables e below F (T.setTop (mkF m pc Ls (.int y :: .int x :: S))) := goS (fun t q => XS.iushr w.here w.exec rfl (w.bt hd) rfl q) nx
theorem g_ladd (w : OW p l e R s m args below meth c Z a0 EL own nm bytes maxL ret wl h0 sf T h k n) {x y : Int64} (hd : decode bytes pc = .ok (.ladd, 1))  (nx : Go p.tables e below F (T.setTop (mkF m (pc + 1) Ls (.long (x + y) :: S)))) : Go p.tables e below F (T.setTop (mkF m pc Ls (.long y :: .long x :: S))) := goS (fun t q => XS.ladd w.here w.exec rfl (w.bt hd) rfl q) nx
theorem g_lsub (w : OW p l e R s m args below meth c Z a0 EL own nm bytes maxL ret wl h0 sf T h k n) {x y : Int64} (hd : decode bytes pc = .ok (.lsub, 1))  (nx : Go p.tables e below F (T.setTop (mkF m (pc + 1) Ls (.long (x - y) :: S)))) : Go p.tables e below F (T.setTop (mkF m pc Ls (.long y :: .long x :: S))) := goS (fun t q => XS.lsub w.here w.exec rfl (w.bt hd) rfl q) nx
theorem g_lmul (w : OW p l e R s m args below meth c Z a0 EL own nm bytes maxL ret wl h0 sf T h k n) {x y : Int64} (hd : decode bytes pc = .ok (.lmul, 1))  (nx : Go p.tables e below F (T.setTop (mkF m (pc + 1) Ls (.long (x * y) :: S)))) : Go p.tables e below F (T.setTop (mkF m pc Ls (.long y :: .long x :: S))) := goS (fun t q => XS.lmul w.here w.exec rfl (w.bt hd) rfl q) nx
theorem g_land (w : OW p l e R s m args below meth c Z a0 EL own nm bytes maxL ret wl h0 sf T h k n) {x y : Int64} (hd : decode bytes pc = .ok (.land, 1))  (nx : Go p.tables e below F (T.setTop (mkF m (pc + 1) Ls (.long (x &&& y) :: S)))) : Go p.tables e below F (T.setTop (mkF m pc Ls (.long y :: .long x :: S))) := goS (fun t q => XS.land w.here w.exec rfl (w.bt hd) rfl q) nx
theorem g_lor (w : OW p l e R s m args below meth c Z a0 EL own nm bytes maxL ret wl h0 sf T h k n) {x y : Int64} (hd : decode bytes pc = .ok (.lor, 1))  (nx : Go p.tables e below F (T.setTop (mkF m (pc + 1) Ls (.long (x ||| y) :: S)))) : Go p.tables e below F (T.setTop (mkF m pc Ls (.long y :: .long x :: S))) := goS (fun t q => XS.lor w.here w.exec rfl (w.bt hd) rfl q) nx
theorem g_lxor (w : OW p l e R s m args below meth c Z a0 EL own nm bytes maxL ret wl h0 sf T h k n) {x y : Int64} (hd : decode bytes pc = .ok (.lxor, 1))  (nx : Go p.tables e below F (T.setTop (mkF m (pc + 1) Ls (.long (x ^^^ y) :: S)))) : Go p.tables e below F (T.setTop (mkF m pc Ls (.long y :: .long x :: S))) := goS (fun t q => XS.lxor w.here w.exec rfl (w.bt hd) rfl q) nx
theorem g_lshl (w : OW p l e R s m args below meth c Z a0 EL own nm bytes maxL ret wl h0 sf T h k n) {x : Int64} {y : Int32} (hd : decode bytes pc = .ok (.lshl, 1))  (nx : Go p.tables e below F (T.setTop (mkF m (pc + 1) Ls (.long (x <<< (y &&& 0x3f).toInt64) :: S)))) : Go p.tables e below F (T.setTop (mkF m pc Ls (.int y :: .long x :: S))) := goS (fun t q => XS.lshl w.here w.exec rfl (w.bt hd) rfl q) nx
theorem g_lshr (w : OW p l e R s m args below meth c Z a0 EL own nm bytes maxL ret wl h0 sf T h k n) {x : Int64} {y : Int32} (hd : decode bytes pc = .ok (.lshr, 1))  (nx : Go p.tables e below F (T.setTop (mkF m (pc + 1) Ls (.long (x >>> (y &&& 0x3f).toInt64) :: S)))) : Go p.tables e below F (T.setTop (mkF m pc Ls (.int y :: .long x :: S))) := goS (fun t q => XS.lshr w.here w.exec rfl (w.bt hd) rfl q) nx
theorem g_lushr (w : OW p l e R s m args below meth c Z a0 EL own nm bytes maxL ret wl h0 sf T h k n) {x : Int64} {y : Int32} (hd : decode bytes pc = .ok (.lushr, 1))  (nx : Go p.tables e below F (T.setTop (mkF m (pc + 1) Ls (.long ((x.toUInt64 >>> (y &&& 0x3f).toInt64.toUInt64).toInt64) :: S)))) : Go p.tables e below F (T.setTop (mkF m pc Ls (.int y :: .long x :: S))) := goS (fun t q => XS.lushr w.here w.exec rfl (w.bt hd) rfl q) nx
theorem g_lcmp (w : OW p l e R s m args below meth c Z a0 EL own nm bytes maxL ret wl h0 sf T h k n) {x y : Int64} (hd : decode bytes pc = .ok (.lcmp, 1))  (nx : Go p.tables e below F (T.setTop (mkF m (pc + 1) Ls (.int (lcmpW x y) :: S)))) : Go p.tables e below F (T.setTop (mkF m pc Ls (.long y :: .long x :: S))) := goS (fun t q => XS.lcmp w.here w.exec rfl (w.bt hd) rfl q) nx
theorem g_idiv (w : OW p l e R s m args below meth c Z a0 EL own nm bytes maxL ret wl h0 sf T h k n) {x y : Int32} (hd : decode bytes pc = .ok (.idiv, 1)) (hy : y ≠ 0) (nx : Go p.tables e below F (T.setTop (mkF m (pc + 1) Ls (.int (x / y) :: S)))) : Go p.tables e below F (T.setTop (mkF m pc Ls (.int y :: .int x :: S))) := goS (fun t q => XS.idiv w.here w.exec rfl (w.bt hd) rfl hy q) nx
theorem g_ldiv (w : OW p l e R s m args below meth c Z a0 EL own nm bytes maxL ret wl h0 sf T h k n) {x y : Int64} (hd : decode bytes pc = .ok (.ldiv, 1)) (hy : y ≠ 0) (nx : Go p.tables e below F (T.setTop (mkF m (pc + 1) Ls (.long (x / y) :: S)))) : Go p.tables e below F (T.setTop (mkF m pc Ls (.long y :: .long x :: S))) := goS (fun t q => XS.ldiv w.here w.exec rfl (w.bt hd) rfl hy q) nx
theorem g_lrem (w : OW p l e R s m args below meth c Z a0 EL own nm bytes maxL ret wl h0 sf T h k n) {x y : Int64} (hd : decode bytes pc = .ok (.lrem, 1)) (hy : y ≠ 0) (nx : Go p.tables e below F (T.setTop (mkF m (pc + 1) Ls (.long (x - (x / y) * y) :: S)))) : Go p.tables e below F (T.setTop (mkF m pc Ls (.long y :: .long x :: S))) := goS (fun t q => XS.lrem w.here w.exec rfl (w.bt hd) rfl hy q) nx
theorem g_irem (w : OW p l e R s m args below meth c Z a0 EL own nm bytes maxL ret wl h0 sf T h k n) {x y : Int32} (hd : decode bytes pc = .ok (.irem, 1)) (hy : y ≠ 0) (nx : Go p.tables e below F (T.setTop (mkF m (pc + 1) Ls (.int (x % y) :: S)))) : Go p.tables e below F (T.setTop (mkF m pc Ls (.int y :: .int x :: S))) := by
  have hx := w.exec
  have hd' := w.bt hd
  obtain ⟨-, vm0, k0, L, X, -⟩ := w
  exact goS (fun t q => iremM X hx rfl hd' rfl hy q) nx
theorem g_ineg (w : OW p l e R s m args below meth c Z a0 EL own nm bytes maxL ret wl h0 sf T h k n) {x : Int32} (hd : decode bytes pc = .ok (.ineg, 1))  (nx : Go p.tables e below F (T.setTop (mkF m (pc + 1) Ls (.int (-x) :: S)))) : Go p.tables e below F (T.setTop (mkF m pc Ls (.int x :: S))) := goS (fun t q => XS.ineg w.here w.exec rfl (w.bt hd) rfl q) nx
theorem g_lneg (w : OW p l e R s m args below meth c Z a0 EL own nm bytes maxL ret wl h0 sf T h k n) {x : Int64} (hd : decode bytes pc = .ok (.lneg, 1))  (nx : Go p.tables e below F (T.setTop (mkF m (pc + 1) Ls (.long (-x) :: S)))) : Go p.tables e below F (T.setTop (mkF m pc Ls (.long x :: S))) := goS (fun t q => XS.lneg w.here w.exec rfl (w.bt hd) rfl q) nx
theorem g_i2l (w : OW p l e R s m args below meth c Z a0 EL own nm bytes maxL ret wl h0 sf T h k n) {x : Int32} (hd : decode bytes pc = .ok (.i2l, 1))  (nx : Go p.tables e below F (T.setTop (mkF m (pc + 1) Ls (.long (x.toInt64) :: S)))) : Go p.tables e below F (T.setTop (mkF m pc Ls (.int x :: S))) := goS (fun t q => XS.i2l w.here w.exec rfl (w.bt hd) rfl q) nx
theorem g_l2i (w : OW p l e R s m args below meth c Z a0 EL own nm bytes maxL ret wl h0 sf T h k n) {x : Int64} (hd : decode bytes pc = .ok (.l2i, 1))  (nx : Go p.tables e below F (T.setTop (mkF m (pc + 1) Ls (.int (x.toInt32) :: S)))) : Go p.tables e below F (T.setTop (mkF m pc Ls (.long x :: S))) := goS (fun t q => XS.l2i w.here w.exec rfl (w.bt hd) rfl q) nx
theorem g_i2b (w : OW p l e R s m args below meth c Z a0 EL own nm bytes maxL ret wl h0 sf T h k n) {x : Int32} (hd : decode bytes pc = .ok (.i2b, 1))  (nx : Go p.tables e below F (T.setTop (mkF m (pc + 1) Ls (.int (x.toInt8.toInt32) :: S)))) : Go p.tables e below F (T.setTop (mkF m pc Ls (.int x :: S))) := goS (fun t q => XS.i2b w.here w.exec rfl (w.bt hd) rfl q) nx
theorem g_i2c (w : OW p l e R s m args below meth c Z a0 EL own nm bytes maxL ret wl h0 sf T h k n) {x : Int32} (hd : decode bytes pc = .ok (.i2c, 1))  (nx : Go p.tables e below F (T.setTop (mkF m (pc + 1) Ls (.int (x.toUInt32.toUInt16.toUInt32.toInt32) :: S)))) : Go p.tables e below F (T.setTop (mkF m pc Ls (.int x :: S))) := goS (fun t q => XS.i2c w.here w.exec rfl (w.bt hd) rfl q) nx
theorem g_i2s (w : OW p l e R s m args below meth c Z a0 EL own nm bytes maxL ret wl h0 sf T h k n) {x : Int32} (hd : decode bytes pc = .ok (.i2s, 1))  (nx : Go p.tables e below F (T.setTop (mkF m (pc + 1) Ls (.int (x.toInt16.toInt32) :: S)))) : Go p.tables e below F (T.setTop (mkF m pc Ls (.int x :: S))) := goS (fun t q => XS.i2s w.here w.exec rfl (w.bt hd) rfl q) nx
theorem g_iinc (w : OW p l e R s m args below meth c Z a0 EL own nm bytes maxL ret wl h0 sf T h k n) {i : Nat} {cst : Int} {x z : Int32} {l' : Array Slot} (hd : decode bytes pc = .ok (.iinc i cst, 3)) (hl : Ls[i]? = some (.val (.int x))) (hz : x + Int32.ofInt cst = z) (hl' : storeLocals Ls i (.int z) = some l') (nx : Go p.tables e below F (T.setTop (mkF m (pc + 3) l' S))) : Go p.tables e below F (T.setTop (mkF m pc Ls S)) := goS (fun t q => XS.iinc w.here w.exec rfl (w.bt hd) hl (by rw [hz]; exact hl') q) nx
theorem g_pop (w : OW p l e R s m args below meth c Z a0 EL own nm bytes maxL ret wl h0 sf T h k n) {x : Value} (hd : decode bytes pc = .ok (.pop, 1)) (hc : x.category = 1) (nx : Go p.tables e below F (T.setTop (mkF m (pc + 1) Ls S))) : Go p.tables e below F (T.setTop (mkF m pc Ls (x :: S))) := goS (fun t q => XS.pop w.here w.exec rfl (w.bt hd) rfl hc q) nx
theorem g_dup (w : OW p l e R s m args below meth c Z a0 EL own nm bytes maxL ret wl h0 sf T h k n) {x : Value} (hd : decode bytes pc = .ok (.dup, 1)) (hc : x.category = 1) (nx : Go p.tables e below F (T.setTop (mkF m (pc + 1) Ls (x :: x :: S)))) : Go p.tables e below F (T.setTop (mkF m pc Ls (x :: S))) := goS (fun t q => XS.dup w.here w.exec rfl (w.bt hd) rfl hc q) nx
theorem g_dupX1 (w : OW p l e R s m args below meth c Z a0 EL own nm bytes maxL ret wl h0 sf T h k n) {x y : Value} (hd : decode bytes pc = .ok (.dup_x1, 1)) (hc : x.category = 1) (hc' : y.category = 1) (nx : Go p.tables e below F (T.setTop (mkF m (pc + 1) Ls (x :: y :: x :: S)))) : Go p.tables e below F (T.setTop (mkF m pc Ls (x :: y :: S))) := goS (fun t q => XS.dupX1 w.here w.exec rfl (w.bt hd) rfl hc hc' q) nx
theorem g_dup2 (w : OW p l e R s m args below meth c Z a0 EL own nm bytes maxL ret wl h0 sf T h k n) {x y : Value} (hd : decode bytes pc = .ok (.dup2, 1)) (hc : x.category = 1) (hc' : y.category = 1) (nx : Go p.tables e below F (T.setTop (mkF m (pc + 1) Ls (x :: y :: x :: y :: S)))) : Go p.tables e below F (T.setTop (mkF m pc Ls (x :: y :: S))) := goS (fun t q => Jvm.Free.XT.dup2 w.here w.exec rfl (w.bt hd) rfl hc hc' q) nx
theorem g_dup2L (w : OW p l e R s m args below meth c Z a0 EL own nm bytes maxL ret wl h0 sf T h k n) {x : Int64} (hd : decode bytes pc = .ok (.dup2, 1))  (nx : Go p.tables e below F (T.setTop (mkF m (pc + 1) Ls (.long x :: .long x :: S)))) : Go p.tables e below F (T.setTop (mkF m pc Ls (.long x :: S))) := goS (fun t q => Jvm.Free.XT.dup2L w.here w.exec rfl (w.bt hd) rfl q) nx
theorem g_goto (w : OW p l e R s m args below meth c Z a0 EL own nm bytes maxL ret wl h0 sf T h k n)  {o : Int} {pc' : Nat} (hd : decode bytes pc = .ok (.goto o, 3))  (ho : 0 ≤ (pc : Int) + o) (hp : ((pc : Int) + o).toNat = pc') (nx : Go p.tables e below F (T.setTop (mkF m pc' Ls S))) : Go p.tables e below F (T.setTop (mkF m pc Ls S)) := goS (fun t q => XS.goto w.here w.exec rfl rfl (w.bt hd) ho hp q) nx
theorem g_ifYes (w : OW p l e R s m args below meth c Z a0 EL own nm bytes maxL ret wl h0 sf T h k n) {cd : ClassFile.Cond} {x : Int32} {o : Int} {pc' : Nat} (hd : decode bytes pc = .ok (.ifCond cd o, 3)) (hc : ifCond.holds cd x = true) (ho : 0 ≤ (pc : Int) + o) (hp : ((pc : Int) + o).toNat = pc') (nx : Go p.tables e below F (T.setTop (mkF m pc' Ls S))) : Go p.tables e below F (T.setTop (mkF m pc Ls (.int x :: S))) := goS (fun t q => XS.ifYes w.here w.exec rfl rfl (w.bt hd) rfl hc ho hp q) nx
theorem g_ifNo (w : OW p l e R s m args below meth c Z a0 EL own nm bytes maxL ret wl h0 sf T h k n) {cd : ClassFile.Cond} {x : Int32} {o : Int} (hd : decode bytes pc = .ok (.ifCond cd o, 3)) (hc : ifCond.holds cd x = false) (nx : Go p.tables e below F (T.setTop (mkF m (pc + 3) Ls S))) : Go p.tables e below F (T.setTop (mkF m pc Ls (.int x :: S))) := goS (fun t q => XS.ifNo w.here w.exec rfl (w.bt hd) rfl hc q) nx
theorem g_icmpYes (w : OW p l e R s m args below meth c Z a0 EL own nm bytes maxL ret wl h0 sf T h k n) {cd : ClassFile.Cond} {x y : Int32} {o : Int} {pc' : Nat} (hd : decode bytes pc = .ok (.if_icmp cd o, 3)) (hc : if_icmp.holds cd x y = true) (ho : 0 ≤ (pc : Int) + o) (hp : ((pc : Int) + o).toNat = pc') (nx : Go p.tables e below F (T.setTop (mkF m pc' Ls S))) : Go p.tables e below F (T.setTop (mkF m pc Ls (.int y :: .int x :: S))) := goS (fun t q => XS.icmpYes w.here w.exec rfl rfl (w.bt hd) rfl hc ho hp q) nx
theorem g_icmpNo (w : OW p l e R s m args below meth c Z a0 EL own nm bytes maxL ret wl h0 sf T h k n) {cd : ClassFile.Cond} {x y : Int32} {o : Int} (hd : decode bytes pc = .ok (.if_icmp cd o, 3)) (hc : if_icmp.holds cd x y = false) (nx : Go p.tables e below F (T.setTop (mkF m (pc + 3) Ls S))) : Go p.tables e below F (T.setTop (mkF m pc Ls (.int y :: .int x :: S))) := goS (fun t q => XS.icmpNo w.here w.exec rfl (w.bt hd) rfl hc q) nx
theorem g_ifnullYes (w : OW p l e R s m args below meth c Z a0 EL own nm bytes maxL ret wl h0 sf T h k n)  {o : Int} {pc' : Nat} (hd : decode bytes pc = .ok (.ifnull o, 3))  (ho : 0 ≤ (pc : Int) + o) (hp : ((pc : Int) + o).toNat = pc') (nx : Go p.tables e below F (T.setTop (mkF m pc' Ls S))) : Go p.tables e below F (T.setTop (mkF m pc Ls (.null :: S))) := goS (fun t q => XS.ifnullYes w.here w.exec rfl rfl (w.bt hd) rfl ho hp q) nx
theorem g_ifnullNo (w : OW p l e R s m args below meth c Z a0 EL own nm bytes maxL ret wl h0 sf T h k n) {b : Addr} {o : Int} (hd : decode bytes pc = .ok (.ifnull o, 3))  (nx : Go p.tables e below F (T.setTop (mkF m (pc + 3) Ls S))) : Go p.tables e below F (T.setTop (mkF m pc Ls (.ref b :: S))) := goS (fun t q => XS.ifnullNo w.here w.exec rfl (w.bt hd) rfl q) nx
theorem g_ifnonnullYes (w : OW p l e R s m args below meth c Z a0 EL own nm bytes maxL ret wl h0 sf T h k n) {b : Addr} {o : Int} {pc' : Nat} (hd : decode bytes pc = .ok (.ifnonnull o, 3))  (ho : 0 ≤ (pc : Int) + o) (hp : ((pc : Int) + o).toNat = pc') (nx : Go p.tables e below F (T.setTop (mkF m pc' Ls S))) : Go p.tables e below F (T.setTop (mkF m pc Ls (.ref b :: S))) := goS (fun t q => XS.ifnonnullYes w.here w.exec rfl rfl (w.bt hd) rfl ho hp q) nx
theorem g_ifnonnullNo (w : OW p l e R s m args below meth c Z a0 EL own nm bytes maxL ret wl h0 sf T h k n) {o : Int} (hd : decode bytes pc = .ok (.ifnonnull o, 3))  (nx : Go p.tables e below F (T.setTop (mkF m (pc + 3) Ls S))) : Go p.tables e below F (T.setTop (mkF m pc Ls (.null :: S))) := goS (fun t q => XS.ifnonnullNo w.here w.exec rfl (w.bt hd) rfl q) nx
theorem g_acmp (w : OW p l e R s m args below meth c Z a0 EL own nm bytes maxL ret wl h0 sf T h k n) {cd : ACond} {o : Int} {x y : Value} {pc' : Nat} {same : Bool} (hd : decode bytes pc = .ok (.if_acmp cd o, 3)) (h1 : x.isRef = true) (h2 : y.isRef = true) (hq : decide (x = y) = same) (ho : 0 ≤ (pc : Int) + o) (hp : pc' = if acV cd same = true then ((pc : Int) + o).toNat else pc + 3) (nx : Go p.tables e below F (T.setTop (mkF m pc' Ls S))) : Go p.tables e below F (T.setTop (mkF m pc Ls (y :: x :: S))) := by
  have hx := w.exec
  have hd' := w.bt hd
  obtain ⟨-, vm0, k0, L, X, -⟩ := w
  exact goS (fun t q => acmp X hx rfl h1 h2 rfl hd' rfl hq ho hp q) nx

theorem narrow_refv {t : FieldType} {v : Value} (ht : t.isReference = true) (hv : v.isRef = true) : narrow t v = v := by cases t <;> first | (cases ht; done) | (cases v <;> first | rfl | (cases hv; done))
theorem fits_refv {t : FieldType} {v : Value} (ht : t.isReference = true) (hv : v.isRef = true) : fits t v = true := by cases t <;> first | (cases ht; done) | (cases v <;> first | rfl | (cases hv; done))
/-! arrays, whole -/
def AR (Z : State) (h : Heap) (a : Addr) (ty : FieldType) (vs : List Value) : Prop := ∃ c : Cell, Arr Z h a c ty ∧ c.slots.toList = vs ∧ vs.length < 2147483648 ∧ ∀ v ∈ vs, fits ty v = true
abbrev AI (Z : State) (h : Heap) (a : Addr) (ty : FieldType) (xs : List Int32) : Prop := AR Z h a ty (xs.map Value.int)
theorem AR.ext {a : Addr} {ty : FieldType} {vs : List Value} {h' : Heap} (A : AR Z h a ty vs) (E : Ext h h') : AR Z h' a ty vs := by obtain ⟨c, A, r⟩ := A; exact ⟨c, A.ext E, r⟩
theorem AR.keep {a : Addr} {ty : FieldType} {vs : List Value} {h' : Heap} {ws : List Addr} (A : AR Z h a ty vs) (K : Keep h h' ws) (q : a ∉ ws) : AR Z h' a ty vs := by obtain ⟨c, A, r⟩ := A; exact ⟨c, ⟨K.2.1 a c A.1 q, A.2⟩, r⟩
theorem AR.other {a b : Addr} {ty : FieldType} {vs : List Value} {h' : Heap} {sl : Nat} {v : Value} (A : AR Z h b ty vs) (W : Wr h h' a sl v) (q : b ≠ a) : AR Z h' b ty vs := by obtain ⟨c, A, r⟩ := A; exact ⟨c, A.other W q, r⟩
theorem AR.lt {a : Addr} {ty : FieldType} {vs : List Value} (A : AR Z h a ty vs) : a < h.size := by obtain ⟨c, A, -⟩ := A; exact A.lt
theorem AR.len {a : Addr} {ty : FieldType} {vs : List Value} (A : AR Z h a ty vs) : vs.length < 2147483648 := by obtain ⟨c, -, -, r, -⟩ := A; exact r
theorem AR.fit {a : Addr} {ty : FieldType} {vs : List Value} (A : AR Z h a ty vs) : ∀ v ∈ vs, fits ty v = true := by obtain ⟨c, -, -, -, r⟩ := A; exact r
theorem AR.of_new {a : Addr} {ty : FieldType} {cA : ClassId} {z : Int32} (A : Arr Z h a (newA cA ty z) ty) (hz : ¬ z < 0) (hf : fits ty (defaultValue ty) = true) : AR Z h a ty (List.replicate z.toNatClampNeg (defaultValue ty)) := by
  refine ⟨_, A, ?_, ?_, ?_⟩
  · simp [newA]
  · have := (back32 hz).2; simp; omega
  · intro v hv; rw [List.eq_of_mem_replicate hv]; exact hf
theorem AR.of_arv {a : Addr} {ty : FieldType} {kk : ClassId} {z : Int32} {vs : List Value} {d : Value} (A : Arv Z h a kk ty z vs d) (hl : z.toNatClampNeg = vs.length) : AR Z h a ty vs := by
  obtain ⟨c, A, -, S, N, H, G⟩ := A
  have hs : c.slots.toList = vs := by
    apply List.ext_getElem?
    intro i
    rw [Array.getElem?_toList]
    by_cases hi : i < c.slots.size
    · rw [H i hi]
      have : i < vs.length := by omega
      simp [List.getD_eq_getElem?_getD, List.getElem?_eq_getElem this]
    · rw [Array.getElem?_eq_none (by omega), List.getElem?_eq_none (by omega)]
  refine ⟨c, A, hs, ?_, ?_⟩
  · have := (back32 N).2; omega
  · intro v hv
    obtain ⟨i, hi, rfl⟩ := List.mem_iff_getElem.mp hv
    have q := G i (by omega)
    rwa [List.getD_eq_getElem?_getD, List.getElem?_eq_getElem hi, Option.getD_some] at q
/-- an index inside -/
theorem idx_ok {j : Int32} {N : Nat} {c : Cell} {vs : List Value} (hc : c.slots.toList = vs) (h1 : ¬ j < 0) (h2 : j.toNatClampNeg < vs.length) : ¬ (j < 0 ∨ c.slots.size ≤ j.toNatClampNeg) := by
  have : c.slots.size = vs.length := by rw [← hc]; simp
  rintro (q | q)
  · exact h1 q
  · omega
theorem AR.set {a : Addr} {ty : FieldType} {vs : List Value} {h' : Heap} {i : Nat} {v : Value} (A : AR Z h a ty vs) (W : Wr h h' a i v) (hv : fits ty v = true) : AR Z h' a ty (vs.set i v) := by
  obtain ⟨c, A, hc, hl, hf⟩ := A
  refine ⟨_, A.same W, ?_, by simpa using hl, fun u hu => ?_⟩
  · subst hc; simp [Cell.setSlot]
  · rcases List.mem_or_eq_of_mem_set hu with q | q
    · exact hf u q
    · rw [q]; exact hv
/-! heap steps -/
theorem g_getF (w : OW p l e R s m args below meth c Z a0 EL own nm bytes maxL ret wl h0 sf T h k n) {R0 O f d host : String} {index : Nat} {a : Addr} {v : Value} (lk : (Cond.fieldLink own index R0 f d).before a0 Z = true ∨ (Cond.fieldLinkNest own index R0 f d host).before a0 Z = true) (via : Via Z R0 O f d) (FF : Fld Z h a O f d v)
    (hd : decode bytes pc = .ok (.getfield index, 3)) (nx : ∀ T' : State, OW p l e R s m args below meth c Z a0 EL own nm bytes maxL ret wl h0 sf T' h k n → Go p.tables e below F (T'.setTop (mkF m (pc + 3) Ls (v :: S)))) : Go p.tables e below F (T.setTop (mkF m pc Ls (.ref a :: S))) := by
  obtain ⟨w0, vm0, k0, L, X, g1, g2, g3, g4, g5, g6⟩ := w
  obtain ⟨T', X', e', st⟩ := getF X w0.1 g4 g5 lk via g1 FF (g := mkF m pc Ls (.ref a :: S)) rfl rfl (hb w0.2.1 hd)
  exact goS st (nx T' ⟨w0, vm0, k0, L, X', e', g2, g3, g4, g5, g6⟩)
theorem g_getS (w : OW p l e R s m args below meth c Z a0 EL own nm bytes maxL ret wl h0 sf T h k n) {R0 O f d host : String} {index : Nat} {v : Value} (lk : (Cond.fieldLink own index R0 f d).before a0 Z = true ∨ (Cond.fieldLinkNest own index R0 f d host).before a0 Z = true) (via : Via Z R0 O f d) (FF : Sta Z Z.heap O f d v)
    (hd : decode bytes pc = .ok (.getstatic index, 3)) (nx : ∀ T' : State, OW p l e R s m args below meth c Z a0 EL own nm bytes maxL ret wl h0 sf T' h k n → Go p.tables e below F (T'.setTop (mkF m (pc + 3) Ls (v :: S)))) : Go p.tables e below F (T.setTop (mkF m pc Ls S)) := by
  obtain ⟨w0, vm0, k0, L, X, g1, g2, g3, g4, g5, g6⟩ := w
  obtain ⟨T', X', e', st⟩ := getS2 X w0.1 g4 g5 lk via g1 (FF.ext g6.2.2.2.1) (g := mkF m pc Ls S) rfl (hb w0.2.1 hd)
  exact goS st (nx T' ⟨w0, vm0, k0, L, X', e', g2, g3, g4, g5, g6⟩)
theorem OW.wrote {T' : State} {h' : Heap} {a : Addr} {sl : Nat} {v : Value} (w0 : Cx p meth c Z a0 EL nm bytes maxL ret wl h0) {vm0 : Vm} {k0 : Nat} {L : List Loc} (X : Stand p l e R (s.setVm vm0) m args below meth c T' (L ++ [⟨a, sl⟩]) k n) (e1 : T'.heap = h') (W : Wr h h' a sl v)
    (g2 : s.Since vm0 k0) (g3 : k0 ≤ h.size) (g4 : Z.Warmed39 vm0) (g5 : vm0.findClass own = some m.cls) (g6 : ∀ y ∈ L, y.base ∈ wl ∨ h0.size ≤ y.base) (g7 : Keep h0 h wl) (g8 : CHr Z EL s.vm h0 vm0 h) (gE : Ext Z.heap h) (g9 : ∀ x ∈ sf, x < h.size ∧ Safe Z EL vm0 h x) (ha : a ∈ wl ∨ h0.size ≤ a) (hs : a ∈ sf) :
    OW p l e R s m args below meth c Z a0 EL own nm bytes maxL ret wl h0 sf T' h' k n := by
  have hw := W.size
  refine ⟨w0, vm0, k0, _, X, e1, g2, by rw [hw]; exact g3, g4, g5, ?_, g7.wr W ha, g8.trans (CHr.wr W (g9 a hs).2 g8.1), extKeep gE (Keep.of_wr W) (allS (w0.ge ha) all0), fun x hx => ⟨by rw [hw]; exact (g9 x hx).1, Safe.wr W (g9 a hs).2 g8.1 (g9 x hx).2⟩⟩
  intro y hy
  rcases List.mem_append.mp hy with q | q
  · exact g6 y q
  · cases List.mem_singleton.mp q; exact ha
theorem g_putF (w : OW p l e R s m args below meth c Z a0 EL own nm bytes maxL ret wl h0 sf T h k n) {R0 O f d host C : String} {index kk : Nat} {ty : FieldType} {a : Addr} {v old : Value} (lk : (Cond.fieldLink own index R0 f d).before a0 Z = true ∨ (Cond.fieldLinkNest own index R0 f d host).before a0 Z = true) (via : Via Z R0 O f d) (FF : Fld Z h a O f d old) (E : Exa Z h a C)
    (La : (Cond.lays C O f d).before a0 Z = true ∨ ((Cond.laysFinal C O f d).before a0 Z = true ∧ own = O ∧ nm = "<init>")) (wi : (Cond.instantiable C kk).before a0 Z = true) (hty : parseFieldDescriptor d = some ty) (hn : narrow ty v = v) (hf : fits ty v = true) (ha : a ∈ wl ∨ h0.size ≤ a) (hs : a ∈ sf)
    (hd : decode bytes pc = .ok (.putfield index, 3)) (nx : ∀ (T' : State) (h' : Heap), OW p l e R s m args below meth c Z a0 EL own nm bytes maxL ret wl h0 sf T' h' k n → Wr h h' a (slotOf Z O f d) v → Go p.tables e below F (T'.setTop (mkF m (pc + 3) Ls S))) : Go p.tables e below F (T.setTop (mkF m pc Ls (v :: .ref a :: S))) := by
  obtain ⟨w0, vm0, k0, L, X, g1, g2, g3, g4, g5, g6, g7, g8, gE, g9⟩ := w
  obtain ⟨T', h', X', e', W, st⟩ := putF X w0.1 g4 g5 lk via g1 FF E (La.imp id fun q => ⟨q.1, q.2.1, w0.2.2.2.2.2.1.trans q.2.2⟩) wi hty hn hf (g := mkF m pc Ls (v :: .ref a :: S)) rfl rfl (hb w0.2.1 hd)
  exact goS st (nx T' h' (OW.wrote w0 X' e' W g2 g3 g4 g5 g6 g7 g8 gE g9 ha hs) W)
theorem g_new (w : OW p l e R s m args below meth c Z a0 EL own nm bytes maxL ret wl h0 sf T h k n) {C : String} {index sz : Nat} (w1 : (Cond.classLink own index C).before a0 Z = true) (wi : (Cond.instantiable C sz).before a0 Z = true) (wz : (Cond.initialized C).before a0 Z = true) (hc : k + 1 ≤ R.cells) (hl : n + sz ≤ R.slots)
    (hd : decode bytes pc = .ok (.new index, 3)) (nx : ∀ (T' : State) (h' : Heap) (b : Addr), OW p l e R s m args below meth c Z a0 EL own nm bytes maxL ret wl h0 (b :: sf) T' h' (k + 1) (n + sz) → b = h.size → h0.size ≤ b → Ext h h' → Exa Z h' b C → (∀ {O f d : String} {ty : FieldType}, Laid Z a0 C O f d → parseFieldDescriptor d = some ty → Fld Z h' b O f d (defaultValue ty)) → Go p.tables e below F (T'.setTop (mkF m (pc + 3) Ls (.ref b :: S)))) : Go p.tables e below F (T.setTop (mkF m pc Ls S)) := by
  obtain ⟨w0, vm0, k0, L, X, g1, g2, g3, g4, g5, g6, g7, g8, gE, g9⟩ := w
  obtain ⟨T', h', X', e', E, A, D, ⟨cell, hcell, -⟩, st⟩ := newO X w0.1 g4 g5 w1 wi wz g1 (g := mkF m pc Ls S) rfl (hb w0.2.1 hd) hc hl
  refine goS st (nx T' h' h.size ⟨w0, vm0, k0, L, X', e', g2, Nat.le_trans g3 E.1, g4, g5, g6, g7.ext E, g8.trans (CHr.ext E g8.1), extExt gE E, fun x hx => ?_⟩ rfl g7.1 E A D)
  rcases List.mem_cons.mp hx with rfl | hx
  · exact ⟨(Array.getElem?_eq_some_iff.mp hcell).1, (Safe.new (Nat.le_refl _)).ext E g8.1⟩
  · exact ⟨Nat.lt_of_lt_of_le (g9 x hx).1 E.1, (g9 x hx).2.ext E g8.1⟩
theorem g_newP (w : OW p l e R s m args below meth c Z a0 EL own nm bytes maxL ret wl h0 sf T h k n) {aty : ArrayType} {z : Int32} {cap : Nat} (w1 : (Cond.arrayClass (newarray.typeOf aty)).before a0 Z = true) (hz : ¬ z < 0) (hcap : z.toNatClampNeg ≤ cap) (hcb : cap * 8 ≤ 536870912) (hc : k + 1 ≤ R.cells) (hl : n + cap ≤ R.slots)
    (hd : decode bytes pc = .ok (.newarray aty, 2)) (nx : ∀ (T' : State) (h' : Heap) (b : Addr), OW p l e R s m args below meth c Z a0 EL own nm bytes maxL ret wl h0 (b :: sf) T' h' (k + 1) (n + cap) → b = h.size → h0.size ≤ b → Ext h h' → AR Z h' b (newarray.typeOf aty) (List.replicate z.toNatClampNeg (defaultValue (newarray.typeOf aty))) → Go p.tables e below F (T'.setTop (mkF m (pc + 2) Ls (.ref b :: S)))) : Go p.tables e below F (T.setTop (mkF m pc Ls (.int z :: S))) := by
  obtain ⟨w0, vm0, k0, L, X, g1, g2, g3, g4, g5, g6, g7, g8, gE, g9⟩ := w
  obtain ⟨T', h', cA, X', e', E, A, st⟩ := newP X w0.1 g4 w1 g1 (g := mkF m pc Ls (.int z :: S)) rfl (hb w0.2.1 hd) rfl hz hcap hcb hc hl
  refine goS st (nx T' h' h.size ⟨w0, vm0, k0, L, X', e', g2, Nat.le_trans g3 E.1, g4, g5, g6, g7.ext E, g8.trans (CHr.ext E g8.1), extExt gE E, fun x hx => ?_⟩ rfl g7.1 E (AR.of_new A hz (by cases aty <;> rfl)))
  rcases List.mem_cons.mp hx with rfl | hx
  · exact ⟨A.lt, (Safe.new (Nat.le_refl _)).ext E g8.1⟩
  · exact ⟨Nat.lt_of_lt_of_le (g9 x hx).1 E.1, (g9 x hx).2.ext E g8.1⟩
theorem g_alen (w : OW p l e R s m args below meth c Z a0 EL own nm bytes maxL ret wl h0 sf T h k n) {a : Addr} {ty : FieldType} {vs : List Value} (A : AR Z h a ty vs) (hd : decode bytes pc = .ok (.arraylength, 1)) (nx : Go p.tables e below F (T.setTop (mkF m (pc + 1) Ls (.int vs.length.toInt32 :: S)))) : Go p.tables e below F (T.setTop (mkF m pc Ls (.ref a :: S))) := by
  obtain ⟨w0, vm0, k0, L, X, g1, g2, g3, g4, g5, g6⟩ := w
  obtain ⟨c', A, hc, -⟩ := A
  have hl : c'.slots.size = vs.length := by rw [← hc]; simp
  refine goS (fun t q => X.arraylength w0.1 (by rw [g1]; exact A.1) (State.isArrayOf_alike (T := s.setVm vm0) g4.alike A.2.1) (g := mkF m pc Ls (.ref a :: S)) rfl rfl (hb w0.2.1 hd) t q) ?_
  show Go p.tables e below F (T.setTop (mkF m (pc + 1) Ls (.int c'.slots.size.toInt32 :: S)))
  rw [hl]; exact nx
theorem g_caload (w : OW p l e R s m args below meth c Z a0 EL own nm bytes maxL ret wl h0 sf T h k n) {a : Addr} {vs : List Value} {j : Int32} {v : Value} (A : AR Z h a .char vs) (hj : ¬ j < 0) (hv : vs[j.toNatClampNeg]? = some v) (hd : decode bytes pc = .ok (.caload, 1)) (nx : Go p.tables e below F (T.setTop (mkF m (pc + 1) Ls (v :: S)))) : Go p.tables e below F (T.setTop (mkF m pc Ls (.int j :: .ref a :: S))) := by
  obtain ⟨w0, vm0, k0, L, X, g1, g2, g3, g4, g5, g6⟩ := w
  obtain ⟨c', A, hc, -⟩ := A
  exact goS (fun t q => X.caload w0.1 (by rw [g1]; exact A.1) (State.isArrayOf_alike (T := s.setVm vm0) g4.alike A.2.1) A.2.2 (idx_ok (N := 0) hc hj (List.getElem?_eq_some_iff.mp hv).1) (by rw [← Array.getElem?_toList, hc]; exact hv) (g := mkF m pc Ls (.int j :: .ref a :: S)) rfl rfl (hb w0.2.1 hd) t q) nx
theorem g_baload (w : OW p l e R s m args below meth c Z a0 EL own nm bytes maxL ret wl h0 sf T h k n) {a : Addr} {vs : List Value} {j : Int32} {v : Value} (A : AR Z h a .byte vs) (hj : ¬ j < 0) (hv : vs[j.toNatClampNeg]? = some v) (hd : decode bytes pc = .ok (.baload, 1)) (nx : Go p.tables e below F (T.setTop (mkF m (pc + 1) Ls (v :: S)))) : Go p.tables e below F (T.setTop (mkF m pc Ls (.int j :: .ref a :: S))) := by
  obtain ⟨w0, vm0, k0, L, X, g1, g2, g3, g4, g5, g6⟩ := w
  obtain ⟨c', A, hc, -⟩ := A
  exact goS (fun t q => X.baloadBytes w0.1 (by rw [g1]; exact A.1) (State.isArrayOf_alike (T := s.setVm vm0) g4.alike A.2.1) A.2.2 (idx_ok (N := 0) hc hj (List.getElem?_eq_some_iff.mp hv).1) (by rw [← Array.getElem?_toList, hc]; exact hv) (g := mkF m pc Ls (.int j :: .ref a :: S)) rfl rfl (hb w0.2.1 hd) t q) nx
theorem g_castore (w : OW p l e R s m args below meth c Z a0 EL own nm bytes maxL ret wl h0 sf T h k n) {a : Addr} {vs : List Value} {j x : Int32} (A : AR Z h a .char vs) (hj : ¬ j < 0) (hi : j.toNatClampNeg < vs.length) (ha : a ∈ wl ∨ h0.size ≤ a) (hs : a ∈ sf) (hd : decode bytes pc = .ok (.castore, 1))
    (nx : ∀ (T' : State) (h' : Heap), OW p l e R s m args below meth c Z a0 EL own nm bytes maxL ret wl h0 sf T' h' k n → Wr h h' a j.toNatClampNeg (.int (nar .char x)) → AR Z h' a .char (vs.set j.toNatClampNeg (.int (nar .char x))) → Go p.tables e below F (T'.setTop (mkF m (pc + 1) Ls S))) : Go p.tables e below F (T.setTop (mkF m pc Ls (.int x :: .int j :: .ref a :: S))) := by
  obtain ⟨w0, vm0, k0, L, X, g1, g2, g3, g4, g5, g6, g7, g8, gE, g9⟩ := w
  have A0 := A
  obtain ⟨c', A, hc, -⟩ := A
  obtain ⟨T', h', X', e', W, st⟩ := stC X w0.1 g4 g1 A (idx_ok (N := 0) hc hj hi) (g := mkF m pc Ls (.int x :: .int j :: .ref a :: S)) rfl rfl (hb w0.2.1 hd)
  exact goS st (nx T' h' (OW.wrote w0 X' e' W g2 g3 g4 g5 g6 g7 g8 gE g9 ha hs) W (A0.set W (fits_nar_char _)))
theorem g_bastore (w : OW p l e R s m args below meth c Z a0 EL own nm bytes maxL ret wl h0 sf T h k n) {a : Addr} {vs : List Value} {j x : Int32} (A : AR Z h a .byte vs) (hj : ¬ j < 0) (hi : j.toNatClampNeg < vs.length) (ha : a ∈ wl ∨ h0.size ≤ a) (hs : a ∈ sf) (hd : decode bytes pc = .ok (.bastore, 1))
    (nx : ∀ (T' : State) (h' : Heap), OW p l e R s m args below meth c Z a0 EL own nm bytes maxL ret wl h0 sf T' h' k n → Wr h h' a j.toNatClampNeg (.int x.toInt8.toInt32) → AR Z h' a .byte (vs.set j.toNatClampNeg (.int x.toInt8.toInt32)) → Go p.tables e below F (T'.setTop (mkF m (pc + 1) Ls S))) : Go p.tables e below F (T.setTop (mkF m pc Ls (.int x :: .int j :: .ref a :: S))) := by
  obtain ⟨w0, vm0, k0, L, X, g1, g2, g3, g4, g5, g6, g7, g8, gE, g9⟩ := w
  have A0 := A
  obtain ⟨c', A, hc, -⟩ := A
  obtain ⟨T', h', X', e', W, st⟩ := stB X w0.1 g4 g1 A (idx_ok (N := 0) hc hj hi) (g := mkF m pc Ls (.int x :: .int j :: .ref a :: S)) rfl rfl (hb w0.2.1 hd)
  exact goS st (nx T' h' (OW.wrote w0 X' e' W g2 g3 g4 g5 g6 g7 g8 gE g9 ha hs) W (A0.set W (fits_nar_byte _)))
theorem g_ldcO (w : OW p l e R s m args below meth c Z a0 EL own nm bytes maxL ret wl h0 sf T h k n) {text : String} {index sz : Nat} (w1 : (Cond.stringLink own index text).before a0 Z = true) (wS : ∀ a ∈ Bundle.stringAtoms, a.before a0 Z = true) (hn : 4 * text.toList.length ≤ sz) (hbig : sz ≤ 536870912) (hc : k + 2 ≤ R.cells) (hl : n + (sz + 4) ≤ R.slots)
    (hd : decode bytes pc = .ok (.ldc index, 2)) (nx : ∀ (T' : State) (h' : Heap) (b : Addr), OW p l e R s m args below meth c Z a0 EL own nm bytes maxL ret wl h0 sf T' h' (k + 2) (n + (sz + 4)) → Ext h h' → Go p.tables e below F (T'.setTop (mkF m (pc + 2) Ls (.ref b :: S)))) : Go p.tables e below F (T.setTop (mkF m pc Ls S)) := by
  obtain ⟨w0, vm0, k0, L, X, g1, g2, g3, g4, g5, g6, g7, g8, gE, g9⟩ := w
  obtain ⟨b, T', h', k1, X', e', E, hS, hk, hZ, ho, hC, -, st⟩ := ldcOH X w0.1 g4 g5 w1 wS g1 g2 g3 w0.ew g8.1 (g := mkF m pc Ls S) rfl (hb w0.2.1 hd) hn hbig hc hl
  exact goS st (nx T' h' b ⟨w0, T'.vm, k1, L, X', e', hS, hk, hZ, ho, g6, g7.ext E, g8.trans hC, extExt gE E, fun x hx => ⟨Nat.lt_of_lt_of_le (g9 x hx).1 E.1, hC.safe (g9 x hx).1 (g9 x hx).2⟩⟩ E)
/-- a literal of EL, its text read -/
theorem g_ldcR (w : OW p l e R s m args below meth c Z a0 EL own nm bytes maxL ret wl h0 sf T h k n) {text : String} {index sz : Nat} {vs : List Value} {z : Int32} (w1 : (Cond.stringLink own index text).before a0 Z = true) (wS : ∀ a ∈ Bundle.stringAtoms, a.before a0 Z = true) (hm : (own, index) ∈ EL) (ht : (∀ c ∈ text.toList, c.toNat < 256) ∧ text.toList.map (fun c => Value.int (Jvm.Lit.byteI c.toNat.toUInt16)) = vs) (hz : ¬ z < 0) (hzl : z.toNatClampNeg = vs.length)
    (hn : 4 * text.toList.length ≤ sz) (hbig : sz ≤ 536870912) (hc : k + 2 ≤ R.cells) (hl : n + (sz + 4) ≤ R.slots)
    (hd : decode bytes pc = .ok (.ldc index, 2)) (nx : ∀ (T' : State) (h' : Heap) (b t : Addr), OW p l e R s m args below meth c Z a0 EL own nm bytes maxL ret wl h0 sf T' h' (k + 2) (n + (sz + 4)) → Ext h h' → Exa Z h' b "java/lang/String" → Fld Z h' b "java/lang/String" "coder" "B" (.int 0) → Fld Z h' b "java/lang/String" "value" "[B" (.ref t) → AR Z h' t .byte vs → (∀ x ∈ sf, x ≠ b ∧ x ≠ t) → Go p.tables e below F (T'.setTop (mkF m (pc + 2) Ls (.ref b :: S)))) : Go p.tables e below F (T.setTop (mkF m pc Ls S)) := by
  obtain ⟨w0, vm0, k0, L, X, g1, g2, g3, g4, g5, g6, g7, g8, gE, g9⟩ := w
  obtain ⟨b, T', h', k1, t, kc, X', e', E, hS, hk, hZ, ho, q1, q2, q3, q4, -, -, hC, -, hne, st⟩ := ldcCH X w0.1 g4 g5 w1 wS g1 g2 g3 w0.ew hm g8.1 ht hz hzl (g := mkF m pc Ls S) rfl (hb w0.2.1 hd) hn hbig hc hl
  have hs' : ∀ x ∈ sf, x < h'.size ∧ Safe Z EL T'.vm h' x := fun x hx => ⟨Nat.lt_of_lt_of_le (g9 x hx).1 E.1, hC.safe (g9 x hx).1 (g9 x hx).2⟩
  exact goS st (nx T' h' b t ⟨w0, T'.vm, k1, L, X', e', hS, hk, hZ, ho, g6, g7.ext E, g8.trans hC, extExt gE E, hs'⟩ E q1 q2 q3 (AR.of_arv q4 hzl) fun x hx => hne x (hs' x hx).2)
theorem g_initO (w : OW p l e R s m args below meth c Z a0 EL own nm bytes maxL ret wl h0 sf T h k n) {idx : Nat} {a : Addr} (w1 : (Cond.methodLink own idx Lib.objectInit).before a0 Z = true) (w2 : (Cond.instanceMethod Lib.objectInit).before a0 Z = true) (w3 : (Cond.code Lib.objectInit ⟨#[0xb1]⟩ 1 none).before a0 Z = true) (hsz : Ls.size = maxL) (hf : 1 ≤ R.frames) {W : Nat} (hW : (S.map fun v => v.category).sum ≤ W) (hlo : W + 12 ≤ R.locals)
    (hd : decode bytes pc = .ok (.invokespecial idx, 3)) (nx : ∀ T' : State, OW p l e R s m args below meth c Z a0 EL own nm bytes maxL ret wl h0 sf T' h k n → Go p.tables e below F (T'.setTop (mkF m (pc + 3) Ls S))) : Go p.tables e below F (T.setTop (mkF m pc Ls (.ref a :: S))) := by
  obtain ⟨w0, vm0, k0, L, X, g1, g2, g3, g4, g5, g6⟩ := w
  obtain ⟨T', X', e', st⟩ := initO X w0.1 g4 g5 w1 w2 w3 g1 (g := mkF m pc Ls (.ref a :: S)) rfl (by rw [w0.2.2.1]; exact hsz) rfl (hb w0.2.1 hd) hf (W := W) (by show 2 * 0 + _ ≤ _; omega) hlo
  exact goS st (nx T' ⟨w0, vm0, k0, L, X', e', g2, g3, g4, g5, g6⟩)
theorem g_ldcI (w : OW p l e R s m args below meth c Z a0 EL own nm bytes maxL ret wl h0 sf T h k n) {index : Nat} {v : Int32} (w1 : (Cond.constant own index v).before a0 Z = true) (hd : decode bytes pc = .ok (.ldc index, 2)) (nx : Go p.tables e below F (T.setTop (mkF m (pc + 2) Ls (.int v :: S)))) : Go p.tables e below F (T.setTop (mkF m pc Ls S)) := by
  obtain ⟨w0, vm0, k0, L, X, g1, g2, g3, g4, g5, g6⟩ := w
  exact goS (fun t q => X.ldcInt w0.1 (own := own) g5 (mvT g4 w1) (g := mkF m pc Ls S) rfl (hb w0.2.1 hd) t q) nx
theorem g_ldcwI (w : OW p l e R s m args below meth c Z a0 EL own nm bytes maxL ret wl h0 sf T h k n) {index : Nat} {v : Int32} (w1 : (Cond.constant own index v).before a0 Z = true) (hd : decode bytes pc = .ok (.ldc_w index, 3)) (nx : Go p.tables e below F (T.setTop (mkF m (pc + 3) Ls (.int v :: S)))) : Go p.tables e below F (T.setTop (mkF m pc Ls S)) := by
  obtain ⟨w0, vm0, k0, L, X, g1, g2, g3, g4, g5, g6⟩ := w
  exact goS (fun t q => X.ldcwInt w0.1 (own := own) g5 (mvT g4 w1) (g := mkF m pc Ls S) rfl (hb w0.2.1 hd) t q) nx
theorem g_ldc2L (w : OW p l e R s m args below meth c Z a0 EL own nm bytes maxL ret wl h0 sf T h k n) {index : Nat} {v : Int64} (w1 : (Cond.constantLong own index v).before a0 Z = true) (hd : decode bytes pc = .ok (.ldc2_w index, 3)) (nx : Go p.tables e below F (T.setTop (mkF m (pc + 3) Ls (.long v :: S)))) : Go p.tables e below F (T.setTop (mkF m pc Ls S)) := by
  obtain ⟨w0, vm0, k0, L, X, g1, g2, g3, g4, g5, g6⟩ := w
  exact goS (fun t q => X.ldc2Long w0.1 (own := own) g5 (mvT g4 w1) (g := mkF m pc Ls S) rfl (hb w0.2.1 hd) t q) nx
theorem g_castY (w : OW p l e R s m args below meth c Z a0 EL own nm bytes maxL ret wl h0 sf T h k n) {K : String} {index : Nat} {a : Addr} (w1 : (Cond.classLink own index K).before a0 Z = true) (I : Ins Z h a K true) (hd : decode bytes pc = .ok (.checkcast index, 3)) (nx : ∀ T' : State, OW p l e R s m args below meth c Z a0 EL own nm bytes maxL ret wl h0 sf T' h k n → Go p.tables e below F (T'.setTop (mkF m (pc + 3) Ls (.ref a :: S)))) : Go p.tables e below F (T.setTop (mkF m pc Ls (.ref a :: S))) := by
  obtain ⟨w0, vm0, k0, L, X, g1, g2, g3, g4, g5, g6⟩ := w
  obtain ⟨T', X', e', st⟩ := castY X w0.1 g4 g5 w1 g1 I (g := mkF m pc Ls (.ref a :: S)) rfl rfl (hb w0.2.1 hd)
  exact goS st (nx T' ⟨w0, vm0, k0, L, X', e', g2, g3, g4, g5, g6⟩)
theorem g_instY (w : OW p l e R s m args below meth c Z a0 EL own nm bytes maxL ret wl h0 sf T h k n) {K : String} {index : Nat} {a : Addr} (w1 : (Cond.classLink own index K).before a0 Z = true) (I : Ins Z h a K true) (hd : decode bytes pc = .ok (.instanceof index, 3)) (nx : ∀ T' : State, OW p l e R s m args below meth c Z a0 EL own nm bytes maxL ret wl h0 sf T' h k n → Go p.tables e below F (T'.setTop (mkF m (pc + 3) Ls (.int 1 :: S)))) : Go p.tables e below F (T.setTop (mkF m pc Ls (.ref a :: S))) := by
  obtain ⟨w0, vm0, k0, L, X, g1, g2, g3, g4, g5, g6⟩ := w
  obtain ⟨T', X', e', st⟩ := instY X w0.1 g4 g5 w1 g1 I (g := mkF m pc Ls (.ref a :: S)) rfl rfl (hb w0.2.1 hd)
  exact goS st (nx T' ⟨w0, vm0, k0, L, X', e', g2, g3, g4, g5, g6⟩)
theorem g_instNo (w : OW p l e R s m args below meth c Z a0 EL own nm bytes maxL ret wl h0 sf T h k n) {K C : String} {index : Nat} {a : Addr} (w1 : (Cond.classLink own index K).before a0 Z = true) (E : Exa Z h a C) (N : ∃ c t, Z.vm.findClass C = some c ∧ Z.vm.findClass K = some t ∧ Z.vm.assignable c t = false) (hd : decode bytes pc = .ok (.instanceof index, 3)) (nx : ∀ T' : State, OW p l e R s m args below meth c Z a0 EL own nm bytes maxL ret wl h0 sf T' h k n → Go p.tables e below F (T'.setTop (mkF m (pc + 3) Ls (.int 0 :: S)))) : Go p.tables e below F (T.setTop (mkF m pc Ls (.ref a :: S))) := by
  obtain ⟨w0, vm0, k0, L, X, g1, g2, g3, g4, g5, g6⟩ := w
  obtain ⟨T', X', e', st⟩ := instNo X w0.1 g4 g5 w1 g1 E N (g := mkF m pc Ls (.ref a :: S)) rfl rfl (hb w0.2.1 hd)
  exact goS st (nx T' ⟨w0, vm0, k0, L, X', e', g2, g3, g4, g5, g6⟩)
/-! calls -/
theorem Con.back {y : MethodName} {by' : ByteArray} {mx : Nat} {rt : Option FieldType} {rm : Room} {len W : Nat} {as' : Array Value} {Q : Option Value → Heap → List Addr → Prop} {vm0 : Vm} {sf' wl' : List Addr}
    (hM : Con l Z a0 EL y by' mx rt rm as' h sf' wl' Q) (hZ : Z.Warmed39 vm0) (wc : (Cond.code y by' mx rt).before a0 Z = true) (wz : (Cond.initialized y.cls).before a0 Z = true) (hf : rm.frames + 1 ≤ R.frames) (hl : W + (mx + 11) + rm.locals ≤ R.locals) (hEL : EW Z a0 EL) (H : CHv Z EL vm0 h) (hX : Ext Z.heap h) (hwl : ∀ x ∈ wl', Z.heap.size ≤ x) (hs : ∀ x ∈ sf', x < h.size ∧ Safe Z EL vm0 h x) :
    BackS l R p e below (s.setVm vm0) args y len W (fun A a => a = as' ∧ A.U.heap = h ∧ A.cells + rm.cells ≤ R.cells ∧ A.slots + rm.slots ≤ R.slots)
      (fun A _ v B => ∃ (L : List Loc) (ns : List Addr), Q v B.U.heap ns ∧ Keep h B.U.heap wl' ∧ (∀ y ∈ L, y.base ∈ wl' ∨ h.size ≤ y.base) ∧ B.locs = A.locs ++ L ∧ B.cells = A.cells + rm.cells ∧ B.slots = A.slots + rm.slots ∧ CHr Z EL vm0 h B.U.vm B.U.heap ∧ ∀ x ∈ ns, x < B.U.heap.size ∧ Safe Z EL B.U.vm B.U.heap x) :=
  BackS.of_freeW (bytes := by') (maxL := mx) (ret := rt) (E := fun _ first o t L k n => k = rm.cells ∧ n = rm.slots ∧ ∃ (v : Option Value) (ns : List Addr), o = .returned v ∧ Q v t.heap ns ∧ Keep h t.heap wl' ∧ (∀ y ∈ L, y.base ∈ wl' ∨ h.size ≤ y.base) ∧ CHr Z EL first.vm h t.vm t.heap ∧ ∀ x ∈ ns, x < t.heap.size ∧ Safe Z EL t.vm t.heap x) hM hf hl
    (fun m meth c A a Y hp => have hU : Z.Warmed39 A.U.vm := wtrans (s := s.setVm vm0) hZ Y.warmed
      ⟨by show (Cond.and _ .tt).before a A.U = true; rw [Cond.before_and, mv hU wc]; rfl, mv hU wc, mv hU wz, hp.2.2.1, hp.2.2.2⟩)
    (fun m meth c A a g mk Y hp => have q := CHv.at Y hZ hEL H
      ⟨hp.1, wtrans (s := s.setVm vm0) hZ Y.warmed, hp.2.1, q.1, hEL, hX, hwl, fun x hx => ⟨(hs x hx).1, q.safe (hs x hx).1 (hs x hx).2⟩⟩) (fun _ _ _ _ _ _ _ _ _ => trivial)
    (fun _ _ _ _ ⟨v, L, ns, z1, z2, z3, z4, z5, z6, z7⟩ => ⟨L, _, _, z7, rfl, rfl, v, ns, z1, z2, z3, z4, z5, z6⟩)
    (fun m meth c A a g mk v t L k n Y hp _ _ ⟨e1, e2, v', ns, e3, z2, z3, z4, z5, z6⟩ => by
      cases e3; subst e1 e2
      exact ⟨L, ns, z2, z3, z4, rfl, rfl, rfl, (CHv.at Y hZ hEL H).trans z5, z6⟩)
theorem OW.called {Q : Option Value → Heap → List Addr → Prop} {v : Option Value} {rm : Room} {B : Pt} {vm0 : Vm} {k0 : Nat} {L : List Loc} {wl' : List Addr} (w0 : Cx p meth c Z a0 EL nm bytes maxL ret wl h0) (g2 : s.Since vm0 k0) (g3 : k0 ≤ h.size) (g4 : Z.Warmed39 vm0) (g5 : vm0.findClass own = some m.cls) (g6 : ∀ y ∈ L, y.base ∈ wl ∨ h0.size ≤ y.base) (g7 : Keep h0 h wl) (g8 : CHr Z EL s.vm h0 vm0 h) (gE : Ext Z.heap h) (g9 : ∀ x ∈ sf, x < h.size ∧ Safe Z EL vm0 h x)
    (hwl : ∀ x ∈ wl', x ∈ wl ∨ h0.size ≤ x) (X : Stand p l e R ((s.setVm vm0).setVm B.U.vm) m args below meth c B.U B.locs B.cells B.slots) (hS : (s.setVm vm0).Since B.U.vm B.U.heap.size) (hg : h.size ≤ B.U.heap.size)
    (hP : ∃ (L' : List Loc) (ns : List Addr), Q v B.U.heap ns ∧ Keep h B.U.heap wl' ∧ (∀ y ∈ L', y.base ∈ wl' ∨ h.size ≤ y.base) ∧ B.locs = L ++ L' ∧ B.cells = k + rm.cells ∧ B.slots = n + rm.slots ∧ CHr Z EL vm0 h B.U.vm B.U.heap ∧ ∀ x ∈ ns, x < B.U.heap.size ∧ Safe Z EL B.U.vm B.U.heap x) :
    ∃ ns, Q v B.U.heap ns ∧ Keep h B.U.heap wl' ∧ OW p l e R s m args below meth c Z a0 EL own nm bytes maxL ret wl h0 (ns ++ sf) B.U B.U.heap (k + rm.cells) (n + rm.slots) := by
  obtain ⟨L', ns, q1, q2, q3, q4, q5, q6, q7, q8⟩ := hP
  rw [q4, q5, q6] at X
  refine ⟨ns, q1, q2, w0, B.U.vm, B.U.heap.size, _, X, rfl, g2.trans hS (Nat.le_trans g3 hg), Nat.le_refl _, State.Warmed39.trans (t := s.setVm vm0) g4 hS.1, (hS.1.alike.findClass _ _).trans g5, ?_, g7.trans q2 hwl, g8.trans q7, extKeep gE q2 (fun x hx => w0.ge (hwl x hx)), ?_⟩
  · intro y hy
    rcases List.mem_append.mp hy with z | z
    · exact g6 y z
    · rcases q3 y z with z | z
      · exact hwl _ z
      · exact Or.inr (Nat.le_trans g7.1 z)
  · intro x hx
    rcases List.mem_append.mp hx with z | z
    · exact q8 x z
    · exact ⟨Nat.lt_of_lt_of_le (g9 x z).1 hg, q7.safe (g9 x z).1 (g9 x z).2⟩
theorem g_static (w : OW p l e R s m args below meth c Z a0 EL own nm bytes maxL ret wl h0 sf T h k n) {y : MethodName} {by' : ByteArray} {mx : Nat} {rt : Option FieldType} {rm : Room} {Q : Option Value → Heap → List Addr → Prop} {sf' wl' : List Addr} {argsL rest : List Value} {index : Nat} {W : Nat}  (w1 : (Cond.methodLink own index y).before a0 Z = true) (w2 : (Cond.static y).before a0 Z = true) (wz : (Cond.initialized y.cls).before a0 Z = true) (wc : (Cond.code y by' mx rt).before a0 Z = true) (hy : y.cls ≠ "java/lang/invoke/MethodHandle" ∧ y.cls ≠ "java/lang/invoke/VarHandle") (hM : Con l Z a0 EL y by' mx rt rm argsL.toArray h sf' wl' Q) (hsf : ∀ x ∈ sf', x ∈ sf) (hwl : ∀ x ∈ wl', x ∈ wl ∨ h0.size ≤ x) (hsz : Ls.size = maxL) (hlen : ∀ sig, parseMethodDescriptor y.desc = some sig → argsL.length = sig.parameters.length) (hst : S = argsL.reverse ++ rest)
    (hfr : rm.frames + 1 ≤ R.frames) (hW : (rest.map fun v => v.category).sum ≤ W) (hlo : W + (mx + 11) + rm.locals ≤ R.locals) (hce : k + rm.cells ≤ R.cells) (hsl : n + rm.slots ≤ R.slots) (hd : decode bytes pc = .ok (.invokestatic index, 3))
    (nx : ∀ (v : Option Value) (T' : State) (h' : Heap) (ns : List Addr), Q v h' ns → Keep h h' wl' → OW p l e R s m args below meth c Z a0 EL own nm bytes maxL ret wl h0 (ns ++ sf) T' h' (k + rm.cells) (n + rm.slots) → Go p.tables e below F (T'.setTop (mkF m (pc + 3) Ls (v.toList ++ rest)))) : Go p.tables e below F (T.setTop (mkF m pc Ls S)) := by
  subst hst
  obtain ⟨w0, vm0, k0, L, X, g1, g2, g3, g4, g5, g6, g7, g8, gE, g9⟩ := w
  have hK := fun (pp : Program) (ee : Env) (bl : List Frame) (ss : State) (aa : Array Value) => Con.back (p := pp) (e := ee) (below := bl) (s := ss) (args := aa) (R := R) (len := 3) (W := W) hM g4 wc wz hfr hlo w0.ew g8.1 gE (fun x hx => w0.ge (hwl x hx)) (fun x hx => g9 x (hsf x hx))
  obtain ⟨v, vm₁, B, -, X', hS, hgr, hpo, st⟩ := callSS X w0.1 (own := own) g5 (mvT g4 w1) (mvT g4 w2) (mvT g4 wz) (mvT g4 wc) hy (hK p e below s args) (g := mkF m pc Ls (argsL.reverse ++ rest)) rfl (by rw [w0.2.2.1]; exact hsz) (argsL := argsL) (rest := rest) hlen rfl (by show 2 * 0 + _ ≤ _; omega) (hb w0.2.1 hd) (fun vm₁ _ => ⟨rfl, g1, hce, hsl⟩)
  have hg' : h.size ≤ B.U.heap.size := by rw [← g1]; exact hgr
  obtain ⟨ns, q1, q2, q3⟩ := OW.called w0 g2 g3 g4 g5 g6 g7 g8 gE g9 hwl X' hS hg' hpo
  exact goS (fun t q => st.trans q) (nx v B.U B.U.heap ns q1 q2 q3)
theorem g_special (w : OW p l e R s m args below meth c Z a0 EL own nm bytes maxL ret wl h0 sf T h k n) {y : MethodName} {by' : ByteArray} {mx : Nat} {rt : Option FieldType} {rm : Room} {Q : Option Value → Heap → List Addr → Prop} {sf' wl' : List Addr} {argsL rest : List Value} {index : Nat} {W : Nat} {a : Addr} (hy1 : y.name = "<init>") (hrt : rt = none) (w1 : (Cond.methodLink own index y).before a0 Z = true) (w2 : (Cond.instanceMethod y).before a0 Z = true) (wz : (Cond.initialized y.cls).before a0 Z = true) (wc : (Cond.code y by' mx rt).before a0 Z = true) (hy : y.cls ≠ "java/lang/invoke/MethodHandle" ∧ y.cls ≠ "java/lang/invoke/VarHandle") (hM : Con l Z a0 EL y by' mx rt rm (.ref a :: argsL).toArray h sf' wl' Q) (hsf : ∀ x ∈ sf', x ∈ sf) (hwl : ∀ x ∈ wl', x ∈ wl ∨ h0.size ≤ x) (hsz : Ls.size = maxL) (hlen : ∀ sig, parseMethodDescriptor y.desc = some sig → argsL.length = sig.parameters.length) (hst : S = argsL.reverse ++ .ref a :: rest)
    (hfr : rm.frames + 1 ≤ R.frames) (hW : (rest.map fun v => v.category).sum ≤ W) (hlo : W + (mx + 11) + rm.locals ≤ R.locals) (hce : k + rm.cells ≤ R.cells) (hsl : n + rm.slots ≤ R.slots) (hd : decode bytes pc = .ok (.invokespecial index, 3))
    (nx : ∀ (v : Option Value) (T' : State) (h' : Heap) (ns : List Addr), Q v h' ns → Keep h h' wl' → OW p l e R s m args below meth c Z a0 EL own nm bytes maxL ret wl h0 (ns ++ sf) T' h' (k + rm.cells) (n + rm.slots) → Go p.tables e below F (T'.setTop (mkF m (pc + 3) Ls (v.toList ++ rest)))) : Go p.tables e below F (T.setTop (mkF m pc Ls S)) := by
  subst hst
  obtain ⟨w0, vm0, k0, L, X, g1, g2, g3, g4, g5, g6, g7, g8, gE, g9⟩ := w
  have hK := fun (pp : Program) (ee : Env) (bl : List Frame) (ss : State) (aa : Array Value) => Con.back (p := pp) (e := ee) (below := bl) (s := ss) (args := aa) (R := R) (len := 3) (W := W) hM g4 wc wz hfr hlo w0.ew g8.1 gE (fun x hx => w0.ge (hwl x hx)) (fun x hx => g9 x (hsf x hx))
  subst hrt
  obtain ⟨v, vm₁, B, -, X', hS, hgr, hpo, st⟩ := X.specialBackS w0.1 hy1 (own := own) g5 (mvT g4 w1) (mvT g4 w2) (mvT g4 wc) hy (hK p e below s args) (g := mkF m pc Ls (argsL.reverse ++ .ref a :: rest)) rfl (by rw [w0.2.2.1]; exact hsz) (Steps.refl _) (a := a) (argsL := argsL) (rest := rest) hlen rfl (by show 2 * 0 + _ ≤ _; omega) (hb w0.2.1 hd) (fun vm₁ _ => ⟨rfl, g1, hce, hsl⟩)
  have hg' : h.size ≤ B.U.heap.size := by rw [← g1]; exact hgr
  obtain ⟨ns, q1, q2, q3⟩ := OW.called w0 g2 g3 g4 g5 g6 g7 g8 gE g9 hwl X' hS hg' hpo
  exact goS (fun t q => st.trans q) (nx v B.U B.U.heap ns q1 q2 q3)
theorem g_virtual (w : OW p l e R s m args below meth c Z a0 EL own nm bytes maxL ret wl h0 sf T h k n) {y : MethodName} {by' : ByteArray} {mx : Nat} {rt : Option FieldType} {rm : Room} {Q : Option Value → Heap → List Addr → Prop} {sf' wl' : List Addr} {argsL rest : List Value} {index : Nat} {W : Nat} {x' : MethodName} {C : String} {a : Addr} (w1 : (Cond.methodLink own index x').before a0 Z = true) (w2 : (Cond.declares x').before a0 Z = true) (nf : ∀ (t : State), Z.Warmed39 t.vm → NotFace t x') (w3 : (Cond.selects C x' y).before a0 Z = true) (w4 : (Cond.instanceMethod y).before a0 Z = true) (wz : (Cond.initialized y.cls).before a0 Z = true) (wc : (Cond.code y by' mx rt).before a0 Z = true) (hy : x'.cls ≠ "java/lang/invoke/MethodHandle" ∧ x'.cls ≠ "java/lang/invoke/VarHandle") (E : Exa Z h a C) (hM : Con l Z a0 EL y by' mx rt rm (.ref a :: argsL).toArray h sf' wl' Q) (hsf : ∀ x ∈ sf', x ∈ sf) (hwl : ∀ x ∈ wl', x ∈ wl ∨ h0.size ≤ x) (hsz : Ls.size = maxL) (hlen : ∀ sig, parseMethodDescriptor x'.desc = some sig → argsL.length = sig.parameters.length) (hst : S = argsL.reverse ++ .ref a :: rest)
    (hfr : rm.frames + 1 ≤ R.frames) (hW : (rest.map fun v => v.category).sum ≤ W) (hlo : W + (mx + 11) + rm.locals ≤ R.locals) (hce : k + rm.cells ≤ R.cells) (hsl : n + rm.slots ≤ R.slots) (hd : decode bytes pc = .ok (.invokevirtual index, 3))
    (nx : ∀ (v : Option Value) (T' : State) (h' : Heap) (ns : List Addr), Q v h' ns → Keep h h' wl' → OW p l e R s m args below meth c Z a0 EL own nm bytes maxL ret wl h0 (ns ++ sf) T' h' (k + rm.cells) (n + rm.slots) → Go p.tables e below F (T'.setTop (mkF m (pc + 3) Ls (v.toList ++ rest)))) : Go p.tables e below F (T.setTop (mkF m pc Ls S)) := by
  subst hst
  obtain ⟨w0, vm0, k0, L, X, g1, g2, g3, g4, g5, g6, g7, g8, gE, g9⟩ := w
  have hK := fun (pp : Program) (ee : Env) (bl : List Frame) (ss : State) (aa : Array Value) => Con.back (p := pp) (e := ee) (below := bl) (s := ss) (args := aa) (R := R) (len := 3) (W := W) hM g4 wc wz hfr hlo w0.ew g8.1 gE (fun x hx => w0.ge (hwl x hx)) (fun x hx => g9 x (hsf x hx))
  obtain ⟨cB, kB, i1, i2, i3⟩ := isOf (s := s.setVm vm0) g4 g1 E
  obtain ⟨v, vm₁, B, -, X', hS, hgr, hpo, st⟩ := X.virtualBackS w0.1 (own := own) g5 (mvT g4 w1) (mvT g4 w2) (nf _ g4) (mvT g4 w3) (mvT g4 w4) hy (hK p e below s args) i1 i3 (g := mkF m pc Ls (argsL.reverse ++ .ref a :: rest)) rfl (by rw [w0.2.2.1]; exact hsz) (Steps.refl _) (argsL := argsL) (rest := rest) hlen rfl (by show 2 * 0 + _ ≤ _; omega) (hb w0.2.1 hd) (fun vm₁ _ => ⟨rfl, g1, hce, hsl⟩)
  have hg' : h.size ≤ B.U.heap.size := by rw [← g1]; exact hgr
  obtain ⟨ns, q1, q2, q3⟩ := OW.called w0 g2 g3 g4 g5 g6 g7 g8 gE g9 hwl X' hS hg' hpo
  exact goS (fun t q => st.trans q) (nx v B.U B.U.heap ns q1 q2 q3)
theorem g_face (w : OW p l e R s m args below meth c Z a0 EL own nm bytes maxL ret wl h0 sf T h k n) {y : MethodName} {by' : ByteArray} {mx : Nat} {rt : Option FieldType} {rm : Room} {Q : Option Value → Heap → List Addr → Prop} {sf' wl' : List Addr} {argsL rest : List Value} {index : Nat} {W : Nat} {x' : MethodName} {C : String} {a : Addr} {cnt : Nat} (w1 : (Cond.methodLink own index x').before a0 Z = true) (w2 : (Cond.declares x').before a0 Z = true) (w3 : ∀ (t : State) (aa : Array Value), Z.Warmed39 t.vm → (Cond.interfaceMethod x'.cls x'.cls x'.name x'.desc).before aa t = true) (w4 : (Cond.selects C x' y).before a0 Z = true) (w5 : (Cond.instanceMethod y).before a0 Z = true) (w6 : (Cond.publicMethod y).before a0 Z = true) (w7 : ∀ (t : State) (aa : Array Value), Z.Warmed39 t.vm → (Cond.unhidden C x'.name x'.desc).before aa t = true) (w8 : ∀ (t : State) (aa : Array Value), Z.Warmed39 t.vm → (Cond.castable C x'.cls).before aa t = true) (wz : (Cond.initialized y.cls).before a0 Z = true) (wc : (Cond.code y by' mx rt).before a0 Z = true) (hy : x'.cls ≠ "java/lang/invoke/MethodHandle" ∧ x'.cls ≠ "java/lang/invoke/VarHandle") (E : Exa Z h a C) (hM : Con l Z a0 EL y by' mx rt rm (.ref a :: argsL).toArray h sf' wl' Q) (hsf : ∀ x ∈ sf', x ∈ sf) (hwl : ∀ x ∈ wl', x ∈ wl ∨ h0.size ≤ x) (hsz : Ls.size = maxL) (hlen : ∀ sig, parseMethodDescriptor x'.desc = some sig → argsL.length = sig.parameters.length) (hst : S = argsL.reverse ++ .ref a :: rest)
    (hfr : rm.frames + 1 ≤ R.frames) (hW : (rest.map fun v => v.category).sum ≤ W) (hlo : W + (mx + 11) + rm.locals ≤ R.locals) (hce : k + rm.cells ≤ R.cells) (hsl : n + rm.slots ≤ R.slots) (hd : decode bytes pc = .ok (.invokeinterface index cnt, 5))
    (nx : ∀ (v : Option Value) (T' : State) (h' : Heap) (ns : List Addr), Q v h' ns → Keep h h' wl' → OW p l e R s m args below meth c Z a0 EL own nm bytes maxL ret wl h0 (ns ++ sf) T' h' (k + rm.cells) (n + rm.slots) → Go p.tables e below F (T'.setTop (mkF m (pc + 5) Ls (v.toList ++ rest)))) : Go p.tables e below F (T.setTop (mkF m pc Ls S)) := by
  subst hst
  obtain ⟨w0, vm0, k0, L, X, g1, g2, g3, g4, g5, g6, g7, g8, gE, g9⟩ := w
  have hK := fun (pp : Program) (ee : Env) (bl : List Frame) (ss : State) (aa : Array Value) => Con.back (p := pp) (e := ee) (below := bl) (s := ss) (args := aa) (R := R) (len := 5) (W := W) hM g4 wc wz hfr hlo w0.ew g8.1 gE (fun x hx => w0.ge (hwl x hx)) (fun x hx => g9 x (hsf x hx))
  obtain ⟨cB, kB, i1, i2, i3⟩ := isOf (s := s.setVm vm0) g4 g1 E
  obtain ⟨v, vm₁, B, -, X', hS, hgr, hpo, st⟩ := X.interfaceBackS w0.1 (own := own) g5 (mvT g4 w1) (mvT g4 w2) (w3 (s.setVm vm0) args g4) (mvT g4 w4) (mvT g4 w5) (mvT g4 w6) (w7 (s.setVm vm0) args g4) (w8 (s.setVm vm0) args g4) hy (hK p e below s args) i1 i2 i3 (g := mkF m pc Ls (argsL.reverse ++ .ref a :: rest)) rfl (by rw [w0.2.2.1]; exact hsz) (Steps.refl _) (argsL := argsL) (rest := rest) hlen rfl (by show 2 * 0 + _ ≤ _; omega) (hb w0.2.1 hd) (fun vm₁ _ => ⟨rfl, g1, hce, hsl⟩)
  have hg' : h.size ≤ B.U.heap.size := by rw [← g1]; exact hgr
  obtain ⟨ns, q1, q2, q3⟩ := OW.called w0 g2 g3 g4 g5 g6 g7 g8 gE g9 hwl X' hS hg' hpo
  exact goS (fun t q => st.trans q) (nx v B.U B.U.heap ns q1 q2 q3)
/-! the end -/
theorem OW.fin {Q : Option Value → Heap → List Addr → Prop} (w : OW p l e R s m args below meth c Z a0 EL own nm bytes maxL ret wl h0 sf T h k n) {v : Option Value} (hv : ret = none → v = none) (hk : k ≤ R.cells) (hn : n ≤ R.slots) {ns : List Addr} (hq : Q v h ns) (hns : ∀ x ∈ ns, x ∈ sf) :
    ∃ fs, (∀ (f : JFrame) (acts : List Action), f.method = m → f.locked = none → f.entered = [] → (doReturn e (T.setTop f) acts v).1 = T.setFrames fs) ∧ (T.setFrames fs).status = .running ∧ Ended (T.setFrames fs) below (.returned v) ∧ Fin' s Z EL wl h0 R Q (.returned v) (T.setFrames fs) := by
  obtain ⟨w0, vm0, k0, L, X, g1, g2, g3, g4, g5, g6, g7, g8, gE, g9⟩ := w
  subst g1
  obtain ⟨fs, h1, h2, h3, h4⟩ := (X.more hk hn).leaveW g2 g3 (v := v) (fun q => hv (w0.2.2.2.1 ▸ q)) (hlocks := w0.2.2.2.2.1)
  have q := CHv.at X g4 w0.ew g8.1
  exact ⟨fs, h1, h2, h3, v, L, ns, rfl, hq, g7, g6, g8.trans q, fun x hx => ⟨(g9 x (hns x hx)).1, q.safe (g9 x (hns x hx)).1 (g9 x (hns x hx)).2⟩, h4⟩
theorem g_ret0 {Q : Option Value → Heap → List Addr → Prop} (w : OW p l e R s m args below meth c Z a0 EL own nm bytes maxL ret wl h0 sf T h k n) (hr : ret = none) (hk : k ≤ R.cells) (hn : n ≤ R.slots) {ns : List Addr} (hns : ∀ x ∈ ns, x ∈ sf) (hd : decode bytes pc = .ok (.return_, 1)) (hq : Q none h ns) : Go p.tables e below (Fin' s Z EL wl h0 R Q) (T.setTop (mkF m pc Ls [])) := by
  obtain ⟨fs, h1, h2, h3, h4⟩ := w.fin (Q := Q) (v := none) (fun _ => rfl) hk hn hq hns
  obtain ⟨w0, vm0, k0, L, X, -⟩ := w
  exact ⟨_, _, X.returnOut w0.1 (w0.2.2.2.1.trans hr) (hb w0.2.1 hd) h1, h2, h3, h4⟩
theorem g_ret {Q : Option Value → Heap → List Addr → Prop} (w : OW p l e R s m args below meth c Z a0 EL own nm bytes maxL ret wl h0 sf T h k n) {t : FieldType} {v : Value} {i : Instr} (hr : ret = some t) (hnw : narrow t v = v)
    (hi : (i = .ireturn ∧ (t = .int ∨ t = .boolean ∨ t = .byte ∨ t = .char ∨ t = .short) ∧ ∃ z, v = .int z) ∨ (i = .lreturn ∧ t = .long ∧ ∃ z, v = .long z) ∨ (i = .dreturn ∧ t = .double ∧ ∃ z, v = .double z) ∨ (i = .freturn ∧ t = .float ∧ ∃ z, v = .float z) ∨ (i = .areturn ∧ t.isReference = true ∧ v.isRef = true))
    (hk : k ≤ R.cells) (hn : n ≤ R.slots) {ns : List Addr} (hns : ∀ x ∈ ns, x ∈ sf) (hd : decode bytes pc = .ok (i, 1)) (hq : Q (some v) h ns) : Go p.tables e below (Fin' s Z EL wl h0 R Q) (T.setTop (mkF m pc Ls (v :: S))) := by
  obtain ⟨fs, h1, h2, h3, h4⟩ := w.fin (Q := Q) (v := some v) (fun q => by rw [hr] at q; cases q) hk hn hq hns
  obtain ⟨w0, vm0, k0, L, X, -⟩ := w
  exact ⟨_, _, retOut X w0.1 (w0.2.2.2.1.trans hr) hnw hi (hb w0.2.1 hd) h1, h2, h3, h4⟩
theorem g_retI {Q : Option Value → Heap → List Addr → Prop} (w : OW p l e R s m args below meth c Z a0 EL own nm bytes maxL ret wl h0 sf T h k n) {z : Int32} (hr : ret = some .int) (hk : k ≤ R.cells) (hn : n ≤ R.slots) {ns : List Addr} (hns : ∀ x ∈ ns, x ∈ sf) (hd : decode bytes pc = .ok (.ireturn, 1)) (hq : Q (some (.int z)) h ns) : Go p.tables e below (Fin' s Z EL wl h0 R Q) (T.setTop (mkF m pc Ls (.int z :: S))) :=
  g_ret w hr rfl (Or.inl ⟨rfl, Or.inl rfl, z, rfl⟩) hk hn hns hd hq
theorem g_retJ {Q : Option Value → Heap → List Addr → Prop} (w : OW p l e R s m args below meth c Z a0 EL own nm bytes maxL ret wl h0 sf T h k n) {z : Int64} (hr : ret = some .long) (hk : k ≤ R.cells) (hn : n ≤ R.slots) {ns : List Addr} (hns : ∀ x ∈ ns, x ∈ sf) (hd : decode bytes pc = .ok (.lreturn, 1)) (hq : Q (some (.long z)) h ns) : Go p.tables e below (Fin' s Z EL wl h0 R Q) (T.setTop (mkF m pc Ls (.long z :: S))) :=
  g_ret w hr rfl (Or.inr (Or.inl ⟨rfl, rfl, z, rfl⟩)) hk hn hns hd hq
theorem g_retN {Q : Option Value → Heap → List Addr → Prop} (w : OW p l e R s m args below meth c Z a0 EL own nm bytes maxL ret wl h0 sf T h k n) {z : Int32} {t : FieldType} (hr : ret = some t) (ht : t = .boolean ∨ t = .byte ∨ t = .char ∨ t = .short) (hnw : narrow t (.int z) = .int z) (hk : k ≤ R.cells) (hn : n ≤ R.slots) {ns : List Addr} (hns : ∀ x ∈ ns, x ∈ sf) (hd : decode bytes pc = .ok (.ireturn, 1)) (hq : Q (some (.int z)) h ns) : Go p.tables e below (Fin' s Z EL wl h0 R Q) (T.setTop (mkF m pc Ls (.int z :: S))) :=
  g_ret w hr hnw (Or.inl ⟨rfl, Or.inr ht, z, rfl⟩) hk hn hns hd hq
theorem g_retA {Q : Option Value → Heap → List Addr → Prop} (w : OW p l e R s m args below meth c Z a0 EL own nm bytes maxL ret wl h0 sf T h k n) {v : Value} {t : FieldType} (hr : ret = some t) (ht : t.isReference = true) (hv : v.isRef = true) (hk : k ≤ R.cells) (hn : n ≤ R.slots) {ns : List Addr} (hns : ∀ x ∈ ns, x ∈ sf) (hd : decode bytes pc = .ok (.areturn, 1)) (hq : Q (some v) h ns) : Go p.tables e below (Fin' s Z EL wl h0 R Q) (T.setTop (mkF m pc Ls (v :: S))) :=
  g_ret w hr (narrow_refv ht hv) (Or.inr (Or.inr (Or.inr (Or.inr ⟨rfl, ht, hv⟩)))) hk hn hns hd hq
end OwnKit
end Jvm.RoadKit


namespace Jvm.RoadKit
open Sem ClassFile Op Lib Bundle Jvm.Stand Jvm.Free Jvm.LawKit
section OwnStr
theorem t32_int {i : Nat} (h : i < 2147483648) : i.toInt32.toInt = i := Int32.toInt_ofNat_of_lt h
theorem t32_nneg {i : Nat} (h : i < 2147483648) : ¬ i.toInt32 < 0 := by
  rw [Int32.lt_iff_toInt_lt, t32_int h]; have : (0 : Int32).toInt = 0 := rfl; omega
theorem t32_nat {i : Nat} (h : i < 2147483648) : i.toInt32.toNatClampNeg = i := by
  have := t32_int h
  show i.toInt32.toInt.toNat = i
  omega
theorem t32_lt {i j : Nat} (hi : i < 2147483648) (hj : j < 2147483648) : i.toInt32 < j.toInt32 ↔ i < j := by
  rw [Int32.lt_iff_toInt_lt, t32_int hi, t32_int hj]; omega
theorem t32_eq {i j : Nat} (hi : i < 2147483648) (hj : j < 2147483648) : i.toInt32 = j.toInt32 ↔ i = j := by
  rw [← Int32.toInt_inj, t32_int hi, t32_int hj]; omega
theorem t32_add (i j : Nat) : i.toInt32 + j.toInt32 = (i + j).toInt32 := (Int32.ofNat_add i j).symm
theorem t32_succ (i : Nat) : i.toInt32 + 1 = (i + 1).toInt32 := t32_add i 1
abbrev b8 (c : Int32) : Int32 := c.toInt8.toInt32
abbrev bv (c : Int32) : Value := .int (b8 c)
/-- how many chars stand ahead of the first above 255 -/
def lat (cs : List Int32) : Nat := (cs.takeWhile (fun c => !decide ((255 : Int32) < c))).length
theorem lat_le (cs : List Int32) : lat cs ≤ cs.length := by
  unfold lat; exact (List.takeWhile_prefix _).length_le
theorem lat_cons (c : Int32) (cs : List Int32) : lat (c :: cs) = if (255 : Int32) < c then 0 else lat cs + 1 := by
  unfold lat
  by_cases h : (255 : Int32) < c <;> simp [h]
theorem lat_all : ∀ {cs : List Int32}, (∀ c ∈ cs, ¬ (255 : Int32) < c) → lat cs = cs.length
  | [], _ => rfl
  | c :: cs, h => by
    rw [lat_cons, if_neg (h c (List.mem_cons_self ..)), lat_all fun d hd => h d (List.mem_cons_of_mem _ hd)]; rfl
theorem lat_go : ∀ {cs : List Int32} {i : Nat} {c : Int32}, i ≤ lat cs → cs[i]? = some c → ¬ (255 : Int32) < c → i + 1 ≤ lat cs
  | [], i, c, _, h, _ => by simp at h
  | d :: cs, 0, c, _, h, hc => by
    simp at h; subst h; rw [lat_cons, if_neg hc]; omega
  | d :: cs, i + 1, c, hi, h, hc => by
    rw [lat_cons] at hi ⊢
    split at hi
    · omega
    · rename_i hd
      rw [if_neg hd]
      have := lat_go (cs := cs) (i := i) (by omega) (by simpa using h) hc
      omega
theorem lat_stop : ∀ {cs : List Int32} {i : Nat} {c : Int32}, i ≤ lat cs → cs[i]? = some c → (255 : Int32) < c → lat cs = i
  | [], i, c, _, h, _ => by simp at h
  | d :: cs, 0, c, _, h, hc => by
    simp at h; subst h; rw [lat_cons, if_pos hc]
  | d :: cs, i + 1, c, hi, h, hc => by
    rw [lat_cons] at hi ⊢
    split at hi
    · omega
    · rename_i hd
      rw [if_neg hd]
      have := lat_stop (cs := cs) (i := i) (by omega) (by simpa using h) hc
      omega
theorem b8_b8 (c : Int32) : (b8 c).toInt8.toInt32 = b8 c := by simp [b8]
theorem put_next {A : Type} {xs : List Int32} {ds : List A} {f : Int32 → A} {i : Nat} {c : Int32} (hl : ds.length = xs.length) (hc : xs[i]? = some c) : ((xs.take i).map f ++ ds.drop i).set i (f c) = (xs.take (i + 1)).map f ++ ds.drop (i + 1) := by
  have hi : i < xs.length := (List.getElem?_eq_some_iff.mp hc).1
  have hL : ((xs.take i).map f).length = i := by simp; omega
  rw [List.set_append_right _ _ (by omega), hL, Nat.sub_self]
  have hd : ds.drop i = ds[i]'(by omega) :: ds.drop (i + 1) := List.drop_eq_getElem_cons (by omega)
  rw [hd, List.set_cons_zero]
  have ht : xs.take (i + 1) = xs.take i ++ [c] := by rw [List.take_add_one, hc]; rfl
  rw [ht]; simp
theorem get_map_int {xs : List Int32} {i : Nat} {c : Int32} (h : xs[i]? = some c) : (xs.map Value.int)[i]? = some (.int c) := by simp [h]
theorem all32n {P : Int32 → Prop} : ∀ x ∈ ([] : List Int32), P x := fun _ q => nomatch q
theorem all32 {P : Int32 → Prop} {y : Int32} {L : List Int32} (q : P y) (r : ∀ x ∈ L, P x) : ∀ x ∈ y :: L, P x := fun x z => (List.mem_cons.mp z).elim (fun u => u ▸ q) (r x)
theorem and255 (a : Int32) : 0 ≤ (a &&& 255).toInt ∧ (a &&& 255).toInt ≤ 255 := c_and a 255 (by decide)
theorem lat8 (a : Int32) : ¬ (255 : Int32) < (a &&& 255).toUInt32.toUInt16.toUInt32.toInt32 := by
  rw [i2c_mask, Int32.lt_iff_toInt_lt]; have := and255 a; have : (255 : Int32).toInt = 255 := rfl; omega
theorem lat8n (a : Int32) : ¬ (255 : Int32) < nar .char ((a &&& 255).toUInt32.toUInt16.toUInt32.toInt32) := by
  have e : nar .char ((a &&& 255).toUInt32.toUInt16.toUInt32.toInt32) = (a &&& 255) := by
    show ((a &&& 255).toUInt32.toUInt16.toUInt32.toInt32).toUInt32.toUInt16.toUInt32.toInt32 = _
    rw [i2c_mask, i2c_mask]
  rw [e, Int32.lt_iff_toInt_lt]; have := and255 a; have : (255 : Int32).toInt = 255 := rfl; omega
theorem shr0 (x : Int32) : x >>> ((0 : Int32) &&& 31) = x := by simp
end OwnStr
end Jvm.RoadKit

namespace Jvm.Pilot.@@N@@
open Jvm Jvm.ClassFile Sem Op Lib Jvm.Free Jvm.Stand Jvm.LawKit Jvm.RoadKit Bundle Jvm.Pilot.@@N@@.Jvm.D
theorem tw0 {a0 : Array Value} {Z : State} (hw : ∀ d ∈ tables_1, d.before a0 Z = true) : (Jvm.Cond.methodLink "com/example/fencelock/fencelock/store/RedisAddressIsWrittenAsRedisPinLaw" (7 : Nat) ({ cls := "com/example/fencelock/fencelock/store/RedisAddressIsWrittenAsRedisPinLaw", name := "draw", desc := "(ICC)C" } : Jvm.MethodName)).before a0 Z = true := hw _ (List.mem_of_getElem? (i := 0) rfl)
theorem tw1 {a0 : Array Value} {Z : State} (hw : ∀ d ∈ tables_1, d.before a0 Z = true) : (Jvm.Cond.static ({ cls := "com/example/fencelock/fencelock/store/RedisAddressIsWrittenAsRedisPinLaw", name := "draw", desc := "(ICC)C" } : Jvm.MethodName)).before a0 Z = true := hw _ (List.mem_of_getElem? (i := 1) rfl)
theorem tw2 {a0 : Array Value} {Z : State} (hw : ∀ d ∈ tables_1, d.before a0 Z = true) : (Jvm.Cond.initialized "com/example/fencelock/fencelock/store/RedisAddressIsWrittenAsRedisPinLaw").before a0 Z = true := hw _ (List.mem_of_getElem? (i := 2) rfl)
theorem tw3 {a0 : Array Value} {Z : State} (hw : ∀ d ∈ tables_1, d.before a0 Z = true) : (Jvm.Cond.code ({ cls := "com/example/fencelock/fencelock/store/RedisAddressIsWrittenAsRedisPinLaw", name := "draw", desc := "(ICC)C" } : Jvm.MethodName) method_3_code (4 : Nat) (Option.some Jvm.ClassFile.FieldType.char)).before a0 Z = true := hw _ (List.mem_of_getElem? (i := 3) rfl)
theorem tw4 {a0 : Array Value} {Z : State} (hw : ∀ d ∈ tables_1, d.before a0 Z = true) : (Jvm.Cond.classLink "com/example/fencelock/fencelock/store/RedisAddressIsWrittenAsRedisPinLaw" (13 : Nat) "java/lang/String").before a0 Z = true := hw _ (List.mem_of_getElem? (i := 4) rfl)
theorem tw5 {a0 : Array Value} {Z : State} (hw : ∀ d ∈ tables_1, d.before a0 Z = true) : (Jvm.Cond.instantiable "java/lang/String" (4 : Nat)).before a0 Z = true := hw _ (List.mem_of_getElem? (i := 5) rfl)
theorem tw6 {a0 : Array Value} {Z : State} (hw : ∀ d ∈ tables_1, d.before a0 Z = true) : (Jvm.Cond.initialized "java/lang/String").before a0 Z = true := hw _ (List.mem_of_getElem? (i := 6) rfl)
theorem tw7 {a0 : Array Value} {Z : State} (hw : ∀ d ∈ tables_1, d.before a0 Z = true) : (Jvm.Cond.arrayClass Jvm.ClassFile.FieldType.char).before a0 Z = true := hw _ (List.mem_of_getElem? (i := 7) rfl)
theorem tw8 {a0 : Array Value} {Z : State} (hw : ∀ d ∈ tables_1, d.before a0 Z = true) : (Jvm.Cond.methodLink "com/example/fencelock/fencelock/store/RedisAddressIsWrittenAsRedisPinLaw" (15 : Nat) ({ cls := "java/lang/String", name := "<init>", desc := "([C)V" } : Jvm.MethodName)).before a0 Z = true := hw _ (List.mem_of_getElem? (i := 8) rfl)
theorem tw9 {a0 : Array Value} {Z : State} (hw : ∀ d ∈ tables_1, d.before a0 Z = true) : (Jvm.Cond.instanceMethod ({ cls := "java/lang/String", name := "<init>", desc := "([C)V" } : Jvm.MethodName)).before a0 Z = true := hw _ (List.mem_of_getElem? (i := 9) rfl)
theorem tw10 {a0 : Array Value} {Z : State} (hw : ∀ d ∈ tables_1, d.before a0 Z = true) : (Jvm.Cond.code ({ cls := "java/lang/String", name := "<init>", desc := "([C)V" } : Jvm.MethodName) jdk_42_method_3_code (2 : Nat) (Option.none : Option Jvm.ClassFile.FieldType)).before a0 Z = true := hw _ (List.mem_of_getElem? (i := 10) rfl)
theorem tw11 {a0 : Array Value} {Z : State} (hw : ∀ d ∈ tables_1, d.before a0 Z = true) : (Jvm.Cond.methodLink "java/lang/String" (27 : Nat) ({ cls := "java/lang/String", name := "<init>", desc := "([CIILjava/lang/Void;)V" } : Jvm.MethodName)).before a0 Z = true := hw _ (List.mem_of_getElem? (i := 11) rfl)
theorem tw12 {a0 : Array Value} {Z : State} (hw : ∀ d ∈ tables_1, d.before a0 Z = true) : (Jvm.Cond.instanceMethod ({ cls := "java/lang/String", name := "<init>", desc := "([CIILjava/lang/Void;)V" } : Jvm.MethodName)).before a0 Z = true := hw _ (List.mem_of_getElem? (i := 12) rfl)
theorem tw14 {a0 : Array Value} {Z : State} (hw : ∀ d ∈ tables_1, d.before a0 Z = true) : (Jvm.Cond.code ({ cls := "java/lang/String", name := "<init>", desc := "([CIILjava/lang/Void;)V" } : Jvm.MethodName) jdk_42_method_149_code (6 : Nat) (Option.none : Option Jvm.ClassFile.FieldType)).before a0 Z = true := hw _ (List.mem_of_getElem? (i := 14) rfl)
theorem tw15 {a0 : Array Value} {Z : State} (hw : ∀ d ∈ tables_1, d.before a0 Z = true) : (Jvm.Cond.methodLink "java/lang/String" (1 : Nat) ({ cls := "java/lang/Object", name := "<init>", desc := "()V" } : Jvm.MethodName)).before a0 Z = true := hw _ (List.mem_of_getElem? (i := 15) rfl)
theorem tw16 {a0 : Array Value} {Z : State} (hw : ∀ d ∈ tables_1, d.before a0 Z = true) : (Jvm.Cond.instanceMethod ({ cls := "java/lang/Object", name := "<init>", desc := "()V" } : Jvm.MethodName)).before a0 Z = true := hw _ (List.mem_of_getElem? (i := 16) rfl)
theorem tw17 {a0 : Array Value} {Z : State} (hw : ∀ d ∈ tables_1, d.before a0 Z = true) : (Jvm.Cond.code ({ cls := "java/lang/Object", name := "<init>", desc := "()V" } : Jvm.MethodName) object_method_1_code (1 : Nat) (Option.none : Option Jvm.ClassFile.FieldType)).before a0 Z = true := hw _ (List.mem_of_getElem? (i := 17) rfl)
theorem tw18 {a0 : Array Value} {Z : State} (hw : ∀ d ∈ tables_1, d.before a0 Z = true) : (Jvm.Cond.fieldLink "java/lang/String" (38 : Nat) "java/lang/String" "COMPACT_STRINGS" "Z").before a0 Z = true := hw _ (List.mem_of_getElem? (i := 18) rfl)
theorem tw19 {a0 : Array Value} {Z : State} (hw : ∀ d ∈ tables_1, d.before a0 Z = true) : (Jvm.Cond.methodLink "java/lang/String" (177 : Nat) ({ cls := "java/lang/StringUTF16", name := "compress", desc := "([CII)[B" } : Jvm.MethodName)).before a0 Z = true := hw _ (List.mem_of_getElem? (i := 19) rfl)
theorem tw20 {a0 : Array Value} {Z : State} (hw : ∀ d ∈ tables_1, d.before a0 Z = true) : (Jvm.Cond.static ({ cls := "java/lang/StringUTF16", name := "compress", desc := "([CII)[B" } : Jvm.MethodName)).before a0 Z = true := hw _ (List.mem_of_getElem? (i := 20) rfl)
theorem tw21 {a0 : Array Value} {Z : State} (hw : ∀ d ∈ tables_1, d.before a0 Z = true) : (Jvm.Cond.initialized "java/lang/StringUTF16").before a0 Z = true := hw _ (List.mem_of_getElem? (i := 21) rfl)
theorem tw22 {a0 : Array Value} {Z : State} (hw : ∀ d ∈ tables_1, d.before a0 Z = true) : (Jvm.Cond.code ({ cls := "java/lang/StringUTF16", name := "compress", desc := "([CII)[B" } : Jvm.MethodName) jdk_52_method_16_code (6 : Nat) (Option.some (Jvm.ClassFile.FieldType.array Jvm.ClassFile.FieldType.byte))).before a0 Z = true := hw _ (List.mem_of_getElem? (i := 22) rfl)
theorem tw23 {a0 : Array Value} {Z : State} (hw : ∀ d ∈ tables_1, d.before a0 Z = true) : (Jvm.Cond.arrayClass Jvm.ClassFile.FieldType.byte).before a0 Z = true := hw _ (List.mem_of_getElem? (i := 23) rfl)
theorem tw24 {a0 : Array Value} {Z : State} (hw : ∀ d ∈ tables_1, d.before a0 Z = true) : (Jvm.Cond.methodLink "java/lang/StringUTF16" (115 : Nat) ({ cls := "java/lang/StringUTF16", name := "compress", desc := "([CI[BII)I" } : Jvm.MethodName)).before a0 Z = true := hw _ (List.mem_of_getElem? (i := 24) rfl)
theorem tw25 {a0 : Array Value} {Z : State} (hw : ∀ d ∈ tables_1, d.before a0 Z = true) : (Jvm.Cond.static ({ cls := "java/lang/StringUTF16", name := "compress", desc := "([CI[BII)I" } : Jvm.MethodName)).before a0 Z = true := hw _ (List.mem_of_getElem? (i := 25) rfl)
theorem tw26 {a0 : Array Value} {Z : State} (hw : ∀ d ∈ tables_1, d.before a0 Z = true) : (Jvm.Cond.code ({ cls := "java/lang/StringUTF16", name := "compress", desc := "([CI[BII)I" } : Jvm.MethodName) jdk_52_method_21_code (7 : Nat) (Option.some Jvm.ClassFile.FieldType.int)).before a0 Z = true := hw _ (List.mem_of_getElem? (i := 26) rfl)
theorem tw27 {a0 : Array Value} {Z : State} (hw : ∀ d ∈ tables_1, d.before a0 Z = true) : (Jvm.Cond.methodLink "java/lang/String" (47 : Nat) ({ cls := "java/lang/StringUTF16", name := "coderFromArrayLen", desc := "([BI)B" } : Jvm.MethodName)).before a0 Z = true := hw _ (List.mem_of_getElem? (i := 27) rfl)
theorem tw28 {a0 : Array Value} {Z : State} (hw : ∀ d ∈ tables_1, d.before a0 Z = true) : (Jvm.Cond.static ({ cls := "java/lang/StringUTF16", name := "coderFromArrayLen", desc := "([BI)B" } : Jvm.MethodName)).before a0 Z = true := hw _ (List.mem_of_getElem? (i := 28) rfl)
theorem tw29 {a0 : Array Value} {Z : State} (hw : ∀ d ∈ tables_1, d.before a0 Z = true) : (Jvm.Cond.code ({ cls := "java/lang/StringUTF16", name := "coderFromArrayLen", desc := "([BI)B" } : Jvm.MethodName) jdk_52_method_15_code (2 : Nat) (Option.some Jvm.ClassFile.FieldType.byte)).before a0 Z = true := hw _ (List.mem_of_getElem? (i := 29) rfl)
theorem tw30 {a0 : Array Value} {Z : State} (hw : ∀ d ∈ tables_1, d.before a0 Z = true) : (Jvm.Cond.fieldLink "java/lang/String" (15 : Nat) "java/lang/String" "coder" "B").before a0 Z = true := hw _ (List.mem_of_getElem? (i := 30) rfl)
theorem tw31 {a0 : Array Value} {Z : State} (hw : ∀ d ∈ tables_1, d.before a0 Z = true) : (Jvm.Cond.laysFinal "java/lang/String" "java/lang/String" "coder" "B").before a0 Z = true := hw _ (List.mem_of_getElem? (i := 31) rfl)
theorem tw32 {a0 : Array Value} {Z : State} (hw : ∀ d ∈ tables_1, d.before a0 Z = true) : (Jvm.Cond.fieldLink "java/lang/String" (9 : Nat) "java/lang/String" "value" "[B").before a0 Z = true := hw _ (List.mem_of_getElem? (i := 32) rfl)
theorem tw33 {a0 : Array Value} {Z : State} (hw : ∀ d ∈ tables_1, d.before a0 Z = true) : (Jvm.Cond.laysFinal "java/lang/String" "java/lang/String" "value" "[B").before a0 Z = true := hw _ (List.mem_of_getElem? (i := 33) rfl)
theorem tw34 {a0 : Array Value} {Z : State} (hw : ∀ d ∈ tables_1, d.before a0 Z = true) : (Jvm.Cond.methodLink "com/example/fencelock/fencelock/store/RedisAddressIsWrittenAsRedisPinLaw" (18 : Nat) ({ cls := "com/example/fencelock/fencelock/store/RedisAddressIsWrittenAsRedisPinLaw", name := "is", desc := "(CCC)Z" } : Jvm.MethodName)).before a0 Z = true := hw _ (List.mem_of_getElem? (i := 34) rfl)
theorem tw35 {a0 : Array Value} {Z : State} (hw : ∀ d ∈ tables_1, d.before a0 Z = true) : (Jvm.Cond.static ({ cls := "com/example/fencelock/fencelock/store/RedisAddressIsWrittenAsRedisPinLaw", name := "is", desc := "(CCC)Z" } : Jvm.MethodName)).before a0 Z = true := hw _ (List.mem_of_getElem? (i := 35) rfl)
theorem tw36 {a0 : Array Value} {Z : State} (hw : ∀ d ∈ tables_1, d.before a0 Z = true) : (Jvm.Cond.code ({ cls := "com/example/fencelock/fencelock/store/RedisAddressIsWrittenAsRedisPinLaw", name := "is", desc := "(CCC)Z" } : Jvm.MethodName) method_4_code (3 : Nat) (Option.some Jvm.ClassFile.FieldType.boolean)).before a0 Z = true := hw _ (List.mem_of_getElem? (i := 36) rfl)
theorem tw37 {a0 : Array Value} {Z : State} (hw : ∀ d ∈ tables_1, d.before a0 Z = true) : (Jvm.Cond.methodLink "com/example/fencelock/fencelock/store/RedisAddressIsWrittenAsRedisPinLaw" (22 : Nat) ({ cls := "com/example/fencelock/fencelock/store/RedisAddress", name := "isWrittenAsRedis", desc := "(Ljava/lang/String;)Z" } : Jvm.MethodName)).before a0 Z = true := hw _ (List.mem_of_getElem? (i := 37) rfl)
theorem tw38 {a0 : Array Value} {Z : State} (hw : ∀ d ∈ tables_1, d.before a0 Z = true) : (Jvm.Cond.static ({ cls := "com/example/fencelock/fencelock/store/RedisAddress", name := "isWrittenAsRedis", desc := "(Ljava/lang/String;)Z" } : Jvm.MethodName)).before a0 Z = true := hw _ (List.mem_of_getElem? (i := 38) rfl)
theorem tw39 {a0 : Array Value} {Z : State} (hw : ∀ d ∈ tables_1, d.before a0 Z = true) : (Jvm.Cond.initialized "com/example/fencelock/fencelock/store/RedisAddress").before a0 Z = true := hw _ (List.mem_of_getElem? (i := 39) rfl)
theorem tw40 {a0 : Array Value} {Z : State} (hw : ∀ d ∈ tables_1, d.before a0 Z = true) : (Jvm.Cond.code ({ cls := "com/example/fencelock/fencelock/store/RedisAddress", name := "isWrittenAsRedis", desc := "(Ljava/lang/String;)Z" } : Jvm.MethodName) prog_16_method_2_code (2 : Nat) (Option.some Jvm.ClassFile.FieldType.boolean)).before a0 Z = true := hw _ (List.mem_of_getElem? (i := 40) rfl)
theorem tw41 {a0 : Array Value} {Z : State} (hw : ∀ d ∈ tables_1, d.before a0 Z = true) : (Jvm.Cond.stringLink "com/example/fencelock/fencelock/store/RedisAddress" (20 : Nat) "redis://").before a0 Z = true := hw _ (List.mem_of_getElem? (i := 41) rfl)
theorem tw42 {a0 : Array Value} {Z : State} (hw : ∀ d ∈ tables_1, d.before a0 Z = true) : (Jvm.Cond.soleField "java/lang/String" "value").before a0 Z = true := hw _ (List.mem_of_getElem? (i := 42) rfl)
theorem tw43 {a0 : Array Value} {Z : State} (hw : ∀ d ∈ tables_1, d.before a0 Z = true) : (Jvm.Cond.soleField "java/lang/String" "coder").before a0 Z = true := hw _ (List.mem_of_getElem? (i := 43) rfl)
theorem tw44 {a0 : Array Value} {Z : State} (hw : ∀ d ∈ tables_1, d.before a0 Z = true) : (Jvm.Cond.methodLink "com/example/fencelock/fencelock/store/RedisAddress" (22 : Nat) ({ cls := "java/lang/String", name := "length", desc := "()I" } : Jvm.MethodName)).before a0 Z = true := hw _ (List.mem_of_getElem? (i := 44) rfl)
theorem tw45 {a0 : Array Value} {Z : State} (hw : ∀ d ∈ tables_1, d.before a0 Z = true) : (Jvm.Cond.declares ({ cls := "java/lang/String", name := "length", desc := "()I" } : Jvm.MethodName)).before a0 Z = true := hw _ (List.mem_of_getElem? (i := 45) rfl)
theorem tw46 {a0 : Array Value} {Z : State} (hw : ∀ d ∈ tables_1, d.before a0 Z = true) : (Jvm.Cond.instanceMethod ({ cls := "java/lang/String", name := "length", desc := "()I" } : Jvm.MethodName)).before a0 Z = true := hw _ (List.mem_of_getElem? (i := 46) rfl)
theorem tw47 {a0 : Array Value} {Z : State} (hw : ∀ d ∈ tables_1, d.before a0 Z = true) : (Jvm.Cond.selects "java/lang/String" ({ cls := "java/lang/String", name := "length", desc := "()I" } : Jvm.MethodName) ({ cls := "java/lang/String", name := "length", desc := "()I" } : Jvm.MethodName)).before a0 Z = true := hw _ (List.mem_of_getElem? (i := 47) rfl)
theorem tw48 {a0 : Array Value} {Z : State} (hw : ∀ d ∈ tables_1, d.before a0 Z = true) : (Jvm.Cond.code ({ cls := "java/lang/String", name := "length", desc := "()I" } : Jvm.MethodName) jdk_42_method_54_code (1 : Nat) (Option.some Jvm.ClassFile.FieldType.int)).before a0 Z = true := hw _ (List.mem_of_getElem? (i := 48) rfl)
theorem tw49 {a0 : Array Value} {Z : State} (hw : ∀ d ∈ tables_1, d.before a0 Z = true) : (Jvm.Cond.methodLink "java/lang/String" (335 : Nat) ({ cls := "java/lang/String", name := "coder", desc := "()B" } : Jvm.MethodName)).before a0 Z = true := hw _ (List.mem_of_getElem? (i := 49) rfl)
theorem tw50 {a0 : Array Value} {Z : State} (hw : ∀ d ∈ tables_1, d.before a0 Z = true) : (Jvm.Cond.declares ({ cls := "java/lang/String", name := "coder", desc := "()B" } : Jvm.MethodName)).before a0 Z = true := hw _ (List.mem_of_getElem? (i := 50) rfl)
theorem tw51 {a0 : Array Value} {Z : State} (hw : ∀ d ∈ tables_1, d.before a0 Z = true) : (Jvm.Cond.instanceMethod ({ cls := "java/lang/String", name := "coder", desc := "()B" } : Jvm.MethodName)).before a0 Z = true := hw _ (List.mem_of_getElem? (i := 51) rfl)
theorem tw52 {a0 : Array Value} {Z : State} (hw : ∀ d ∈ tables_1, d.before a0 Z = true) : (Jvm.Cond.selects "java/lang/String" ({ cls := "java/lang/String", name := "coder", desc := "()B" } : Jvm.MethodName) ({ cls := "java/lang/String", name := "coder", desc := "()B" } : Jvm.MethodName)).before a0 Z = true := hw _ (List.mem_of_getElem? (i := 52) rfl)
theorem tw53 {a0 : Array Value} {Z : State} (hw : ∀ d ∈ tables_1, d.before a0 Z = true) : (Jvm.Cond.code ({ cls := "java/lang/String", name := "coder", desc := "()B" } : Jvm.MethodName) jdk_42_method_152_code (1 : Nat) (Option.some Jvm.ClassFile.FieldType.byte)).before a0 Z = true := hw _ (List.mem_of_getElem? (i := 53) rfl)
theorem tw54 {a0 : Array Value} {Z : State} (hw : ∀ d ∈ tables_1, d.before a0 Z = true) : (Jvm.Cond.methodLink "com/example/fencelock/fencelock/store/RedisAddress" (28 : Nat) ({ cls := "java/lang/String", name := "regionMatches", desc := "(ZILjava/lang/String;II)Z" } : Jvm.MethodName)).before a0 Z = true := hw _ (List.mem_of_getElem? (i := 54) rfl)
theorem tw55 {a0 : Array Value} {Z : State} (hw : ∀ d ∈ tables_1, d.before a0 Z = true) : (Jvm.Cond.declares ({ cls := "java/lang/String", name := "regionMatches", desc := "(ZILjava/lang/String;II)Z" } : Jvm.MethodName)).before a0 Z = true := hw _ (List.mem_of_getElem? (i := 55) rfl)
theorem tw56 {a0 : Array Value} {Z : State} (hw : ∀ d ∈ tables_1, d.before a0 Z = true) : (Jvm.Cond.instanceMethod ({ cls := "java/lang/String", name := "regionMatches", desc := "(ZILjava/lang/String;II)Z" } : Jvm.MethodName)).before a0 Z = true := hw _ (List.mem_of_getElem? (i := 56) rfl)
theorem tw57 {a0 : Array Value} {Z : State} (hw : ∀ d ∈ tables_1, d.before a0 Z = true) : (Jvm.Cond.selects "java/lang/String" ({ cls := "java/lang/String", name := "regionMatches", desc := "(ZILjava/lang/String;II)Z" } : Jvm.MethodName) ({ cls := "java/lang/String", name := "regionMatches", desc := "(ZILjava/lang/String;II)Z" } : Jvm.MethodName)).before a0 Z = true := hw _ (List.mem_of_getElem? (i := 57) rfl)
theorem tw58 {a0 : Array Value} {Z : State} (hw : ∀ d ∈ tables_1, d.before a0 Z = true) : (Jvm.Cond.code ({ cls := "java/lang/String", name := "regionMatches", desc := "(ZILjava/lang/String;II)Z" } : Jvm.MethodName) jdk_42_method_74_code (9 : Nat) (Option.some Jvm.ClassFile.FieldType.boolean)).before a0 Z = true := hw _ (List.mem_of_getElem? (i := 58) rfl)
theorem tw59 {a0 : Array Value} {Z : State} (hw : ∀ d ∈ tables_1, d.before a0 Z = true) : (Jvm.Cond.methodLink "java/lang/String" (505 : Nat) ({ cls := "java/lang/String", name := "length", desc := "()I" } : Jvm.MethodName)).before a0 Z = true := hw _ (List.mem_of_getElem? (i := 59) rfl)
theorem tw60 {a0 : Array Value} {Z : State} (hw : ∀ d ∈ tables_1, d.before a0 Z = true) : (Jvm.Cond.methodLink "java/lang/String" (613 : Nat) ({ cls := "java/lang/StringLatin1", name := "regionMatchesCI", desc := "([BI[BII)Z" } : Jvm.MethodName)).before a0 Z = true := hw _ (List.mem_of_getElem? (i := 60) rfl)
theorem tw61 {a0 : Array Value} {Z : State} (hw : ∀ d ∈ tables_1, d.before a0 Z = true) : (Jvm.Cond.static ({ cls := "java/lang/StringLatin1", name := "regionMatchesCI", desc := "([BI[BII)Z" } : Jvm.MethodName)).before a0 Z = true := hw _ (List.mem_of_getElem? (i := 61) rfl)
theorem tw62 {a0 : Array Value} {Z : State} (hw : ∀ d ∈ tables_1, d.before a0 Z = true) : (Jvm.Cond.initialized "java/lang/StringLatin1").before a0 Z = true := hw _ (List.mem_of_getElem? (i := 62) rfl)
theorem tw63 {a0 : Array Value} {Z : State} (hw : ∀ d ∈ tables_1, d.before a0 Z = true) : (Jvm.Cond.code ({ cls := "java/lang/StringLatin1", name := "regionMatchesCI", desc := "([BI[BII)Z" } : Jvm.MethodName) jdk_43_method_30_code (8 : Nat) (Option.some Jvm.ClassFile.FieldType.boolean)).before a0 Z = true := hw _ (List.mem_of_getElem? (i := 63) rfl)
theorem tw64 {a0 : Array Value} {Z : State} (hw : ∀ d ∈ tables_1, d.before a0 Z = true) : (Jvm.Cond.methodLink "java/lang/StringLatin1" (153 : Nat) ({ cls := "java/lang/CharacterDataLatin1", name := "equalsIgnoreCase", desc := "(BB)Z" } : Jvm.MethodName)).before a0 Z = true := hw _ (List.mem_of_getElem? (i := 64) rfl)
theorem tw65 {a0 : Array Value} {Z : State} (hw : ∀ d ∈ tables_1, d.before a0 Z = true) : (Jvm.Cond.static ({ cls := "java/lang/CharacterDataLatin1", name := "equalsIgnoreCase", desc := "(BB)Z" } : Jvm.MethodName)).before a0 Z = true := hw _ (List.mem_of_getElem? (i := 65) rfl)
theorem tw66 {a0 : Array Value} {Z : State} (hw : ∀ d ∈ tables_1, d.before a0 Z = true) : (Jvm.Cond.initialized "java/lang/CharacterDataLatin1").before a0 Z = true := hw _ (List.mem_of_getElem? (i := 66) rfl)
theorem tw67 {a0 : Array Value} {Z : State} (hw : ∀ d ∈ tables_1, d.before a0 Z = true) : (Jvm.Cond.code ({ cls := "java/lang/CharacterDataLatin1", name := "equalsIgnoreCase", desc := "(BB)Z" } : Jvm.MethodName) jdk_116_method_22_code (3 : Nat) (Option.some Jvm.ClassFile.FieldType.boolean)).before a0 Z = true := hw _ (List.mem_of_getElem? (i := 67) rfl)
theorem tw68 {a0 : Array Value} {Z : State} (hw : ∀ d ∈ tables_1, d.before a0 Z = true) : (Jvm.Cond.stringLink "java/lang/String" (7 : Nat) "").before a0 Z = true := hw _ (List.mem_of_getElem? (i := 68) rfl)
theorem d_jdk_116_method_22_code_0 : decode jdk_116_method_22_code 0 = .ok (.iload_n 0, 1) := by decide +kernel
theorem d_jdk_116_method_22_code_1 : decode jdk_116_method_22_code 1 = .ok (.iload_n 1, 1) := by decide +kernel
theorem d_jdk_116_method_22_code_2 : decode jdk_116_method_22_code 2 = .ok (.if_icmp .ne 5, 3) := by decide +kernel
theorem d_jdk_116_method_22_code_5 : decode jdk_116_method_22_code 5 = .ok (.iconst 1, 1) := by decide +kernel
theorem d_jdk_116_method_22_code_6 : decode jdk_116_method_22_code 6 = .ok (.ireturn, 1) := by decide +kernel
theorem d_jdk_116_method_22_code_7 : decode jdk_116_method_22_code 7 = .ok (.iload_n 0, 1) := by decide +kernel
theorem d_jdk_116_method_22_code_8 : decode jdk_116_method_22_code 8 = .ok (.sipush 223, 3) := by decide +kernel
theorem d_jdk_116_method_22_code_11 : decode jdk_116_method_22_code 11 = .ok (.iand, 1) := by decide +kernel
theorem d_jdk_116_method_22_code_12 : decode jdk_116_method_22_code 12 = .ok (.istore_n 2, 1) := by decide +kernel
theorem d_jdk_116_method_22_code_13 : decode jdk_116_method_22_code 13 = .ok (.iload_n 2, 1) := by decide +kernel
theorem d_jdk_116_method_22_code_14 : decode jdk_116_method_22_code 14 = .ok (.bipush 65, 2) := by decide +kernel
theorem d_jdk_116_method_22_code_16 : decode jdk_116_method_22_code 16 = .ok (.if_icmp .ge 5, 3) := by decide +kernel
theorem d_jdk_116_method_22_code_19 : decode jdk_116_method_22_code 19 = .ok (.iconst 0, 1) := by decide +kernel
theorem d_jdk_116_method_22_code_20 : decode jdk_116_method_22_code 20 = .ok (.ireturn, 1) := by decide +kernel
theorem d_jdk_116_method_22_code_21 : decode jdk_116_method_22_code 21 = .ok (.iload_n 2, 1) := by decide +kernel
theorem d_jdk_116_method_22_code_22 : decode jdk_116_method_22_code 22 = .ok (.bipush 90, 2) := by decide +kernel
theorem d_jdk_116_method_22_code_24 : decode jdk_116_method_22_code 24 = .ok (.if_icmp .le 24, 3) := by decide +kernel
theorem d_jdk_116_method_22_code_27 : decode jdk_116_method_22_code 27 = .ok (.iload_n 2, 1) := by decide +kernel
theorem d_jdk_116_method_22_code_28 : decode jdk_116_method_22_code 28 = .ok (.sipush 192, 3) := by decide +kernel
theorem d_jdk_116_method_22_code_31 : decode jdk_116_method_22_code 31 = .ok (.if_icmp .lt 30, 3) := by decide +kernel
theorem d_jdk_116_method_22_code_34 : decode jdk_116_method_22_code 34 = .ok (.iload_n 2, 1) := by decide +kernel
theorem d_jdk_116_method_22_code_35 : decode jdk_116_method_22_code 35 = .ok (.sipush 222, 3) := by decide +kernel
theorem d_jdk_116_method_22_code_38 : decode jdk_116_method_22_code 38 = .ok (.if_icmp .gt 23, 3) := by decide +kernel
theorem d_jdk_116_method_22_code_41 : decode jdk_116_method_22_code 41 = .ok (.iload_n 2, 1) := by decide +kernel
theorem d_jdk_116_method_22_code_42 : decode jdk_116_method_22_code 42 = .ok (.sipush 215, 3) := by decide +kernel
theorem d_jdk_116_method_22_code_45 : decode jdk_116_method_22_code 45 = .ok (.if_icmp .eq 16, 3) := by decide +kernel
theorem d_jdk_116_method_22_code_48 : decode jdk_116_method_22_code 48 = .ok (.iload_n 2, 1) := by decide +kernel
theorem d_jdk_116_method_22_code_49 : decode jdk_116_method_22_code 49 = .ok (.iload_n 1, 1) := by decide +kernel
theorem d_jdk_116_method_22_code_50 : decode jdk_116_method_22_code 50 = .ok (.sipush 223, 3) := by decide +kernel
theorem d_jdk_116_method_22_code_53 : decode jdk_116_method_22_code 53 = .ok (.iand, 1) := by decide +kernel
theorem d_jdk_116_method_22_code_54 : decode jdk_116_method_22_code 54 = .ok (.if_icmp .ne 7, 3) := by decide +kernel
theorem d_jdk_116_method_22_code_57 : decode jdk_116_method_22_code 57 = .ok (.iconst 1, 1) := by decide +kernel
theorem d_jdk_116_method_22_code_58 : decode jdk_116_method_22_code 58 = .ok (.goto 4, 3) := by decide +kernel
theorem d_jdk_116_method_22_code_61 : decode jdk_116_method_22_code 61 = .ok (.iconst 0, 1) := by decide +kernel
theorem d_jdk_116_method_22_code_62 : decode jdk_116_method_22_code 62 = .ok (.ireturn, 1) := by decide +kernel
theorem d_jdk_42_method_149_code_0 : decode jdk_42_method_149_code 0 = .ok (.aload_n 0, 1) := by decide +kernel
theorem d_jdk_42_method_149_code_1 : decode jdk_42_method_149_code 1 = .ok (.invokespecial 1, 3) := by decide +kernel
theorem d_jdk_42_method_149_code_4 : decode jdk_42_method_149_code 4 = .ok (.iload_n 3, 1) := by decide +kernel
theorem d_jdk_42_method_149_code_5 : decode jdk_42_method_149_code 5 = .ok (.ifCond .ne 22, 3) := by decide +kernel
theorem d_jdk_42_method_149_code_8 : decode jdk_42_method_149_code 8 = .ok (.aload_n 0, 1) := by decide +kernel
theorem d_jdk_42_method_149_code_9 : decode jdk_42_method_149_code 9 = .ok (.ldc 7, 2) := by decide +kernel
theorem d_jdk_42_method_149_code_11 : decode jdk_42_method_149_code 11 = .ok (.getfield 9, 3) := by decide +kernel
theorem d_jdk_42_method_149_code_14 : decode jdk_42_method_149_code 14 = .ok (.putfield 9, 3) := by decide +kernel
theorem d_jdk_42_method_149_code_17 : decode jdk_42_method_149_code 17 = .ok (.aload_n 0, 1) := by decide +kernel
theorem d_jdk_42_method_149_code_18 : decode jdk_42_method_149_code 18 = .ok (.ldc 7, 2) := by decide +kernel
theorem d_jdk_42_method_149_code_20 : decode jdk_42_method_149_code 20 = .ok (.getfield 15, 3) := by decide +kernel
theorem d_jdk_42_method_149_code_23 : decode jdk_42_method_149_code 23 = .ok (.putfield 15, 3) := by decide +kernel
theorem d_jdk_42_method_149_code_26 : decode jdk_42_method_149_code 26 = .ok (.return_, 1) := by decide +kernel
theorem d_jdk_42_method_149_code_27 : decode jdk_42_method_149_code 27 = .ok (.getstatic 38, 3) := by decide +kernel
theorem d_jdk_42_method_149_code_30 : decode jdk_42_method_149_code 30 = .ok (.ifCond .eq 28, 3) := by decide +kernel
theorem d_jdk_42_method_149_code_33 : decode jdk_42_method_149_code 33 = .ok (.aload_n 1, 1) := by decide +kernel
theorem d_jdk_42_method_149_code_34 : decode jdk_42_method_149_code 34 = .ok (.iload_n 2, 1) := by decide +kernel
theorem d_jdk_42_method_149_code_35 : decode jdk_42_method_149_code 35 = .ok (.iload_n 3, 1) := by decide +kernel
theorem d_jdk_42_method_149_code_36 : decode jdk_42_method_149_code 36 = .ok (.invokestatic 177, 3) := by decide +kernel
theorem d_jdk_42_method_149_code_39 : decode jdk_42_method_149_code 39 = .ok (.astore 5, 2) := by decide +kernel
theorem d_jdk_42_method_149_code_41 : decode jdk_42_method_149_code 41 = .ok (.aload_n 0, 1) := by decide +kernel
theorem d_jdk_42_method_149_code_42 : decode jdk_42_method_149_code 42 = .ok (.aload 5, 2) := by decide +kernel
theorem d_jdk_42_method_149_code_44 : decode jdk_42_method_149_code 44 = .ok (.iload_n 3, 1) := by decide +kernel
theorem d_jdk_42_method_149_code_45 : decode jdk_42_method_149_code 45 = .ok (.invokestatic 47, 3) := by decide +kernel
theorem d_jdk_42_method_149_code_48 : decode jdk_42_method_149_code 48 = .ok (.putfield 15, 3) := by decide +kernel
theorem d_jdk_42_method_149_code_51 : decode jdk_42_method_149_code 51 = .ok (.aload_n 0, 1) := by decide +kernel
theorem d_jdk_42_method_149_code_52 : decode jdk_42_method_149_code 52 = .ok (.aload 5, 2) := by decide +kernel
theorem d_jdk_42_method_149_code_54 : decode jdk_42_method_149_code 54 = .ok (.putfield 9, 3) := by decide +kernel
theorem d_jdk_42_method_149_code_57 : decode jdk_42_method_149_code 57 = .ok (.return_, 1) := by decide +kernel
theorem d_jdk_42_method_152_code_0 : decode jdk_42_method_152_code 0 = .ok (.getstatic 38, 3) := by decide +kernel
theorem d_jdk_42_method_152_code_3 : decode jdk_42_method_152_code 3 = .ok (.ifCond .eq 10, 3) := by decide +kernel
theorem d_jdk_42_method_152_code_6 : decode jdk_42_method_152_code 6 = .ok (.aload_n 0, 1) := by decide +kernel
theorem d_jdk_42_method_152_code_7 : decode jdk_42_method_152_code 7 = .ok (.getfield 15, 3) := by decide +kernel
theorem d_jdk_42_method_152_code_10 : decode jdk_42_method_152_code 10 = .ok (.goto 4, 3) := by decide +kernel
theorem d_jdk_42_method_152_code_14 : decode jdk_42_method_152_code 14 = .ok (.ireturn, 1) := by decide +kernel
theorem d_jdk_42_method_3_code_0 : decode jdk_42_method_3_code 0 = .ok (.aload_n 0, 1) := by decide +kernel
theorem d_jdk_42_method_3_code_1 : decode jdk_42_method_3_code 1 = .ok (.aload_n 1, 1) := by decide +kernel
theorem d_jdk_42_method_3_code_2 : decode jdk_42_method_3_code 2 = .ok (.iconst 0, 1) := by decide +kernel
theorem d_jdk_42_method_3_code_3 : decode jdk_42_method_3_code 3 = .ok (.aload_n 1, 1) := by decide +kernel
theorem d_jdk_42_method_3_code_4 : decode jdk_42_method_3_code 4 = .ok (.arraylength, 1) := by decide +kernel
theorem d_jdk_42_method_3_code_5 : decode jdk_42_method_3_code 5 = .ok (.aconst_null, 1) := by decide +kernel
theorem d_jdk_42_method_3_code_6 : decode jdk_42_method_3_code 6 = .ok (.invokespecial 27, 3) := by decide +kernel
theorem d_jdk_42_method_3_code_9 : decode jdk_42_method_3_code 9 = .ok (.return_, 1) := by decide +kernel
theorem d_jdk_42_method_54_code_0 : decode jdk_42_method_54_code 0 = .ok (.aload_n 0, 1) := by decide +kernel
theorem d_jdk_42_method_54_code_1 : decode jdk_42_method_54_code 1 = .ok (.getfield 9, 3) := by decide +kernel
theorem d_jdk_42_method_54_code_4 : decode jdk_42_method_54_code 4 = .ok (.arraylength, 1) := by decide +kernel
theorem d_jdk_42_method_54_code_5 : decode jdk_42_method_54_code 5 = .ok (.aload_n 0, 1) := by decide +kernel
theorem d_jdk_42_method_54_code_6 : decode jdk_42_method_54_code 6 = .ok (.invokevirtual 335, 3) := by decide +kernel
theorem d_jdk_42_method_54_code_9 : decode jdk_42_method_54_code 9 = .ok (.ishr, 1) := by decide +kernel
theorem d_jdk_42_method_54_code_10 : decode jdk_42_method_54_code 10 = .ok (.ireturn, 1) := by decide +kernel
theorem d_jdk_42_method_74_code_0 : decode jdk_42_method_74_code 0 = .ok (.iload_n 1, 1) := by decide +kernel
theorem d_jdk_42_method_74_code_1 : decode jdk_42_method_74_code 1 = .ok (.ifCond .ne 14, 3) := by decide +kernel
theorem d_jdk_42_method_74_code_15 : decode jdk_42_method_74_code 15 = .ok (.iload 4, 2) := by decide +kernel
theorem d_jdk_42_method_74_code_17 : decode jdk_42_method_74_code 17 = .ok (.ifCond .lt 38, 3) := by decide +kernel
theorem d_jdk_42_method_74_code_20 : decode jdk_42_method_74_code 20 = .ok (.iload_n 2, 1) := by decide +kernel
theorem d_jdk_42_method_74_code_21 : decode jdk_42_method_74_code 21 = .ok (.ifCond .lt 34, 3) := by decide +kernel
theorem d_jdk_42_method_74_code_24 : decode jdk_42_method_74_code 24 = .ok (.iload_n 2, 1) := by decide +kernel
theorem d_jdk_42_method_74_code_25 : decode jdk_42_method_74_code 25 = .ok (.i2l, 1) := by decide +kernel
theorem d_jdk_42_method_74_code_26 : decode jdk_42_method_74_code 26 = .ok (.aload_n 0, 1) := by decide +kernel
theorem d_jdk_42_method_74_code_27 : decode jdk_42_method_74_code 27 = .ok (.invokevirtual 505, 3) := by decide +kernel
theorem d_jdk_42_method_74_code_30 : decode jdk_42_method_74_code 30 = .ok (.i2l, 1) := by decide +kernel
theorem d_jdk_42_method_74_code_31 : decode jdk_42_method_74_code 31 = .ok (.iload 5, 2) := by decide +kernel
theorem d_jdk_42_method_74_code_33 : decode jdk_42_method_74_code 33 = .ok (.i2l, 1) := by decide +kernel
theorem d_jdk_42_method_74_code_34 : decode jdk_42_method_74_code 34 = .ok (.lsub, 1) := by decide +kernel
theorem d_jdk_42_method_74_code_35 : decode jdk_42_method_74_code 35 = .ok (.lcmp, 1) := by decide +kernel
theorem d_jdk_42_method_74_code_36 : decode jdk_42_method_74_code 36 = .ok (.ifCond .gt 19, 3) := by decide +kernel
theorem d_jdk_42_method_74_code_39 : decode jdk_42_method_74_code 39 = .ok (.iload 4, 2) := by decide +kernel
theorem d_jdk_42_method_74_code_41 : decode jdk_42_method_74_code 41 = .ok (.i2l, 1) := by decide +kernel
theorem d_jdk_42_method_74_code_42 : decode jdk_42_method_74_code 42 = .ok (.aload_n 3, 1) := by decide +kernel
theorem d_jdk_42_method_74_code_43 : decode jdk_42_method_74_code 43 = .ok (.invokevirtual 505, 3) := by decide +kernel
theorem d_jdk_42_method_74_code_46 : decode jdk_42_method_74_code 46 = .ok (.i2l, 1) := by decide +kernel
theorem d_jdk_42_method_74_code_47 : decode jdk_42_method_74_code 47 = .ok (.iload 5, 2) := by decide +kernel
theorem d_jdk_42_method_74_code_49 : decode jdk_42_method_74_code 49 = .ok (.i2l, 1) := by decide +kernel
theorem d_jdk_42_method_74_code_50 : decode jdk_42_method_74_code 50 = .ok (.lsub, 1) := by decide +kernel
theorem d_jdk_42_method_74_code_51 : decode jdk_42_method_74_code 51 = .ok (.lcmp, 1) := by decide +kernel
theorem d_jdk_42_method_74_code_52 : decode jdk_42_method_74_code 52 = .ok (.ifCond .le 5, 3) := by decide +kernel
theorem d_jdk_42_method_74_code_55 : decode jdk_42_method_74_code 55 = .ok (.iconst 0, 1) := by decide +kernel
theorem d_jdk_42_method_74_code_56 : decode jdk_42_method_74_code 56 = .ok (.ireturn, 1) := by decide +kernel
theorem d_jdk_42_method_74_code_57 : decode jdk_42_method_74_code 57 = .ok (.aload_n 0, 1) := by decide +kernel
theorem d_jdk_42_method_74_code_58 : decode jdk_42_method_74_code 58 = .ok (.getfield 9, 3) := by decide +kernel
theorem d_jdk_42_method_74_code_61 : decode jdk_42_method_74_code 61 = .ok (.astore 6, 2) := by decide +kernel
theorem d_jdk_42_method_74_code_63 : decode jdk_42_method_74_code 63 = .ok (.aload_n 3, 1) := by decide +kernel
theorem d_jdk_42_method_74_code_64 : decode jdk_42_method_74_code 64 = .ok (.getfield 9, 3) := by decide +kernel
theorem d_jdk_42_method_74_code_67 : decode jdk_42_method_74_code 67 = .ok (.astore 7, 2) := by decide +kernel
theorem d_jdk_42_method_74_code_69 : decode jdk_42_method_74_code 69 = .ok (.aload_n 0, 1) := by decide +kernel
theorem d_jdk_42_method_74_code_70 : decode jdk_42_method_74_code 70 = .ok (.invokevirtual 335, 3) := by decide +kernel
theorem d_jdk_42_method_74_code_73 : decode jdk_42_method_74_code 73 = .ok (.istore 8, 2) := by decide +kernel
theorem d_jdk_42_method_74_code_75 : decode jdk_42_method_74_code 75 = .ok (.iload 8, 2) := by decide +kernel
theorem d_jdk_42_method_74_code_77 : decode jdk_42_method_74_code 77 = .ok (.aload_n 3, 1) := by decide +kernel
theorem d_jdk_42_method_74_code_78 : decode jdk_42_method_74_code 78 = .ok (.invokevirtual 335, 3) := by decide +kernel
theorem d_jdk_42_method_74_code_81 : decode jdk_42_method_74_code 81 = .ok (.if_icmp .ne 36, 3) := by decide +kernel
theorem d_jdk_42_method_74_code_84 : decode jdk_42_method_74_code 84 = .ok (.iload 8, 2) := by decide +kernel
theorem d_jdk_42_method_74_code_86 : decode jdk_42_method_74_code 86 = .ok (.ifCond .ne 18, 3) := by decide +kernel
theorem d_jdk_42_method_74_code_89 : decode jdk_42_method_74_code 89 = .ok (.aload 6, 2) := by decide +kernel
theorem d_jdk_42_method_74_code_91 : decode jdk_42_method_74_code 91 = .ok (.iload_n 2, 1) := by decide +kernel
theorem d_jdk_42_method_74_code_92 : decode jdk_42_method_74_code 92 = .ok (.aload 7, 2) := by decide +kernel
theorem d_jdk_42_method_74_code_94 : decode jdk_42_method_74_code 94 = .ok (.iload 4, 2) := by decide +kernel
theorem d_jdk_42_method_74_code_96 : decode jdk_42_method_74_code 96 = .ok (.iload 5, 2) := by decide +kernel
theorem d_jdk_42_method_74_code_98 : decode jdk_42_method_74_code 98 = .ok (.invokestatic 613, 3) := by decide +kernel
theorem d_jdk_42_method_74_code_101 : decode jdk_42_method_74_code 101 = .ok (.goto 15, 3) := by decide +kernel
theorem d_jdk_42_method_74_code_116 : decode jdk_42_method_74_code 116 = .ok (.ireturn, 1) := by decide +kernel
theorem d_jdk_43_method_30_code_0 : decode jdk_43_method_30_code 0 = .ok (.iload_n 1, 1) := by decide +kernel
theorem d_jdk_43_method_30_code_1 : decode jdk_43_method_30_code 1 = .ok (.iload 4, 2) := by decide +kernel
theorem d_jdk_43_method_30_code_3 : decode jdk_43_method_30_code 3 = .ok (.iadd, 1) := by decide +kernel
theorem d_jdk_43_method_30_code_4 : decode jdk_43_method_30_code 4 = .ok (.istore 5, 2) := by decide +kernel
theorem d_jdk_43_method_30_code_6 : decode jdk_43_method_30_code 6 = .ok (.iload_n 1, 1) := by decide +kernel
theorem d_jdk_43_method_30_code_7 : decode jdk_43_method_30_code 7 = .ok (.iload 5, 2) := by decide +kernel
theorem d_jdk_43_method_30_code_9 : decode jdk_43_method_30_code 9 = .ok (.if_icmp .ge 34, 3) := by decide +kernel
theorem d_jdk_43_method_30_code_12 : decode jdk_43_method_30_code 12 = .ok (.aload_n 0, 1) := by decide +kernel
theorem d_jdk_43_method_30_code_13 : decode jdk_43_method_30_code 13 = .ok (.iload_n 1, 1) := by decide +kernel
theorem d_jdk_43_method_30_code_14 : decode jdk_43_method_30_code 14 = .ok (.iinc 1 1, 3) := by decide +kernel
theorem d_jdk_43_method_30_code_17 : decode jdk_43_method_30_code 17 = .ok (.baload, 1) := by decide +kernel
theorem d_jdk_43_method_30_code_18 : decode jdk_43_method_30_code 18 = .ok (.istore 6, 2) := by decide +kernel
theorem d_jdk_43_method_30_code_20 : decode jdk_43_method_30_code 20 = .ok (.aload_n 2, 1) := by decide +kernel
theorem d_jdk_43_method_30_code_21 : decode jdk_43_method_30_code 21 = .ok (.iload_n 3, 1) := by decide +kernel
theorem d_jdk_43_method_30_code_22 : decode jdk_43_method_30_code 22 = .ok (.iinc 3 1, 3) := by decide +kernel
theorem d_jdk_43_method_30_code_25 : decode jdk_43_method_30_code 25 = .ok (.baload, 1) := by decide +kernel
theorem d_jdk_43_method_30_code_26 : decode jdk_43_method_30_code 26 = .ok (.istore 7, 2) := by decide +kernel
theorem d_jdk_43_method_30_code_28 : decode jdk_43_method_30_code 28 = .ok (.iload 6, 2) := by decide +kernel
theorem d_jdk_43_method_30_code_30 : decode jdk_43_method_30_code 30 = .ok (.iload 7, 2) := by decide +kernel
theorem d_jdk_43_method_30_code_32 : decode jdk_43_method_30_code 32 = .ok (.invokestatic 153, 3) := by decide +kernel
theorem d_jdk_43_method_30_code_35 : decode jdk_43_method_30_code 35 = .ok (.ifCond .eq 6, 3) := by decide +kernel
theorem d_jdk_43_method_30_code_38 : decode jdk_43_method_30_code 38 = .ok (.goto (-32), 3) := by decide +kernel
theorem d_jdk_43_method_30_code_41 : decode jdk_43_method_30_code 41 = .ok (.iconst 0, 1) := by decide +kernel
theorem d_jdk_43_method_30_code_42 : decode jdk_43_method_30_code 42 = .ok (.ireturn, 1) := by decide +kernel
theorem d_jdk_43_method_30_code_43 : decode jdk_43_method_30_code 43 = .ok (.iconst 1, 1) := by decide +kernel
theorem d_jdk_43_method_30_code_44 : decode jdk_43_method_30_code 44 = .ok (.ireturn, 1) := by decide +kernel
theorem d_jdk_52_method_15_code_0 : decode jdk_52_method_15_code 0 = .ok (.iload_n 1, 1) := by decide +kernel
theorem d_jdk_52_method_15_code_1 : decode jdk_52_method_15_code 1 = .ok (.aload_n 0, 1) := by decide +kernel
theorem d_jdk_52_method_15_code_2 : decode jdk_52_method_15_code 2 = .ok (.arraylength, 1) := by decide +kernel
theorem d_jdk_52_method_15_code_3 : decode jdk_52_method_15_code 3 = .ok (.isub, 1) := by decide +kernel
theorem d_jdk_52_method_15_code_4 : decode jdk_52_method_15_code 4 = .ok (.bipush 31, 2) := by decide +kernel
theorem d_jdk_52_method_15_code_6 : decode jdk_52_method_15_code 6 = .ok (.iushr, 1) := by decide +kernel
theorem d_jdk_52_method_15_code_7 : decode jdk_52_method_15_code 7 = .ok (.i2b, 1) := by decide +kernel
theorem d_jdk_52_method_15_code_8 : decode jdk_52_method_15_code 8 = .ok (.ireturn, 1) := by decide +kernel
theorem d_jdk_52_method_16_code_0 : decode jdk_52_method_16_code 0 = .ok (.iload_n 2, 1) := by decide +kernel
theorem d_jdk_52_method_16_code_1 : decode jdk_52_method_16_code 1 = .ok (.newarray .byte, 2) := by decide +kernel
theorem d_jdk_52_method_16_code_3 : decode jdk_52_method_16_code 3 = .ok (.astore_n 3, 1) := by decide +kernel
theorem d_jdk_52_method_16_code_4 : decode jdk_52_method_16_code 4 = .ok (.aload_n 0, 1) := by decide +kernel
theorem d_jdk_52_method_16_code_5 : decode jdk_52_method_16_code 5 = .ok (.iload_n 1, 1) := by decide +kernel
theorem d_jdk_52_method_16_code_6 : decode jdk_52_method_16_code 6 = .ok (.aload_n 3, 1) := by decide +kernel
theorem d_jdk_52_method_16_code_7 : decode jdk_52_method_16_code 7 = .ok (.iconst 0, 1) := by decide +kernel
theorem d_jdk_52_method_16_code_8 : decode jdk_52_method_16_code 8 = .ok (.iload_n 2, 1) := by decide +kernel
theorem d_jdk_52_method_16_code_9 : decode jdk_52_method_16_code 9 = .ok (.invokestatic 115, 3) := by decide +kernel
theorem d_jdk_52_method_16_code_12 : decode jdk_52_method_16_code 12 = .ok (.istore 4, 2) := by decide +kernel
theorem d_jdk_52_method_16_code_14 : decode jdk_52_method_16_code 14 = .ok (.iload 4, 2) := by decide +kernel
theorem d_jdk_52_method_16_code_16 : decode jdk_52_method_16_code 16 = .ok (.iload_n 2, 1) := by decide +kernel
theorem d_jdk_52_method_16_code_17 : decode jdk_52_method_16_code 17 = .ok (.if_icmp .eq 40, 3) := by decide +kernel
theorem d_jdk_52_method_16_code_57 : decode jdk_52_method_16_code 57 = .ok (.aload_n 3, 1) := by decide +kernel
theorem d_jdk_52_method_16_code_58 : decode jdk_52_method_16_code 58 = .ok (.areturn, 1) := by decide +kernel
theorem d_jdk_52_method_21_code_0 : decode jdk_52_method_21_code 0 = .ok (.iconst 0, 1) := by decide +kernel
theorem d_jdk_52_method_21_code_1 : decode jdk_52_method_21_code 1 = .ok (.istore 5, 2) := by decide +kernel
theorem d_jdk_52_method_21_code_3 : decode jdk_52_method_21_code 3 = .ok (.iload 5, 2) := by decide +kernel
theorem d_jdk_52_method_21_code_5 : decode jdk_52_method_21_code 5 = .ok (.iload 4, 2) := by decide +kernel
theorem d_jdk_52_method_21_code_7 : decode jdk_52_method_21_code 7 = .ok (.if_icmp .ge 37, 3) := by decide +kernel
theorem d_jdk_52_method_21_code_10 : decode jdk_52_method_21_code 10 = .ok (.aload_n 0, 1) := by decide +kernel
theorem d_jdk_52_method_21_code_11 : decode jdk_52_method_21_code 11 = .ok (.iload_n 1, 1) := by decide +kernel
theorem d_jdk_52_method_21_code_12 : decode jdk_52_method_21_code 12 = .ok (.caload, 1) := by decide +kernel
theorem d_jdk_52_method_21_code_13 : decode jdk_52_method_21_code 13 = .ok (.istore 6, 2) := by decide +kernel
theorem d_jdk_52_method_21_code_15 : decode jdk_52_method_21_code 15 = .ok (.iload 6, 2) := by decide +kernel
theorem d_jdk_52_method_21_code_17 : decode jdk_52_method_21_code 17 = .ok (.sipush 255, 3) := by decide +kernel
theorem d_jdk_52_method_21_code_20 : decode jdk_52_method_21_code 20 = .ok (.if_icmp .le 6, 3) := by decide +kernel
theorem d_jdk_52_method_21_code_23 : decode jdk_52_method_21_code 23 = .ok (.iload 5, 2) := by decide +kernel
theorem d_jdk_52_method_21_code_25 : decode jdk_52_method_21_code 25 = .ok (.ireturn, 1) := by decide +kernel
theorem d_jdk_52_method_21_code_26 : decode jdk_52_method_21_code 26 = .ok (.aload_n 2, 1) := by decide +kernel
theorem d_jdk_52_method_21_code_27 : decode jdk_52_method_21_code 27 = .ok (.iload_n 3, 1) := by decide +kernel
theorem d_jdk_52_method_21_code_28 : decode jdk_52_method_21_code 28 = .ok (.iload 6, 2) := by decide +kernel
theorem d_jdk_52_method_21_code_30 : decode jdk_52_method_21_code 30 = .ok (.i2b, 1) := by decide +kernel
theorem d_jdk_52_method_21_code_31 : decode jdk_52_method_21_code 31 = .ok (.bastore, 1) := by decide +kernel
theorem d_jdk_52_method_21_code_32 : decode jdk_52_method_21_code 32 = .ok (.iinc 1 1, 3) := by decide +kernel
theorem d_jdk_52_method_21_code_35 : decode jdk_52_method_21_code 35 = .ok (.iinc 3 1, 3) := by decide +kernel
theorem d_jdk_52_method_21_code_38 : decode jdk_52_method_21_code 38 = .ok (.iinc 5 1, 3) := by decide +kernel
theorem d_jdk_52_method_21_code_41 : decode jdk_52_method_21_code 41 = .ok (.goto (-38), 3) := by decide +kernel
theorem d_jdk_52_method_21_code_44 : decode jdk_52_method_21_code 44 = .ok (.iload 4, 2) := by decide +kernel
theorem d_jdk_52_method_21_code_46 : decode jdk_52_method_21_code 46 = .ok (.ireturn, 1) := by decide +kernel
theorem d_method_3_code_0 : decode method_3_code 0 = .ok (.iload_n 0, 1) := by decide +kernel
theorem d_method_3_code_1 : decode method_3_code 1 = .ok (.iconst 3, 1) := by decide +kernel
theorem d_method_3_code_2 : decode method_3_code 2 = .ok (.iand, 1) := by decide +kernel
theorem d_method_3_code_3 : decode method_3_code 3 = .ok (.istore_n 3, 1) := by decide +kernel
theorem d_method_3_code_4 : decode method_3_code 4 = .ok (.iload_n 3, 1) := by decide +kernel
theorem d_method_3_code_5 : decode method_3_code 5 = .ok (.ifCond .eq 8, 3) := by decide +kernel
theorem d_method_3_code_8 : decode method_3_code 8 = .ok (.iload_n 3, 1) := by decide +kernel
theorem d_method_3_code_9 : decode method_3_code 9 = .ok (.iconst 2, 1) := by decide +kernel
theorem d_method_3_code_10 : decode method_3_code 10 = .ok (.if_icmp .ne 5, 3) := by decide +kernel
theorem d_method_3_code_13 : decode method_3_code 13 = .ok (.iload_n 1, 1) := by decide +kernel
theorem d_method_3_code_14 : decode method_3_code 14 = .ok (.ireturn, 1) := by decide +kernel
theorem d_method_3_code_15 : decode method_3_code 15 = .ok (.iload_n 3, 1) := by decide +kernel
theorem d_method_3_code_16 : decode method_3_code 16 = .ok (.iconst 1, 1) := by decide +kernel
theorem d_method_3_code_17 : decode method_3_code 17 = .ok (.if_icmp .ne 5, 3) := by decide +kernel
theorem d_method_3_code_20 : decode method_3_code 20 = .ok (.iload_n 2, 1) := by decide +kernel
theorem d_method_3_code_21 : decode method_3_code 21 = .ok (.ireturn, 1) := by decide +kernel
theorem d_method_3_code_22 : decode method_3_code 22 = .ok (.iload_n 0, 1) := by decide +kernel
theorem d_method_3_code_23 : decode method_3_code 23 = .ok (.iconst 2, 1) := by decide +kernel
theorem d_method_3_code_24 : decode method_3_code 24 = .ok (.iushr, 1) := by decide +kernel
theorem d_method_3_code_25 : decode method_3_code 25 = .ok (.sipush 255, 3) := by decide +kernel
theorem d_method_3_code_28 : decode method_3_code 28 = .ok (.iand, 1) := by decide +kernel
theorem d_method_3_code_29 : decode method_3_code 29 = .ok (.i2c, 1) := by decide +kernel
theorem d_method_3_code_30 : decode method_3_code 30 = .ok (.ireturn, 1) := by decide +kernel
theorem d_method_4_code_0 : decode method_4_code 0 = .ok (.iload_n 0, 1) := by decide +kernel
theorem d_method_4_code_1 : decode method_4_code 1 = .ok (.iload_n 1, 1) := by decide +kernel
theorem d_method_4_code_2 : decode method_4_code 2 = .ok (.if_icmp .eq 8, 3) := by decide +kernel
theorem d_method_4_code_5 : decode method_4_code 5 = .ok (.iload_n 0, 1) := by decide +kernel
theorem d_method_4_code_6 : decode method_4_code 6 = .ok (.iload_n 2, 1) := by decide +kernel
theorem d_method_4_code_7 : decode method_4_code 7 = .ok (.if_icmp .ne 7, 3) := by decide +kernel
theorem d_method_4_code_10 : decode method_4_code 10 = .ok (.iconst 1, 1) := by decide +kernel
theorem d_method_4_code_11 : decode method_4_code 11 = .ok (.goto 4, 3) := by decide +kernel
theorem d_method_4_code_14 : decode method_4_code 14 = .ok (.iconst 0, 1) := by decide +kernel
theorem d_method_4_code_15 : decode method_4_code 15 = .ok (.ireturn, 1) := by decide +kernel
theorem d_prog_16_method_2_code_0 : decode prog_16_method_2_code 0 = .ok (.ldc 20, 2) := by decide +kernel
theorem d_prog_16_method_2_code_2 : decode prog_16_method_2_code 2 = .ok (.astore_n 1, 1) := by decide +kernel
theorem d_prog_16_method_2_code_3 : decode prog_16_method_2_code 3 = .ok (.aload_n 0, 1) := by decide +kernel
theorem d_prog_16_method_2_code_4 : decode prog_16_method_2_code 4 = .ok (.iconst 1, 1) := by decide +kernel
theorem d_prog_16_method_2_code_5 : decode prog_16_method_2_code 5 = .ok (.iconst 0, 1) := by decide +kernel
theorem d_prog_16_method_2_code_6 : decode prog_16_method_2_code 6 = .ok (.aload_n 1, 1) := by decide +kernel
theorem d_prog_16_method_2_code_7 : decode prog_16_method_2_code 7 = .ok (.iconst 0, 1) := by decide +kernel
theorem d_prog_16_method_2_code_8 : decode prog_16_method_2_code 8 = .ok (.aload_n 1, 1) := by decide +kernel
theorem d_prog_16_method_2_code_9 : decode prog_16_method_2_code 9 = .ok (.invokevirtual 22, 3) := by decide +kernel
theorem d_prog_16_method_2_code_12 : decode prog_16_method_2_code 12 = .ok (.invokevirtual 28, 3) := by decide +kernel
theorem d_prog_16_method_2_code_15 : decode prog_16_method_2_code 15 = .ok (.ireturn, 1) := by decide +kernel
theorem pd0 : parseMethodDescriptor "([CI[BII)I" = some ⟨[(.array .char), .int, (.array .byte), .int, .int], some .int⟩ := by decide +kernel
theorem pd1 : parseMethodDescriptor "([CII)[B" = some ⟨[(.array .char), .int, .int], some (.array .byte)⟩ := by decide +kernel
theorem pd2 : parseMethodDescriptor "([BI)B" = some ⟨[(.array .byte), .int], some .byte⟩ := by decide +kernel
theorem pd3 : parseMethodDescriptor "([CIILjava/lang/Void;)V" = some ⟨[(.array .char), .int, .int, (.object "java/lang/Void")], none⟩ := by decide +kernel
theorem pd4 : parseMethodDescriptor "()B" = some ⟨[], some .byte⟩ := by decide +kernel
theorem pd5 : parseMethodDescriptor "(BB)Z" = some ⟨[.byte, .byte], some .boolean⟩ := by decide +kernel
theorem pd6 : parseMethodDescriptor "()I" = some ⟨[], some .int⟩ := by decide +kernel
theorem pd7 : parseMethodDescriptor "([BI[BII)Z" = some ⟨[(.array .byte), .int, (.array .byte), .int, .int], some .boolean⟩ := by decide +kernel
theorem pd8 : parseMethodDescriptor "(ZILjava/lang/String;II)Z" = some ⟨[.boolean, .int, (.object "java/lang/String"), .int, .int], some .boolean⟩ := by decide +kernel
theorem pd9 : parseMethodDescriptor "(ICC)C" = some ⟨[.int, .char, .char], some .char⟩ := by decide +kernel
theorem pd10 : parseMethodDescriptor "([C)V" = some ⟨[(.array .char)], none⟩ := by decide +kernel
theorem pd11 : parseMethodDescriptor "(CCC)Z" = some ⟨[.char, .char, .char], some .boolean⟩ := by decide +kernel
theorem pd12 : parseMethodDescriptor "(Ljava/lang/String;)Z" = some ⟨[(.object "java/lang/String")], some .boolean⟩ := by decide +kernel
def EL0 : List (String × Nat) := [("com/example/fencelock/fencelock/store/RedisAddress", (20 : Nat)), ("java/lang/String", (7 : Nat))]
def Sts (Z : State) : Prop := (∃ z : Int32, Sta Z Z.heap "java/lang/String" "COMPACT_STRINGS" "Z" (.int z) ∧ ¬ z = 0) ∧ True
theorem strAt {a0 : Array Value} {Z : State} (hw : ∀ d ∈ tables_1, d.before a0 Z = true) : ∀ a ∈ Bundle.stringAtoms, a.before a0 Z = true := by
  intro a ha
  simp only [Bundle.stringAtoms, List.mem_cons, List.not_mem_nil, or_false] at ha
  rcases ha with rfl | rfl | rfl | rfl | rfl | rfl | rfl
  · exact (tw6 hw)
  · exact (tw5 hw)
  · exact (tw23 hw)
  · exact (tw33 hw)
  · exact (tw31 hw)
  · exact (tw42 hw)
  · exact (tw43 hw)

abbrev Lat (c : Int32) : Prop := ¬ (255 : Int32) < c ∧ ¬ c < (0 : Int32)
def isv (c lo up : Int32) : Int32 := if c = lo then 1 else if c = up then 1 else 0
def eqIC (x y : Int32) : Int32 := if x = y then 1 else if x &&& 223 < 65 then 0 else if ¬ (90 : Int32) < x &&& 223 then (if x &&& 223 = y &&& 223 then 1 else 0) else if x &&& 223 < 192 then 0 else if (222 : Int32) < x &&& 223 then 0 else if x &&& 223 = 215 then 0 else if x &&& 223 = y &&& 223 then 1 else 0
def rmci : List Int32 → List Int32 → Int32
  | _, [] => 1
  | [], _ :: _ => 0
  | x :: xs, y :: ys => if eqIC x y = 0 then 0 else rmci xs ys
def RB : List Int32 := [114, 101, 100, 105, 115, 58, 47, 47]
theorem rmci_step : ∀ {xs ys : List Int32} {i : Nat} {x y : Int32}, xs[i]? = some x → ys[i]? = some y → rmci (xs.drop i) (ys.drop i) = if eqIC x y = 0 then 0 else rmci (xs.drop (i + 1)) (ys.drop (i + 1)) := by
  intro xs ys i x y hx hy
  obtain ⟨h1, e1⟩ := List.getElem?_eq_some_iff.mp hx
  obtain ⟨h2, e2⟩ := List.getElem?_eq_some_iff.mp hy
  rw [List.drop_eq_getElem_cons h1, List.drop_eq_getElem_cons h2, rmci, e1, e2]
theorem rmci_bit : ∀ xs ys : List Int32, rmci xs ys = 0 ∨ rmci xs ys = 1
  | _, [] => by simp [rmci]
  | [], _ :: _ => by simp [rmci]
  | x :: xs, y :: ys => by
    rw [rmci]; split
    · exact Or.inl rfl
    · exact rmci_bit xs ys
theorem rmci_nar (xs ys : List Int32) : narrow .boolean (.int (rmci xs ys)) = .int (rmci xs ys) := by rcases rmci_bit xs ys with q | q <;> rw [q] <;> rfl
theorem ifrm_nar (xs ys : List Int32) : narrow .boolean (.int (if xs.length < ys.length then 0 else rmci xs ys)) = .int (if xs.length < ys.length then 0 else rmci xs ys) := by
  split
  · rfl
  · exact rmci_nar xs ys
theorem lat_int {c : Int32} (h : Lat c) : 0 ≤ c.toInt ∧ c.toInt ≤ 255 := by
  have h1 := h.1; have h2 := h.2
  rw [Int32.lt_iff_toInt_lt] at h1 h2
  have e1 : (255 : Int32).toInt = 255 := rfl
  have e2 : (0 : Int32).toInt = 0 := rfl
  omega
theorem lat_ex {c : Int32} (h : Lat c) : ∃ n : Fin 256, c = Int32.ofInt (n.1 : Int) := by
  have := lat_int h
  exact ⟨⟨c.toInt.toNat, by omega⟩, by
    apply Int32.toInt_inj.mp
    show c.toInt = (Int32.ofInt (c.toInt.toNat : Int)).toInt
    rw [Int.toNat_of_nonneg this.1, Int32.ofInt_toInt]⟩
theorem nar_lat {c : Int32} (h : Lat c) : nar .char c = c := by
  obtain ⟨n, rfl⟩ := lat_ex h
  revert n; decide +kernel
theorem lat_mask (a : Int32) : Lat ((a &&& 255).toUInt32.toUInt16.toUInt32.toInt32) := ⟨lat8 a, by rw [i2c_mask, Int32.lt_iff_toInt_lt]; have := and255 a; have e : (0 : Int32).toInt = 0 := rfl; omega⟩
theorem eq_lit0 {c : Int32} (h : Lat c) : eqIC (b8 c) 114 = isv c 114 82 := by
  obtain ⟨n, rfl⟩ := lat_ex h
  revert n; decide +kernel
theorem eq_lit1 {c : Int32} (h : Lat c) : eqIC (b8 c) 101 = isv c 101 69 := by
  obtain ⟨n, rfl⟩ := lat_ex h
  revert n; decide +kernel
theorem eq_lit2 {c : Int32} (h : Lat c) : eqIC (b8 c) 100 = isv c 100 68 := by
  obtain ⟨n, rfl⟩ := lat_ex h
  revert n; decide +kernel
theorem eq_lit3 {c : Int32} (h : Lat c) : eqIC (b8 c) 105 = isv c 105 73 := by
  obtain ⟨n, rfl⟩ := lat_ex h
  revert n; decide +kernel
theorem eq_lit4 {c : Int32} (h : Lat c) : eqIC (b8 c) 115 = isv c 115 83 := by
  obtain ⟨n, rfl⟩ := lat_ex h
  revert n; decide +kernel
theorem eq_lit5 {c : Int32} (h : Lat c) : eqIC (b8 c) 58 = isv c 58 58 := by
  obtain ⟨n, rfl⟩ := lat_ex h
  revert n; decide +kernel
theorem eq_lit6 {c : Int32} (h : Lat c) : eqIC (b8 c) 47 = isv c 47 47 := by
  obtain ⟨n, rfl⟩ := lat_ex h
  revert n; decide +kernel
theorem eq_lit7 {c : Int32} (h : Lat c) : eqIC (b8 c) 47 = isv c 47 47 := by
  obtain ⟨n, rfl⟩ := lat_ex h
  revert n; decide +kernel
theorem len_cmp {a b : Nat} (ha : a < 2147483648) (hb : b < 2147483648) : (0 : Int32) < lcmpW ((0 : Int32).toInt64) (a.toInt32.toInt64 - b.toInt32.toInt64) ↔ a < b := by
  rw [lw_gt, Int64.lt_iff_toInt_lt]
  have e1 : ((0 : Int32).toInt64).toInt = 0 := rfl
  have e2 := c_lsub a.toInt32.toInt64 b.toInt32.toInt64
  rw [c_i2l, c_i2l, t32_int ha, t32_int hb] at e2
  have e3 := rng64 (a.toInt32.toInt64 - b.toInt32.toInt64)
  omega

set_option maxRecDepth 65536 in
set_option maxHeartbeats 40000000 in
theorem c_compress5 {l : Launch} {Z : State} {a0 : Array Value} (hw : ∀ d ∈ tables_1, d.before a0 Z = true) {va da : Addr} {cs : List Int32} {ds : List Value} {h0 : Heap} (A_va : AR Z h0 va .char (cs.map Value.int)) (A_da : AR Z h0 da .byte ds) (hl : ds.length = cs.length) (ne : va ≠ da) :
    Con l Z a0 EL0 (⟨"java/lang/StringUTF16", "compress", "([CI[BII)I"⟩ : MethodName) jdk_52_method_21_code 7 (Option.some Jvm.ClassFile.FieldType.int) ({ frames := 0, cells := 0, slots := 0, locals := 0 } : Room) #[(.ref va), (.int (0 : Int32)), (.ref da), (.int (0 : Int32)), (.int cs.length.toInt32)] h0 [da] [da] (fun v h ns => v = some (.int (lat cs).toInt32) ∧ ns = [] ∧ AR Z h da .byte ((cs.take (lat cs)).map bv ++ ds.drop (lat cs))) := by
  refine Con.of (L0 := #[.val (.ref va), .val (.int (0 : Int32)), .val (.ref da), .val (.int (0 : Int32)), .val (.int cs.length.toInt32), .unset, .unset]) (by decide +kernel) (fun m => by first | rfl | (simp [entryFrame, mkF, argsToLocals, Value.category]; done)) ?_
  intro p e s m below meth c T w
  refine g_iconst (pc := 0) w d_jdk_52_method_21_code_0 (z := (0 : Int32)) (by decide) ?_
  refine g_istore (pc := 1) w d_jdk_52_method_21_code_1 (l' := #[.val (.ref va), .val (.int (0 : Int32)), .val (.ref da), .val (.int (0 : Int32)), .val (.int cs.length.toInt32), .val (.int (0 : Int32)), .unset]) rfl ?_
  have hcl : cs.length < 2147483648 := by have := A_va.len; simpa using this
  have loop : ∀ (r i : Nat) (T : State) (h : Heap) (s6 : Slot), i + r = cs.length → i ≤ lat cs → One s6 → OW p l e ({ frames := 0, cells := 0, slots := 0, locals := 0 } : Room) s m #[(.ref va), (.int (0 : Int32)), (.ref da), (.int (0 : Int32)), (.int cs.length.toInt32)] below meth c Z a0 EL0 "java/lang/StringUTF16" "compress" jdk_52_method_21_code 7 (Option.some Jvm.ClassFile.FieldType.int) [da] h0 [da] T h 0 0 → AR Z h va .char (cs.map Value.int) → AR Z h da .byte ((cs.take i).map bv ++ ds.drop i) → Go p.tables e below (Fin' s Z EL0 [da] h0 ({ frames := 0, cells := 0, slots := 0, locals := 0 } : Room) (fun v h ns => v = some (.int (lat cs).toInt32) ∧ ns = [] ∧ AR Z h da .byte ((cs.take (lat cs)).map bv ++ ds.drop (lat cs)))) (T.setTop (mkF m 3 #[.val (.ref va), .val (.int i.toInt32), .val (.ref da), .val (.int i.toInt32), .val (.int cs.length.toInt32), .val (.int i.toInt32), s6] [])) := by
    intro r
    induction r with
    | zero =>
      intro i T h s6 hi hj h6 w A_va A_da
      have hii : i = cs.length := by omega
      have hlat : lat cs = i := Nat.le_antisymm (hii ▸ lat_le cs) hj
      refine g_iload (pc := 3) w d_jdk_52_method_21_code_3 rfl ?_
      refine g_iload (pc := 5) w d_jdk_52_method_21_code_5 rfl ?_
      refine g_icmpYes (pc := 7) w d_jdk_52_method_21_code_7 ((flt ((by rw [hii]; exact Int32.lt_irrefl) : ¬ i.toInt32 < cs.length.toInt32)).2.1) (by decide) (pc' := 44) (by decide) ?_
      refine g_iload (pc := 44) w d_jdk_52_method_21_code_44 rfl ?_
      exact g_retI (pc := 46) w rfl (by decide) (by decide) (ns := []) (fun _ q => nomatch q) d_jdk_52_method_21_code_46 ⟨by rw [hlat, hii], rfl, by rw [hlat]; exact A_da⟩
    | succ r ih =>
      intro i T h s6 hi hj h6 w A_va A_da
      have hil : i < cs.length := by omega
      have hi31 : i < 2147483648 := by omega
      obtain ⟨ch, hc⟩ : ∃ ch, cs[i]? = some ch := ⟨_, List.getElem?_eq_getElem hil⟩
      refine g_iload (pc := 3) w d_jdk_52_method_21_code_3 rfl ?_
      refine g_iload (pc := 5) w d_jdk_52_method_21_code_5 rfl ?_
      refine g_icmpNo (pc := 7) w d_jdk_52_method_21_code_7 ((tlt (((t32_lt hi31 hcl).mpr hil) : i.toInt32 < cs.length.toInt32)).2.1) ?_
      refine g_aloadN (pc := 10) w d_jdk_52_method_21_code_10 rfl rfl ?_
      refine g_iloadN (pc := 11) w d_jdk_52_method_21_code_11 rfl ?_
      refine g_caload (pc := 12) w A_va (t32_nneg hi31) (by rw [t32_nat hi31]; exact get_map_int hc) d_jdk_52_method_21_code_12 ?_
      refine g_istore (pc := 13) w d_jdk_52_method_21_code_13 (l' := #[.val (.ref va), .val (.int i.toInt32), .val (.ref da), .val (.int i.toInt32), .val (.int cs.length.toInt32), .val (.int i.toInt32), .val (.int ch)]) (XS.store1 (o := s6) rfl h6 rfl) ?_
      refine g_iload (pc := 15) w d_jdk_52_method_21_code_15 rfl ?_
      refine g_sipush (pc := 17) w d_jdk_52_method_21_code_17 (z := (255 : Int32)) (by decide) ?_
      by_cases hbig : (255 : Int32) < ch
      · refine g_icmpNo (pc := 20) w d_jdk_52_method_21_code_20 ((tlt (hbig : (255 : Int32) < ch)).2.2.2) ?_
        refine g_iload (pc := 23) w d_jdk_52_method_21_code_23 rfl ?_
        have hlat : lat cs = i := lat_stop hj hc hbig
        exact g_retI (pc := 25) w rfl (by decide) (by decide) (ns := []) (fun _ q => nomatch q) d_jdk_52_method_21_code_25 ⟨by rw [hlat], rfl, by rw [hlat]; exact A_da⟩
      · refine g_icmpYes (pc := 20) w d_jdk_52_method_21_code_20 ((flt (hbig : ¬ (255 : Int32) < ch)).2.2.2) (by decide) (pc' := 26) (by decide) ?_
        refine g_aloadN (pc := 26) w d_jdk_52_method_21_code_26 rfl rfl ?_
        refine g_iloadN (pc := 27) w d_jdk_52_method_21_code_27 rfl ?_
        refine g_iload (pc := 28) w d_jdk_52_method_21_code_28 rfl ?_
        refine g_i2b (pc := 30) w d_jdk_52_method_21_code_30 ?_
        refine g_bastore (pc := 31) w A_da (t32_nneg hi31) (by rw [t32_nat hi31]; simp; omega) (Or.inl (by simp)) (by simp) d_jdk_52_method_21_code_31 ?_
        intro T1 h1 w1 W1 A_da
        have A_va := A_va.other W1 ne
        have A_da : AR Z h1 da .byte ((cs.take (i + 1)).map bv ++ ds.drop (i + 1)) := (by rw [t32_nat hi31, b8_b8] at A_da; rw [put_next (f := bv) hl hc] at A_da; exact A_da)
        refine g_iinc (pc := 32) w1 d_jdk_52_method_21_code_32 rfl (z := (i + 1).toInt32) (t32_succ i) (l' := #[.val (.ref va), .val (.int (i + 1).toInt32), .val (.ref da), .val (.int i.toInt32), .val (.int cs.length.toInt32), .val (.int i.toInt32), .val (.int ch)]) rfl ?_
        refine g_iinc (pc := 35) w1 d_jdk_52_method_21_code_35 rfl (z := (i + 1).toInt32) (t32_succ i) (l' := #[.val (.ref va), .val (.int (i + 1).toInt32), .val (.ref da), .val (.int (i + 1).toInt32), .val (.int cs.length.toInt32), .val (.int i.toInt32), .val (.int ch)]) rfl ?_
        refine g_iinc (pc := 38) w1 d_jdk_52_method_21_code_38 rfl (z := (i + 1).toInt32) (t32_succ i) (l' := #[.val (.ref va), .val (.int (i + 1).toInt32), .val (.ref da), .val (.int (i + 1).toInt32), .val (.int cs.length.toInt32), .val (.int (i + 1).toInt32), .val (.int ch)]) rfl ?_
        refine g_goto (pc := 41) w1 d_jdk_52_method_21_code_41 (by decide) (pc' := 3) (by decide) ?_
        exact ih (i + 1) T1 h1 _ (by omega) (lat_go hj hc hbig) (One.val rfl) w1 A_va A_da
  exact loop cs.length 0 T h0 _ (by omega) (Nat.zero_le _) One.u w A_va (by simpa using A_da)

set_option maxRecDepth 65536 in
set_option maxHeartbeats 40000000 in
theorem c_compress3 {l : Launch} {Z : State} {a0 : Array Value} (hw : ∀ d ∈ tables_1, d.before a0 Z = true) {va : Addr} {cs : List Int32} {h0 : Heap} (A_va : AR Z h0 va .char (cs.map Value.int)) (hc : ∀ x ∈ cs, ¬ (255 : Int32) < x) (hcap : cs.length ≤ 9) :
    Con l Z a0 EL0 (⟨"java/lang/StringUTF16", "compress", "([CII)[B"⟩ : MethodName) jdk_52_method_16_code 6 (Option.some (Jvm.ClassFile.FieldType.array Jvm.ClassFile.FieldType.byte)) ({ frames := 1, cells := 1, slots := 9, locals := 18 } : Room) #[(.ref va), (.int (0 : Int32)), (.int cs.length.toInt32)] h0 [] [] (fun v h ns => ∃ t, v = some (.ref t) ∧ ns = [t] ∧ h0.size ≤ t ∧ AR Z h t .byte (cs.map bv)) := by
  refine Con.of (L0 := #[.val (.ref va), .val (.int (0 : Int32)), .val (.int cs.length.toInt32), .unset, .unset, .unset]) (by decide +kernel) (fun m => by first | rfl | (simp [entryFrame, mkF, argsToLocals, Value.category]; done)) ?_
  intro p e s m below meth c T w
  have hcl : cs.length < 2147483648 := by have := A_va.len; simpa using this
  have hlat : lat cs = cs.length := lat_all hc
  refine g_iloadN (pc := 0) w d_jdk_52_method_16_code_0 rfl ?_
  refine g_newP (pc := 1) (aty := .byte) w (tw23 hw) (t32_nneg hcl) (cap := 9) (by rw [t32_nat hcl]; exact hcap) (by decide) (by decide) (by decide) d_jdk_52_method_16_code_1 ?_
  intro T1 h1 b1 w1 eq_b1 fr_b1 E1 A_b1
  have ne_va_b1 : va ≠ b1 := Nat.ne_of_lt (by rw [eq_b1]; exact A_va.lt)
  have A_va := A_va.ext E1
  have A_b1 : AR Z h1 b1 .byte (List.replicate cs.length (.int (0 : Int32))) := (by rw [t32_nat hcl] at A_b1; exact A_b1)
  refine g_astoreN (pc := 3) w1 d_jdk_52_method_16_code_3 rfl (l' := #[.val (.ref va), .val (.int (0 : Int32)), .val (.int cs.length.toInt32), .val (.ref b1), .unset, .unset]) rfl ?_
  refine g_aloadN (pc := 4) w1 d_jdk_52_method_16_code_4 rfl rfl ?_
  refine g_iloadN (pc := 5) w1 d_jdk_52_method_16_code_5 rfl ?_
  refine g_aloadN (pc := 6) w1 d_jdk_52_method_16_code_6 rfl rfl ?_
  refine g_iconst (pc := 7) w1 d_jdk_52_method_16_code_7 (z := (0 : Int32)) (by decide) ?_
  refine g_iloadN (pc := 8) w1 d_jdk_52_method_16_code_8 rfl ?_
  refine g_static (pc := 9) w1 (argsL := [(.ref va), (.int (0 : Int32)), (.ref b1), (.int (0 : Int32)), (.int cs.length.toInt32)]) (rest := []) (W := 0) (tw24 hw) (tw25 hw) (tw21 hw) (tw26 hw) (by decide) (c_compress5 hw A_va A_b1 (by simp) ne_va_b1) (by simp) (allS (Or.inr fr_b1) all0) rfl (lenOf pd0 rfl) rfl (by decide) (Nat.le_of_eq rfl) (by decide) (by decide) (by decide) d_jdk_52_method_16_code_9 ?_
  rintro _ T2 h2 ns2 ⟨rfl, rfl, A_b1⟩ K2 w2
  have A_va := A_va.keep K2 (ninS ne_va_b1 nin0)
  refine g_istore (pc := 12) w2 d_jdk_52_method_16_code_12 (l' := #[.val (.ref va), .val (.int (0 : Int32)), .val (.int cs.length.toInt32), .val (.ref b1), .val (.int (lat cs).toInt32), .unset]) rfl ?_
  refine g_iload (pc := 14) w2 d_jdk_52_method_16_code_14 rfl ?_
  refine g_iloadN (pc := 16) w2 d_jdk_52_method_16_code_16 rfl ?_
  have A_b1 : AR Z h2 b1 .byte (cs.map bv) := by rw [hlat] at A_b1; simpa using A_b1
  refine g_icmpYes (pc := 17) w2 d_jdk_52_method_16_code_17 ((teq ((by rw [hlat]) : (lat cs).toInt32 = cs.length.toInt32)).1) (by decide) (pc' := 57) (by decide) ?_
  refine g_aloadN (pc := 57) w2 d_jdk_52_method_16_code_57 rfl rfl ?_
  exact g_retA (pc := 58) w2 (t := (.array .byte)) rfl rfl rfl (by decide) (by decide) (ns := [b1]) (by simp) d_jdk_52_method_16_code_58 ⟨b1, rfl, rfl, fr_b1, A_b1⟩

set_option maxRecDepth 65536 in
set_option maxHeartbeats 40000000 in
theorem c_coder {l : Launch} {Z : State} {a0 : Array Value} (hw : ∀ d ∈ tables_1, d.before a0 Z = true) {ta : Addr} {cs : List Int32} {h0 : Heap} (A_ta : AR Z h0 ta .byte (cs.map bv)) :
    Con l Z a0 EL0 (⟨"java/lang/StringUTF16", "coderFromArrayLen", "([BI)B"⟩ : MethodName) jdk_52_method_15_code 2 (Option.some Jvm.ClassFile.FieldType.byte) ({ frames := 0, cells := 0, slots := 0, locals := 0 } : Room) #[(.ref ta), (.int cs.length.toInt32)] h0 [] [] (fun v h ns => v = some (.int 0) ∧ ns = []) := by
  refine Con.of (L0 := #[.val (.ref ta), .val (.int cs.length.toInt32)]) (by decide +kernel) (fun m => by first | rfl | (simp [entryFrame, mkF, argsToLocals, Value.category]; done)) ?_
  intro p e s m below meth c T w
  refine g_iloadN (pc := 0) w d_jdk_52_method_15_code_0 rfl ?_
  refine g_aloadN (pc := 1) w d_jdk_52_method_15_code_1 rfl rfl ?_
  refine g_alen (pc := 2) w A_ta d_jdk_52_method_15_code_2 ?_
  refine g_isub (pc := 3) w d_jdk_52_method_15_code_3 ?_
  refine g_bipush (pc := 4) w d_jdk_52_method_15_code_4 (z := (31 : Int32)) (by decide) ?_
  refine g_iushr (pc := 6) w d_jdk_52_method_15_code_6 ?_
  refine g_i2b (pc := 7) w d_jdk_52_method_15_code_7 ?_
  have hz : (((cs.length.toInt32 - (cs.map bv).length.toInt32).toUInt32 >>> ((31 : Int32) &&& 31).toUInt32).toInt32.toInt8.toInt32) = (0 : Int32) := by rw [List.length_map, Int32.sub_self]; decide
  rw [hz]
  exact g_retN (pc := 8) w (t := .byte) rfl (by simp) rfl (by decide) (by decide) (ns := []) (fun _ q => nomatch q) d_jdk_52_method_15_code_8 ⟨rfl, rfl⟩

set_option maxRecDepth 65536 in
set_option maxHeartbeats 40000000 in
theorem c_strinit4 {l : Launch} {Z : State} {a0 : Array Value} (hw : ∀ d ∈ tables_1, d.before a0 Z = true) (st : Sts Z) {sa va : Addr} {cs : List Int32} {h0 : Heap} (E_sa : Exa Z h0 sa "java/lang/String") (F_coder_sa : Fld Z h0 sa "java/lang/String" "coder" "B" (.int (0 : Int32))) (F_value_sa : Fld Z h0 sa "java/lang/String" "value" "[B" .null) (A_va : AR Z h0 va .char (cs.map Value.int)) (hc : ∀ x ∈ cs, ¬ (255 : Int32) < x) (hcap : cs.length ≤ 9) (ne : va ≠ sa) :
    Con l Z a0 EL0 (⟨"java/lang/String", "<init>", "([CIILjava/lang/Void;)V"⟩ : MethodName) jdk_42_method_149_code 6 (Option.none : Option Jvm.ClassFile.FieldType) ({ frames := 2, cells := 4, slots := 9, locals := 35 } : Room) #[(.ref sa), (.ref va), (.int (0 : Int32)), (.int cs.length.toInt32), .null] h0 [sa] [sa] (fun v h ns => v = none ∧ ns = [] ∧ ∃ t, Exa Z h sa "java/lang/String" ∧ Fld Z h sa "java/lang/String" "coder" "B" (.int (0 : Int32)) ∧ Fld Z h sa "java/lang/String" "value" "[B" (.ref t) ∧ AR Z h t .byte (cs.map bv)) := by
  refine Con.of (L0 := #[.val (.ref sa), .val (.ref va), .val (.int (0 : Int32)), .val (.int cs.length.toInt32), .val .null, .unset]) (by decide +kernel) (fun m => by first | rfl | (simp [entryFrame, mkF, argsToLocals, Value.category]; done)) ?_
  intro p e s m below meth c T w
  have hcl : cs.length < 2147483648 := by have := A_va.len; simpa using this
  obtain ⟨zc, O_c, O_n⟩ := st.1
  refine g_aloadN (pc := 0) w d_jdk_42_method_149_code_0 rfl rfl ?_
  refine g_initO (pc := 1) w (tw15 hw) (tw16 hw) (tw17 hw) rfl (by decide) (W := 0) (Nat.le_of_eq rfl) (by decide) d_jdk_42_method_149_code_1 ?_
  intro T1 w1
  refine g_iloadN (pc := 4) w1 d_jdk_42_method_149_code_4 rfl ?_
  by_cases h1 : cs.length = 0
  · have hcs : cs = [] := List.eq_nil_of_length_eq_zero h1
    refine g_ifNo (pc := 5) w1 d_jdk_42_method_149_code_5 ((if0 _ _).trans (teq ((by rw [hcs]; rfl) : cs.length.toInt32 = (0 : Int32))).2) ?_
    refine g_aloadN (pc := 8) w1 d_jdk_42_method_149_code_8 rfl rfl ?_
    refine g_ldcR (pc := 9) w1 (sz := 0) (vs := []) (z := (0 : Int32)) (tw68 hw) (strAt hw) (by simp [EL0]) ⟨by decide, rfl⟩ (by decide) (by decide) (by decide) (by decide) (by decide) (by decide) d_jdk_42_method_149_code_9 ?_
    intro T2 h2 b2 t2 w2 E2 E_b2 F_coder_b2 F_value_b2 A_t2 nl2
    have A_va := A_va.ext E2
    have E_sa := E_sa.ext E2
    have F_coder_sa := F_coder_sa.ext E2
    have F_value_sa := F_value_sa.ext E2
    have ne_sa_b2 : sa ≠ b2 := (nl2 sa (by simp)).1
    have ne_sa_t2 : sa ≠ t2 := (nl2 sa (by simp)).2
    refine g_getF (pc := 11) w2 (host := "") (Or.inl (tw32 hw)) Via.refl F_value_b2 d_jdk_42_method_149_code_11 ?_
    intro T3 w3
    refine g_putF (pc := 14) w3 (host := "") (Or.inl (tw32 hw)) Via.refl F_value_sa E_sa (Or.inr ⟨(tw33 hw), rfl, rfl⟩) (tw5 hw) (ty := (.array .byte)) (by decide) rfl rfl (Or.inl (by simp)) (by simp) d_jdk_42_method_149_code_14 ?_
    intro T4 h4 w4 W4
    have F_value_sa := F_value_sa.same W4
    have A_va := A_va.other W4 ne
    have E_sa := E_sa.wr W4
    have F_coder_sa := F_coder_sa.other W4 (Or.inr (slot_ne (Or.inr (tw31 hw)) (Or.inr (tw33 hw)) (by decide) (t := .byte) (t' := (.array .byte)) (by decide) (by decide)))
    have E_b2 := E_b2.wr W4
    have F_coder_b2 := F_coder_b2.other W4 (Or.inl (Ne.symm ne_sa_b2))
    have F_value_b2 := F_value_b2.other W4 (Or.inl (Ne.symm ne_sa_b2))
    have A_t2 := A_t2.other W4 (Ne.symm ne_sa_t2)
    refine g_aloadN (pc := 17) w4 d_jdk_42_method_149_code_17 rfl rfl ?_
    refine g_ldcR (pc := 18) w4 (sz := 0) (vs := []) (z := (0 : Int32)) (tw68 hw) (strAt hw) (by simp [EL0]) ⟨by decide, rfl⟩ (by decide) (by decide) (by decide) (by decide) (by decide) (by decide) d_jdk_42_method_149_code_18 ?_
    intro T5 h5 b5 t5 w5 E5 E_b5 F_coder_b5 F_value_b5 A_t5 nl5
    have A_va := A_va.ext E5
    have E_sa := E_sa.ext E5
    have F_coder_sa := F_coder_sa.ext E5
    have E_b2 := E_b2.ext E5
    have F_coder_b2 := F_coder_b2.ext E5
    have F_value_b2 := F_value_b2.ext E5
    have A_t2 := A_t2.ext E5
    have F_value_sa := F_value_sa.ext E5
    have ne_sa_b5 : sa ≠ b5 := (nl5 sa (by simp)).1
    have ne_sa_t5 : sa ≠ t5 := (nl5 sa (by simp)).2
    refine g_getF (pc := 20) w5 (host := "") (Or.inl (tw30 hw)) Via.refl F_coder_b5 d_jdk_42_method_149_code_20 ?_
    intro T6 w6
    refine g_putF (pc := 23) w6 (host := "") (Or.inl (tw30 hw)) Via.refl F_coder_sa E_sa (Or.inr ⟨(tw31 hw), rfl, rfl⟩) (tw5 hw) (ty := .byte) (by decide) (by first | rfl | decide) (by first | rfl | decide) (Or.inl (by simp)) (by simp) d_jdk_42_method_149_code_23 ?_
    intro T7 h7 w7 W7
    have F_coder_sa := F_coder_sa.same W7
    have A_va := A_va.other W7 ne
    have E_sa := E_sa.wr W7
    have E_b2 := E_b2.wr W7
    have F_coder_b2 := F_coder_b2.other W7 (Or.inl (Ne.symm ne_sa_b2))
    have F_value_b2 := F_value_b2.other W7 (Or.inl (Ne.symm ne_sa_b2))
    have A_t2 := A_t2.other W7 (Ne.symm ne_sa_t2)
    have F_value_sa := F_value_sa.other W7 (Or.inr (slot_ne (Or.inr (tw33 hw)) (Or.inr (tw31 hw)) (by decide) (t := (.array .byte)) (t' := .byte) (by decide) (by decide)))
    have E_b5 := E_b5.wr W7
    have F_coder_b5 := F_coder_b5.other W7 (Or.inl (Ne.symm ne_sa_b5))
    have F_value_b5 := F_value_b5.other W7 (Or.inl (Ne.symm ne_sa_b5))
    have A_t5 := A_t5.other W7 (Ne.symm ne_sa_t5)
    exact g_ret0 (pc := 26) w7 rfl (by decide) (by decide) (ns := []) (fun _ q => nomatch q) d_jdk_42_method_149_code_26 ⟨rfl, rfl, t2, E_sa, F_coder_sa, F_value_sa, by rw [hcs]; exact A_t2⟩
  · refine g_ifYes (pc := 5) w1 d_jdk_42_method_149_code_5 ((if0 _ _).trans (feq ((fun q => by have := (t32_eq (j := 0) hcl (by omega)).mp q; omega) : ¬ cs.length.toInt32 = (0 : Int32))).2) (by decide) (pc' := 27) (by decide) ?_
    refine g_getS (pc := 27) w1 (host := "") (Or.inl (tw18 hw)) Via.refl O_c d_jdk_42_method_149_code_27 ?_
    intro T8 w8
    refine g_ifNo (pc := 30) w8 d_jdk_42_method_149_code_30 ((if0 _ _).trans (feq (O_n : ¬ zc = (0 : Int32))).1) ?_
    refine g_aloadN (pc := 33) w8 d_jdk_42_method_149_code_33 rfl rfl ?_
    refine g_iloadN (pc := 34) w8 d_jdk_42_method_149_code_34 rfl ?_
    refine g_iloadN (pc := 35) w8 d_jdk_42_method_149_code_35 rfl ?_
    have lt_sa := E_sa.lt
    refine g_static (pc := 36) w8 (argsL := [(.ref va), (.int (0 : Int32)), (.int cs.length.toInt32)]) (rest := []) (W := 0) (tw19 hw) (tw20 hw) (tw21 hw) (tw22 hw) (by decide) (c_compress3 hw A_va hc hcap) (by simp) all0 rfl (lenOf pd1 rfl) rfl (by decide) (Nat.le_of_eq rfl) (by decide) (by decide) (by decide) d_jdk_42_method_149_code_36 ?_
    rintro _ T9 h9 ns9 ⟨t9, rfl, rfl, fq_t9, A_t9⟩ K9 w9
    have A_va := A_va.keep K9 nin0
    have E_sa := E_sa.keep K9
    have F_coder_sa := F_coder_sa.keep K9 nin0
    have F_value_sa := F_value_sa.keep K9 nin0
    have ne_t9_sa : t9 ≠ sa := Ne.symm (Nat.ne_of_lt (Nat.lt_of_lt_of_le lt_sa fq_t9))
    refine g_astore (pc := 39) w9 d_jdk_42_method_149_code_39 rfl (l' := #[.val (.ref sa), .val (.ref va), .val (.int (0 : Int32)), .val (.int cs.length.toInt32), .val .null, .val (.ref t9)]) rfl ?_
    refine g_aloadN (pc := 41) w9 d_jdk_42_method_149_code_41 rfl rfl ?_
    refine g_aload (pc := 42) w9 d_jdk_42_method_149_code_42 rfl rfl ?_
    refine g_iloadN (pc := 44) w9 d_jdk_42_method_149_code_44 rfl ?_
    refine g_static (pc := 45) w9 (argsL := [(.ref t9), (.int cs.length.toInt32)]) (rest := [(.ref sa)]) (W := 1) (tw27 hw) (tw28 hw) (tw21 hw) (tw29 hw) (by decide) (c_coder hw A_t9) (by simp) all0 rfl (lenOf pd2 rfl) rfl (by decide) (Nat.le_of_eq rfl) (by decide) (by decide) (by decide) d_jdk_42_method_149_code_45 ?_
    rintro _ T10 h10 ns10 ⟨rfl, rfl⟩ K10 w10
    have A_va := A_va.keep K10 nin0
    have E_sa := E_sa.keep K10
    have F_coder_sa := F_coder_sa.keep K10 nin0
    have F_value_sa := F_value_sa.keep K10 nin0
    have A_t9 := A_t9.keep K10 nin0
    refine g_putF (pc := 48) w10 (host := "") (Or.inl (tw30 hw)) Via.refl F_coder_sa E_sa (Or.inr ⟨(tw31 hw), rfl, rfl⟩) (tw5 hw) (ty := .byte) (by decide) (by first | rfl | decide) (by first | rfl | decide) (Or.inl (by simp)) (by simp) d_jdk_42_method_149_code_48 ?_
    intro T11 h11 w11 W11
    have F_coder_sa := F_coder_sa.same W11
    have A_va := A_va.other W11 ne
    have E_sa := E_sa.wr W11
    have F_value_sa := F_value_sa.other W11 (Or.inr (slot_ne (Or.inr (tw33 hw)) (Or.inr (tw31 hw)) (by decide) (t := (.array .byte)) (t' := .byte) (by decide) (by decide)))
    have A_t9 := A_t9.other W11 ne_t9_sa
    refine g_aloadN (pc := 51) w11 d_jdk_42_method_149_code_51 rfl rfl ?_
    refine g_aload (pc := 52) w11 d_jdk_42_method_149_code_52 rfl rfl ?_
    refine g_putF (pc := 54) w11 (host := "") (Or.inl (tw32 hw)) Via.refl F_value_sa E_sa (Or.inr ⟨(tw33 hw), rfl, rfl⟩) (tw5 hw) (ty := (.array .byte)) (by decide) rfl rfl (Or.inl (by simp)) (by simp) d_jdk_42_method_149_code_54 ?_
    intro T12 h12 w12 W12
    have F_value_sa := F_value_sa.same W12
    have A_va := A_va.other W12 ne
    have E_sa := E_sa.wr W12
    have A_t9 := A_t9.other W12 ne_t9_sa
    have F_coder_sa := F_coder_sa.other W12 (Or.inr (slot_ne (Or.inr (tw31 hw)) (Or.inr (tw33 hw)) (by decide) (t := .byte) (t' := (.array .byte)) (by decide) (by decide)))
    exact g_ret0 (pc := 57) w12 rfl (by decide) (by decide) (ns := []) (fun _ q => nomatch q) d_jdk_42_method_149_code_57 ⟨rfl, rfl, t9, E_sa, F_coder_sa, F_value_sa, A_t9⟩

set_option maxRecDepth 65536 in
set_option maxHeartbeats 40000000 in
theorem c_strinit {l : Launch} {Z : State} {a0 : Array Value} (hw : ∀ d ∈ tables_1, d.before a0 Z = true) (st : Sts Z) {sa va : Addr} {cs : List Int32} {h0 : Heap} (E_sa : Exa Z h0 sa "java/lang/String") (F_coder_sa : Fld Z h0 sa "java/lang/String" "coder" "B" (.int (0 : Int32))) (F_value_sa : Fld Z h0 sa "java/lang/String" "value" "[B" .null) (A_va : AR Z h0 va .char (cs.map Value.int)) (hc : ∀ x ∈ cs, ¬ (255 : Int32) < x) (hcap : cs.length ≤ 9) (ne : va ≠ sa) :
    Con l Z a0 EL0 (⟨"java/lang/String", "<init>", "([C)V"⟩ : MethodName) jdk_42_method_3_code 2 (Option.none : Option Jvm.ClassFile.FieldType) ({ frames := 3, cells := 4, slots := 9, locals := 52 } : Room) #[(.ref sa), (.ref va)] h0 [sa] [sa] (fun v h ns => v = none ∧ ns = [] ∧ ∃ t, Exa Z h sa "java/lang/String" ∧ Fld Z h sa "java/lang/String" "coder" "B" (.int (0 : Int32)) ∧ Fld Z h sa "java/lang/String" "value" "[B" (.ref t) ∧ AR Z h t .byte (cs.map bv)) := by
  refine Con.of (L0 := #[.val (.ref sa), .val (.ref va)]) (by decide +kernel) (fun m => by first | rfl | (simp [entryFrame, mkF, argsToLocals, Value.category]; done)) ?_
  intro p e s m below meth c T w
  refine g_aloadN (pc := 0) w d_jdk_42_method_3_code_0 rfl rfl ?_
  refine g_aloadN (pc := 1) w d_jdk_42_method_3_code_1 rfl rfl ?_
  refine g_iconst (pc := 2) w d_jdk_42_method_3_code_2 (z := (0 : Int32)) (by decide) ?_
  refine g_aloadN (pc := 3) w d_jdk_42_method_3_code_3 rfl rfl ?_
  refine g_alen (pc := 4) w A_va d_jdk_42_method_3_code_4 ?_
  rw [List.length_map]
  refine g_aconstNull (pc := 5) w d_jdk_42_method_3_code_5 ?_
  refine g_special (pc := 6) w (argsL := [(.ref va), (.int (0 : Int32)), (.int cs.length.toInt32), .null]) (rest := []) (W := 0) rfl rfl (tw11 hw) (tw12 hw) (tw6 hw) (tw14 hw) (by decide) (c_strinit4 hw st E_sa F_coder_sa F_value_sa A_va hc hcap ne) (by simp) (allS (Or.inl (by simp)) all0) rfl (lenOf pd3 rfl) rfl (by decide) (Nat.le_of_eq rfl) (by decide) (by decide) (by decide) d_jdk_42_method_3_code_6 ?_
  rintro _ T1 h1 ns1 ⟨rfl, rfl, t, E_sa, F_coder_sa, F_value_sa, A_t⟩ K1 w1
  have A_va := A_va.keep K1 (ninS ne nin0)
  exact g_ret0 (pc := 9) w1 rfl (by decide) (by decide) (ns := []) (fun _ q => nomatch q) d_jdk_42_method_3_code_9 ⟨rfl, rfl, t, E_sa, F_coder_sa, F_value_sa, A_t⟩

set_option maxRecDepth 65536 in
set_option maxHeartbeats 40000000 in
theorem c_scoder {l : Launch} {Z : State} {a0 : Array Value} (hw : ∀ d ∈ tables_1, d.before a0 Z = true) (st : Sts Z) {sa : Addr} {h0 : Heap} (F_coder_sa : Fld Z h0 sa "java/lang/String" "coder" "B" (.int (0 : Int32))) :
    Con l Z a0 EL0 (⟨"java/lang/String", "coder", "()B"⟩ : MethodName) jdk_42_method_152_code 1 (Option.some Jvm.ClassFile.FieldType.byte) ({ frames := 0, cells := 0, slots := 0, locals := 0 } : Room) #[(.ref sa)] h0 [] [] (fun v h ns => v = some (.int (0 : Int32)) ∧ ns = []) := by
  refine Con.of (L0 := #[.val (.ref sa)]) (by decide +kernel) (fun m => by first | rfl | (simp [entryFrame, mkF, argsToLocals, Value.category]; done)) ?_
  intro p e s m below meth c T w
  obtain ⟨zc, O_c, O_n⟩ := st.1
  refine g_getS (pc := 0) w (host := "") (Or.inl (tw18 hw)) Via.refl O_c d_jdk_42_method_152_code_0 ?_
  intro T1 w1
  refine g_ifNo (pc := 3) w1 d_jdk_42_method_152_code_3 ((if0 _ _).trans (feq (O_n : ¬ zc = (0 : Int32))).1) ?_
  refine g_aloadN (pc := 6) w1 d_jdk_42_method_152_code_6 rfl rfl ?_
  refine g_getF (pc := 7) w1 (host := "") (Or.inl (tw30 hw)) Via.refl F_coder_sa d_jdk_42_method_152_code_7 ?_
  intro T2 w2
  refine g_goto (pc := 10) w2 d_jdk_42_method_152_code_10 (by decide) (pc' := 14) (by decide) ?_
  exact g_retN (pc := 14) w2 (t := .byte) rfl (by simp) rfl (by decide) (by decide) (ns := []) (fun _ q => nomatch q) d_jdk_42_method_152_code_14 ⟨rfl, rfl⟩

set_option maxRecDepth 65536 in
set_option maxHeartbeats 40000000 in
theorem c_length {l : Launch} {Z : State} {a0 : Array Value} (hw : ∀ d ∈ tables_1, d.before a0 Z = true) (st : Sts Z) {sa ta : Addr} {xs : List Int32} {h0 : Heap} (E_sa : Exa Z h0 sa "java/lang/String") (F_coder_sa : Fld Z h0 sa "java/lang/String" "coder" "B" (.int (0 : Int32))) (F_value_sa : Fld Z h0 sa "java/lang/String" "value" "[B" (.ref ta)) (A_ta : AR Z h0 ta .byte (xs.map Value.int)) :
    Con l Z a0 EL0 (⟨"java/lang/String", "length", "()I"⟩ : MethodName) jdk_42_method_54_code 1 (Option.some Jvm.ClassFile.FieldType.int) ({ frames := 1, cells := 0, slots := 0, locals := 13 } : Room) #[(.ref sa)] h0 [] [] (fun v h ns => v = some (.int xs.length.toInt32) ∧ ns = []) := by
  refine Con.of (L0 := #[.val (.ref sa)]) (by decide +kernel) (fun m => by first | rfl | (simp [entryFrame, mkF, argsToLocals, Value.category]; done)) ?_
  intro p e s m below meth c T w
  refine g_aloadN (pc := 0) w d_jdk_42_method_54_code_0 rfl rfl ?_
  refine g_getF (pc := 1) w (host := "") (Or.inl (tw32 hw)) Via.refl F_value_sa d_jdk_42_method_54_code_1 ?_
  intro T1 w1
  refine g_alen (pc := 4) w1 A_ta d_jdk_42_method_54_code_4 ?_
  refine g_aloadN (pc := 5) w1 d_jdk_42_method_54_code_5 rfl rfl ?_
  refine g_virtual (pc := 6) w1 (argsL := []) (rest := [(.int ((xs.map Value.int)).length.toInt32)]) (W := 1) (tw49 hw) (tw50 hw) (fun t q => notFace_of_selects (args := #[]) (mvT q (tw52 hw))) (tw52 hw) (tw51 hw) (tw6 hw) (tw53 hw) (by decide) E_sa (c_scoder hw st F_coder_sa) (by simp) all0 rfl (lenOf pd4 rfl) rfl (by decide) (Nat.le_of_eq rfl) (by decide) (by decide) (by decide) d_jdk_42_method_54_code_6 ?_
  rintro _ T2 h2 ns2 ⟨rfl, rfl⟩ K2 w2
  have E_sa := E_sa.keep K2
  have F_coder_sa := F_coder_sa.keep K2 nin0
  have F_value_sa := F_value_sa.keep K2 nin0
  have A_ta := A_ta.keep K2 nin0
  refine g_ishr (pc := 9) w2 d_jdk_42_method_54_code_9 ?_
  rw [shr0, List.length_map]
  exact g_retI (pc := 10) w2 rfl (by decide) (by decide) (ns := []) (fun _ q => nomatch q) d_jdk_42_method_54_code_10 ⟨rfl, rfl⟩

set_option maxRecDepth 65536 in
set_option maxHeartbeats 40000000 in
theorem c_draw {l : Launch} {Z : State} {a0 : Array Value} (hw : ∀ d ∈ tables_1, d.before a0 Z = true) {pb lo up : Int32} {h0 : Heap} (hlo : Lat lo) (hup : Lat up) :
    Con l Z a0 EL0 (⟨"com/example/fencelock/fencelock/store/RedisAddressIsWrittenAsRedisPinLaw", "draw", "(ICC)C"⟩ : MethodName) method_3_code 4 (Option.some Jvm.ClassFile.FieldType.char) ({ frames := 0, cells := 0, slots := 0, locals := 0 } : Room) #[(.int pb), (.int lo), (.int up)] h0 [] [] (fun v h ns => ∃ r, v = some (.int r) ∧ ns = [] ∧ Lat r) := by
  refine Con.of (L0 := #[.val (.int pb), .val (.int lo), .val (.int up), .unset]) (by decide +kernel) (fun m => by first | rfl | (simp [entryFrame, mkF, argsToLocals, Value.category]; done)) ?_
  intro p e s m below meth c T w
  refine g_iloadN (pc := 0) w d_method_3_code_0 rfl ?_
  refine g_iconst (pc := 1) w d_method_3_code_1 (z := (3 : Int32)) (by decide) ?_
  refine g_iand (pc := 2) w d_method_3_code_2 ?_
  refine g_istoreN (pc := 3) w d_method_3_code_3 (l' := #[.val (.int pb), .val (.int lo), .val (.int up), .val (.int (pb &&& (3 : Int32)))]) rfl ?_
  refine g_iloadN (pc := 4) w d_method_3_code_4 rfl ?_
  by_cases hm0 : (pb &&& (3 : Int32)) = (0 : Int32)
  · refine g_ifYes (pc := 5) w d_method_3_code_5 ((if0 _ _).trans (teq (hm0 : (pb &&& (3 : Int32)) = (0 : Int32))).1) (by decide) (pc' := 13) (by decide) ?_
    refine g_iloadN (pc := 13) w d_method_3_code_13 rfl ?_
    exact g_retN (pc := 14) w (t := .char) rfl (by simp) (congrArg Value.int (nar_lat hlo)) (by decide) (by decide) (ns := []) (fun _ q => nomatch q) d_method_3_code_14 ⟨lo, rfl, rfl, hlo⟩
  · refine g_ifNo (pc := 5) w d_method_3_code_5 ((if0 _ _).trans (feq (hm0 : ¬ (pb &&& (3 : Int32)) = (0 : Int32))).1) ?_
    refine g_iloadN (pc := 8) w d_method_3_code_8 rfl ?_
    refine g_iconst (pc := 9) w d_method_3_code_9 (z := (2 : Int32)) (by decide) ?_
    by_cases hm2 : (pb &&& (3 : Int32)) = (2 : Int32)
    · refine g_icmpNo (pc := 10) w d_method_3_code_10 ((teq (hm2 : (pb &&& (3 : Int32)) = (2 : Int32))).2) ?_
      refine g_iloadN (pc := 13) w d_method_3_code_13 rfl ?_
      exact g_retN (pc := 14) w (t := .char) rfl (by simp) (congrArg Value.int (nar_lat hlo)) (by decide) (by decide) (ns := []) (fun _ q => nomatch q) d_method_3_code_14 ⟨lo, rfl, rfl, hlo⟩
    · refine g_icmpYes (pc := 10) w d_method_3_code_10 ((feq (hm2 : ¬ (pb &&& (3 : Int32)) = (2 : Int32))).2) (by decide) (pc' := 15) (by decide) ?_
      refine g_iloadN (pc := 15) w d_method_3_code_15 rfl ?_
      refine g_iconst (pc := 16) w d_method_3_code_16 (z := (1 : Int32)) (by decide) ?_
      by_cases hm1 : (pb &&& (3 : Int32)) = (1 : Int32)
      · refine g_icmpNo (pc := 17) w d_method_3_code_17 ((teq (hm1 : (pb &&& (3 : Int32)) = (1 : Int32))).2) ?_
        refine g_iloadN (pc := 20) w d_method_3_code_20 rfl ?_
        exact g_retN (pc := 21) w (t := .char) rfl (by simp) (congrArg Value.int (nar_lat hup)) (by decide) (by decide) (ns := []) (fun _ q => nomatch q) d_method_3_code_21 ⟨up, rfl, rfl, hup⟩
      · refine g_icmpYes (pc := 17) w d_method_3_code_17 ((feq (hm1 : ¬ (pb &&& (3 : Int32)) = (1 : Int32))).2) (by decide) (pc' := 22) (by decide) ?_
        refine g_iloadN (pc := 22) w d_method_3_code_22 rfl ?_
        refine g_iconst (pc := 23) w d_method_3_code_23 (z := (2 : Int32)) (by decide) ?_
        refine g_iushr (pc := 24) w d_method_3_code_24 ?_
        refine g_sipush (pc := 25) w d_method_3_code_25 (z := (255 : Int32)) (by decide) ?_
        refine g_iand (pc := 28) w d_method_3_code_28 ?_
        refine g_i2c (pc := 29) w d_method_3_code_29 ?_
        exact g_retN (pc := 30) w (t := .char) rfl (by simp) (congrArg Value.int (nar_lat (lat_mask _))) (by decide) (by decide) (ns := []) (fun _ q => nomatch q) d_method_3_code_30 ⟨_, rfl, rfl, lat_mask _⟩

set_option maxRecDepth 65536 in
set_option maxHeartbeats 40000000 in
theorem c_is {l : Launch} {Z : State} {a0 : Array Value} (hw : ∀ d ∈ tables_1, d.before a0 Z = true) {ch lo up : Int32} {h0 : Heap} :
    Con l Z a0 EL0 (⟨"com/example/fencelock/fencelock/store/RedisAddressIsWrittenAsRedisPinLaw", "is", "(CCC)Z"⟩ : MethodName) method_4_code 3 (Option.some Jvm.ClassFile.FieldType.boolean) ({ frames := 0, cells := 0, slots := 0, locals := 0 } : Room) #[(.int ch), (.int lo), (.int up)] h0 [] [] (fun v h ns => v = some (.int (isv ch lo up)) ∧ ns = []) := by
  refine Con.of (L0 := #[.val (.int ch), .val (.int lo), .val (.int up)]) (by decide +kernel) (fun m => by first | rfl | (simp [entryFrame, mkF, argsToLocals, Value.category]; done)) ?_
  intro p e s m below meth c T w
  refine g_iloadN (pc := 0) w d_method_4_code_0 rfl ?_
  refine g_iloadN (pc := 1) w d_method_4_code_1 rfl ?_
  by_cases h1 : ch = lo
  · refine g_icmpYes (pc := 2) w d_method_4_code_2 ((teq (h1 : ch = lo)).1) (by decide) (pc' := 10) (by decide) ?_
    refine g_iconst (pc := 10) w d_method_4_code_10 (z := (1 : Int32)) (by decide) ?_
    refine g_goto (pc := 11) w d_method_4_code_11 (by decide) (pc' := 15) (by decide) ?_
    exact g_retN (pc := 15) w (t := .boolean) rfl (by simp) rfl (by decide) (by decide) (ns := []) (fun _ q => nomatch q) d_method_4_code_15 ⟨by rw [isv, if_pos h1], rfl⟩
  · refine g_icmpNo (pc := 2) w d_method_4_code_2 ((feq (h1 : ¬ ch = lo)).1) ?_
    refine g_iloadN (pc := 5) w d_method_4_code_5 rfl ?_
    refine g_iloadN (pc := 6) w d_method_4_code_6 rfl ?_
    by_cases h2 : ch = up
    · refine g_icmpNo (pc := 7) w d_method_4_code_7 ((teq (h2 : ch = up)).2) ?_
      refine g_iconst (pc := 10) w d_method_4_code_10 (z := (1 : Int32)) (by decide) ?_
      refine g_goto (pc := 11) w d_method_4_code_11 (by decide) (pc' := 15) (by decide) ?_
      exact g_retN (pc := 15) w (t := .boolean) rfl (by simp) rfl (by decide) (by decide) (ns := []) (fun _ q => nomatch q) d_method_4_code_15 ⟨by rw [isv, if_neg h1, if_pos h2], rfl⟩
    · refine g_icmpYes (pc := 7) w d_method_4_code_7 ((feq (h2 : ¬ ch = up)).2) (by decide) (pc' := 14) (by decide) ?_
      refine g_iconst (pc := 14) w d_method_4_code_14 (z := (0 : Int32)) (by decide) ?_
      exact g_retN (pc := 15) w (t := .boolean) rfl (by simp) rfl (by decide) (by decide) (ns := []) (fun _ q => nomatch q) d_method_4_code_15 ⟨by rw [isv, if_neg h1, if_neg h2], rfl⟩

set_option maxRecDepth 65536 in
set_option maxHeartbeats 40000000 in
theorem c_eqic {l : Launch} {Z : State} {a0 : Array Value} (hw : ∀ d ∈ tables_1, d.before a0 Z = true) {xb yb : Int32} {h0 : Heap} :
    Con l Z a0 EL0 (⟨"java/lang/CharacterDataLatin1", "equalsIgnoreCase", "(BB)Z"⟩ : MethodName) jdk_116_method_22_code 3 (Option.some Jvm.ClassFile.FieldType.boolean) ({ frames := 0, cells := 0, slots := 0, locals := 0 } : Room) #[(.int xb), (.int yb)] h0 [] [] (fun v h ns => v = some (.int (eqIC xb yb)) ∧ ns = []) := by
  refine Con.of (L0 := #[.val (.int xb), .val (.int yb), .unset]) (by decide +kernel) (fun m => by first | rfl | (simp [entryFrame, mkF, argsToLocals, Value.category]; done)) ?_
  intro p e s m below meth c T w
  refine g_iloadN (pc := 0) w d_jdk_116_method_22_code_0 rfl ?_
  refine g_iloadN (pc := 1) w d_jdk_116_method_22_code_1 rfl ?_
  by_cases h1 : xb = yb
  · refine g_icmpNo (pc := 2) w d_jdk_116_method_22_code_2 ((teq (h1 : xb = yb)).2) ?_
    refine g_iconst (pc := 5) w d_jdk_116_method_22_code_5 (z := (1 : Int32)) (by decide) ?_
    exact g_retN (pc := 6) w (t := .boolean) rfl (by simp) rfl (by decide) (by decide) (ns := []) (fun _ q => nomatch q) d_jdk_116_method_22_code_6 ⟨by unfold eqIC; rw [if_pos h1], rfl⟩
  · refine g_icmpYes (pc := 2) w d_jdk_116_method_22_code_2 ((feq (h1 : ¬ xb = yb)).2) (by decide) (pc' := 7) (by decide) ?_
    refine g_iloadN (pc := 7) w d_jdk_116_method_22_code_7 rfl ?_
    refine g_sipush (pc := 8) w d_jdk_116_method_22_code_8 (z := (223 : Int32)) (by decide) ?_
    refine g_iand (pc := 11) w d_jdk_116_method_22_code_11 ?_
    refine g_istoreN (pc := 12) w d_jdk_116_method_22_code_12 (l' := #[.val (.int xb), .val (.int yb), .val (.int (xb &&& (223 : Int32)))]) rfl ?_
    refine g_iloadN (pc := 13) w d_jdk_116_method_22_code_13 rfl ?_
    refine g_bipush (pc := 14) w d_jdk_116_method_22_code_14 (z := (65 : Int32)) (by decide) ?_
    by_cases h2 : (xb &&& (223 : Int32)) < (65 : Int32)
    · refine g_icmpNo (pc := 16) w d_jdk_116_method_22_code_16 ((tlt (h2 : (xb &&& (223 : Int32)) < (65 : Int32))).2.1) ?_
      refine g_iconst (pc := 19) w d_jdk_116_method_22_code_19 (z := (0 : Int32)) (by decide) ?_
      exact g_retN (pc := 20) w (t := .boolean) rfl (by simp) rfl (by decide) (by decide) (ns := []) (fun _ q => nomatch q) d_jdk_116_method_22_code_20 ⟨by unfold eqIC; rw [if_neg h1, if_pos h2], rfl⟩
    · refine g_icmpYes (pc := 16) w d_jdk_116_method_22_code_16 ((flt (h2 : ¬ (xb &&& (223 : Int32)) < (65 : Int32))).2.1) (by decide) (pc' := 21) (by decide) ?_
      refine g_iloadN (pc := 21) w d_jdk_116_method_22_code_21 rfl ?_
      refine g_bipush (pc := 22) w d_jdk_116_method_22_code_22 (z := (90 : Int32)) (by decide) ?_
      by_cases h3 : (90 : Int32) < (xb &&& (223 : Int32))
      · refine g_icmpNo (pc := 24) w d_jdk_116_method_22_code_24 ((tlt (h3 : (90 : Int32) < (xb &&& (223 : Int32)))).2.2.2) ?_
        refine g_iloadN (pc := 27) w d_jdk_116_method_22_code_27 rfl ?_
        refine g_sipush (pc := 28) w d_jdk_116_method_22_code_28 (z := (192 : Int32)) (by decide) ?_
        by_cases h4 : (xb &&& (223 : Int32)) < (192 : Int32)
        · refine g_icmpYes (pc := 31) w d_jdk_116_method_22_code_31 ((tlt (h4 : (xb &&& (223 : Int32)) < (192 : Int32))).1) (by decide) (pc' := 61) (by decide) ?_
          refine g_iconst (pc := 61) w d_jdk_116_method_22_code_61 (z := (0 : Int32)) (by decide) ?_
          exact g_retN (pc := 62) w (t := .boolean) rfl (by simp) rfl (by decide) (by decide) (ns := []) (fun _ q => nomatch q) d_jdk_116_method_22_code_62 ⟨by unfold eqIC; rw [if_neg h1, if_neg h2, if_neg (not_not_intro h3), if_pos h4], rfl⟩
        · refine g_icmpNo (pc := 31) w d_jdk_116_method_22_code_31 ((flt (h4 : ¬ (xb &&& (223 : Int32)) < (192 : Int32))).1) ?_
          refine g_iloadN (pc := 34) w d_jdk_116_method_22_code_34 rfl ?_
          refine g_sipush (pc := 35) w d_jdk_116_method_22_code_35 (z := (222 : Int32)) (by decide) ?_
          by_cases h5 : (222 : Int32) < (xb &&& (223 : Int32))
          · refine g_icmpYes (pc := 38) w d_jdk_116_method_22_code_38 ((tlt (h5 : (222 : Int32) < (xb &&& (223 : Int32)))).2.2.1) (by decide) (pc' := 61) (by decide) ?_
            refine g_iconst (pc := 61) w d_jdk_116_method_22_code_61 (z := (0 : Int32)) (by decide) ?_
            exact g_retN (pc := 62) w (t := .boolean) rfl (by simp) rfl (by decide) (by decide) (ns := []) (fun _ q => nomatch q) d_jdk_116_method_22_code_62 ⟨by unfold eqIC; rw [if_neg h1, if_neg h2, if_neg (not_not_intro h3), if_neg h4, if_pos h5], rfl⟩
          · refine g_icmpNo (pc := 38) w d_jdk_116_method_22_code_38 ((flt (h5 : ¬ (222 : Int32) < (xb &&& (223 : Int32)))).2.2.1) ?_
            refine g_iloadN (pc := 41) w d_jdk_116_method_22_code_41 rfl ?_
            refine g_sipush (pc := 42) w d_jdk_116_method_22_code_42 (z := (215 : Int32)) (by decide) ?_
            by_cases h6 : (xb &&& (223 : Int32)) = (215 : Int32)
            · refine g_icmpYes (pc := 45) w d_jdk_116_method_22_code_45 ((teq (h6 : (xb &&& (223 : Int32)) = (215 : Int32))).1) (by decide) (pc' := 61) (by decide) ?_
              refine g_iconst (pc := 61) w d_jdk_116_method_22_code_61 (z := (0 : Int32)) (by decide) ?_
              exact g_retN (pc := 62) w (t := .boolean) rfl (by simp) rfl (by decide) (by decide) (ns := []) (fun _ q => nomatch q) d_jdk_116_method_22_code_62 ⟨by unfold eqIC; rw [if_neg h1, if_neg h2, if_neg (not_not_intro h3), if_neg h4, if_neg h5, if_pos h6], rfl⟩
            · refine g_icmpNo (pc := 45) w d_jdk_116_method_22_code_45 ((feq (h6 : ¬ (xb &&& (223 : Int32)) = (215 : Int32))).1) ?_
              refine g_iloadN (pc := 48) w d_jdk_116_method_22_code_48 rfl ?_
              refine g_iloadN (pc := 49) w d_jdk_116_method_22_code_49 rfl ?_
              refine g_sipush (pc := 50) w d_jdk_116_method_22_code_50 (z := (223 : Int32)) (by decide) ?_
              refine g_iand (pc := 53) w d_jdk_116_method_22_code_53 ?_
              by_cases h9 : (xb &&& (223 : Int32)) = (yb &&& (223 : Int32))
              · refine g_icmpNo (pc := 54) w d_jdk_116_method_22_code_54 ((teq (h9 : (xb &&& (223 : Int32)) = (yb &&& (223 : Int32)))).2) ?_
                refine g_iconst (pc := 57) w d_jdk_116_method_22_code_57 (z := (1 : Int32)) (by decide) ?_
                refine g_goto (pc := 58) w d_jdk_116_method_22_code_58 (by decide) (pc' := 62) (by decide) ?_
                exact g_retN (pc := 62) w (t := .boolean) rfl (by simp) rfl (by decide) (by decide) (ns := []) (fun _ q => nomatch q) d_jdk_116_method_22_code_62 ⟨by unfold eqIC; rw [if_neg h1, if_neg h2, if_neg (not_not_intro h3), if_neg h4, if_neg h5, if_neg h6, if_pos h9], rfl⟩
              · refine g_icmpYes (pc := 54) w d_jdk_116_method_22_code_54 ((feq (h9 : ¬ (xb &&& (223 : Int32)) = (yb &&& (223 : Int32)))).2) (by decide) (pc' := 61) (by decide) ?_
                refine g_iconst (pc := 61) w d_jdk_116_method_22_code_61 (z := (0 : Int32)) (by decide) ?_
                exact g_retN (pc := 62) w (t := .boolean) rfl (by simp) rfl (by decide) (by decide) (ns := []) (fun _ q => nomatch q) d_jdk_116_method_22_code_62 ⟨by unfold eqIC; rw [if_neg h1, if_neg h2, if_neg (not_not_intro h3), if_neg h4, if_neg h5, if_neg h6, if_neg h9], rfl⟩
      · refine g_icmpYes (pc := 24) w d_jdk_116_method_22_code_24 ((flt (h3 : ¬ (90 : Int32) < (xb &&& (223 : Int32)))).2.2.2) (by decide) (pc' := 48) (by decide) ?_
        refine g_iloadN (pc := 48) w d_jdk_116_method_22_code_48 rfl ?_
        refine g_iloadN (pc := 49) w d_jdk_116_method_22_code_49 rfl ?_
        refine g_sipush (pc := 50) w d_jdk_116_method_22_code_50 (z := (223 : Int32)) (by decide) ?_
        refine g_iand (pc := 53) w d_jdk_116_method_22_code_53 ?_
        by_cases h9 : (xb &&& (223 : Int32)) = (yb &&& (223 : Int32))
        · refine g_icmpNo (pc := 54) w d_jdk_116_method_22_code_54 ((teq (h9 : (xb &&& (223 : Int32)) = (yb &&& (223 : Int32)))).2) ?_
          refine g_iconst (pc := 57) w d_jdk_116_method_22_code_57 (z := (1 : Int32)) (by decide) ?_
          refine g_goto (pc := 58) w d_jdk_116_method_22_code_58 (by decide) (pc' := 62) (by decide) ?_
          exact g_retN (pc := 62) w (t := .boolean) rfl (by simp) rfl (by decide) (by decide) (ns := []) (fun _ q => nomatch q) d_jdk_116_method_22_code_62 ⟨by unfold eqIC; rw [if_neg h1, if_neg h2, if_pos h3, if_pos h9], rfl⟩
        · refine g_icmpYes (pc := 54) w d_jdk_116_method_22_code_54 ((feq (h9 : ¬ (xb &&& (223 : Int32)) = (yb &&& (223 : Int32)))).2) (by decide) (pc' := 61) (by decide) ?_
          refine g_iconst (pc := 61) w d_jdk_116_method_22_code_61 (z := (0 : Int32)) (by decide) ?_
          exact g_retN (pc := 62) w (t := .boolean) rfl (by simp) rfl (by decide) (by decide) (ns := []) (fun _ q => nomatch q) d_jdk_116_method_22_code_62 ⟨by unfold eqIC; rw [if_neg h1, if_neg h2, if_pos h3, if_neg h9], rfl⟩

set_option maxRecDepth 65536 in
set_option maxHeartbeats 40000000 in
theorem c_rmci {l : Launch} {Z : State} {a0 : Array Value} (hw : ∀ d ∈ tables_1, d.before a0 Z = true) {va oa : Addr} {xs ys : List Int32} {h0 : Heap} (A_va : AR Z h0 va .byte (xs.map Value.int)) (A_oa : AR Z h0 oa .byte (ys.map Value.int)) (hle : ys.length ≤ xs.length) :
    Con l Z a0 EL0 (⟨"java/lang/StringLatin1", "regionMatchesCI", "([BI[BII)Z"⟩ : MethodName) jdk_43_method_30_code 8 (Option.some Jvm.ClassFile.FieldType.boolean) ({ frames := 1, cells := 0, slots := 0, locals := 14 } : Room) #[(.ref va), (.int (0 : Int32)), (.ref oa), (.int (0 : Int32)), (.int ys.length.toInt32)] h0 [] [] (fun v h ns => v = some (.int (rmci xs ys)) ∧ ns = []) := by
  refine Con.of (L0 := #[.val (.ref va), .val (.int (0 : Int32)), .val (.ref oa), .val (.int (0 : Int32)), .val (.int ys.length.toInt32), .unset, .unset, .unset]) (by decide +kernel) (fun m => by first | rfl | (simp [entryFrame, mkF, argsToLocals, Value.category]; done)) ?_
  intro p e s m below meth c T w
  have hyl : ys.length < 2147483648 := by have := A_oa.len; simpa using this
  have hxl : xs.length < 2147483648 := by have := A_va.len; simpa using this
  refine g_iloadN (pc := 0) w d_jdk_43_method_30_code_0 rfl ?_
  refine g_iload (pc := 1) w d_jdk_43_method_30_code_1 rfl ?_
  refine g_iadd (pc := 3) w d_jdk_43_method_30_code_3 ?_
  rw [Int32.zero_add]
  refine g_istore (pc := 4) w d_jdk_43_method_30_code_4 (l' := #[.val (.ref va), .val (.int (0 : Int32)), .val (.ref oa), .val (.int (0 : Int32)), .val (.int ys.length.toInt32), .val (.int ys.length.toInt32), .unset, .unset]) rfl ?_
  have loop : ∀ (r i : Nat) (T : State) (h : Heap) (s6 s7 : Slot), i + r = ys.length → rmci xs ys = rmci (xs.drop i) (ys.drop i) → One s6 → One s7 → OW p l e ({ frames := 1, cells := 0, slots := 0, locals := 14 } : Room) s m #[(.ref va), (.int (0 : Int32)), (.ref oa), (.int (0 : Int32)), (.int ys.length.toInt32)] below meth c Z a0 EL0 "java/lang/StringLatin1" "regionMatchesCI" jdk_43_method_30_code 8 (Option.some Jvm.ClassFile.FieldType.boolean) [] h0 [] T h 0 0 → AR Z h va .byte (xs.map Value.int) → AR Z h oa .byte (ys.map Value.int) → Go p.tables e below (Fin' s Z EL0 [] h0 ({ frames := 1, cells := 0, slots := 0, locals := 14 } : Room) (fun v h ns => v = some (.int (rmci xs ys)) ∧ ns = [])) (T.setTop (mkF m 6 #[.val (.ref va), .val (.int i.toInt32), .val (.ref oa), .val (.int i.toInt32), .val (.int ys.length.toInt32), .val (.int ys.length.toInt32), s6, s7] [])) := by
    intro r
    induction r with
    | zero =>
      intro i T h s6 s7 hi hq h6 h7 w A_va A_oa
      have hii : i = ys.length := by omega
      refine g_iloadN (pc := 6) w d_jdk_43_method_30_code_6 rfl ?_
      refine g_iload (pc := 7) w d_jdk_43_method_30_code_7 rfl ?_
      refine g_icmpYes (pc := 9) w d_jdk_43_method_30_code_9 ((flt ((by rw [hii]; exact Int32.lt_irrefl) : ¬ i.toInt32 < ys.length.toInt32)).2.1) (by decide) (pc' := 43) (by decide) ?_
      refine g_iconst (pc := 43) w d_jdk_43_method_30_code_43 (z := (1 : Int32)) (by decide) ?_
      exact g_retN (pc := 44) w (t := .boolean) rfl (by simp) rfl (by decide) (by decide) (ns := []) (fun _ q => nomatch q) d_jdk_43_method_30_code_44 ⟨by rw [hq, hii, List.drop_length, rmci], rfl⟩
    | succ r ih =>
      intro i T h s6 s7 hi hq h6 h7 w A_va A_oa
      have hil : i < ys.length := by omega
      have hil' : i < xs.length := by omega
      have hi31 : i < 2147483648 := by omega
      obtain ⟨yb, hy⟩ : ∃ ch, ys[i]? = some ch := ⟨_, List.getElem?_eq_getElem hil⟩
      obtain ⟨xb, hx⟩ : ∃ ch, xs[i]? = some ch := ⟨_, List.getElem?_eq_getElem hil'⟩
      have hstep := rmci_step hx hy
      refine g_iloadN (pc := 6) w d_jdk_43_method_30_code_6 rfl ?_
      refine g_iload (pc := 7) w d_jdk_43_method_30_code_7 rfl ?_
      refine g_icmpNo (pc := 9) w d_jdk_43_method_30_code_9 ((tlt (((t32_lt hi31 hyl).mpr hil) : i.toInt32 < ys.length.toInt32)).2.1) ?_
      refine g_aloadN (pc := 12) w d_jdk_43_method_30_code_12 rfl rfl ?_
      refine g_iloadN (pc := 13) w d_jdk_43_method_30_code_13 rfl ?_
      refine g_iinc (pc := 14) w d_jdk_43_method_30_code_14 rfl (z := (i + 1).toInt32) (t32_succ i) (l' := #[.val (.ref va), .val (.int (i + 1).toInt32), .val (.ref oa), .val (.int i.toInt32), .val (.int ys.length.toInt32), .val (.int ys.length.toInt32), s6, s7]) rfl ?_
      refine g_baload (pc := 17) w A_va (t32_nneg hi31) (by rw [t32_nat hi31]; exact get_map_int hx) d_jdk_43_method_30_code_17 ?_
      refine g_istore (pc := 18) w d_jdk_43_method_30_code_18 (l' := #[.val (.ref va), .val (.int (i + 1).toInt32), .val (.ref oa), .val (.int i.toInt32), .val (.int ys.length.toInt32), .val (.int ys.length.toInt32), .val (.int xb), s7]) (XS.store1 (o := s6) rfl h6 rfl) ?_
      refine g_aloadN (pc := 20) w d_jdk_43_method_30_code_20 rfl rfl ?_
      refine g_iloadN (pc := 21) w d_jdk_43_method_30_code_21 rfl ?_
      refine g_iinc (pc := 22) w d_jdk_43_method_30_code_22 rfl (z := (i + 1).toInt32) (t32_succ i) (l' := #[.val (.ref va), .val (.int (i + 1).toInt32), .val (.ref oa), .val (.int (i + 1).toInt32), .val (.int ys.length.toInt32), .val (.int ys.length.toInt32), .val (.int xb), s7]) rfl ?_
      refine g_baload (pc := 25) w A_oa (t32_nneg hi31) (by rw [t32_nat hi31]; exact get_map_int hy) d_jdk_43_method_30_code_25 ?_
      refine g_istore (pc := 26) w d_jdk_43_method_30_code_26 (l' := #[.val (.ref va), .val (.int (i + 1).toInt32), .val (.ref oa), .val (.int (i + 1).toInt32), .val (.int ys.length.toInt32), .val (.int ys.length.toInt32), .val (.int xb), .val (.int yb)]) (XS.store1 (o := s7) rfl h7 rfl) ?_
      refine g_iload (pc := 28) w d_jdk_43_method_30_code_28 rfl ?_
      refine g_iload (pc := 30) w d_jdk_43_method_30_code_30 rfl ?_
      refine g_static (pc := 32) w (argsL := [(.int xb), (.int yb)]) (rest := []) (W := 0) (tw64 hw) (tw65 hw) (tw66 hw) (tw67 hw) (by decide) (c_eqic hw) (by simp) all0 rfl (lenOf pd5 rfl) rfl (by decide) (Nat.le_of_eq rfl) (by decide) (by decide) (by decide) d_jdk_43_method_30_code_32 ?_
      rintro _ T1 h1 ns1 ⟨rfl, rfl⟩ K1 w1
      have A_va := A_va.keep K1 nin0
      have A_oa := A_oa.keep K1 nin0
      by_cases he : (eqIC xb yb) = (0 : Int32)
      · refine g_ifYes (pc := 35) w1 d_jdk_43_method_30_code_35 ((if0 _ _).trans (teq (he : (eqIC xb yb) = (0 : Int32))).1) (by decide) (pc' := 41) (by decide) ?_
        refine g_iconst (pc := 41) w1 d_jdk_43_method_30_code_41 (z := (0 : Int32)) (by decide) ?_
        exact g_retN (pc := 42) w1 (t := .boolean) rfl (by simp) rfl (by decide) (by decide) (ns := []) (fun _ q => nomatch q) d_jdk_43_method_30_code_42 ⟨by rw [hq, hstep, if_pos he], rfl⟩
      · refine g_ifNo (pc := 35) w1 d_jdk_43_method_30_code_35 ((if0 _ _).trans (feq (he : ¬ (eqIC xb yb) = (0 : Int32))).1) ?_
        refine g_goto (pc := 38) w1 d_jdk_43_method_30_code_38 (by decide) (pc' := 6) (by decide) ?_
        exact ih (i + 1) T1 h1 _ _ (by omega) (by rw [hq, hstep, if_neg he]) (One.val rfl) (One.val rfl) w1 A_va A_oa
  exact loop ys.length 0 T h0 _ _ (by omega) rfl One.u One.u w A_va A_oa

set_option maxRecDepth 65536 in
set_option maxHeartbeats 40000000 in
theorem c_rm {l : Launch} {Z : State} {a0 : Array Value} (hw : ∀ d ∈ tables_1, d.before a0 Z = true) (st : Sts Z) {sa ta sb tb : Addr} {xs ys : List Int32} {h0 : Heap} (E_sa : Exa Z h0 sa "java/lang/String") (F_coder_sa : Fld Z h0 sa "java/lang/String" "coder" "B" (.int (0 : Int32))) (F_value_sa : Fld Z h0 sa "java/lang/String" "value" "[B" (.ref ta)) (A_ta : AR Z h0 ta .byte (xs.map Value.int)) (E_sb : Exa Z h0 sb "java/lang/String") (F_coder_sb : Fld Z h0 sb "java/lang/String" "coder" "B" (.int (0 : Int32))) (F_value_sb : Fld Z h0 sb "java/lang/String" "value" "[B" (.ref tb)) (A_tb : AR Z h0 tb .byte (ys.map Value.int)) :
    Con l Z a0 EL0 (⟨"java/lang/String", "regionMatches", "(ZILjava/lang/String;II)Z"⟩ : MethodName) jdk_42_method_74_code 9 (Option.some Jvm.ClassFile.FieldType.boolean) ({ frames := 2, cells := 0, slots := 0, locals := 33 } : Room) #[(.ref sa), (.int (1 : Int32)), (.int (0 : Int32)), (.ref sb), (.int (0 : Int32)), (.int ys.length.toInt32)] h0 [] [] (fun v h ns => v = some (.int (if xs.length < ys.length then 0 else rmci xs ys)) ∧ ns = []) := by
  refine Con.of (L0 := #[.val (.ref sa), .val (.int (1 : Int32)), .val (.int (0 : Int32)), .val (.ref sb), .val (.int (0 : Int32)), .val (.int ys.length.toInt32), .unset, .unset, .unset]) (by decide +kernel) (fun m => by first | rfl | (simp [entryFrame, mkF, argsToLocals, Value.category]; done)) ?_
  intro p e s m below meth c T w
  have hyl : ys.length < 2147483648 := by have := A_tb.len; simpa using this
  have hxl : xs.length < 2147483648 := by have := A_ta.len; simpa using this
  refine g_iloadN (pc := 0) w d_jdk_42_method_74_code_0 rfl ?_
  refine g_ifYes (pc := 1) w d_jdk_42_method_74_code_1 ((if0 _ _).trans (feq ((by decide) : ¬ (1 : Int32) = (0 : Int32))).2) (by decide) (pc' := 15) (by decide) ?_
  refine g_iload (pc := 15) w d_jdk_42_method_74_code_15 rfl ?_
  refine g_ifNo (pc := 17) w d_jdk_42_method_74_code_17 ((if0 _ _).trans (flt ((by decide) : ¬ (0 : Int32) < (0 : Int32))).1) ?_
  refine g_iloadN (pc := 20) w d_jdk_42_method_74_code_20 rfl ?_
  refine g_ifNo (pc := 21) w d_jdk_42_method_74_code_21 ((if0 _ _).trans (flt ((by decide) : ¬ (0 : Int32) < (0 : Int32))).1) ?_
  refine g_iloadN (pc := 24) w d_jdk_42_method_74_code_24 rfl ?_
  refine g_i2l (pc := 25) w d_jdk_42_method_74_code_25 ?_
  refine g_aloadN (pc := 26) w d_jdk_42_method_74_code_26 rfl rfl ?_
  refine g_virtual (pc := 27) w (argsL := []) (rest := [(.long ((0 : Int32).toInt64))]) (W := 2) (tw59 hw) (tw45 hw) (fun t q => notFace_of_selects (args := #[]) (mvT q (tw47 hw))) (tw47 hw) (tw46 hw) (tw6 hw) (tw48 hw) (by decide) E_sa (c_length hw st (xs := xs) E_sa F_coder_sa F_value_sa A_ta) (by simp) all0 rfl (lenOf pd6 rfl) rfl (by decide) (Nat.le_of_eq rfl) (by decide) (by decide) (by decide) d_jdk_42_method_74_code_27 ?_
  rintro _ T1 h1 ns1 ⟨rfl, rfl⟩ K1 w1
  have E_sa := E_sa.keep K1
  have F_coder_sa := F_coder_sa.keep K1 nin0
  have F_value_sa := F_value_sa.keep K1 nin0
  have A_ta := A_ta.keep K1 nin0
  have E_sb := E_sb.keep K1
  have F_coder_sb := F_coder_sb.keep K1 nin0
  have F_value_sb := F_value_sb.keep K1 nin0
  have A_tb := A_tb.keep K1 nin0
  refine g_i2l (pc := 30) w1 d_jdk_42_method_74_code_30 ?_
  refine g_iload (pc := 31) w1 d_jdk_42_method_74_code_31 rfl ?_
  refine g_i2l (pc := 33) w1 d_jdk_42_method_74_code_33 ?_
  refine g_lsub (pc := 34) w1 d_jdk_42_method_74_code_34 ?_
  refine g_lcmp (pc := 35) w1 d_jdk_42_method_74_code_35 ?_
  by_cases hlt : xs.length < ys.length
  · refine g_ifYes (pc := 36) w1 d_jdk_42_method_74_code_36 ((if0 _ _).trans (tlt (((len_cmp hxl hyl).mpr hlt) : (0 : Int32) < (lcmpW ((0 : Int32).toInt64) ((xs.length.toInt32.toInt64) - (ys.length.toInt32.toInt64))))).2.2.1) (by decide) (pc' := 55) (by decide) ?_
    refine g_iconst (pc := 55) w1 d_jdk_42_method_74_code_55 (z := (0 : Int32)) (by decide) ?_
    exact g_retN (pc := 56) w1 (t := .boolean) rfl (by simp) rfl (by decide) (by decide) (ns := []) (fun _ q => nomatch q) d_jdk_42_method_74_code_56 ⟨by rw [if_pos hlt], rfl⟩
  · refine g_ifNo (pc := 36) w1 d_jdk_42_method_74_code_36 ((if0 _ _).trans (flt ((fun q => hlt ((len_cmp hxl hyl).mp q)) : ¬ (0 : Int32) < (lcmpW ((0 : Int32).toInt64) ((xs.length.toInt32.toInt64) - (ys.length.toInt32.toInt64))))).2.2.1) ?_
    refine g_iload (pc := 39) w1 d_jdk_42_method_74_code_39 rfl ?_
    refine g_i2l (pc := 41) w1 d_jdk_42_method_74_code_41 ?_
    refine g_aloadN (pc := 42) w1 d_jdk_42_method_74_code_42 rfl rfl ?_
    refine g_virtual (pc := 43) w1 (argsL := []) (rest := [(.long ((0 : Int32).toInt64))]) (W := 2) (tw59 hw) (tw45 hw) (fun t q => notFace_of_selects (args := #[]) (mvT q (tw47 hw))) (tw47 hw) (tw46 hw) (tw6 hw) (tw48 hw) (by decide) E_sb (c_length hw st (xs := ys) E_sb F_coder_sb F_value_sb A_tb) (by simp) all0 rfl (lenOf pd6 rfl) rfl (by decide) (Nat.le_of_eq rfl) (by decide) (by decide) (by decide) d_jdk_42_method_74_code_43 ?_
    rintro _ T2 h2 ns2 ⟨rfl, rfl⟩ K2 w2
    have E_sa := E_sa.keep K2
    have F_coder_sa := F_coder_sa.keep K2 nin0
    have F_value_sa := F_value_sa.keep K2 nin0
    have A_ta := A_ta.keep K2 nin0
    have E_sb := E_sb.keep K2
    have F_coder_sb := F_coder_sb.keep K2 nin0
    have F_value_sb := F_value_sb.keep K2 nin0
    have A_tb := A_tb.keep K2 nin0
    refine g_i2l (pc := 46) w2 d_jdk_42_method_74_code_46 ?_
    refine g_iload (pc := 47) w2 d_jdk_42_method_74_code_47 rfl ?_
    refine g_i2l (pc := 49) w2 d_jdk_42_method_74_code_49 ?_
    refine g_lsub (pc := 50) w2 d_jdk_42_method_74_code_50 ?_
    refine g_lcmp (pc := 51) w2 d_jdk_42_method_74_code_51 ?_
    refine g_ifYes (pc := 52) w2 d_jdk_42_method_74_code_52 ((if0 _ _).trans (flt ((fun q => Nat.lt_irrefl _ ((len_cmp hyl hyl).mp q)) : ¬ (0 : Int32) < (lcmpW ((0 : Int32).toInt64) ((ys.length.toInt32.toInt64) - (ys.length.toInt32.toInt64))))).2.2.2) (by decide) (pc' := 57) (by decide) ?_
    refine g_aloadN (pc := 57) w2 d_jdk_42_method_74_code_57 rfl rfl ?_
    refine g_getF (pc := 58) w2 (host := "") (Or.inl (tw32 hw)) Via.refl F_value_sa d_jdk_42_method_74_code_58 ?_
    intro T3 w3
    refine g_astore (pc := 61) w3 d_jdk_42_method_74_code_61 rfl (l' := #[.val (.ref sa), .val (.int (1 : Int32)), .val (.int (0 : Int32)), .val (.ref sb), .val (.int (0 : Int32)), .val (.int ys.length.toInt32), .val (.ref ta), .unset, .unset]) rfl ?_
    refine g_aloadN (pc := 63) w3 d_jdk_42_method_74_code_63 rfl rfl ?_
    refine g_getF (pc := 64) w3 (host := "") (Or.inl (tw32 hw)) Via.refl F_value_sb d_jdk_42_method_74_code_64 ?_
    intro T4 w4
    refine g_astore (pc := 67) w4 d_jdk_42_method_74_code_67 rfl (l' := #[.val (.ref sa), .val (.int (1 : Int32)), .val (.int (0 : Int32)), .val (.ref sb), .val (.int (0 : Int32)), .val (.int ys.length.toInt32), .val (.ref ta), .val (.ref tb), .unset]) rfl ?_
    refine g_aloadN (pc := 69) w4 d_jdk_42_method_74_code_69 rfl rfl ?_
    refine g_virtual (pc := 70) w4 (argsL := []) (rest := []) (W := 0) (tw49 hw) (tw50 hw) (fun t q => notFace_of_selects (args := #[]) (mvT q (tw52 hw))) (tw52 hw) (tw51 hw) (tw6 hw) (tw53 hw) (by decide) E_sa (c_scoder hw st F_coder_sa) (by simp) all0 rfl (lenOf pd4 rfl) rfl (by decide) (Nat.le_of_eq rfl) (by decide) (by decide) (by decide) d_jdk_42_method_74_code_70 ?_
    rintro _ T5 h5 ns5 ⟨rfl, rfl⟩ K5 w5
    have E_sa := E_sa.keep K5
    have F_coder_sa := F_coder_sa.keep K5 nin0
    have F_value_sa := F_value_sa.keep K5 nin0
    have A_ta := A_ta.keep K5 nin0
    have E_sb := E_sb.keep K5
    have F_coder_sb := F_coder_sb.keep K5 nin0
    have F_value_sb := F_value_sb.keep K5 nin0
    have A_tb := A_tb.keep K5 nin0
    refine g_istore (pc := 73) w5 d_jdk_42_method_74_code_73 (l' := #[.val (.ref sa), .val (.int (1 : Int32)), .val (.int (0 : Int32)), .val (.ref sb), .val (.int (0 : Int32)), .val (.int ys.length.toInt32), .val (.ref ta), .val (.ref tb), .val (.int (0 : Int32))]) rfl ?_
    refine g_iload (pc := 75) w5 d_jdk_42_method_74_code_75 rfl ?_
    refine g_aloadN (pc := 77) w5 d_jdk_42_method_74_code_77 rfl rfl ?_
    refine g_virtual (pc := 78) w5 (argsL := []) (rest := [(.int (0 : Int32))]) (W := 1) (tw49 hw) (tw50 hw) (fun t q => notFace_of_selects (args := #[]) (mvT q (tw52 hw))) (tw52 hw) (tw51 hw) (tw6 hw) (tw53 hw) (by decide) E_sb (c_scoder hw st F_coder_sb) (by simp) all0 rfl (lenOf pd4 rfl) rfl (by decide) (Nat.le_of_eq rfl) (by decide) (by decide) (by decide) d_jdk_42_method_74_code_78 ?_
    rintro _ T6 h6 ns6 ⟨rfl, rfl⟩ K6 w6
    have E_sa := E_sa.keep K6
    have F_coder_sa := F_coder_sa.keep K6 nin0
    have F_value_sa := F_value_sa.keep K6 nin0
    have A_ta := A_ta.keep K6 nin0
    have E_sb := E_sb.keep K6
    have F_coder_sb := F_coder_sb.keep K6 nin0
    have F_value_sb := F_value_sb.keep K6 nin0
    have A_tb := A_tb.keep K6 nin0
    refine g_icmpNo (pc := 81) w6 d_jdk_42_method_74_code_81 ((teq ((by decide) : (0 : Int32) = (0 : Int32))).2) ?_
    refine g_iload (pc := 84) w6 d_jdk_42_method_74_code_84 rfl ?_
    refine g_ifNo (pc := 86) w6 d_jdk_42_method_74_code_86 ((if0 _ _).trans (teq ((by decide) : (0 : Int32) = (0 : Int32))).2) ?_
    refine g_aload (pc := 89) w6 d_jdk_42_method_74_code_89 rfl rfl ?_
    refine g_iloadN (pc := 91) w6 d_jdk_42_method_74_code_91 rfl ?_
    refine g_aload (pc := 92) w6 d_jdk_42_method_74_code_92 rfl rfl ?_
    refine g_iload (pc := 94) w6 d_jdk_42_method_74_code_94 rfl ?_
    refine g_iload (pc := 96) w6 d_jdk_42_method_74_code_96 rfl ?_
    refine g_static (pc := 98) w6 (argsL := [(.ref ta), (.int (0 : Int32)), (.ref tb), (.int (0 : Int32)), (.int ys.length.toInt32)]) (rest := []) (W := 0) (tw60 hw) (tw61 hw) (tw62 hw) (tw63 hw) (by decide) (c_rmci hw A_ta A_tb (Nat.le_of_not_lt hlt)) (by simp) all0 rfl (lenOf pd7 rfl) rfl (by decide) (Nat.le_of_eq rfl) (by decide) (by decide) (by decide) d_jdk_42_method_74_code_98 ?_
    rintro _ T7 h7 ns7 ⟨rfl, rfl⟩ K7 w7
    have E_sa := E_sa.keep K7
    have F_coder_sa := F_coder_sa.keep K7 nin0
    have F_value_sa := F_value_sa.keep K7 nin0
    have A_ta := A_ta.keep K7 nin0
    have E_sb := E_sb.keep K7
    have F_coder_sb := F_coder_sb.keep K7 nin0
    have F_value_sb := F_value_sb.keep K7 nin0
    have A_tb := A_tb.keep K7 nin0
    refine g_goto (pc := 101) w7 d_jdk_42_method_74_code_101 (by decide) (pc' := 116) (by decide) ?_
    exact g_retN (pc := 116) w7 (t := .boolean) rfl (by simp) (rmci_nar _ _) (by decide) (by decide) (ns := []) (fun _ q => nomatch q) d_jdk_42_method_74_code_116 ⟨by rw [if_neg hlt], rfl⟩

set_option maxRecDepth 65536 in
set_option maxHeartbeats 40000000 in
theorem c_isw {l : Launch} {Z : State} {a0 : Array Value} (hw : ∀ d ∈ tables_1, d.before a0 Z = true) (st : Sts Z) {sa ta : Addr} {xs : List Int32} {h0 : Heap} (E_sa : Exa Z h0 sa "java/lang/String") (F_coder_sa : Fld Z h0 sa "java/lang/String" "coder" "B" (.int (0 : Int32))) (F_value_sa : Fld Z h0 sa "java/lang/String" "value" "[B" (.ref ta)) (A_ta : AR Z h0 ta .byte (xs.map Value.int)) :
    Con l Z a0 EL0 (⟨"com/example/fencelock/fencelock/store/RedisAddress", "isWrittenAsRedis", "(Ljava/lang/String;)Z"⟩ : MethodName) prog_16_method_2_code 2 (Option.some Jvm.ClassFile.FieldType.boolean) ({ frames := 3, cells := 2, slots := 36, locals := 53 } : Room) #[(.ref sa)] h0 [] [] (fun v h ns => v = some (.int (if xs.length < RB.length then 0 else rmci xs RB)) ∧ ns = []) := by
  refine Con.of (L0 := #[.val (.ref sa), .unset]) (by decide +kernel) (fun m => by first | rfl | (simp [entryFrame, mkF, argsToLocals, Value.category]; done)) ?_
  intro p e s m below meth c T w
  refine g_ldcR (pc := 0) w (sz := 32) (vs := (RB.map Value.int)) (z := (8 : Int32)) (tw41 hw) (strAt hw) (by simp [EL0]) ⟨by decide, by first | rfl | decide⟩ (by decide) (by decide) (by decide) (by decide) (by decide) (by decide) d_prog_16_method_2_code_0 ?_
  intro T1 h1 b1 t1 w1 E1 E_b1 F_coder_b1 F_value_b1 A_t1 nl1
  have E_sa := E_sa.ext E1
  have F_coder_sa := F_coder_sa.ext E1
  have F_value_sa := F_value_sa.ext E1
  have A_ta := A_ta.ext E1
  refine g_astoreN (pc := 2) w1 d_prog_16_method_2_code_2 rfl (l' := #[.val (.ref sa), .val (.ref b1)]) rfl ?_
  refine g_aloadN (pc := 3) w1 d_prog_16_method_2_code_3 rfl rfl ?_
  refine g_iconst (pc := 4) w1 d_prog_16_method_2_code_4 (z := (1 : Int32)) (by decide) ?_
  refine g_iconst (pc := 5) w1 d_prog_16_method_2_code_5 (z := (0 : Int32)) (by decide) ?_
  refine g_aloadN (pc := 6) w1 d_prog_16_method_2_code_6 rfl rfl ?_
  refine g_iconst (pc := 7) w1 d_prog_16_method_2_code_7 (z := (0 : Int32)) (by decide) ?_
  refine g_aloadN (pc := 8) w1 d_prog_16_method_2_code_8 rfl rfl ?_
  refine g_virtual (pc := 9) w1 (argsL := []) (rest := [(.int (0 : Int32)), (.ref b1), (.int (0 : Int32)), (.int (1 : Int32)), (.ref sa)]) (W := 5) (tw44 hw) (tw45 hw) (fun t q => notFace_of_selects (args := #[]) (mvT q (tw47 hw))) (tw47 hw) (tw46 hw) (tw6 hw) (tw48 hw) (by decide) E_b1 (c_length hw st (xs := RB) E_b1 F_coder_b1 F_value_b1 A_t1) (by simp) all0 rfl (lenOf pd6 rfl) rfl (by decide) (Nat.le_of_eq rfl) (by decide) (by decide) (by decide) d_prog_16_method_2_code_9 ?_
  rintro _ T2 h2 ns2 ⟨rfl, rfl⟩ K2 w2
  have E_sa := E_sa.keep K2
  have F_coder_sa := F_coder_sa.keep K2 nin0
  have F_value_sa := F_value_sa.keep K2 nin0
  have A_ta := A_ta.keep K2 nin0
  have E_b1 := E_b1.keep K2
  have F_coder_b1 := F_coder_b1.keep K2 nin0
  have F_value_b1 := F_value_b1.keep K2 nin0
  have A_t1 := A_t1.keep K2 nin0
  refine g_virtual (pc := 12) w2 (argsL := [(.int (1 : Int32)), (.int (0 : Int32)), (.ref b1), (.int (0 : Int32)), (.int RB.length.toInt32)]) (rest := []) (W := 0) (tw54 hw) (tw55 hw) (fun t q => notFace_of_selects (args := #[]) (mvT q (tw57 hw))) (tw57 hw) (tw56 hw) (tw6 hw) (tw58 hw) (by decide) E_sa (c_rm hw st (xs := xs) (ys := RB) E_sa F_coder_sa F_value_sa A_ta E_b1 F_coder_b1 F_value_b1 A_t1) (by simp) all0 rfl (lenOf pd8 rfl) rfl (by decide) (Nat.le_of_eq rfl) (by decide) (by decide) (by decide) d_prog_16_method_2_code_12 ?_
  rintro _ T3 h3 ns3 ⟨rfl, rfl⟩ K3 w3
  have E_sa := E_sa.keep K3
  have F_coder_sa := F_coder_sa.keep K3 nin0
  have F_value_sa := F_value_sa.keep K3 nin0
  have A_ta := A_ta.keep K3 nin0
  have E_b1 := E_b1.keep K3
  have F_coder_b1 := F_coder_b1.keep K3 nin0
  have F_value_b1 := F_value_b1.keep K3 nin0
  have A_t1 := A_t1.keep K3 nin0
  exact g_retN (pc := 15) w3 (t := .boolean) rfl (by simp) (ifrm_nar _ _) (by decide) (by decide) (ns := []) (fun _ q => nomatch q) d_prog_16_method_2_code_15 ⟨rfl, rfl⟩

set_option maxRecDepth 65536 in
set_option maxHeartbeats 40000000 in
theorem c_law {l : Launch} {Z : State} {a0 : Array Value} (hw : ∀ d ∈ tables_1, d.before a0 Z = true) (st : Sts Z) {p0 p1 p2 p3 : Int32} {h0 : Heap} :
    Con l Z a0 EL0 x code maxLocals ret room_1 #[(.int p0), (.int p1), (.int p2), (.int p3)] h0 [] [] (fun v h ns => v = some (.int (1 : Int32)) ∧ ns = []) := by
  refine Con.of (L0 := #[.val (.int p0), .val (.int p1), .val (.int p2), .val (.int p3), .unset, .unset, .unset, .unset, .unset, .unset, .unset, .unset, .unset, .unset, .unset, .unset, .unset]) (by decide +kernel) (fun m => by first | rfl | (simp [entryFrame, mkF, argsToLocals, Value.category]; done)) ?_
  intro p e s m below meth c T w
  refine g_iloadN (pc := 0) w at_0 rfl ?_
  refine g_bipush (pc := 1) w at_1 (z := (114 : Int32)) (by decide) ?_
  refine g_bipush (pc := 3) w at_3 (z := (82 : Int32)) (by decide) ?_
  refine g_static (pc := 5) w (argsL := [(.int p0), (.int (114 : Int32)), (.int (82 : Int32))]) (rest := []) (W := 0) (tw0 hw) (tw1 hw) (tw2 hw) (tw3 hw) (by decide) (c_draw hw (by decide) (by decide)) (by simp) all0 rfl (lenOf pd9 rfl) rfl (by decide) (Nat.le_of_eq rfl) (by decide) (by decide) (by decide) at_5 ?_
  rintro _ T1 h1 ns1 ⟨c1, rfl, rfl, lc1⟩ K1 w1
  refine g_istore (pc := 8) w1 at_8 (l' := #[.val (.int p0), .val (.int p1), .val (.int p2), .val (.int p3), .val (.int c1), .unset, .unset, .unset, .unset, .unset, .unset, .unset, .unset, .unset, .unset, .unset, .unset]) rfl ?_
  refine g_iloadN (pc := 10) w1 at_10 rfl ?_
  refine g_bipush (pc := 11) w1 at_11 (z := (10 : Int32)) (by decide) ?_
  refine g_iushr (pc := 13) w1 at_13 ?_
  refine g_bipush (pc := 14) w1 at_14 (z := (101 : Int32)) (by decide) ?_
  refine g_bipush (pc := 16) w1 at_16 (z := (69 : Int32)) (by decide) ?_
  refine g_static (pc := 18) w1 (argsL := [(.int ((p0.toUInt32 >>> ((10 : Int32) &&& 31).toUInt32).toInt32)), (.int (101 : Int32)), (.int (69 : Int32))]) (rest := []) (W := 0) (tw0 hw) (tw1 hw) (tw2 hw) (tw3 hw) (by decide) (c_draw hw (by decide) (by decide)) (by simp) all0 rfl (lenOf pd9 rfl) rfl (by decide) (Nat.le_of_eq rfl) (by decide) (by decide) (by decide) at_18 ?_
  rintro _ T2 h2 ns2 ⟨c2, rfl, rfl, lc2⟩ K2 w2
  refine g_istore (pc := 21) w2 at_21 (l' := #[.val (.int p0), .val (.int p1), .val (.int p2), .val (.int p3), .val (.int c1), .val (.int c2), .unset, .unset, .unset, .unset, .unset, .unset, .unset, .unset, .unset, .unset, .unset]) rfl ?_
  refine g_iloadN (pc := 23) w2 at_23 rfl ?_
  refine g_bipush (pc := 24) w2 at_24 (z := (20 : Int32)) (by decide) ?_
  refine g_iushr (pc := 26) w2 at_26 ?_
  refine g_bipush (pc := 27) w2 at_27 (z := (100 : Int32)) (by decide) ?_
  refine g_bipush (pc := 29) w2 at_29 (z := (68 : Int32)) (by decide) ?_
  refine g_static (pc := 31) w2 (argsL := [(.int ((p0.toUInt32 >>> ((20 : Int32) &&& 31).toUInt32).toInt32)), (.int (100 : Int32)), (.int (68 : Int32))]) (rest := []) (W := 0) (tw0 hw) (tw1 hw) (tw2 hw) (tw3 hw) (by decide) (c_draw hw (by decide) (by decide)) (by simp) all0 rfl (lenOf pd9 rfl) rfl (by decide) (Nat.le_of_eq rfl) (by decide) (by decide) (by decide) at_31 ?_
  rintro _ T3 h3 ns3 ⟨c3, rfl, rfl, lc3⟩ K3 w3
  refine g_istore (pc := 34) w3 at_34 (l' := #[.val (.int p0), .val (.int p1), .val (.int p2), .val (.int p3), .val (.int c1), .val (.int c2), .val (.int c3), .unset, .unset, .unset, .unset, .unset, .unset, .unset, .unset, .unset, .unset]) rfl ?_
  refine g_iloadN (pc := 36) w3 at_36 rfl ?_
  refine g_bipush (pc := 37) w3 at_37 (z := (105 : Int32)) (by decide) ?_
  refine g_bipush (pc := 39) w3 at_39 (z := (73 : Int32)) (by decide) ?_
  refine g_static (pc := 41) w3 (argsL := [(.int p1), (.int (105 : Int32)), (.int (73 : Int32))]) (rest := []) (W := 0) (tw0 hw) (tw1 hw) (tw2 hw) (tw3 hw) (by decide) (c_draw hw (by decide) (by decide)) (by simp) all0 rfl (lenOf pd9 rfl) rfl (by decide) (Nat.le_of_eq rfl) (by decide) (by decide) (by decide) at_41 ?_
  rintro _ T4 h4 ns4 ⟨c4, rfl, rfl, lc4⟩ K4 w4
  refine g_istore (pc := 44) w4 at_44 (l' := #[.val (.int p0), .val (.int p1), .val (.int p2), .val (.int p3), .val (.int c1), .val (.int c2), .val (.int c3), .val (.int c4), .unset, .unset, .unset, .unset, .unset, .unset, .unset, .unset, .unset]) rfl ?_
  refine g_iloadN (pc := 46) w4 at_46 rfl ?_
  refine g_bipush (pc := 47) w4 at_47 (z := (10 : Int32)) (by decide) ?_
  refine g_iushr (pc := 49) w4 at_49 ?_
  refine g_bipush (pc := 50) w4 at_50 (z := (115 : Int32)) (by decide) ?_
  refine g_bipush (pc := 52) w4 at_52 (z := (83 : Int32)) (by decide) ?_
  refine g_static (pc := 54) w4 (argsL := [(.int ((p1.toUInt32 >>> ((10 : Int32) &&& 31).toUInt32).toInt32)), (.int (115 : Int32)), (.int (83 : Int32))]) (rest := []) (W := 0) (tw0 hw) (tw1 hw) (tw2 hw) (tw3 hw) (by decide) (c_draw hw (by decide) (by decide)) (by simp) all0 rfl (lenOf pd9 rfl) rfl (by decide) (Nat.le_of_eq rfl) (by decide) (by decide) (by decide) at_54 ?_
  rintro _ T5 h5 ns5 ⟨c5, rfl, rfl, lc5⟩ K5 w5
  refine g_istore (pc := 57) w5 at_57 (l' := #[.val (.int p0), .val (.int p1), .val (.int p2), .val (.int p3), .val (.int c1), .val (.int c2), .val (.int c3), .val (.int c4), .val (.int c5), .unset, .unset, .unset, .unset, .unset, .unset, .unset, .unset]) rfl ?_
  refine g_iloadN (pc := 59) w5 at_59 rfl ?_
  refine g_bipush (pc := 60) w5 at_60 (z := (20 : Int32)) (by decide) ?_
  refine g_iushr (pc := 62) w5 at_62 ?_
  refine g_bipush (pc := 63) w5 at_63 (z := (58 : Int32)) (by decide) ?_
  refine g_bipush (pc := 65) w5 at_65 (z := (58 : Int32)) (by decide) ?_
  refine g_static (pc := 67) w5 (argsL := [(.int ((p1.toUInt32 >>> ((20 : Int32) &&& 31).toUInt32).toInt32)), (.int (58 : Int32)), (.int (58 : Int32))]) (rest := []) (W := 0) (tw0 hw) (tw1 hw) (tw2 hw) (tw3 hw) (by decide) (c_draw hw (by decide) (by decide)) (by simp) all0 rfl (lenOf pd9 rfl) rfl (by decide) (Nat.le_of_eq rfl) (by decide) (by decide) (by decide) at_67 ?_
  rintro _ T6 h6 ns6 ⟨c6, rfl, rfl, lc6⟩ K6 w6
  refine g_istore (pc := 70) w6 at_70 (l' := #[.val (.int p0), .val (.int p1), .val (.int p2), .val (.int p3), .val (.int c1), .val (.int c2), .val (.int c3), .val (.int c4), .val (.int c5), .val (.int c6), .unset, .unset, .unset, .unset, .unset, .unset, .unset]) rfl ?_
  refine g_iloadN (pc := 72) w6 at_72 rfl ?_
  refine g_bipush (pc := 73) w6 at_73 (z := (47 : Int32)) (by decide) ?_
  refine g_bipush (pc := 75) w6 at_75 (z := (47 : Int32)) (by decide) ?_
  refine g_static (pc := 77) w6 (argsL := [(.int p2), (.int (47 : Int32)), (.int (47 : Int32))]) (rest := []) (W := 0) (tw0 hw) (tw1 hw) (tw2 hw) (tw3 hw) (by decide) (c_draw hw (by decide) (by decide)) (by simp) all0 rfl (lenOf pd9 rfl) rfl (by decide) (Nat.le_of_eq rfl) (by decide) (by decide) (by decide) at_77 ?_
  rintro _ T7 h7 ns7 ⟨c7, rfl, rfl, lc7⟩ K7 w7
  refine g_istore (pc := 80) w7 at_80 (l' := #[.val (.int p0), .val (.int p1), .val (.int p2), .val (.int p3), .val (.int c1), .val (.int c2), .val (.int c3), .val (.int c4), .val (.int c5), .val (.int c6), .val (.int c7), .unset, .unset, .unset, .unset, .unset, .unset]) rfl ?_
  refine g_iloadN (pc := 82) w7 at_82 rfl ?_
  refine g_bipush (pc := 83) w7 at_83 (z := (10 : Int32)) (by decide) ?_
  refine g_iushr (pc := 85) w7 at_85 ?_
  refine g_bipush (pc := 86) w7 at_86 (z := (47 : Int32)) (by decide) ?_
  refine g_bipush (pc := 88) w7 at_88 (z := (47 : Int32)) (by decide) ?_
  refine g_static (pc := 90) w7 (argsL := [(.int ((p2.toUInt32 >>> ((10 : Int32) &&& 31).toUInt32).toInt32)), (.int (47 : Int32)), (.int (47 : Int32))]) (rest := []) (W := 0) (tw0 hw) (tw1 hw) (tw2 hw) (tw3 hw) (by decide) (c_draw hw (by decide) (by decide)) (by simp) all0 rfl (lenOf pd9 rfl) rfl (by decide) (Nat.le_of_eq rfl) (by decide) (by decide) (by decide) at_90 ?_
  rintro _ T8 h8 ns8 ⟨c8, rfl, rfl, lc8⟩ K8 w8
  refine g_istore (pc := 93) w8 at_93 (l' := #[.val (.int p0), .val (.int p1), .val (.int p2), .val (.int p3), .val (.int c1), .val (.int c2), .val (.int c3), .val (.int c4), .val (.int c5), .val (.int c6), .val (.int c7), .val (.int c8), .unset, .unset, .unset, .unset, .unset]) rfl ?_
  refine g_iloadN (pc := 95) w8 at_95 rfl ?_
  refine g_bipush (pc := 96) w8 at_96 (z := (20 : Int32)) (by decide) ?_
  refine g_iushr (pc := 98) w8 at_98 ?_
  refine g_sipush (pc := 99) w8 at_99 (z := (255 : Int32)) (by decide) ?_
  refine g_iand (pc := 102) w8 at_102 ?_
  refine g_i2c (pc := 103) w8 at_103 ?_
  refine g_istore (pc := 104) w8 at_104 (l' := #[.val (.int p0), .val (.int p1), .val (.int p2), .val (.int p3), .val (.int c1), .val (.int c2), .val (.int c3), .val (.int c4), .val (.int c5), .val (.int c6), .val (.int c7), .val (.int c8), .val (.int ((((p2.toUInt32 >>> ((20 : Int32) &&& 31).toUInt32).toInt32) &&& (255 : Int32)).toUInt32.toUInt16.toUInt32.toInt32)), .unset, .unset, .unset, .unset]) rfl ?_
  refine g_iloadN (pc := 106) w8 at_106 rfl ?_
  refine g_iconst (pc := 107) w8 at_107 (z := (3 : Int32)) (by decide) ?_
  refine g_iand (pc := 108) w8 at_108 ?_
  refine g_istore (pc := 109) w8 at_109 (l' := #[.val (.int p0), .val (.int p1), .val (.int p2), .val (.int p3), .val (.int c1), .val (.int c2), .val (.int c3), .val (.int c4), .val (.int c5), .val (.int c6), .val (.int c7), .val (.int c8), .val (.int ((((p2.toUInt32 >>> ((20 : Int32) &&& 31).toUInt32).toInt32) &&& (255 : Int32)).toUInt32.toUInt16.toUInt32.toInt32)), .val (.int (p3 &&& (3 : Int32))), .unset, .unset, .unset]) rfl ?_
  refine g_iload (pc := 111) w8 at_111 rfl ?_
  by_cases hs0 : (p3 &&& (3 : Int32)) = (0 : Int32)
  · refine g_ifNo (pc := 113) w8 at_113 ((if0 _ _).trans (teq (hs0 : (p3 &&& (3 : Int32)) = (0 : Int32))).2) ?_
    refine g_new (pc := 116) w8 (tw4 hw) (tw5 hw) (tw6 hw) (by decide) (by decide) at_116 ?_
    intro T9 h9 b9 w9 eq_b9 fr_b9 E9 E_b9 D9
    have F_coder_b9 : Fld Z h9 b9 "java/lang/String" "coder" "B" (.int (0 : Int32)) := D9 (Or.inr (tw31 hw)) (ty := .byte) (by decide)
    have F_value_b9 : Fld Z h9 b9 "java/lang/String" "value" "[B" .null := D9 (Or.inr (tw33 hw)) (ty := (.array .byte)) (by decide)
    clear D9
    refine g_dup (pc := 119) w9 at_119 rfl ?_
    refine g_bipush (pc := 120) w9 at_120 (z := (9 : Int32)) (by decide) ?_
    refine g_newP (pc := 122) (aty := .char) w9 (tw7 hw) (by decide) (cap := 9) (by decide) (by decide) (by decide) (by decide) at_122 ?_
    intro T10 h10 b10 w10 eq_b10 fr_b10 E10 A_b10
    have ne_b9_b10 : b9 ≠ b10 := Nat.ne_of_lt (by rw [eq_b10]; exact E_b9.lt)
    have E_b9 := E_b9.ext E10
    have F_coder_b9 := F_coder_b9.ext E10
    have F_value_b9 := F_value_b9.ext E10
    have A_b10 : AR Z h10 b10 .char [(.int (0 : Int32)), (.int (0 : Int32)), (.int (0 : Int32)), (.int (0 : Int32)), (.int (0 : Int32)), (.int (0 : Int32)), (.int (0 : Int32)), (.int (0 : Int32)), (.int (0 : Int32))] := A_b10
    refine g_dup (pc := 124) w10 at_124 rfl ?_
    refine g_iconst (pc := 125) w10 at_125 (z := (0 : Int32)) (by decide) ?_
    refine g_iload (pc := 126) w10 at_126 rfl ?_
    refine g_castore (pc := 128) w10 A_b10 (by decide) (Nat.le_of_ble_eq_true rfl) (Or.inr fr_b10) (by simp) at_128 ?_
    intro T11 h11 w11 W11 A_b10
    have E_b9 := E_b9.wr W11
    have F_coder_b9 := F_coder_b9.other W11 (Or.inl ne_b9_b10)
    have F_value_b9 := F_value_b9.other W11 (Or.inl ne_b9_b10)
    have A_b10 : AR Z h11 b10 .char [(.int (nar .char c1)), (.int (0 : Int32)), (.int (0 : Int32)), (.int (0 : Int32)), (.int (0 : Int32)), (.int (0 : Int32)), (.int (0 : Int32)), (.int (0 : Int32)), (.int (0 : Int32))] := A_b10
    refine g_dup (pc := 129) w11 at_129 rfl ?_
    refine g_iconst (pc := 130) w11 at_130 (z := (1 : Int32)) (by decide) ?_
    refine g_iload (pc := 131) w11 at_131 rfl ?_
    refine g_castore (pc := 133) w11 A_b10 (by decide) (Nat.le_of_ble_eq_true rfl) (Or.inr fr_b10) (by simp) at_133 ?_
    intro T12 h12 w12 W12 A_b10
    have E_b9 := E_b9.wr W12
    have F_coder_b9 := F_coder_b9.other W12 (Or.inl ne_b9_b10)
    have F_value_b9 := F_value_b9.other W12 (Or.inl ne_b9_b10)
    have A_b10 : AR Z h12 b10 .char [(.int (nar .char c1)), (.int (nar .char c2)), (.int (0 : Int32)), (.int (0 : Int32)), (.int (0 : Int32)), (.int (0 : Int32)), (.int (0 : Int32)), (.int (0 : Int32)), (.int (0 : Int32))] := A_b10
    refine g_dup (pc := 134) w12 at_134 rfl ?_
    refine g_iconst (pc := 135) w12 at_135 (z := (2 : Int32)) (by decide) ?_
    refine g_iload (pc := 136) w12 at_136 rfl ?_
    refine g_castore (pc := 138) w12 A_b10 (by decide) (Nat.le_of_ble_eq_true rfl) (Or.inr fr_b10) (by simp) at_138 ?_
    intro T13 h13 w13 W13 A_b10
    have E_b9 := E_b9.wr W13
    have F_coder_b9 := F_coder_b9.other W13 (Or.inl ne_b9_b10)
    have F_value_b9 := F_value_b9.other W13 (Or.inl ne_b9_b10)
    have A_b10 : AR Z h13 b10 .char [(.int (nar .char c1)), (.int (nar .char c2)), (.int (nar .char c3)), (.int (0 : Int32)), (.int (0 : Int32)), (.int (0 : Int32)), (.int (0 : Int32)), (.int (0 : Int32)), (.int (0 : Int32))] := A_b10
    refine g_dup (pc := 139) w13 at_139 rfl ?_
    refine g_iconst (pc := 140) w13 at_140 (z := (3 : Int32)) (by decide) ?_
    refine g_iload (pc := 141) w13 at_141 rfl ?_
    refine g_castore (pc := 143) w13 A_b10 (by decide) (Nat.le_of_ble_eq_true rfl) (Or.inr fr_b10) (by simp) at_143 ?_
    intro T14 h14 w14 W14 A_b10
    have E_b9 := E_b9.wr W14
    have F_coder_b9 := F_coder_b9.other W14 (Or.inl ne_b9_b10)
    have F_value_b9 := F_value_b9.other W14 (Or.inl ne_b9_b10)
    have A_b10 : AR Z h14 b10 .char [(.int (nar .char c1)), (.int (nar .char c2)), (.int (nar .char c3)), (.int (nar .char c4)), (.int (0 : Int32)), (.int (0 : Int32)), (.int (0 : Int32)), (.int (0 : Int32)), (.int (0 : Int32))] := A_b10
    refine g_dup (pc := 144) w14 at_144 rfl ?_
    refine g_iconst (pc := 145) w14 at_145 (z := (4 : Int32)) (by decide) ?_
    refine g_iload (pc := 146) w14 at_146 rfl ?_
    refine g_castore (pc := 148) w14 A_b10 (by decide) (Nat.le_of_ble_eq_true rfl) (Or.inr fr_b10) (by simp) at_148 ?_
    intro T15 h15 w15 W15 A_b10
    have E_b9 := E_b9.wr W15
    have F_coder_b9 := F_coder_b9.other W15 (Or.inl ne_b9_b10)
    have F_value_b9 := F_value_b9.other W15 (Or.inl ne_b9_b10)
    have A_b10 : AR Z h15 b10 .char [(.int (nar .char c1)), (.int (nar .char c2)), (.int (nar .char c3)), (.int (nar .char c4)), (.int (nar .char c5)), (.int (0 : Int32)), (.int (0 : Int32)), (.int (0 : Int32)), (.int (0 : Int32))] := A_b10
    refine g_dup (pc := 149) w15 at_149 rfl ?_
    refine g_iconst (pc := 150) w15 at_150 (z := (5 : Int32)) (by decide) ?_
    refine g_iload (pc := 151) w15 at_151 rfl ?_
    refine g_castore (pc := 153) w15 A_b10 (by decide) (Nat.le_of_ble_eq_true rfl) (Or.inr fr_b10) (by simp) at_153 ?_
    intro T16 h16 w16 W16 A_b10
    have E_b9 := E_b9.wr W16
    have F_coder_b9 := F_coder_b9.other W16 (Or.inl ne_b9_b10)
    have F_value_b9 := F_value_b9.other W16 (Or.inl ne_b9_b10)
    have A_b10 : AR Z h16 b10 .char [(.int (nar .char c1)), (.int (nar .char c2)), (.int (nar .char c3)), (.int (nar .char c4)), (.int (nar .char c5)), (.int (nar .char c6)), (.int (0 : Int32)), (.int (0 : Int32)), (.int (0 : Int32))] := A_b10
    refine g_dup (pc := 154) w16 at_154 rfl ?_
    refine g_bipush (pc := 155) w16 at_155 (z := (6 : Int32)) (by decide) ?_
    refine g_iload (pc := 157) w16 at_157 rfl ?_
    refine g_castore (pc := 159) w16 A_b10 (by decide) (Nat.le_of_ble_eq_true rfl) (Or.inr fr_b10) (by simp) at_159 ?_
    intro T17 h17 w17 W17 A_b10
    have E_b9 := E_b9.wr W17
    have F_coder_b9 := F_coder_b9.other W17 (Or.inl ne_b9_b10)
    have F_value_b9 := F_value_b9.other W17 (Or.inl ne_b9_b10)
    have A_b10 : AR Z h17 b10 .char [(.int (nar .char c1)), (.int (nar .char c2)), (.int (nar .char c3)), (.int (nar .char c4)), (.int (nar .char c5)), (.int (nar .char c6)), (.int (nar .char c7)), (.int (0 : Int32)), (.int (0 : Int32))] := A_b10
    refine g_dup (pc := 160) w17 at_160 rfl ?_
    refine g_bipush (pc := 161) w17 at_161 (z := (7 : Int32)) (by decide) ?_
    refine g_iload (pc := 163) w17 at_163 rfl ?_
    refine g_castore (pc := 165) w17 A_b10 (by decide) (Nat.le_of_ble_eq_true rfl) (Or.inr fr_b10) (by simp) at_165 ?_
    intro T18 h18 w18 W18 A_b10
    have E_b9 := E_b9.wr W18
    have F_coder_b9 := F_coder_b9.other W18 (Or.inl ne_b9_b10)
    have F_value_b9 := F_value_b9.other W18 (Or.inl ne_b9_b10)
    have A_b10 : AR Z h18 b10 .char [(.int (nar .char c1)), (.int (nar .char c2)), (.int (nar .char c3)), (.int (nar .char c4)), (.int (nar .char c5)), (.int (nar .char c6)), (.int (nar .char c7)), (.int (nar .char c8)), (.int (0 : Int32))] := A_b10
    refine g_dup (pc := 166) w18 at_166 rfl ?_
    refine g_bipush (pc := 167) w18 at_167 (z := (8 : Int32)) (by decide) ?_
    refine g_iload (pc := 169) w18 at_169 rfl ?_
    refine g_castore (pc := 171) w18 A_b10 (by decide) (Nat.le_of_ble_eq_true rfl) (Or.inr fr_b10) (by simp) at_171 ?_
    intro T19 h19 w19 W19 A_b10
    have E_b9 := E_b9.wr W19
    have F_coder_b9 := F_coder_b9.other W19 (Or.inl ne_b9_b10)
    have F_value_b9 := F_value_b9.other W19 (Or.inl ne_b9_b10)
    have A_b10 : AR Z h19 b10 .char [(.int (nar .char c1)), (.int (nar .char c2)), (.int (nar .char c3)), (.int (nar .char c4)), (.int (nar .char c5)), (.int (nar .char c6)), (.int (nar .char c7)), (.int (nar .char c8)), (.int (nar .char ((((p2.toUInt32 >>> ((20 : Int32) &&& 31).toUInt32).toInt32) &&& (255 : Int32)).toUInt32.toUInt16.toUInt32.toInt32)))] := A_b10
    have A_b10 : AR Z h19 b10 .char (([c1, c2, c3, c4, c5, c6, c7, c8, ((((p2.toUInt32 >>> ((20 : Int32) &&& 31).toUInt32).toInt32) &&& (255 : Int32)).toUInt32.toUInt16.toUInt32.toInt32)] : List Int32).map Value.int) := by rw [nar_lat lc1, nar_lat lc2, nar_lat lc3, nar_lat lc4, nar_lat lc5, nar_lat lc6, nar_lat lc7, nar_lat lc8, nar_lat (lat_mask _)] at A_b10; exact A_b10
    refine g_special (pc := 172) w19 (argsL := [(.ref b10)]) (rest := [(.ref b9)]) (W := 1) rfl rfl (tw8 hw) (tw9 hw) (tw6 hw) (tw10 hw) (by decide) (c_strinit hw st (cs := ([c1, c2, c3, c4, c5, c6, c7, c8, ((((p2.toUInt32 >>> ((20 : Int32) &&& 31).toUInt32).toInt32) &&& (255 : Int32)).toUInt32.toUInt16.toUInt32.toInt32)] : List Int32)) E_b9 F_coder_b9 F_value_b9 A_b10 (all32 lc1.1 (all32 lc2.1 (all32 lc3.1 (all32 lc4.1 (all32 lc5.1 (all32 lc6.1 (all32 lc7.1 (all32 lc8.1 (all32 (lat_mask _).1 all32n))))))))) (Nat.le_of_ble_eq_true rfl) (Ne.symm ne_b9_b10)) (by simp) (allS (Or.inr fr_b9) all0) rfl (lenOf pd10 rfl) rfl (by decide) (Nat.le_of_eq rfl) (by decide) (by decide) (by decide) at_172 ?_
    rintro _ T20 h20 ns20 ⟨rfl, rfl, t20, E_b9, F_coder_b9, F_value_b9, A_t20⟩ K20 w20
    have A_b10 := A_b10.keep K20 (ninS (Ne.symm ne_b9_b10) nin0)
    refine g_astore (pc := 175) w20 at_175 rfl (l' := #[.val (.int p0), .val (.int p1), .val (.int p2), .val (.int p3), .val (.int c1), .val (.int c2), .val (.int c3), .val (.int c4), .val (.int c5), .val (.int c6), .val (.int c7), .val (.int c8), .val (.int ((((p2.toUInt32 >>> ((20 : Int32) &&& 31).toUInt32).toInt32) &&& (255 : Int32)).toUInt32.toUInt16.toUInt32.toInt32)), .val (.int (p3 &&& (3 : Int32))), .val (.ref b9), .unset, .unset]) rfl ?_
    refine g_bipush (pc := 177) w20 at_177 (z := (9 : Int32)) (by decide) ?_
    refine g_istore (pc := 179) w20 at_179 (l' := #[.val (.int p0), .val (.int p1), .val (.int p2), .val (.int p3), .val (.int c1), .val (.int c2), .val (.int c3), .val (.int c4), .val (.int c5), .val (.int c6), .val (.int c7), .val (.int c8), .val (.int ((((p2.toUInt32 >>> ((20 : Int32) &&& 31).toUInt32).toInt32) &&& (255 : Int32)).toUInt32.toUInt16.toUInt32.toInt32)), .val (.int (p3 &&& (3 : Int32))), .val (.ref b9), .val (.int (9 : Int32)), .unset]) rfl ?_
    refine g_goto (pc := 181) w20 at_181 (by decide) (pc' := 329) (by decide) ?_
    refine g_iload (pc := 329) w20 at_329 rfl ?_
    refine g_bipush (pc := 331) w20 at_331 (z := (8 : Int32)) (by decide) ?_
    refine g_icmpNo (pc := 333) w20 at_333 ((flt ((by decide) : ¬ (9 : Int32) < (8 : Int32))).1) ?_
    refine g_iload (pc := 336) w20 at_336 rfl ?_
    refine g_bipush (pc := 338) w20 at_338 (z := (114 : Int32)) (by decide) ?_
    refine g_bipush (pc := 340) w20 at_340 (z := (82 : Int32)) (by decide) ?_
    refine g_static (pc := 342) w20 (argsL := [(.int c1), (.int (114 : Int32)), (.int (82 : Int32))]) (rest := []) (W := 0) (tw34 hw) (tw35 hw) (tw2 hw) (tw36 hw) (by decide) (c_is hw) (by simp) all0 rfl (lenOf pd11 rfl) rfl (by decide) (Nat.le_of_eq rfl) (by decide) (by decide) (by decide) at_342 ?_
    rintro _ T21 h21 ns21 ⟨rfl, rfl⟩ K21 w21
    have A_b10 := A_b10.keep K21 nin0
    have E_b9 := E_b9.keep K21
    have F_coder_b9 := F_coder_b9.keep K21 nin0
    have F_value_b9 := F_value_b9.keep K21 nin0
    have A_t20 := A_t20.keep K21 nin0
    by_cases h0 : (isv c1 (114 : Int32) (82 : Int32)) = (0 : Int32)
    · refine g_ifYes (pc := 345) w21 at_345 ((if0 _ _).trans (teq (h0 : (isv c1 (114 : Int32) (82 : Int32)) = (0 : Int32))).1) (by decide) (pc' := 436) (by decide) ?_
      refine g_iconst (pc := 436) w21 at_436 (z := (0 : Int32)) (by decide) ?_
      refine g_istore (pc := 437) w21 at_437 (l' := #[.val (.int p0), .val (.int p1), .val (.int p2), .val (.int p3), .val (.int c1), .val (.int c2), .val (.int c3), .val (.int c4), .val (.int c5), .val (.int c6), .val (.int c7), .val (.int c8), .val (.int ((((p2.toUInt32 >>> ((20 : Int32) &&& 31).toUInt32).toInt32) &&& (255 : Int32)).toUInt32.toUInt16.toUInt32.toInt32)), .val (.int (p3 &&& (3 : Int32))), .val (.ref b9), .val (.int (9 : Int32)), .val (.int (0 : Int32))]) rfl ?_
      refine g_aload (pc := 439) w21 at_439 rfl rfl ?_
      refine g_static (pc := 441) w21 (argsL := [(.ref b9)]) (rest := []) (W := 0) (tw37 hw) (tw38 hw) (tw39 hw) (tw40 hw) (by decide) (c_isw hw st (xs := ([c1, c2, c3, c4, c5, c6, c7, c8, ((((p2.toUInt32 >>> ((20 : Int32) &&& 31).toUInt32).toInt32) &&& (255 : Int32)).toUInt32.toUInt16.toUInt32.toInt32)] : List Int32).map b8) E_b9 F_coder_b9 F_value_b9 (by rw [List.map_map]; exact A_t20)) (by simp) all0 rfl (lenOf pd12 rfl) rfl (by decide) (Nat.le_of_eq rfl) (by decide) (by decide) (by decide) at_441 ?_
      rintro _ T22 h22 ns22 ⟨rfl, rfl⟩ K22 w22
      have A_b10 := A_b10.keep K22 nin0
      have E_b9 := E_b9.keep K22
      have F_coder_b9 := F_coder_b9.keep K22 nin0
      have F_value_b9 := F_value_b9.keep K22 nin0
      have A_t20 := A_t20.keep K22 nin0
      refine g_iload (pc := 444) w22 at_444 rfl ?_
      refine g_icmpNo (pc := 446) w22 at_446 ((teq ((by rw [if_neg (by simp [RB])]; simp only [RB, List.map_cons, List.map_nil, rmci]; rw [eq_lit0 lc1, eq_lit1 lc2, eq_lit2 lc3, eq_lit3 lc4, eq_lit4 lc5, eq_lit5 lc6, eq_lit6 lc7, eq_lit7 lc8, if_pos h0]) : (if (([c1, c2, c3, c4, c5, c6, c7, c8, ((((p2.toUInt32 >>> ((20 : Int32) &&& 31).toUInt32).toInt32) &&& (255 : Int32)).toUInt32.toUInt16.toUInt32.toInt32)] : List Int32).map b8).length < RB.length then 0 else rmci (([c1, c2, c3, c4, c5, c6, c7, c8, ((((p2.toUInt32 >>> ((20 : Int32) &&& 31).toUInt32).toInt32) &&& (255 : Int32)).toUInt32.toUInt16.toUInt32.toInt32)] : List Int32).map b8) RB) = (0 : Int32))).2) ?_
      refine g_iconst (pc := 449) w22 at_449 (z := (1 : Int32)) (by decide) ?_
      refine g_goto (pc := 450) w22 at_450 (by decide) (pc' := 454) (by decide) ?_
      exact g_retN (pc := 454) w22 (t := .boolean) rfl (by simp) rfl (by decide) (by decide) (ns := []) (fun _ q => nomatch q) at_454 ⟨rfl, rfl⟩
    · refine g_ifNo (pc := 345) w21 at_345 ((if0 _ _).trans (feq (h0 : ¬ (isv c1 (114 : Int32) (82 : Int32)) = (0 : Int32))).1) ?_
      refine g_iload (pc := 348) w21 at_348 rfl ?_
      refine g_bipush (pc := 350) w21 at_350 (z := (101 : Int32)) (by decide) ?_
      refine g_bipush (pc := 352) w21 at_352 (z := (69 : Int32)) (by decide) ?_
      refine g_static (pc := 354) w21 (argsL := [(.int c2), (.int (101 : Int32)), (.int (69 : Int32))]) (rest := []) (W := 0) (tw34 hw) (tw35 hw) (tw2 hw) (tw36 hw) (by decide) (c_is hw) (by simp) all0 rfl (lenOf pd11 rfl) rfl (by decide) (Nat.le_of_eq rfl) (by decide) (by decide) (by decide) at_354 ?_
      rintro _ T23 h23 ns23 ⟨rfl, rfl⟩ K23 w23
      have A_b10 := A_b10.keep K23 nin0
      have E_b9 := E_b9.keep K23
      have F_coder_b9 := F_coder_b9.keep K23 nin0
      have F_value_b9 := F_value_b9.keep K23 nin0
      have A_t20 := A_t20.keep K23 nin0
      by_cases h1 : (isv c2 (101 : Int32) (69 : Int32)) = (0 : Int32)
      · refine g_ifYes (pc := 357) w23 at_357 ((if0 _ _).trans (teq (h1 : (isv c2 (101 : Int32) (69 : Int32)) = (0 : Int32))).1) (by decide) (pc' := 436) (by decide) ?_
        refine g_iconst (pc := 436) w23 at_436 (z := (0 : Int32)) (by decide) ?_
        refine g_istore (pc := 437) w23 at_437 (l' := #[.val (.int p0), .val (.int p1), .val (.int p2), .val (.int p3), .val (.int c1), .val (.int c2), .val (.int c3), .val (.int c4), .val (.int c5), .val (.int c6), .val (.int c7), .val (.int c8), .val (.int ((((p2.toUInt32 >>> ((20 : Int32) &&& 31).toUInt32).toInt32) &&& (255 : Int32)).toUInt32.toUInt16.toUInt32.toInt32)), .val (.int (p3 &&& (3 : Int32))), .val (.ref b9), .val (.int (9 : Int32)), .val (.int (0 : Int32))]) rfl ?_
        refine g_aload (pc := 439) w23 at_439 rfl rfl ?_
        refine g_static (pc := 441) w23 (argsL := [(.ref b9)]) (rest := []) (W := 0) (tw37 hw) (tw38 hw) (tw39 hw) (tw40 hw) (by decide) (c_isw hw st (xs := ([c1, c2, c3, c4, c5, c6, c7, c8, ((((p2.toUInt32 >>> ((20 : Int32) &&& 31).toUInt32).toInt32) &&& (255 : Int32)).toUInt32.toUInt16.toUInt32.toInt32)] : List Int32).map b8) E_b9 F_coder_b9 F_value_b9 (by rw [List.map_map]; exact A_t20)) (by simp) all0 rfl (lenOf pd12 rfl) rfl (by decide) (Nat.le_of_eq rfl) (by decide) (by decide) (by decide) at_441 ?_
        rintro _ T24 h24 ns24 ⟨rfl, rfl⟩ K24 w24
        have A_b10 := A_b10.keep K24 nin0
        have E_b9 := E_b9.keep K24
        have F_coder_b9 := F_coder_b9.keep K24 nin0
        have F_value_b9 := F_value_b9.keep K24 nin0
        have A_t20 := A_t20.keep K24 nin0
        refine g_iload (pc := 444) w24 at_444 rfl ?_
        refine g_icmpNo (pc := 446) w24 at_446 ((teq ((by rw [if_neg (by simp [RB])]; simp only [RB, List.map_cons, List.map_nil, rmci]; rw [eq_lit0 lc1, eq_lit1 lc2, eq_lit2 lc3, eq_lit3 lc4, eq_lit4 lc5, eq_lit5 lc6, eq_lit6 lc7, eq_lit7 lc8, if_neg h0, if_pos h1]) : (if (([c1, c2, c3, c4, c5, c6, c7, c8, ((((p2.toUInt32 >>> ((20 : Int32) &&& 31).toUInt32).toInt32) &&& (255 : Int32)).toUInt32.toUInt16.toUInt32.toInt32)] : List Int32).map b8).length < RB.length then 0 else rmci (([c1, c2, c3, c4, c5, c6, c7, c8, ((((p2.toUInt32 >>> ((20 : Int32) &&& 31).toUInt32).toInt32) &&& (255 : Int32)).toUInt32.toUInt16.toUInt32.toInt32)] : List Int32).map b8) RB) = (0 : Int32))).2) ?_
        refine g_iconst (pc := 449) w24 at_449 (z := (1 : Int32)) (by decide) ?_
        refine g_goto (pc := 450) w24 at_450 (by decide) (pc' := 454) (by decide) ?_
        exact g_retN (pc := 454) w24 (t := .boolean) rfl (by simp) rfl (by decide) (by decide) (ns := []) (fun _ q => nomatch q) at_454 ⟨rfl, rfl⟩
      · refine g_ifNo (pc := 357) w23 at_357 ((if0 _ _).trans (feq (h1 : ¬ (isv c2 (101 : Int32) (69 : Int32)) = (0 : Int32))).1) ?_
        refine g_iload (pc := 360) w23 at_360 rfl ?_
        refine g_bipush (pc := 362) w23 at_362 (z := (100 : Int32)) (by decide) ?_
        refine g_bipush (pc := 364) w23 at_364 (z := (68 : Int32)) (by decide) ?_
        refine g_static (pc := 366) w23 (argsL := [(.int c3), (.int (100 : Int32)), (.int (68 : Int32))]) (rest := []) (W := 0) (tw34 hw) (tw35 hw) (tw2 hw) (tw36 hw) (by decide) (c_is hw) (by simp) all0 rfl (lenOf pd11 rfl) rfl (by decide) (Nat.le_of_eq rfl) (by decide) (by decide) (by decide) at_366 ?_
        rintro _ T25 h25 ns25 ⟨rfl, rfl⟩ K25 w25
        have A_b10 := A_b10.keep K25 nin0
        have E_b9 := E_b9.keep K25
        have F_coder_b9 := F_coder_b9.keep K25 nin0
        have F_value_b9 := F_value_b9.keep K25 nin0
        have A_t20 := A_t20.keep K25 nin0
        by_cases h2 : (isv c3 (100 : Int32) (68 : Int32)) = (0 : Int32)
        · refine g_ifYes (pc := 369) w25 at_369 ((if0 _ _).trans (teq (h2 : (isv c3 (100 : Int32) (68 : Int32)) = (0 : Int32))).1) (by decide) (pc' := 436) (by decide) ?_
          refine g_iconst (pc := 436) w25 at_436 (z := (0 : Int32)) (by decide) ?_
          refine g_istore (pc := 437) w25 at_437 (l' := #[.val (.int p0), .val (.int p1), .val (.int p2), .val (.int p3), .val (.int c1), .val (.int c2), .val (.int c3), .val (.int c4), .val (.int c5), .val (.int c6), .val (.int c7), .val (.int c8), .val (.int ((((p2.toUInt32 >>> ((20 : Int32) &&& 31).toUInt32).toInt32) &&& (255 : Int32)).toUInt32.toUInt16.toUInt32.toInt32)), .val (.int (p3 &&& (3 : Int32))), .val (.ref b9), .val (.int (9 : Int32)), .val (.int (0 : Int32))]) rfl ?_
          refine g_aload (pc := 439) w25 at_439 rfl rfl ?_
          refine g_static (pc := 441) w25 (argsL := [(.ref b9)]) (rest := []) (W := 0) (tw37 hw) (tw38 hw) (tw39 hw) (tw40 hw) (by decide) (c_isw hw st (xs := ([c1, c2, c3, c4, c5, c6, c7, c8, ((((p2.toUInt32 >>> ((20 : Int32) &&& 31).toUInt32).toInt32) &&& (255 : Int32)).toUInt32.toUInt16.toUInt32.toInt32)] : List Int32).map b8) E_b9 F_coder_b9 F_value_b9 (by rw [List.map_map]; exact A_t20)) (by simp) all0 rfl (lenOf pd12 rfl) rfl (by decide) (Nat.le_of_eq rfl) (by decide) (by decide) (by decide) at_441 ?_
          rintro _ T26 h26 ns26 ⟨rfl, rfl⟩ K26 w26
          have A_b10 := A_b10.keep K26 nin0
          have E_b9 := E_b9.keep K26
          have F_coder_b9 := F_coder_b9.keep K26 nin0
          have F_value_b9 := F_value_b9.keep K26 nin0
          have A_t20 := A_t20.keep K26 nin0
          refine g_iload (pc := 444) w26 at_444 rfl ?_
          refine g_icmpNo (pc := 446) w26 at_446 ((teq ((by rw [if_neg (by simp [RB])]; simp only [RB, List.map_cons, List.map_nil, rmci]; rw [eq_lit0 lc1, eq_lit1 lc2, eq_lit2 lc3, eq_lit3 lc4, eq_lit4 lc5, eq_lit5 lc6, eq_lit6 lc7, eq_lit7 lc8, if_neg h0, if_neg h1, if_pos h2]) : (if (([c1, c2, c3, c4, c5, c6, c7, c8, ((((p2.toUInt32 >>> ((20 : Int32) &&& 31).toUInt32).toInt32) &&& (255 : Int32)).toUInt32.toUInt16.toUInt32.toInt32)] : List Int32).map b8).length < RB.length then 0 else rmci (([c1, c2, c3, c4, c5, c6, c7, c8, ((((p2.toUInt32 >>> ((20 : Int32) &&& 31).toUInt32).toInt32) &&& (255 : Int32)).toUInt32.toUInt16.toUInt32.toInt32)] : List Int32).map b8) RB) = (0 : Int32))).2) ?_
          refine g_iconst (pc := 449) w26 at_449 (z := (1 : Int32)) (by decide) ?_
          refine g_goto (pc := 450) w26 at_450 (by decide) (pc' := 454) (by decide) ?_
          exact g_retN (pc := 454) w26 (t := .boolean) rfl (by simp) rfl (by decide) (by decide) (ns := []) (fun _ q => nomatch q) at_454 ⟨rfl, rfl⟩
        · refine g_ifNo (pc := 369) w25 at_369 ((if0 _ _).trans (feq (h2 : ¬ (isv c3 (100 : Int32) (68 : Int32)) = (0 : Int32))).1) ?_
          refine g_iload (pc := 372) w25 at_372 rfl ?_
          refine g_bipush (pc := 374) w25 at_374 (z := (105 : Int32)) (by decide) ?_
          refine g_bipush (pc := 376) w25 at_376 (z := (73 : Int32)) (by decide) ?_
          refine g_static (pc := 378) w25 (argsL := [(.int c4), (.int (105 : Int32)), (.int (73 : Int32))]) (rest := []) (W := 0) (tw34 hw) (tw35 hw) (tw2 hw) (tw36 hw) (by decide) (c_is hw) (by simp) all0 rfl (lenOf pd11 rfl) rfl (by decide) (Nat.le_of_eq rfl) (by decide) (by decide) (by decide) at_378 ?_
          rintro _ T27 h27 ns27 ⟨rfl, rfl⟩ K27 w27
          have A_b10 := A_b10.keep K27 nin0
          have E_b9 := E_b9.keep K27
          have F_coder_b9 := F_coder_b9.keep K27 nin0
          have F_value_b9 := F_value_b9.keep K27 nin0
          have A_t20 := A_t20.keep K27 nin0
          by_cases h3 : (isv c4 (105 : Int32) (73 : Int32)) = (0 : Int32)
          · refine g_ifYes (pc := 381) w27 at_381 ((if0 _ _).trans (teq (h3 : (isv c4 (105 : Int32) (73 : Int32)) = (0 : Int32))).1) (by decide) (pc' := 436) (by decide) ?_
            refine g_iconst (pc := 436) w27 at_436 (z := (0 : Int32)) (by decide) ?_
            refine g_istore (pc := 437) w27 at_437 (l' := #[.val (.int p0), .val (.int p1), .val (.int p2), .val (.int p3), .val (.int c1), .val (.int c2), .val (.int c3), .val (.int c4), .val (.int c5), .val (.int c6), .val (.int c7), .val (.int c8), .val (.int ((((p2.toUInt32 >>> ((20 : Int32) &&& 31).toUInt32).toInt32) &&& (255 : Int32)).toUInt32.toUInt16.toUInt32.toInt32)), .val (.int (p3 &&& (3 : Int32))), .val (.ref b9), .val (.int (9 : Int32)), .val (.int (0 : Int32))]) rfl ?_
            refine g_aload (pc := 439) w27 at_439 rfl rfl ?_
            refine g_static (pc := 441) w27 (argsL := [(.ref b9)]) (rest := []) (W := 0) (tw37 hw) (tw38 hw) (tw39 hw) (tw40 hw) (by decide) (c_isw hw st (xs := ([c1, c2, c3, c4, c5, c6, c7, c8, ((((p2.toUInt32 >>> ((20 : Int32) &&& 31).toUInt32).toInt32) &&& (255 : Int32)).toUInt32.toUInt16.toUInt32.toInt32)] : List Int32).map b8) E_b9 F_coder_b9 F_value_b9 (by rw [List.map_map]; exact A_t20)) (by simp) all0 rfl (lenOf pd12 rfl) rfl (by decide) (Nat.le_of_eq rfl) (by decide) (by decide) (by decide) at_441 ?_
            rintro _ T28 h28 ns28 ⟨rfl, rfl⟩ K28 w28
            have A_b10 := A_b10.keep K28 nin0
            have E_b9 := E_b9.keep K28
            have F_coder_b9 := F_coder_b9.keep K28 nin0
            have F_value_b9 := F_value_b9.keep K28 nin0
            have A_t20 := A_t20.keep K28 nin0
            refine g_iload (pc := 444) w28 at_444 rfl ?_
            refine g_icmpNo (pc := 446) w28 at_446 ((teq ((by rw [if_neg (by simp [RB])]; simp only [RB, List.map_cons, List.map_nil, rmci]; rw [eq_lit0 lc1, eq_lit1 lc2, eq_lit2 lc3, eq_lit3 lc4, eq_lit4 lc5, eq_lit5 lc6, eq_lit6 lc7, eq_lit7 lc8, if_neg h0, if_neg h1, if_neg h2, if_pos h3]) : (if (([c1, c2, c3, c4, c5, c6, c7, c8, ((((p2.toUInt32 >>> ((20 : Int32) &&& 31).toUInt32).toInt32) &&& (255 : Int32)).toUInt32.toUInt16.toUInt32.toInt32)] : List Int32).map b8).length < RB.length then 0 else rmci (([c1, c2, c3, c4, c5, c6, c7, c8, ((((p2.toUInt32 >>> ((20 : Int32) &&& 31).toUInt32).toInt32) &&& (255 : Int32)).toUInt32.toUInt16.toUInt32.toInt32)] : List Int32).map b8) RB) = (0 : Int32))).2) ?_
            refine g_iconst (pc := 449) w28 at_449 (z := (1 : Int32)) (by decide) ?_
            refine g_goto (pc := 450) w28 at_450 (by decide) (pc' := 454) (by decide) ?_
            exact g_retN (pc := 454) w28 (t := .boolean) rfl (by simp) rfl (by decide) (by decide) (ns := []) (fun _ q => nomatch q) at_454 ⟨rfl, rfl⟩
          · refine g_ifNo (pc := 381) w27 at_381 ((if0 _ _).trans (feq (h3 : ¬ (isv c4 (105 : Int32) (73 : Int32)) = (0 : Int32))).1) ?_
            refine g_iload (pc := 384) w27 at_384 rfl ?_
            refine g_bipush (pc := 386) w27 at_386 (z := (115 : Int32)) (by decide) ?_
            refine g_bipush (pc := 388) w27 at_388 (z := (83 : Int32)) (by decide) ?_
            refine g_static (pc := 390) w27 (argsL := [(.int c5), (.int (115 : Int32)), (.int (83 : Int32))]) (rest := []) (W := 0) (tw34 hw) (tw35 hw) (tw2 hw) (tw36 hw) (by decide) (c_is hw) (by simp) all0 rfl (lenOf pd11 rfl) rfl (by decide) (Nat.le_of_eq rfl) (by decide) (by decide) (by decide) at_390 ?_
            rintro _ T29 h29 ns29 ⟨rfl, rfl⟩ K29 w29
            have A_b10 := A_b10.keep K29 nin0
            have E_b9 := E_b9.keep K29
            have F_coder_b9 := F_coder_b9.keep K29 nin0
            have F_value_b9 := F_value_b9.keep K29 nin0
            have A_t20 := A_t20.keep K29 nin0
            by_cases h4 : (isv c5 (115 : Int32) (83 : Int32)) = (0 : Int32)
            · refine g_ifYes (pc := 393) w29 at_393 ((if0 _ _).trans (teq (h4 : (isv c5 (115 : Int32) (83 : Int32)) = (0 : Int32))).1) (by decide) (pc' := 436) (by decide) ?_
              refine g_iconst (pc := 436) w29 at_436 (z := (0 : Int32)) (by decide) ?_
              refine g_istore (pc := 437) w29 at_437 (l' := #[.val (.int p0), .val (.int p1), .val (.int p2), .val (.int p3), .val (.int c1), .val (.int c2), .val (.int c3), .val (.int c4), .val (.int c5), .val (.int c6), .val (.int c7), .val (.int c8), .val (.int ((((p2.toUInt32 >>> ((20 : Int32) &&& 31).toUInt32).toInt32) &&& (255 : Int32)).toUInt32.toUInt16.toUInt32.toInt32)), .val (.int (p3 &&& (3 : Int32))), .val (.ref b9), .val (.int (9 : Int32)), .val (.int (0 : Int32))]) rfl ?_
              refine g_aload (pc := 439) w29 at_439 rfl rfl ?_
              refine g_static (pc := 441) w29 (argsL := [(.ref b9)]) (rest := []) (W := 0) (tw37 hw) (tw38 hw) (tw39 hw) (tw40 hw) (by decide) (c_isw hw st (xs := ([c1, c2, c3, c4, c5, c6, c7, c8, ((((p2.toUInt32 >>> ((20 : Int32) &&& 31).toUInt32).toInt32) &&& (255 : Int32)).toUInt32.toUInt16.toUInt32.toInt32)] : List Int32).map b8) E_b9 F_coder_b9 F_value_b9 (by rw [List.map_map]; exact A_t20)) (by simp) all0 rfl (lenOf pd12 rfl) rfl (by decide) (Nat.le_of_eq rfl) (by decide) (by decide) (by decide) at_441 ?_
              rintro _ T30 h30 ns30 ⟨rfl, rfl⟩ K30 w30
              have A_b10 := A_b10.keep K30 nin0
              have E_b9 := E_b9.keep K30
              have F_coder_b9 := F_coder_b9.keep K30 nin0
              have F_value_b9 := F_value_b9.keep K30 nin0
              have A_t20 := A_t20.keep K30 nin0
              refine g_iload (pc := 444) w30 at_444 rfl ?_
              refine g_icmpNo (pc := 446) w30 at_446 ((teq ((by rw [if_neg (by simp [RB])]; simp only [RB, List.map_cons, List.map_nil, rmci]; rw [eq_lit0 lc1, eq_lit1 lc2, eq_lit2 lc3, eq_lit3 lc4, eq_lit4 lc5, eq_lit5 lc6, eq_lit6 lc7, eq_lit7 lc8, if_neg h0, if_neg h1, if_neg h2, if_neg h3, if_pos h4]) : (if (([c1, c2, c3, c4, c5, c6, c7, c8, ((((p2.toUInt32 >>> ((20 : Int32) &&& 31).toUInt32).toInt32) &&& (255 : Int32)).toUInt32.toUInt16.toUInt32.toInt32)] : List Int32).map b8).length < RB.length then 0 else rmci (([c1, c2, c3, c4, c5, c6, c7, c8, ((((p2.toUInt32 >>> ((20 : Int32) &&& 31).toUInt32).toInt32) &&& (255 : Int32)).toUInt32.toUInt16.toUInt32.toInt32)] : List Int32).map b8) RB) = (0 : Int32))).2) ?_
              refine g_iconst (pc := 449) w30 at_449 (z := (1 : Int32)) (by decide) ?_
              refine g_goto (pc := 450) w30 at_450 (by decide) (pc' := 454) (by decide) ?_
              exact g_retN (pc := 454) w30 (t := .boolean) rfl (by simp) rfl (by decide) (by decide) (ns := []) (fun _ q => nomatch q) at_454 ⟨rfl, rfl⟩
            · refine g_ifNo (pc := 393) w29 at_393 ((if0 _ _).trans (feq (h4 : ¬ (isv c5 (115 : Int32) (83 : Int32)) = (0 : Int32))).1) ?_
              refine g_iload (pc := 396) w29 at_396 rfl ?_
              refine g_bipush (pc := 398) w29 at_398 (z := (58 : Int32)) (by decide) ?_
              refine g_bipush (pc := 400) w29 at_400 (z := (58 : Int32)) (by decide) ?_
              refine g_static (pc := 402) w29 (argsL := [(.int c6), (.int (58 : Int32)), (.int (58 : Int32))]) (rest := []) (W := 0) (tw34 hw) (tw35 hw) (tw2 hw) (tw36 hw) (by decide) (c_is hw) (by simp) all0 rfl (lenOf pd11 rfl) rfl (by decide) (Nat.le_of_eq rfl) (by decide) (by decide) (by decide) at_402 ?_
              rintro _ T31 h31 ns31 ⟨rfl, rfl⟩ K31 w31
              have A_b10 := A_b10.keep K31 nin0
              have E_b9 := E_b9.keep K31
              have F_coder_b9 := F_coder_b9.keep K31 nin0
              have F_value_b9 := F_value_b9.keep K31 nin0
              have A_t20 := A_t20.keep K31 nin0
              by_cases h5 : (isv c6 (58 : Int32) (58 : Int32)) = (0 : Int32)
              · refine g_ifYes (pc := 405) w31 at_405 ((if0 _ _).trans (teq (h5 : (isv c6 (58 : Int32) (58 : Int32)) = (0 : Int32))).1) (by decide) (pc' := 436) (by decide) ?_
                refine g_iconst (pc := 436) w31 at_436 (z := (0 : Int32)) (by decide) ?_
                refine g_istore (pc := 437) w31 at_437 (l' := #[.val (.int p0), .val (.int p1), .val (.int p2), .val (.int p3), .val (.int c1), .val (.int c2), .val (.int c3), .val (.int c4), .val (.int c5), .val (.int c6), .val (.int c7), .val (.int c8), .val (.int ((((p2.toUInt32 >>> ((20 : Int32) &&& 31).toUInt32).toInt32) &&& (255 : Int32)).toUInt32.toUInt16.toUInt32.toInt32)), .val (.int (p3 &&& (3 : Int32))), .val (.ref b9), .val (.int (9 : Int32)), .val (.int (0 : Int32))]) rfl ?_
                refine g_aload (pc := 439) w31 at_439 rfl rfl ?_
                refine g_static (pc := 441) w31 (argsL := [(.ref b9)]) (rest := []) (W := 0) (tw37 hw) (tw38 hw) (tw39 hw) (tw40 hw) (by decide) (c_isw hw st (xs := ([c1, c2, c3, c4, c5, c6, c7, c8, ((((p2.toUInt32 >>> ((20 : Int32) &&& 31).toUInt32).toInt32) &&& (255 : Int32)).toUInt32.toUInt16.toUInt32.toInt32)] : List Int32).map b8) E_b9 F_coder_b9 F_value_b9 (by rw [List.map_map]; exact A_t20)) (by simp) all0 rfl (lenOf pd12 rfl) rfl (by decide) (Nat.le_of_eq rfl) (by decide) (by decide) (by decide) at_441 ?_
                rintro _ T32 h32 ns32 ⟨rfl, rfl⟩ K32 w32
                have A_b10 := A_b10.keep K32 nin0
                have E_b9 := E_b9.keep K32
                have F_coder_b9 := F_coder_b9.keep K32 nin0
                have F_value_b9 := F_value_b9.keep K32 nin0
                have A_t20 := A_t20.keep K32 nin0
                refine g_iload (pc := 444) w32 at_444 rfl ?_
                refine g_icmpNo (pc := 446) w32 at_446 ((teq ((by rw [if_neg (by simp [RB])]; simp only [RB, List.map_cons, List.map_nil, rmci]; rw [eq_lit0 lc1, eq_lit1 lc2, eq_lit2 lc3, eq_lit3 lc4, eq_lit4 lc5, eq_lit5 lc6, eq_lit6 lc7, eq_lit7 lc8, if_neg h0, if_neg h1, if_neg h2, if_neg h3, if_neg h4, if_pos h5]) : (if (([c1, c2, c3, c4, c5, c6, c7, c8, ((((p2.toUInt32 >>> ((20 : Int32) &&& 31).toUInt32).toInt32) &&& (255 : Int32)).toUInt32.toUInt16.toUInt32.toInt32)] : List Int32).map b8).length < RB.length then 0 else rmci (([c1, c2, c3, c4, c5, c6, c7, c8, ((((p2.toUInt32 >>> ((20 : Int32) &&& 31).toUInt32).toInt32) &&& (255 : Int32)).toUInt32.toUInt16.toUInt32.toInt32)] : List Int32).map b8) RB) = (0 : Int32))).2) ?_
                refine g_iconst (pc := 449) w32 at_449 (z := (1 : Int32)) (by decide) ?_
                refine g_goto (pc := 450) w32 at_450 (by decide) (pc' := 454) (by decide) ?_
                exact g_retN (pc := 454) w32 (t := .boolean) rfl (by simp) rfl (by decide) (by decide) (ns := []) (fun _ q => nomatch q) at_454 ⟨rfl, rfl⟩
              · refine g_ifNo (pc := 405) w31 at_405 ((if0 _ _).trans (feq (h5 : ¬ (isv c6 (58 : Int32) (58 : Int32)) = (0 : Int32))).1) ?_
                refine g_iload (pc := 408) w31 at_408 rfl ?_
                refine g_bipush (pc := 410) w31 at_410 (z := (47 : Int32)) (by decide) ?_
                refine g_bipush (pc := 412) w31 at_412 (z := (47 : Int32)) (by decide) ?_
                refine g_static (pc := 414) w31 (argsL := [(.int c7), (.int (47 : Int32)), (.int (47 : Int32))]) (rest := []) (W := 0) (tw34 hw) (tw35 hw) (tw2 hw) (tw36 hw) (by decide) (c_is hw) (by simp) all0 rfl (lenOf pd11 rfl) rfl (by decide) (Nat.le_of_eq rfl) (by decide) (by decide) (by decide) at_414 ?_
                rintro _ T33 h33 ns33 ⟨rfl, rfl⟩ K33 w33
                have A_b10 := A_b10.keep K33 nin0
                have E_b9 := E_b9.keep K33
                have F_coder_b9 := F_coder_b9.keep K33 nin0
                have F_value_b9 := F_value_b9.keep K33 nin0
                have A_t20 := A_t20.keep K33 nin0
                by_cases h6 : (isv c7 (47 : Int32) (47 : Int32)) = (0 : Int32)
                · refine g_ifYes (pc := 417) w33 at_417 ((if0 _ _).trans (teq (h6 : (isv c7 (47 : Int32) (47 : Int32)) = (0 : Int32))).1) (by decide) (pc' := 436) (by decide) ?_
                  refine g_iconst (pc := 436) w33 at_436 (z := (0 : Int32)) (by decide) ?_
                  refine g_istore (pc := 437) w33 at_437 (l' := #[.val (.int p0), .val (.int p1), .val (.int p2), .val (.int p3), .val (.int c1), .val (.int c2), .val (.int c3), .val (.int c4), .val (.int c5), .val (.int c6), .val (.int c7), .val (.int c8), .val (.int ((((p2.toUInt32 >>> ((20 : Int32) &&& 31).toUInt32).toInt32) &&& (255 : Int32)).toUInt32.toUInt16.toUInt32.toInt32)), .val (.int (p3 &&& (3 : Int32))), .val (.ref b9), .val (.int (9 : Int32)), .val (.int (0 : Int32))]) rfl ?_
                  refine g_aload (pc := 439) w33 at_439 rfl rfl ?_
                  refine g_static (pc := 441) w33 (argsL := [(.ref b9)]) (rest := []) (W := 0) (tw37 hw) (tw38 hw) (tw39 hw) (tw40 hw) (by decide) (c_isw hw st (xs := ([c1, c2, c3, c4, c5, c6, c7, c8, ((((p2.toUInt32 >>> ((20 : Int32) &&& 31).toUInt32).toInt32) &&& (255 : Int32)).toUInt32.toUInt16.toUInt32.toInt32)] : List Int32).map b8) E_b9 F_coder_b9 F_value_b9 (by rw [List.map_map]; exact A_t20)) (by simp) all0 rfl (lenOf pd12 rfl) rfl (by decide) (Nat.le_of_eq rfl) (by decide) (by decide) (by decide) at_441 ?_
                  rintro _ T34 h34 ns34 ⟨rfl, rfl⟩ K34 w34
                  have A_b10 := A_b10.keep K34 nin0
                  have E_b9 := E_b9.keep K34
                  have F_coder_b9 := F_coder_b9.keep K34 nin0
                  have F_value_b9 := F_value_b9.keep K34 nin0
                  have A_t20 := A_t20.keep K34 nin0
                  refine g_iload (pc := 444) w34 at_444 rfl ?_
                  refine g_icmpNo (pc := 446) w34 at_446 ((teq ((by rw [if_neg (by simp [RB])]; simp only [RB, List.map_cons, List.map_nil, rmci]; rw [eq_lit0 lc1, eq_lit1 lc2, eq_lit2 lc3, eq_lit3 lc4, eq_lit4 lc5, eq_lit5 lc6, eq_lit6 lc7, eq_lit7 lc8, if_neg h0, if_neg h1, if_neg h2, if_neg h3, if_neg h4, if_neg h5, if_pos h6]) : (if (([c1, c2, c3, c4, c5, c6, c7, c8, ((((p2.toUInt32 >>> ((20 : Int32) &&& 31).toUInt32).toInt32) &&& (255 : Int32)).toUInt32.toUInt16.toUInt32.toInt32)] : List Int32).map b8).length < RB.length then 0 else rmci (([c1, c2, c3, c4, c5, c6, c7, c8, ((((p2.toUInt32 >>> ((20 : Int32) &&& 31).toUInt32).toInt32) &&& (255 : Int32)).toUInt32.toUInt16.toUInt32.toInt32)] : List Int32).map b8) RB) = (0 : Int32))).2) ?_
                  refine g_iconst (pc := 449) w34 at_449 (z := (1 : Int32)) (by decide) ?_
                  refine g_goto (pc := 450) w34 at_450 (by decide) (pc' := 454) (by decide) ?_
                  exact g_retN (pc := 454) w34 (t := .boolean) rfl (by simp) rfl (by decide) (by decide) (ns := []) (fun _ q => nomatch q) at_454 ⟨rfl, rfl⟩
                · refine g_ifNo (pc := 417) w33 at_417 ((if0 _ _).trans (feq (h6 : ¬ (isv c7 (47 : Int32) (47 : Int32)) = (0 : Int32))).1) ?_
                  refine g_iload (pc := 420) w33 at_420 rfl ?_
                  refine g_bipush (pc := 422) w33 at_422 (z := (47 : Int32)) (by decide) ?_
                  refine g_bipush (pc := 424) w33 at_424 (z := (47 : Int32)) (by decide) ?_
                  refine g_static (pc := 426) w33 (argsL := [(.int c8), (.int (47 : Int32)), (.int (47 : Int32))]) (rest := []) (W := 0) (tw34 hw) (tw35 hw) (tw2 hw) (tw36 hw) (by decide) (c_is hw) (by simp) all0 rfl (lenOf pd11 rfl) rfl (by decide) (Nat.le_of_eq rfl) (by decide) (by decide) (by decide) at_426 ?_
                  rintro _ T35 h35 ns35 ⟨rfl, rfl⟩ K35 w35
                  have A_b10 := A_b10.keep K35 nin0
                  have E_b9 := E_b9.keep K35
                  have F_coder_b9 := F_coder_b9.keep K35 nin0
                  have F_value_b9 := F_value_b9.keep K35 nin0
                  have A_t20 := A_t20.keep K35 nin0
                  by_cases h7 : (isv c8 (47 : Int32) (47 : Int32)) = (0 : Int32)
                  · refine g_ifYes (pc := 429) w35 at_429 ((if0 _ _).trans (teq (h7 : (isv c8 (47 : Int32) (47 : Int32)) = (0 : Int32))).1) (by decide) (pc' := 436) (by decide) ?_
                    refine g_iconst (pc := 436) w35 at_436 (z := (0 : Int32)) (by decide) ?_
                    refine g_istore (pc := 437) w35 at_437 (l' := #[.val (.int p0), .val (.int p1), .val (.int p2), .val (.int p3), .val (.int c1), .val (.int c2), .val (.int c3), .val (.int c4), .val (.int c5), .val (.int c6), .val (.int c7), .val (.int c8), .val (.int ((((p2.toUInt32 >>> ((20 : Int32) &&& 31).toUInt32).toInt32) &&& (255 : Int32)).toUInt32.toUInt16.toUInt32.toInt32)), .val (.int (p3 &&& (3 : Int32))), .val (.ref b9), .val (.int (9 : Int32)), .val (.int (0 : Int32))]) rfl ?_
                    refine g_aload (pc := 439) w35 at_439 rfl rfl ?_
                    refine g_static (pc := 441) w35 (argsL := [(.ref b9)]) (rest := []) (W := 0) (tw37 hw) (tw38 hw) (tw39 hw) (tw40 hw) (by decide) (c_isw hw st (xs := ([c1, c2, c3, c4, c5, c6, c7, c8, ((((p2.toUInt32 >>> ((20 : Int32) &&& 31).toUInt32).toInt32) &&& (255 : Int32)).toUInt32.toUInt16.toUInt32.toInt32)] : List Int32).map b8) E_b9 F_coder_b9 F_value_b9 (by rw [List.map_map]; exact A_t20)) (by simp) all0 rfl (lenOf pd12 rfl) rfl (by decide) (Nat.le_of_eq rfl) (by decide) (by decide) (by decide) at_441 ?_
                    rintro _ T36 h36 ns36 ⟨rfl, rfl⟩ K36 w36
                    have A_b10 := A_b10.keep K36 nin0
                    have E_b9 := E_b9.keep K36
                    have F_coder_b9 := F_coder_b9.keep K36 nin0
                    have F_value_b9 := F_value_b9.keep K36 nin0
                    have A_t20 := A_t20.keep K36 nin0
                    refine g_iload (pc := 444) w36 at_444 rfl ?_
                    refine g_icmpNo (pc := 446) w36 at_446 ((teq ((by rw [if_neg (by simp [RB])]; simp only [RB, List.map_cons, List.map_nil, rmci]; rw [eq_lit0 lc1, eq_lit1 lc2, eq_lit2 lc3, eq_lit3 lc4, eq_lit4 lc5, eq_lit5 lc6, eq_lit6 lc7, eq_lit7 lc8, if_neg h0, if_neg h1, if_neg h2, if_neg h3, if_neg h4, if_neg h5, if_neg h6, if_pos h7]) : (if (([c1, c2, c3, c4, c5, c6, c7, c8, ((((p2.toUInt32 >>> ((20 : Int32) &&& 31).toUInt32).toInt32) &&& (255 : Int32)).toUInt32.toUInt16.toUInt32.toInt32)] : List Int32).map b8).length < RB.length then 0 else rmci (([c1, c2, c3, c4, c5, c6, c7, c8, ((((p2.toUInt32 >>> ((20 : Int32) &&& 31).toUInt32).toInt32) &&& (255 : Int32)).toUInt32.toUInt16.toUInt32.toInt32)] : List Int32).map b8) RB) = (0 : Int32))).2) ?_
                    refine g_iconst (pc := 449) w36 at_449 (z := (1 : Int32)) (by decide) ?_
                    refine g_goto (pc := 450) w36 at_450 (by decide) (pc' := 454) (by decide) ?_
                    exact g_retN (pc := 454) w36 (t := .boolean) rfl (by simp) rfl (by decide) (by decide) (ns := []) (fun _ q => nomatch q) at_454 ⟨rfl, rfl⟩
                  · refine g_ifNo (pc := 429) w35 at_429 ((if0 _ _).trans (feq (h7 : ¬ (isv c8 (47 : Int32) (47 : Int32)) = (0 : Int32))).1) ?_
                    refine g_iconst (pc := 432) w35 at_432 (z := (1 : Int32)) (by decide) ?_
                    refine g_goto (pc := 433) w35 at_433 (by decide) (pc' := 437) (by decide) ?_
                    refine g_istore (pc := 437) w35 at_437 (l' := #[.val (.int p0), .val (.int p1), .val (.int p2), .val (.int p3), .val (.int c1), .val (.int c2), .val (.int c3), .val (.int c4), .val (.int c5), .val (.int c6), .val (.int c7), .val (.int c8), .val (.int ((((p2.toUInt32 >>> ((20 : Int32) &&& 31).toUInt32).toInt32) &&& (255 : Int32)).toUInt32.toUInt16.toUInt32.toInt32)), .val (.int (p3 &&& (3 : Int32))), .val (.ref b9), .val (.int (9 : Int32)), .val (.int (1 : Int32))]) rfl ?_
                    refine g_aload (pc := 439) w35 at_439 rfl rfl ?_
                    refine g_static (pc := 441) w35 (argsL := [(.ref b9)]) (rest := []) (W := 0) (tw37 hw) (tw38 hw) (tw39 hw) (tw40 hw) (by decide) (c_isw hw st (xs := ([c1, c2, c3, c4, c5, c6, c7, c8, ((((p2.toUInt32 >>> ((20 : Int32) &&& 31).toUInt32).toInt32) &&& (255 : Int32)).toUInt32.toUInt16.toUInt32.toInt32)] : List Int32).map b8) E_b9 F_coder_b9 F_value_b9 (by rw [List.map_map]; exact A_t20)) (by simp) all0 rfl (lenOf pd12 rfl) rfl (by decide) (Nat.le_of_eq rfl) (by decide) (by decide) (by decide) at_441 ?_
                    rintro _ T37 h37 ns37 ⟨rfl, rfl⟩ K37 w37
                    have A_b10 := A_b10.keep K37 nin0
                    have E_b9 := E_b9.keep K37
                    have F_coder_b9 := F_coder_b9.keep K37 nin0
                    have F_value_b9 := F_value_b9.keep K37 nin0
                    have A_t20 := A_t20.keep K37 nin0
                    refine g_iload (pc := 444) w37 at_444 rfl ?_
                    refine g_icmpNo (pc := 446) w37 at_446 ((teq ((by rw [if_neg (by simp [RB])]; simp only [RB, List.map_cons, List.map_nil, rmci]; rw [eq_lit0 lc1, eq_lit1 lc2, eq_lit2 lc3, eq_lit3 lc4, eq_lit4 lc5, eq_lit5 lc6, eq_lit6 lc7, eq_lit7 lc8, if_neg h0, if_neg h1, if_neg h2, if_neg h3, if_neg h4, if_neg h5, if_neg h6, if_neg h7]) : (if (([c1, c2, c3, c4, c5, c6, c7, c8, ((((p2.toUInt32 >>> ((20 : Int32) &&& 31).toUInt32).toInt32) &&& (255 : Int32)).toUInt32.toUInt16.toUInt32.toInt32)] : List Int32).map b8).length < RB.length then 0 else rmci (([c1, c2, c3, c4, c5, c6, c7, c8, ((((p2.toUInt32 >>> ((20 : Int32) &&& 31).toUInt32).toInt32) &&& (255 : Int32)).toUInt32.toUInt16.toUInt32.toInt32)] : List Int32).map b8) RB) = (1 : Int32))).2) ?_
                    refine g_iconst (pc := 449) w37 at_449 (z := (1 : Int32)) (by decide) ?_
                    refine g_goto (pc := 450) w37 at_450 (by decide) (pc' := 454) (by decide) ?_
                    exact g_retN (pc := 454) w37 (t := .boolean) rfl (by simp) rfl (by decide) (by decide) (ns := []) (fun _ q => nomatch q) at_454 ⟨rfl, rfl⟩
  · refine g_ifYes (pc := 113) w8 at_113 ((if0 _ _).trans (feq (hs0 : ¬ (p3 &&& (3 : Int32)) = (0 : Int32))).2) (by decide) (pc' := 184) (by decide) ?_
    refine g_iload (pc := 184) w8 at_184 rfl ?_
    refine g_iconst (pc := 186) w8 at_186 (z := (1 : Int32)) (by decide) ?_
    by_cases hs1 : (p3 &&& (3 : Int32)) = (1 : Int32)
    · refine g_icmpNo (pc := 187) w8 at_187 ((teq (hs1 : (p3 &&& (3 : Int32)) = (1 : Int32))).2) ?_
      refine g_new (pc := 190) w8 (tw4 hw) (tw5 hw) (tw6 hw) (by decide) (by decide) at_190 ?_
      intro T38 h38 b38 w38 eq_b38 fr_b38 E38 E_b38 D38
      have F_coder_b38 : Fld Z h38 b38 "java/lang/String" "coder" "B" (.int (0 : Int32)) := D38 (Or.inr (tw31 hw)) (ty := .byte) (by decide)
      have F_value_b38 : Fld Z h38 b38 "java/lang/String" "value" "[B" .null := D38 (Or.inr (tw33 hw)) (ty := (.array .byte)) (by decide)
      clear D38
      refine g_dup (pc := 193) w38 at_193 rfl ?_
      refine g_bipush (pc := 194) w38 at_194 (z := (8 : Int32)) (by decide) ?_
      refine g_newP (pc := 196) (aty := .char) w38 (tw7 hw) (by decide) (cap := 8) (by decide) (by decide) (by decide) (by decide) at_196 ?_
      intro T39 h39 b39 w39 eq_b39 fr_b39 E39 A_b39
      have ne_b38_b39 : b38 ≠ b39 := Nat.ne_of_lt (by rw [eq_b39]; exact E_b38.lt)
      have E_b38 := E_b38.ext E39
      have F_coder_b38 := F_coder_b38.ext E39
      have F_value_b38 := F_value_b38.ext E39
      have A_b39 : AR Z h39 b39 .char [(.int (0 : Int32)), (.int (0 : Int32)), (.int (0 : Int32)), (.int (0 : Int32)), (.int (0 : Int32)), (.int (0 : Int32)), (.int (0 : Int32)), (.int (0 : Int32))] := A_b39
      refine g_dup (pc := 198) w39 at_198 rfl ?_
      refine g_iconst (pc := 199) w39 at_199 (z := (0 : Int32)) (by decide) ?_
      refine g_iload (pc := 200) w39 at_200 rfl ?_
      refine g_castore (pc := 202) w39 A_b39 (by decide) (Nat.le_of_ble_eq_true rfl) (Or.inr fr_b39) (by simp) at_202 ?_
      intro T40 h40 w40 W40 A_b39
      have E_b38 := E_b38.wr W40
      have F_coder_b38 := F_coder_b38.other W40 (Or.inl ne_b38_b39)
      have F_value_b38 := F_value_b38.other W40 (Or.inl ne_b38_b39)
      have A_b39 : AR Z h40 b39 .char [(.int (nar .char c1)), (.int (0 : Int32)), (.int (0 : Int32)), (.int (0 : Int32)), (.int (0 : Int32)), (.int (0 : Int32)), (.int (0 : Int32)), (.int (0 : Int32))] := A_b39
      refine g_dup (pc := 203) w40 at_203 rfl ?_
      refine g_iconst (pc := 204) w40 at_204 (z := (1 : Int32)) (by decide) ?_
      refine g_iload (pc := 205) w40 at_205 rfl ?_
      refine g_castore (pc := 207) w40 A_b39 (by decide) (Nat.le_of_ble_eq_true rfl) (Or.inr fr_b39) (by simp) at_207 ?_
      intro T41 h41 w41 W41 A_b39
      have E_b38 := E_b38.wr W41
      have F_coder_b38 := F_coder_b38.other W41 (Or.inl ne_b38_b39)
      have F_value_b38 := F_value_b38.other W41 (Or.inl ne_b38_b39)
      have A_b39 : AR Z h41 b39 .char [(.int (nar .char c1)), (.int (nar .char c2)), (.int (0 : Int32)), (.int (0 : Int32)), (.int (0 : Int32)), (.int (0 : Int32)), (.int (0 : Int32)), (.int (0 : Int32))] := A_b39
      refine g_dup (pc := 208) w41 at_208 rfl ?_
      refine g_iconst (pc := 209) w41 at_209 (z := (2 : Int32)) (by decide) ?_
      refine g_iload (pc := 210) w41 at_210 rfl ?_
      refine g_castore (pc := 212) w41 A_b39 (by decide) (Nat.le_of_ble_eq_true rfl) (Or.inr fr_b39) (by simp) at_212 ?_
      intro T42 h42 w42 W42 A_b39
      have E_b38 := E_b38.wr W42
      have F_coder_b38 := F_coder_b38.other W42 (Or.inl ne_b38_b39)
      have F_value_b38 := F_value_b38.other W42 (Or.inl ne_b38_b39)
      have A_b39 : AR Z h42 b39 .char [(.int (nar .char c1)), (.int (nar .char c2)), (.int (nar .char c3)), (.int (0 : Int32)), (.int (0 : Int32)), (.int (0 : Int32)), (.int (0 : Int32)), (.int (0 : Int32))] := A_b39
      refine g_dup (pc := 213) w42 at_213 rfl ?_
      refine g_iconst (pc := 214) w42 at_214 (z := (3 : Int32)) (by decide) ?_
      refine g_iload (pc := 215) w42 at_215 rfl ?_
      refine g_castore (pc := 217) w42 A_b39 (by decide) (Nat.le_of_ble_eq_true rfl) (Or.inr fr_b39) (by simp) at_217 ?_
      intro T43 h43 w43 W43 A_b39
      have E_b38 := E_b38.wr W43
      have F_coder_b38 := F_coder_b38.other W43 (Or.inl ne_b38_b39)
      have F_value_b38 := F_value_b38.other W43 (Or.inl ne_b38_b39)
      have A_b39 : AR Z h43 b39 .char [(.int (nar .char c1)), (.int (nar .char c2)), (.int (nar .char c3)), (.int (nar .char c4)), (.int (0 : Int32)), (.int (0 : Int32)), (.int (0 : Int32)), (.int (0 : Int32))] := A_b39
      refine g_dup (pc := 218) w43 at_218 rfl ?_
      refine g_iconst (pc := 219) w43 at_219 (z := (4 : Int32)) (by decide) ?_
      refine g_iload (pc := 220) w43 at_220 rfl ?_
      refine g_castore (pc := 222) w43 A_b39 (by decide) (Nat.le_of_ble_eq_true rfl) (Or.inr fr_b39) (by simp) at_222 ?_
      intro T44 h44 w44 W44 A_b39
      have E_b38 := E_b38.wr W44
      have F_coder_b38 := F_coder_b38.other W44 (Or.inl ne_b38_b39)
      have F_value_b38 := F_value_b38.other W44 (Or.inl ne_b38_b39)
      have A_b39 : AR Z h44 b39 .char [(.int (nar .char c1)), (.int (nar .char c2)), (.int (nar .char c3)), (.int (nar .char c4)), (.int (nar .char c5)), (.int (0 : Int32)), (.int (0 : Int32)), (.int (0 : Int32))] := A_b39
      refine g_dup (pc := 223) w44 at_223 rfl ?_
      refine g_iconst (pc := 224) w44 at_224 (z := (5 : Int32)) (by decide) ?_
      refine g_iload (pc := 225) w44 at_225 rfl ?_
      refine g_castore (pc := 227) w44 A_b39 (by decide) (Nat.le_of_ble_eq_true rfl) (Or.inr fr_b39) (by simp) at_227 ?_
      intro T45 h45 w45 W45 A_b39
      have E_b38 := E_b38.wr W45
      have F_coder_b38 := F_coder_b38.other W45 (Or.inl ne_b38_b39)
      have F_value_b38 := F_value_b38.other W45 (Or.inl ne_b38_b39)
      have A_b39 : AR Z h45 b39 .char [(.int (nar .char c1)), (.int (nar .char c2)), (.int (nar .char c3)), (.int (nar .char c4)), (.int (nar .char c5)), (.int (nar .char c6)), (.int (0 : Int32)), (.int (0 : Int32))] := A_b39
      refine g_dup (pc := 228) w45 at_228 rfl ?_
      refine g_bipush (pc := 229) w45 at_229 (z := (6 : Int32)) (by decide) ?_
      refine g_iload (pc := 231) w45 at_231 rfl ?_
      refine g_castore (pc := 233) w45 A_b39 (by decide) (Nat.le_of_ble_eq_true rfl) (Or.inr fr_b39) (by simp) at_233 ?_
      intro T46 h46 w46 W46 A_b39
      have E_b38 := E_b38.wr W46
      have F_coder_b38 := F_coder_b38.other W46 (Or.inl ne_b38_b39)
      have F_value_b38 := F_value_b38.other W46 (Or.inl ne_b38_b39)
      have A_b39 : AR Z h46 b39 .char [(.int (nar .char c1)), (.int (nar .char c2)), (.int (nar .char c3)), (.int (nar .char c4)), (.int (nar .char c5)), (.int (nar .char c6)), (.int (nar .char c7)), (.int (0 : Int32))] := A_b39
      refine g_dup (pc := 234) w46 at_234 rfl ?_
      refine g_bipush (pc := 235) w46 at_235 (z := (7 : Int32)) (by decide) ?_
      refine g_iload (pc := 237) w46 at_237 rfl ?_
      refine g_castore (pc := 239) w46 A_b39 (by decide) (Nat.le_of_ble_eq_true rfl) (Or.inr fr_b39) (by simp) at_239 ?_
      intro T47 h47 w47 W47 A_b39
      have E_b38 := E_b38.wr W47
      have F_coder_b38 := F_coder_b38.other W47 (Or.inl ne_b38_b39)
      have F_value_b38 := F_value_b38.other W47 (Or.inl ne_b38_b39)
      have A_b39 : AR Z h47 b39 .char [(.int (nar .char c1)), (.int (nar .char c2)), (.int (nar .char c3)), (.int (nar .char c4)), (.int (nar .char c5)), (.int (nar .char c6)), (.int (nar .char c7)), (.int (nar .char c8))] := A_b39
      have A_b39 : AR Z h47 b39 .char (([c1, c2, c3, c4, c5, c6, c7, c8] : List Int32).map Value.int) := by rw [nar_lat lc1, nar_lat lc2, nar_lat lc3, nar_lat lc4, nar_lat lc5, nar_lat lc6, nar_lat lc7, nar_lat lc8] at A_b39; exact A_b39
      refine g_special (pc := 240) w47 (argsL := [(.ref b39)]) (rest := [(.ref b38)]) (W := 1) rfl rfl (tw8 hw) (tw9 hw) (tw6 hw) (tw10 hw) (by decide) (c_strinit hw st (cs := ([c1, c2, c3, c4, c5, c6, c7, c8] : List Int32)) E_b38 F_coder_b38 F_value_b38 A_b39 (all32 lc1.1 (all32 lc2.1 (all32 lc3.1 (all32 lc4.1 (all32 lc5.1 (all32 lc6.1 (all32 lc7.1 (all32 lc8.1 all32n)))))))) (Nat.le_of_ble_eq_true rfl) (Ne.symm ne_b38_b39)) (by simp) (allS (Or.inr fr_b38) all0) rfl (lenOf pd10 rfl) rfl (by decide) (Nat.le_of_eq rfl) (by decide) (by decide) (by decide) at_240 ?_
      rintro _ T48 h48 ns48 ⟨rfl, rfl, t48, E_b38, F_coder_b38, F_value_b38, A_t48⟩ K48 w48
      have A_b39 := A_b39.keep K48 (ninS (Ne.symm ne_b38_b39) nin0)
      refine g_astore (pc := 243) w48 at_243 rfl (l' := #[.val (.int p0), .val (.int p1), .val (.int p2), .val (.int p3), .val (.int c1), .val (.int c2), .val (.int c3), .val (.int c4), .val (.int c5), .val (.int c6), .val (.int c7), .val (.int c8), .val (.int ((((p2.toUInt32 >>> ((20 : Int32) &&& 31).toUInt32).toInt32) &&& (255 : Int32)).toUInt32.toUInt16.toUInt32.toInt32)), .val (.int (p3 &&& (3 : Int32))), .val (.ref b38), .unset, .unset]) rfl ?_
      refine g_bipush (pc := 245) w48 at_245 (z := (8 : Int32)) (by decide) ?_
      refine g_istore (pc := 247) w48 at_247 (l' := #[.val (.int p0), .val (.int p1), .val (.int p2), .val (.int p3), .val (.int c1), .val (.int c2), .val (.int c3), .val (.int c4), .val (.int c5), .val (.int c6), .val (.int c7), .val (.int c8), .val (.int ((((p2.toUInt32 >>> ((20 : Int32) &&& 31).toUInt32).toInt32) &&& (255 : Int32)).toUInt32.toUInt16.toUInt32.toInt32)), .val (.int (p3 &&& (3 : Int32))), .val (.ref b38), .val (.int (8 : Int32)), .unset]) rfl ?_
      refine g_goto (pc := 249) w48 at_249 (by decide) (pc' := 329) (by decide) ?_
      refine g_iload (pc := 329) w48 at_329 rfl ?_
      refine g_bipush (pc := 331) w48 at_331 (z := (8 : Int32)) (by decide) ?_
      refine g_icmpNo (pc := 333) w48 at_333 ((flt ((by decide) : ¬ (8 : Int32) < (8 : Int32))).1) ?_
      refine g_iload (pc := 336) w48 at_336 rfl ?_
      refine g_bipush (pc := 338) w48 at_338 (z := (114 : Int32)) (by decide) ?_
      refine g_bipush (pc := 340) w48 at_340 (z := (82 : Int32)) (by decide) ?_
      refine g_static (pc := 342) w48 (argsL := [(.int c1), (.int (114 : Int32)), (.int (82 : Int32))]) (rest := []) (W := 0) (tw34 hw) (tw35 hw) (tw2 hw) (tw36 hw) (by decide) (c_is hw) (by simp) all0 rfl (lenOf pd11 rfl) rfl (by decide) (Nat.le_of_eq rfl) (by decide) (by decide) (by decide) at_342 ?_
      rintro _ T49 h49 ns49 ⟨rfl, rfl⟩ K49 w49
      have A_b39 := A_b39.keep K49 nin0
      have E_b38 := E_b38.keep K49
      have F_coder_b38 := F_coder_b38.keep K49 nin0
      have F_value_b38 := F_value_b38.keep K49 nin0
      have A_t48 := A_t48.keep K49 nin0
      by_cases h0 : (isv c1 (114 : Int32) (82 : Int32)) = (0 : Int32)
      · refine g_ifYes (pc := 345) w49 at_345 ((if0 _ _).trans (teq (h0 : (isv c1 (114 : Int32) (82 : Int32)) = (0 : Int32))).1) (by decide) (pc' := 436) (by decide) ?_
        refine g_iconst (pc := 436) w49 at_436 (z := (0 : Int32)) (by decide) ?_
        refine g_istore (pc := 437) w49 at_437 (l' := #[.val (.int p0), .val (.int p1), .val (.int p2), .val (.int p3), .val (.int c1), .val (.int c2), .val (.int c3), .val (.int c4), .val (.int c5), .val (.int c6), .val (.int c7), .val (.int c8), .val (.int ((((p2.toUInt32 >>> ((20 : Int32) &&& 31).toUInt32).toInt32) &&& (255 : Int32)).toUInt32.toUInt16.toUInt32.toInt32)), .val (.int (p3 &&& (3 : Int32))), .val (.ref b38), .val (.int (8 : Int32)), .val (.int (0 : Int32))]) rfl ?_
        refine g_aload (pc := 439) w49 at_439 rfl rfl ?_
        refine g_static (pc := 441) w49 (argsL := [(.ref b38)]) (rest := []) (W := 0) (tw37 hw) (tw38 hw) (tw39 hw) (tw40 hw) (by decide) (c_isw hw st (xs := ([c1, c2, c3, c4, c5, c6, c7, c8] : List Int32).map b8) E_b38 F_coder_b38 F_value_b38 (by rw [List.map_map]; exact A_t48)) (by simp) all0 rfl (lenOf pd12 rfl) rfl (by decide) (Nat.le_of_eq rfl) (by decide) (by decide) (by decide) at_441 ?_
        rintro _ T50 h50 ns50 ⟨rfl, rfl⟩ K50 w50
        have A_b39 := A_b39.keep K50 nin0
        have E_b38 := E_b38.keep K50
        have F_coder_b38 := F_coder_b38.keep K50 nin0
        have F_value_b38 := F_value_b38.keep K50 nin0
        have A_t48 := A_t48.keep K50 nin0
        refine g_iload (pc := 444) w50 at_444 rfl ?_
        refine g_icmpNo (pc := 446) w50 at_446 ((teq ((by rw [if_neg (by simp [RB])]; simp only [RB, List.map_cons, List.map_nil, rmci]; rw [eq_lit0 lc1, eq_lit1 lc2, eq_lit2 lc3, eq_lit3 lc4, eq_lit4 lc5, eq_lit5 lc6, eq_lit6 lc7, eq_lit7 lc8, if_pos h0]) : (if (([c1, c2, c3, c4, c5, c6, c7, c8] : List Int32).map b8).length < RB.length then 0 else rmci (([c1, c2, c3, c4, c5, c6, c7, c8] : List Int32).map b8) RB) = (0 : Int32))).2) ?_
        refine g_iconst (pc := 449) w50 at_449 (z := (1 : Int32)) (by decide) ?_
        refine g_goto (pc := 450) w50 at_450 (by decide) (pc' := 454) (by decide) ?_
        exact g_retN (pc := 454) w50 (t := .boolean) rfl (by simp) rfl (by decide) (by decide) (ns := []) (fun _ q => nomatch q) at_454 ⟨rfl, rfl⟩
      · refine g_ifNo (pc := 345) w49 at_345 ((if0 _ _).trans (feq (h0 : ¬ (isv c1 (114 : Int32) (82 : Int32)) = (0 : Int32))).1) ?_
        refine g_iload (pc := 348) w49 at_348 rfl ?_
        refine g_bipush (pc := 350) w49 at_350 (z := (101 : Int32)) (by decide) ?_
        refine g_bipush (pc := 352) w49 at_352 (z := (69 : Int32)) (by decide) ?_
        refine g_static (pc := 354) w49 (argsL := [(.int c2), (.int (101 : Int32)), (.int (69 : Int32))]) (rest := []) (W := 0) (tw34 hw) (tw35 hw) (tw2 hw) (tw36 hw) (by decide) (c_is hw) (by simp) all0 rfl (lenOf pd11 rfl) rfl (by decide) (Nat.le_of_eq rfl) (by decide) (by decide) (by decide) at_354 ?_
        rintro _ T51 h51 ns51 ⟨rfl, rfl⟩ K51 w51
        have A_b39 := A_b39.keep K51 nin0
        have E_b38 := E_b38.keep K51
        have F_coder_b38 := F_coder_b38.keep K51 nin0
        have F_value_b38 := F_value_b38.keep K51 nin0
        have A_t48 := A_t48.keep K51 nin0
        by_cases h1 : (isv c2 (101 : Int32) (69 : Int32)) = (0 : Int32)
        · refine g_ifYes (pc := 357) w51 at_357 ((if0 _ _).trans (teq (h1 : (isv c2 (101 : Int32) (69 : Int32)) = (0 : Int32))).1) (by decide) (pc' := 436) (by decide) ?_
          refine g_iconst (pc := 436) w51 at_436 (z := (0 : Int32)) (by decide) ?_
          refine g_istore (pc := 437) w51 at_437 (l' := #[.val (.int p0), .val (.int p1), .val (.int p2), .val (.int p3), .val (.int c1), .val (.int c2), .val (.int c3), .val (.int c4), .val (.int c5), .val (.int c6), .val (.int c7), .val (.int c8), .val (.int ((((p2.toUInt32 >>> ((20 : Int32) &&& 31).toUInt32).toInt32) &&& (255 : Int32)).toUInt32.toUInt16.toUInt32.toInt32)), .val (.int (p3 &&& (3 : Int32))), .val (.ref b38), .val (.int (8 : Int32)), .val (.int (0 : Int32))]) rfl ?_
          refine g_aload (pc := 439) w51 at_439 rfl rfl ?_
          refine g_static (pc := 441) w51 (argsL := [(.ref b38)]) (rest := []) (W := 0) (tw37 hw) (tw38 hw) (tw39 hw) (tw40 hw) (by decide) (c_isw hw st (xs := ([c1, c2, c3, c4, c5, c6, c7, c8] : List Int32).map b8) E_b38 F_coder_b38 F_value_b38 (by rw [List.map_map]; exact A_t48)) (by simp) all0 rfl (lenOf pd12 rfl) rfl (by decide) (Nat.le_of_eq rfl) (by decide) (by decide) (by decide) at_441 ?_
          rintro _ T52 h52 ns52 ⟨rfl, rfl⟩ K52 w52
          have A_b39 := A_b39.keep K52 nin0
          have E_b38 := E_b38.keep K52
          have F_coder_b38 := F_coder_b38.keep K52 nin0
          have F_value_b38 := F_value_b38.keep K52 nin0
          have A_t48 := A_t48.keep K52 nin0
          refine g_iload (pc := 444) w52 at_444 rfl ?_
          refine g_icmpNo (pc := 446) w52 at_446 ((teq ((by rw [if_neg (by simp [RB])]; simp only [RB, List.map_cons, List.map_nil, rmci]; rw [eq_lit0 lc1, eq_lit1 lc2, eq_lit2 lc3, eq_lit3 lc4, eq_lit4 lc5, eq_lit5 lc6, eq_lit6 lc7, eq_lit7 lc8, if_neg h0, if_pos h1]) : (if (([c1, c2, c3, c4, c5, c6, c7, c8] : List Int32).map b8).length < RB.length then 0 else rmci (([c1, c2, c3, c4, c5, c6, c7, c8] : List Int32).map b8) RB) = (0 : Int32))).2) ?_
          refine g_iconst (pc := 449) w52 at_449 (z := (1 : Int32)) (by decide) ?_
          refine g_goto (pc := 450) w52 at_450 (by decide) (pc' := 454) (by decide) ?_
          exact g_retN (pc := 454) w52 (t := .boolean) rfl (by simp) rfl (by decide) (by decide) (ns := []) (fun _ q => nomatch q) at_454 ⟨rfl, rfl⟩
        · refine g_ifNo (pc := 357) w51 at_357 ((if0 _ _).trans (feq (h1 : ¬ (isv c2 (101 : Int32) (69 : Int32)) = (0 : Int32))).1) ?_
          refine g_iload (pc := 360) w51 at_360 rfl ?_
          refine g_bipush (pc := 362) w51 at_362 (z := (100 : Int32)) (by decide) ?_
          refine g_bipush (pc := 364) w51 at_364 (z := (68 : Int32)) (by decide) ?_
          refine g_static (pc := 366) w51 (argsL := [(.int c3), (.int (100 : Int32)), (.int (68 : Int32))]) (rest := []) (W := 0) (tw34 hw) (tw35 hw) (tw2 hw) (tw36 hw) (by decide) (c_is hw) (by simp) all0 rfl (lenOf pd11 rfl) rfl (by decide) (Nat.le_of_eq rfl) (by decide) (by decide) (by decide) at_366 ?_
          rintro _ T53 h53 ns53 ⟨rfl, rfl⟩ K53 w53
          have A_b39 := A_b39.keep K53 nin0
          have E_b38 := E_b38.keep K53
          have F_coder_b38 := F_coder_b38.keep K53 nin0
          have F_value_b38 := F_value_b38.keep K53 nin0
          have A_t48 := A_t48.keep K53 nin0
          by_cases h2 : (isv c3 (100 : Int32) (68 : Int32)) = (0 : Int32)
          · refine g_ifYes (pc := 369) w53 at_369 ((if0 _ _).trans (teq (h2 : (isv c3 (100 : Int32) (68 : Int32)) = (0 : Int32))).1) (by decide) (pc' := 436) (by decide) ?_
            refine g_iconst (pc := 436) w53 at_436 (z := (0 : Int32)) (by decide) ?_
            refine g_istore (pc := 437) w53 at_437 (l' := #[.val (.int p0), .val (.int p1), .val (.int p2), .val (.int p3), .val (.int c1), .val (.int c2), .val (.int c3), .val (.int c4), .val (.int c5), .val (.int c6), .val (.int c7), .val (.int c8), .val (.int ((((p2.toUInt32 >>> ((20 : Int32) &&& 31).toUInt32).toInt32) &&& (255 : Int32)).toUInt32.toUInt16.toUInt32.toInt32)), .val (.int (p3 &&& (3 : Int32))), .val (.ref b38), .val (.int (8 : Int32)), .val (.int (0 : Int32))]) rfl ?_
            refine g_aload (pc := 439) w53 at_439 rfl rfl ?_
            refine g_static (pc := 441) w53 (argsL := [(.ref b38)]) (rest := []) (W := 0) (tw37 hw) (tw38 hw) (tw39 hw) (tw40 hw) (by decide) (c_isw hw st (xs := ([c1, c2, c3, c4, c5, c6, c7, c8] : List Int32).map b8) E_b38 F_coder_b38 F_value_b38 (by rw [List.map_map]; exact A_t48)) (by simp) all0 rfl (lenOf pd12 rfl) rfl (by decide) (Nat.le_of_eq rfl) (by decide) (by decide) (by decide) at_441 ?_
            rintro _ T54 h54 ns54 ⟨rfl, rfl⟩ K54 w54
            have A_b39 := A_b39.keep K54 nin0
            have E_b38 := E_b38.keep K54
            have F_coder_b38 := F_coder_b38.keep K54 nin0
            have F_value_b38 := F_value_b38.keep K54 nin0
            have A_t48 := A_t48.keep K54 nin0
            refine g_iload (pc := 444) w54 at_444 rfl ?_
            refine g_icmpNo (pc := 446) w54 at_446 ((teq ((by rw [if_neg (by simp [RB])]; simp only [RB, List.map_cons, List.map_nil, rmci]; rw [eq_lit0 lc1, eq_lit1 lc2, eq_lit2 lc3, eq_lit3 lc4, eq_lit4 lc5, eq_lit5 lc6, eq_lit6 lc7, eq_lit7 lc8, if_neg h0, if_neg h1, if_pos h2]) : (if (([c1, c2, c3, c4, c5, c6, c7, c8] : List Int32).map b8).length < RB.length then 0 else rmci (([c1, c2, c3, c4, c5, c6, c7, c8] : List Int32).map b8) RB) = (0 : Int32))).2) ?_
            refine g_iconst (pc := 449) w54 at_449 (z := (1 : Int32)) (by decide) ?_
            refine g_goto (pc := 450) w54 at_450 (by decide) (pc' := 454) (by decide) ?_
            exact g_retN (pc := 454) w54 (t := .boolean) rfl (by simp) rfl (by decide) (by decide) (ns := []) (fun _ q => nomatch q) at_454 ⟨rfl, rfl⟩
          · refine g_ifNo (pc := 369) w53 at_369 ((if0 _ _).trans (feq (h2 : ¬ (isv c3 (100 : Int32) (68 : Int32)) = (0 : Int32))).1) ?_
            refine g_iload (pc := 372) w53 at_372 rfl ?_
            refine g_bipush (pc := 374) w53 at_374 (z := (105 : Int32)) (by decide) ?_
            refine g_bipush (pc := 376) w53 at_376 (z := (73 : Int32)) (by decide) ?_
            refine g_static (pc := 378) w53 (argsL := [(.int c4), (.int (105 : Int32)), (.int (73 : Int32))]) (rest := []) (W := 0) (tw34 hw) (tw35 hw) (tw2 hw) (tw36 hw) (by decide) (c_is hw) (by simp) all0 rfl (lenOf pd11 rfl) rfl (by decide) (Nat.le_of_eq rfl) (by decide) (by decide) (by decide) at_378 ?_
            rintro _ T55 h55 ns55 ⟨rfl, rfl⟩ K55 w55
            have A_b39 := A_b39.keep K55 nin0
            have E_b38 := E_b38.keep K55
            have F_coder_b38 := F_coder_b38.keep K55 nin0
            have F_value_b38 := F_value_b38.keep K55 nin0
            have A_t48 := A_t48.keep K55 nin0
            by_cases h3 : (isv c4 (105 : Int32) (73 : Int32)) = (0 : Int32)
            · refine g_ifYes (pc := 381) w55 at_381 ((if0 _ _).trans (teq (h3 : (isv c4 (105 : Int32) (73 : Int32)) = (0 : Int32))).1) (by decide) (pc' := 436) (by decide) ?_
              refine g_iconst (pc := 436) w55 at_436 (z := (0 : Int32)) (by decide) ?_
              refine g_istore (pc := 437) w55 at_437 (l' := #[.val (.int p0), .val (.int p1), .val (.int p2), .val (.int p3), .val (.int c1), .val (.int c2), .val (.int c3), .val (.int c4), .val (.int c5), .val (.int c6), .val (.int c7), .val (.int c8), .val (.int ((((p2.toUInt32 >>> ((20 : Int32) &&& 31).toUInt32).toInt32) &&& (255 : Int32)).toUInt32.toUInt16.toUInt32.toInt32)), .val (.int (p3 &&& (3 : Int32))), .val (.ref b38), .val (.int (8 : Int32)), .val (.int (0 : Int32))]) rfl ?_
              refine g_aload (pc := 439) w55 at_439 rfl rfl ?_
              refine g_static (pc := 441) w55 (argsL := [(.ref b38)]) (rest := []) (W := 0) (tw37 hw) (tw38 hw) (tw39 hw) (tw40 hw) (by decide) (c_isw hw st (xs := ([c1, c2, c3, c4, c5, c6, c7, c8] : List Int32).map b8) E_b38 F_coder_b38 F_value_b38 (by rw [List.map_map]; exact A_t48)) (by simp) all0 rfl (lenOf pd12 rfl) rfl (by decide) (Nat.le_of_eq rfl) (by decide) (by decide) (by decide) at_441 ?_
              rintro _ T56 h56 ns56 ⟨rfl, rfl⟩ K56 w56
              have A_b39 := A_b39.keep K56 nin0
              have E_b38 := E_b38.keep K56
              have F_coder_b38 := F_coder_b38.keep K56 nin0
              have F_value_b38 := F_value_b38.keep K56 nin0
              have A_t48 := A_t48.keep K56 nin0
              refine g_iload (pc := 444) w56 at_444 rfl ?_
              refine g_icmpNo (pc := 446) w56 at_446 ((teq ((by rw [if_neg (by simp [RB])]; simp only [RB, List.map_cons, List.map_nil, rmci]; rw [eq_lit0 lc1, eq_lit1 lc2, eq_lit2 lc3, eq_lit3 lc4, eq_lit4 lc5, eq_lit5 lc6, eq_lit6 lc7, eq_lit7 lc8, if_neg h0, if_neg h1, if_neg h2, if_pos h3]) : (if (([c1, c2, c3, c4, c5, c6, c7, c8] : List Int32).map b8).length < RB.length then 0 else rmci (([c1, c2, c3, c4, c5, c6, c7, c8] : List Int32).map b8) RB) = (0 : Int32))).2) ?_
              refine g_iconst (pc := 449) w56 at_449 (z := (1 : Int32)) (by decide) ?_
              refine g_goto (pc := 450) w56 at_450 (by decide) (pc' := 454) (by decide) ?_
              exact g_retN (pc := 454) w56 (t := .boolean) rfl (by simp) rfl (by decide) (by decide) (ns := []) (fun _ q => nomatch q) at_454 ⟨rfl, rfl⟩
            · refine g_ifNo (pc := 381) w55 at_381 ((if0 _ _).trans (feq (h3 : ¬ (isv c4 (105 : Int32) (73 : Int32)) = (0 : Int32))).1) ?_
              refine g_iload (pc := 384) w55 at_384 rfl ?_
              refine g_bipush (pc := 386) w55 at_386 (z := (115 : Int32)) (by decide) ?_
              refine g_bipush (pc := 388) w55 at_388 (z := (83 : Int32)) (by decide) ?_
              refine g_static (pc := 390) w55 (argsL := [(.int c5), (.int (115 : Int32)), (.int (83 : Int32))]) (rest := []) (W := 0) (tw34 hw) (tw35 hw) (tw2 hw) (tw36 hw) (by decide) (c_is hw) (by simp) all0 rfl (lenOf pd11 rfl) rfl (by decide) (Nat.le_of_eq rfl) (by decide) (by decide) (by decide) at_390 ?_
              rintro _ T57 h57 ns57 ⟨rfl, rfl⟩ K57 w57
              have A_b39 := A_b39.keep K57 nin0
              have E_b38 := E_b38.keep K57
              have F_coder_b38 := F_coder_b38.keep K57 nin0
              have F_value_b38 := F_value_b38.keep K57 nin0
              have A_t48 := A_t48.keep K57 nin0
              by_cases h4 : (isv c5 (115 : Int32) (83 : Int32)) = (0 : Int32)
              · refine g_ifYes (pc := 393) w57 at_393 ((if0 _ _).trans (teq (h4 : (isv c5 (115 : Int32) (83 : Int32)) = (0 : Int32))).1) (by decide) (pc' := 436) (by decide) ?_
                refine g_iconst (pc := 436) w57 at_436 (z := (0 : Int32)) (by decide) ?_
                refine g_istore (pc := 437) w57 at_437 (l' := #[.val (.int p0), .val (.int p1), .val (.int p2), .val (.int p3), .val (.int c1), .val (.int c2), .val (.int c3), .val (.int c4), .val (.int c5), .val (.int c6), .val (.int c7), .val (.int c8), .val (.int ((((p2.toUInt32 >>> ((20 : Int32) &&& 31).toUInt32).toInt32) &&& (255 : Int32)).toUInt32.toUInt16.toUInt32.toInt32)), .val (.int (p3 &&& (3 : Int32))), .val (.ref b38), .val (.int (8 : Int32)), .val (.int (0 : Int32))]) rfl ?_
                refine g_aload (pc := 439) w57 at_439 rfl rfl ?_
                refine g_static (pc := 441) w57 (argsL := [(.ref b38)]) (rest := []) (W := 0) (tw37 hw) (tw38 hw) (tw39 hw) (tw40 hw) (by decide) (c_isw hw st (xs := ([c1, c2, c3, c4, c5, c6, c7, c8] : List Int32).map b8) E_b38 F_coder_b38 F_value_b38 (by rw [List.map_map]; exact A_t48)) (by simp) all0 rfl (lenOf pd12 rfl) rfl (by decide) (Nat.le_of_eq rfl) (by decide) (by decide) (by decide) at_441 ?_
                rintro _ T58 h58 ns58 ⟨rfl, rfl⟩ K58 w58
                have A_b39 := A_b39.keep K58 nin0
                have E_b38 := E_b38.keep K58
                have F_coder_b38 := F_coder_b38.keep K58 nin0
                have F_value_b38 := F_value_b38.keep K58 nin0
                have A_t48 := A_t48.keep K58 nin0
                refine g_iload (pc := 444) w58 at_444 rfl ?_
                refine g_icmpNo (pc := 446) w58 at_446 ((teq ((by rw [if_neg (by simp [RB])]; simp only [RB, List.map_cons, List.map_nil, rmci]; rw [eq_lit0 lc1, eq_lit1 lc2, eq_lit2 lc3, eq_lit3 lc4, eq_lit4 lc5, eq_lit5 lc6, eq_lit6 lc7, eq_lit7 lc8, if_neg h0, if_neg h1, if_neg h2, if_neg h3, if_pos h4]) : (if (([c1, c2, c3, c4, c5, c6, c7, c8] : List Int32).map b8).length < RB.length then 0 else rmci (([c1, c2, c3, c4, c5, c6, c7, c8] : List Int32).map b8) RB) = (0 : Int32))).2) ?_
                refine g_iconst (pc := 449) w58 at_449 (z := (1 : Int32)) (by decide) ?_
                refine g_goto (pc := 450) w58 at_450 (by decide) (pc' := 454) (by decide) ?_
                exact g_retN (pc := 454) w58 (t := .boolean) rfl (by simp) rfl (by decide) (by decide) (ns := []) (fun _ q => nomatch q) at_454 ⟨rfl, rfl⟩
              · refine g_ifNo (pc := 393) w57 at_393 ((if0 _ _).trans (feq (h4 : ¬ (isv c5 (115 : Int32) (83 : Int32)) = (0 : Int32))).1) ?_
                refine g_iload (pc := 396) w57 at_396 rfl ?_
                refine g_bipush (pc := 398) w57 at_398 (z := (58 : Int32)) (by decide) ?_
                refine g_bipush (pc := 400) w57 at_400 (z := (58 : Int32)) (by decide) ?_
                refine g_static (pc := 402) w57 (argsL := [(.int c6), (.int (58 : Int32)), (.int (58 : Int32))]) (rest := []) (W := 0) (tw34 hw) (tw35 hw) (tw2 hw) (tw36 hw) (by decide) (c_is hw) (by simp) all0 rfl (lenOf pd11 rfl) rfl (by decide) (Nat.le_of_eq rfl) (by decide) (by decide) (by decide) at_402 ?_
                rintro _ T59 h59 ns59 ⟨rfl, rfl⟩ K59 w59
                have A_b39 := A_b39.keep K59 nin0
                have E_b38 := E_b38.keep K59
                have F_coder_b38 := F_coder_b38.keep K59 nin0
                have F_value_b38 := F_value_b38.keep K59 nin0
                have A_t48 := A_t48.keep K59 nin0
                by_cases h5 : (isv c6 (58 : Int32) (58 : Int32)) = (0 : Int32)
                · refine g_ifYes (pc := 405) w59 at_405 ((if0 _ _).trans (teq (h5 : (isv c6 (58 : Int32) (58 : Int32)) = (0 : Int32))).1) (by decide) (pc' := 436) (by decide) ?_
                  refine g_iconst (pc := 436) w59 at_436 (z := (0 : Int32)) (by decide) ?_
                  refine g_istore (pc := 437) w59 at_437 (l' := #[.val (.int p0), .val (.int p1), .val (.int p2), .val (.int p3), .val (.int c1), .val (.int c2), .val (.int c3), .val (.int c4), .val (.int c5), .val (.int c6), .val (.int c7), .val (.int c8), .val (.int ((((p2.toUInt32 >>> ((20 : Int32) &&& 31).toUInt32).toInt32) &&& (255 : Int32)).toUInt32.toUInt16.toUInt32.toInt32)), .val (.int (p3 &&& (3 : Int32))), .val (.ref b38), .val (.int (8 : Int32)), .val (.int (0 : Int32))]) rfl ?_
                  refine g_aload (pc := 439) w59 at_439 rfl rfl ?_
                  refine g_static (pc := 441) w59 (argsL := [(.ref b38)]) (rest := []) (W := 0) (tw37 hw) (tw38 hw) (tw39 hw) (tw40 hw) (by decide) (c_isw hw st (xs := ([c1, c2, c3, c4, c5, c6, c7, c8] : List Int32).map b8) E_b38 F_coder_b38 F_value_b38 (by rw [List.map_map]; exact A_t48)) (by simp) all0 rfl (lenOf pd12 rfl) rfl (by decide) (Nat.le_of_eq rfl) (by decide) (by decide) (by decide) at_441 ?_
                  rintro _ T60 h60 ns60 ⟨rfl, rfl⟩ K60 w60
                  have A_b39 := A_b39.keep K60 nin0
                  have E_b38 := E_b38.keep K60
                  have F_coder_b38 := F_coder_b38.keep K60 nin0
                  have F_value_b38 := F_value_b38.keep K60 nin0
                  have A_t48 := A_t48.keep K60 nin0
                  refine g_iload (pc := 444) w60 at_444 rfl ?_
                  refine g_icmpNo (pc := 446) w60 at_446 ((teq ((by rw [if_neg (by simp [RB])]; simp only [RB, List.map_cons, List.map_nil, rmci]; rw [eq_lit0 lc1, eq_lit1 lc2, eq_lit2 lc3, eq_lit3 lc4, eq_lit4 lc5, eq_lit5 lc6, eq_lit6 lc7, eq_lit7 lc8, if_neg h0, if_neg h1, if_neg h2, if_neg h3, if_neg h4, if_pos h5]) : (if (([c1, c2, c3, c4, c5, c6, c7, c8] : List Int32).map b8).length < RB.length then 0 else rmci (([c1, c2, c3, c4, c5, c6, c7, c8] : List Int32).map b8) RB) = (0 : Int32))).2) ?_
                  refine g_iconst (pc := 449) w60 at_449 (z := (1 : Int32)) (by decide) ?_
                  refine g_goto (pc := 450) w60 at_450 (by decide) (pc' := 454) (by decide) ?_
                  exact g_retN (pc := 454) w60 (t := .boolean) rfl (by simp) rfl (by decide) (by decide) (ns := []) (fun _ q => nomatch q) at_454 ⟨rfl, rfl⟩
                · refine g_ifNo (pc := 405) w59 at_405 ((if0 _ _).trans (feq (h5 : ¬ (isv c6 (58 : Int32) (58 : Int32)) = (0 : Int32))).1) ?_
                  refine g_iload (pc := 408) w59 at_408 rfl ?_
                  refine g_bipush (pc := 410) w59 at_410 (z := (47 : Int32)) (by decide) ?_
                  refine g_bipush (pc := 412) w59 at_412 (z := (47 : Int32)) (by decide) ?_
                  refine g_static (pc := 414) w59 (argsL := [(.int c7), (.int (47 : Int32)), (.int (47 : Int32))]) (rest := []) (W := 0) (tw34 hw) (tw35 hw) (tw2 hw) (tw36 hw) (by decide) (c_is hw) (by simp) all0 rfl (lenOf pd11 rfl) rfl (by decide) (Nat.le_of_eq rfl) (by decide) (by decide) (by decide) at_414 ?_
                  rintro _ T61 h61 ns61 ⟨rfl, rfl⟩ K61 w61
                  have A_b39 := A_b39.keep K61 nin0
                  have E_b38 := E_b38.keep K61
                  have F_coder_b38 := F_coder_b38.keep K61 nin0
                  have F_value_b38 := F_value_b38.keep K61 nin0
                  have A_t48 := A_t48.keep K61 nin0
                  by_cases h6 : (isv c7 (47 : Int32) (47 : Int32)) = (0 : Int32)
                  · refine g_ifYes (pc := 417) w61 at_417 ((if0 _ _).trans (teq (h6 : (isv c7 (47 : Int32) (47 : Int32)) = (0 : Int32))).1) (by decide) (pc' := 436) (by decide) ?_
                    refine g_iconst (pc := 436) w61 at_436 (z := (0 : Int32)) (by decide) ?_
                    refine g_istore (pc := 437) w61 at_437 (l' := #[.val (.int p0), .val (.int p1), .val (.int p2), .val (.int p3), .val (.int c1), .val (.int c2), .val (.int c3), .val (.int c4), .val (.int c5), .val (.int c6), .val (.int c7), .val (.int c8), .val (.int ((((p2.toUInt32 >>> ((20 : Int32) &&& 31).toUInt32).toInt32) &&& (255 : Int32)).toUInt32.toUInt16.toUInt32.toInt32)), .val (.int (p3 &&& (3 : Int32))), .val (.ref b38), .val (.int (8 : Int32)), .val (.int (0 : Int32))]) rfl ?_
                    refine g_aload (pc := 439) w61 at_439 rfl rfl ?_
                    refine g_static (pc := 441) w61 (argsL := [(.ref b38)]) (rest := []) (W := 0) (tw37 hw) (tw38 hw) (tw39 hw) (tw40 hw) (by decide) (c_isw hw st (xs := ([c1, c2, c3, c4, c5, c6, c7, c8] : List Int32).map b8) E_b38 F_coder_b38 F_value_b38 (by rw [List.map_map]; exact A_t48)) (by simp) all0 rfl (lenOf pd12 rfl) rfl (by decide) (Nat.le_of_eq rfl) (by decide) (by decide) (by decide) at_441 ?_
                    rintro _ T62 h62 ns62 ⟨rfl, rfl⟩ K62 w62
                    have A_b39 := A_b39.keep K62 nin0
                    have E_b38 := E_b38.keep K62
                    have F_coder_b38 := F_coder_b38.keep K62 nin0
                    have F_value_b38 := F_value_b38.keep K62 nin0
                    have A_t48 := A_t48.keep K62 nin0
                    refine g_iload (pc := 444) w62 at_444 rfl ?_
                    refine g_icmpNo (pc := 446) w62 at_446 ((teq ((by rw [if_neg (by simp [RB])]; simp only [RB, List.map_cons, List.map_nil, rmci]; rw [eq_lit0 lc1, eq_lit1 lc2, eq_lit2 lc3, eq_lit3 lc4, eq_lit4 lc5, eq_lit5 lc6, eq_lit6 lc7, eq_lit7 lc8, if_neg h0, if_neg h1, if_neg h2, if_neg h3, if_neg h4, if_neg h5, if_pos h6]) : (if (([c1, c2, c3, c4, c5, c6, c7, c8] : List Int32).map b8).length < RB.length then 0 else rmci (([c1, c2, c3, c4, c5, c6, c7, c8] : List Int32).map b8) RB) = (0 : Int32))).2) ?_
                    refine g_iconst (pc := 449) w62 at_449 (z := (1 : Int32)) (by decide) ?_
                    refine g_goto (pc := 450) w62 at_450 (by decide) (pc' := 454) (by decide) ?_
                    exact g_retN (pc := 454) w62 (t := .boolean) rfl (by simp) rfl (by decide) (by decide) (ns := []) (fun _ q => nomatch q) at_454 ⟨rfl, rfl⟩
                  · refine g_ifNo (pc := 417) w61 at_417 ((if0 _ _).trans (feq (h6 : ¬ (isv c7 (47 : Int32) (47 : Int32)) = (0 : Int32))).1) ?_
                    refine g_iload (pc := 420) w61 at_420 rfl ?_
                    refine g_bipush (pc := 422) w61 at_422 (z := (47 : Int32)) (by decide) ?_
                    refine g_bipush (pc := 424) w61 at_424 (z := (47 : Int32)) (by decide) ?_
                    refine g_static (pc := 426) w61 (argsL := [(.int c8), (.int (47 : Int32)), (.int (47 : Int32))]) (rest := []) (W := 0) (tw34 hw) (tw35 hw) (tw2 hw) (tw36 hw) (by decide) (c_is hw) (by simp) all0 rfl (lenOf pd11 rfl) rfl (by decide) (Nat.le_of_eq rfl) (by decide) (by decide) (by decide) at_426 ?_
                    rintro _ T63 h63 ns63 ⟨rfl, rfl⟩ K63 w63
                    have A_b39 := A_b39.keep K63 nin0
                    have E_b38 := E_b38.keep K63
                    have F_coder_b38 := F_coder_b38.keep K63 nin0
                    have F_value_b38 := F_value_b38.keep K63 nin0
                    have A_t48 := A_t48.keep K63 nin0
                    by_cases h7 : (isv c8 (47 : Int32) (47 : Int32)) = (0 : Int32)
                    · refine g_ifYes (pc := 429) w63 at_429 ((if0 _ _).trans (teq (h7 : (isv c8 (47 : Int32) (47 : Int32)) = (0 : Int32))).1) (by decide) (pc' := 436) (by decide) ?_
                      refine g_iconst (pc := 436) w63 at_436 (z := (0 : Int32)) (by decide) ?_
                      refine g_istore (pc := 437) w63 at_437 (l' := #[.val (.int p0), .val (.int p1), .val (.int p2), .val (.int p3), .val (.int c1), .val (.int c2), .val (.int c3), .val (.int c4), .val (.int c5), .val (.int c6), .val (.int c7), .val (.int c8), .val (.int ((((p2.toUInt32 >>> ((20 : Int32) &&& 31).toUInt32).toInt32) &&& (255 : Int32)).toUInt32.toUInt16.toUInt32.toInt32)), .val (.int (p3 &&& (3 : Int32))), .val (.ref b38), .val (.int (8 : Int32)), .val (.int (0 : Int32))]) rfl ?_
                      refine g_aload (pc := 439) w63 at_439 rfl rfl ?_
                      refine g_static (pc := 441) w63 (argsL := [(.ref b38)]) (rest := []) (W := 0) (tw37 hw) (tw38 hw) (tw39 hw) (tw40 hw) (by decide) (c_isw hw st (xs := ([c1, c2, c3, c4, c5, c6, c7, c8] : List Int32).map b8) E_b38 F_coder_b38 F_value_b38 (by rw [List.map_map]; exact A_t48)) (by simp) all0 rfl (lenOf pd12 rfl) rfl (by decide) (Nat.le_of_eq rfl) (by decide) (by decide) (by decide) at_441 ?_
                      rintro _ T64 h64 ns64 ⟨rfl, rfl⟩ K64 w64
                      have A_b39 := A_b39.keep K64 nin0
                      have E_b38 := E_b38.keep K64
                      have F_coder_b38 := F_coder_b38.keep K64 nin0
                      have F_value_b38 := F_value_b38.keep K64 nin0
                      have A_t48 := A_t48.keep K64 nin0
                      refine g_iload (pc := 444) w64 at_444 rfl ?_
                      refine g_icmpNo (pc := 446) w64 at_446 ((teq ((by rw [if_neg (by simp [RB])]; simp only [RB, List.map_cons, List.map_nil, rmci]; rw [eq_lit0 lc1, eq_lit1 lc2, eq_lit2 lc3, eq_lit3 lc4, eq_lit4 lc5, eq_lit5 lc6, eq_lit6 lc7, eq_lit7 lc8, if_neg h0, if_neg h1, if_neg h2, if_neg h3, if_neg h4, if_neg h5, if_neg h6, if_pos h7]) : (if (([c1, c2, c3, c4, c5, c6, c7, c8] : List Int32).map b8).length < RB.length then 0 else rmci (([c1, c2, c3, c4, c5, c6, c7, c8] : List Int32).map b8) RB) = (0 : Int32))).2) ?_
                      refine g_iconst (pc := 449) w64 at_449 (z := (1 : Int32)) (by decide) ?_
                      refine g_goto (pc := 450) w64 at_450 (by decide) (pc' := 454) (by decide) ?_
                      exact g_retN (pc := 454) w64 (t := .boolean) rfl (by simp) rfl (by decide) (by decide) (ns := []) (fun _ q => nomatch q) at_454 ⟨rfl, rfl⟩
                    · refine g_ifNo (pc := 429) w63 at_429 ((if0 _ _).trans (feq (h7 : ¬ (isv c8 (47 : Int32) (47 : Int32)) = (0 : Int32))).1) ?_
                      refine g_iconst (pc := 432) w63 at_432 (z := (1 : Int32)) (by decide) ?_
                      refine g_goto (pc := 433) w63 at_433 (by decide) (pc' := 437) (by decide) ?_
                      refine g_istore (pc := 437) w63 at_437 (l' := #[.val (.int p0), .val (.int p1), .val (.int p2), .val (.int p3), .val (.int c1), .val (.int c2), .val (.int c3), .val (.int c4), .val (.int c5), .val (.int c6), .val (.int c7), .val (.int c8), .val (.int ((((p2.toUInt32 >>> ((20 : Int32) &&& 31).toUInt32).toInt32) &&& (255 : Int32)).toUInt32.toUInt16.toUInt32.toInt32)), .val (.int (p3 &&& (3 : Int32))), .val (.ref b38), .val (.int (8 : Int32)), .val (.int (1 : Int32))]) rfl ?_
                      refine g_aload (pc := 439) w63 at_439 rfl rfl ?_
                      refine g_static (pc := 441) w63 (argsL := [(.ref b38)]) (rest := []) (W := 0) (tw37 hw) (tw38 hw) (tw39 hw) (tw40 hw) (by decide) (c_isw hw st (xs := ([c1, c2, c3, c4, c5, c6, c7, c8] : List Int32).map b8) E_b38 F_coder_b38 F_value_b38 (by rw [List.map_map]; exact A_t48)) (by simp) all0 rfl (lenOf pd12 rfl) rfl (by decide) (Nat.le_of_eq rfl) (by decide) (by decide) (by decide) at_441 ?_
                      rintro _ T65 h65 ns65 ⟨rfl, rfl⟩ K65 w65
                      have A_b39 := A_b39.keep K65 nin0
                      have E_b38 := E_b38.keep K65
                      have F_coder_b38 := F_coder_b38.keep K65 nin0
                      have F_value_b38 := F_value_b38.keep K65 nin0
                      have A_t48 := A_t48.keep K65 nin0
                      refine g_iload (pc := 444) w65 at_444 rfl ?_
                      refine g_icmpNo (pc := 446) w65 at_446 ((teq ((by rw [if_neg (by simp [RB])]; simp only [RB, List.map_cons, List.map_nil, rmci]; rw [eq_lit0 lc1, eq_lit1 lc2, eq_lit2 lc3, eq_lit3 lc4, eq_lit4 lc5, eq_lit5 lc6, eq_lit6 lc7, eq_lit7 lc8, if_neg h0, if_neg h1, if_neg h2, if_neg h3, if_neg h4, if_neg h5, if_neg h6, if_neg h7]) : (if (([c1, c2, c3, c4, c5, c6, c7, c8] : List Int32).map b8).length < RB.length then 0 else rmci (([c1, c2, c3, c4, c5, c6, c7, c8] : List Int32).map b8) RB) = (1 : Int32))).2) ?_
                      refine g_iconst (pc := 449) w65 at_449 (z := (1 : Int32)) (by decide) ?_
                      refine g_goto (pc := 450) w65 at_450 (by decide) (pc' := 454) (by decide) ?_
                      exact g_retN (pc := 454) w65 (t := .boolean) rfl (by simp) rfl (by decide) (by decide) (ns := []) (fun _ q => nomatch q) at_454 ⟨rfl, rfl⟩
    · refine g_icmpYes (pc := 187) w8 at_187 ((feq (hs1 : ¬ (p3 &&& (3 : Int32)) = (1 : Int32))).2) (by decide) (pc' := 252) (by decide) ?_
      refine g_iload (pc := 252) w8 at_252 rfl ?_
      refine g_iconst (pc := 254) w8 at_254 (z := (2 : Int32)) (by decide) ?_
      by_cases hs2 : (p3 &&& (3 : Int32)) = (2 : Int32)
      · refine g_icmpNo (pc := 255) w8 at_255 ((teq (hs2 : (p3 &&& (3 : Int32)) = (2 : Int32))).2) ?_
        refine g_new (pc := 258) w8 (tw4 hw) (tw5 hw) (tw6 hw) (by decide) (by decide) at_258 ?_
        intro T66 h66 b66 w66 eq_b66 fr_b66 E66 E_b66 D66
        have F_coder_b66 : Fld Z h66 b66 "java/lang/String" "coder" "B" (.int (0 : Int32)) := D66 (Or.inr (tw31 hw)) (ty := .byte) (by decide)
        have F_value_b66 : Fld Z h66 b66 "java/lang/String" "value" "[B" .null := D66 (Or.inr (tw33 hw)) (ty := (.array .byte)) (by decide)
        clear D66
        refine g_dup (pc := 261) w66 at_261 rfl ?_
        refine g_bipush (pc := 262) w66 at_262 (z := (7 : Int32)) (by decide) ?_
        refine g_newP (pc := 264) (aty := .char) w66 (tw7 hw) (by decide) (cap := 7) (by decide) (by decide) (by decide) (by decide) at_264 ?_
        intro T67 h67 b67 w67 eq_b67 fr_b67 E67 A_b67
        have ne_b66_b67 : b66 ≠ b67 := Nat.ne_of_lt (by rw [eq_b67]; exact E_b66.lt)
        have E_b66 := E_b66.ext E67
        have F_coder_b66 := F_coder_b66.ext E67
        have F_value_b66 := F_value_b66.ext E67
        have A_b67 : AR Z h67 b67 .char [(.int (0 : Int32)), (.int (0 : Int32)), (.int (0 : Int32)), (.int (0 : Int32)), (.int (0 : Int32)), (.int (0 : Int32)), (.int (0 : Int32))] := A_b67
        refine g_dup (pc := 266) w67 at_266 rfl ?_
        refine g_iconst (pc := 267) w67 at_267 (z := (0 : Int32)) (by decide) ?_
        refine g_iload (pc := 268) w67 at_268 rfl ?_
        refine g_castore (pc := 270) w67 A_b67 (by decide) (Nat.le_of_ble_eq_true rfl) (Or.inr fr_b67) (by simp) at_270 ?_
        intro T68 h68 w68 W68 A_b67
        have E_b66 := E_b66.wr W68
        have F_coder_b66 := F_coder_b66.other W68 (Or.inl ne_b66_b67)
        have F_value_b66 := F_value_b66.other W68 (Or.inl ne_b66_b67)
        have A_b67 : AR Z h68 b67 .char [(.int (nar .char c1)), (.int (0 : Int32)), (.int (0 : Int32)), (.int (0 : Int32)), (.int (0 : Int32)), (.int (0 : Int32)), (.int (0 : Int32))] := A_b67
        refine g_dup (pc := 271) w68 at_271 rfl ?_
        refine g_iconst (pc := 272) w68 at_272 (z := (1 : Int32)) (by decide) ?_
        refine g_iload (pc := 273) w68 at_273 rfl ?_
        refine g_castore (pc := 275) w68 A_b67 (by decide) (Nat.le_of_ble_eq_true rfl) (Or.inr fr_b67) (by simp) at_275 ?_
        intro T69 h69 w69 W69 A_b67
        have E_b66 := E_b66.wr W69
        have F_coder_b66 := F_coder_b66.other W69 (Or.inl ne_b66_b67)
        have F_value_b66 := F_value_b66.other W69 (Or.inl ne_b66_b67)
        have A_b67 : AR Z h69 b67 .char [(.int (nar .char c1)), (.int (nar .char c2)), (.int (0 : Int32)), (.int (0 : Int32)), (.int (0 : Int32)), (.int (0 : Int32)), (.int (0 : Int32))] := A_b67
        refine g_dup (pc := 276) w69 at_276 rfl ?_
        refine g_iconst (pc := 277) w69 at_277 (z := (2 : Int32)) (by decide) ?_
        refine g_iload (pc := 278) w69 at_278 rfl ?_
        refine g_castore (pc := 280) w69 A_b67 (by decide) (Nat.le_of_ble_eq_true rfl) (Or.inr fr_b67) (by simp) at_280 ?_
        intro T70 h70 w70 W70 A_b67
        have E_b66 := E_b66.wr W70
        have F_coder_b66 := F_coder_b66.other W70 (Or.inl ne_b66_b67)
        have F_value_b66 := F_value_b66.other W70 (Or.inl ne_b66_b67)
        have A_b67 : AR Z h70 b67 .char [(.int (nar .char c1)), (.int (nar .char c2)), (.int (nar .char c3)), (.int (0 : Int32)), (.int (0 : Int32)), (.int (0 : Int32)), (.int (0 : Int32))] := A_b67
        refine g_dup (pc := 281) w70 at_281 rfl ?_
        refine g_iconst (pc := 282) w70 at_282 (z := (3 : Int32)) (by decide) ?_
        refine g_iload (pc := 283) w70 at_283 rfl ?_
        refine g_castore (pc := 285) w70 A_b67 (by decide) (Nat.le_of_ble_eq_true rfl) (Or.inr fr_b67) (by simp) at_285 ?_
        intro T71 h71 w71 W71 A_b67
        have E_b66 := E_b66.wr W71
        have F_coder_b66 := F_coder_b66.other W71 (Or.inl ne_b66_b67)
        have F_value_b66 := F_value_b66.other W71 (Or.inl ne_b66_b67)
        have A_b67 : AR Z h71 b67 .char [(.int (nar .char c1)), (.int (nar .char c2)), (.int (nar .char c3)), (.int (nar .char c4)), (.int (0 : Int32)), (.int (0 : Int32)), (.int (0 : Int32))] := A_b67
        refine g_dup (pc := 286) w71 at_286 rfl ?_
        refine g_iconst (pc := 287) w71 at_287 (z := (4 : Int32)) (by decide) ?_
        refine g_iload (pc := 288) w71 at_288 rfl ?_
        refine g_castore (pc := 290) w71 A_b67 (by decide) (Nat.le_of_ble_eq_true rfl) (Or.inr fr_b67) (by simp) at_290 ?_
        intro T72 h72 w72 W72 A_b67
        have E_b66 := E_b66.wr W72
        have F_coder_b66 := F_coder_b66.other W72 (Or.inl ne_b66_b67)
        have F_value_b66 := F_value_b66.other W72 (Or.inl ne_b66_b67)
        have A_b67 : AR Z h72 b67 .char [(.int (nar .char c1)), (.int (nar .char c2)), (.int (nar .char c3)), (.int (nar .char c4)), (.int (nar .char c5)), (.int (0 : Int32)), (.int (0 : Int32))] := A_b67
        refine g_dup (pc := 291) w72 at_291 rfl ?_
        refine g_iconst (pc := 292) w72 at_292 (z := (5 : Int32)) (by decide) ?_
        refine g_iload (pc := 293) w72 at_293 rfl ?_
        refine g_castore (pc := 295) w72 A_b67 (by decide) (Nat.le_of_ble_eq_true rfl) (Or.inr fr_b67) (by simp) at_295 ?_
        intro T73 h73 w73 W73 A_b67
        have E_b66 := E_b66.wr W73
        have F_coder_b66 := F_coder_b66.other W73 (Or.inl ne_b66_b67)
        have F_value_b66 := F_value_b66.other W73 (Or.inl ne_b66_b67)
        have A_b67 : AR Z h73 b67 .char [(.int (nar .char c1)), (.int (nar .char c2)), (.int (nar .char c3)), (.int (nar .char c4)), (.int (nar .char c5)), (.int (nar .char c6)), (.int (0 : Int32))] := A_b67
        refine g_dup (pc := 296) w73 at_296 rfl ?_
        refine g_bipush (pc := 297) w73 at_297 (z := (6 : Int32)) (by decide) ?_
        refine g_iload (pc := 299) w73 at_299 rfl ?_
        refine g_castore (pc := 301) w73 A_b67 (by decide) (Nat.le_of_ble_eq_true rfl) (Or.inr fr_b67) (by simp) at_301 ?_
        intro T74 h74 w74 W74 A_b67
        have E_b66 := E_b66.wr W74
        have F_coder_b66 := F_coder_b66.other W74 (Or.inl ne_b66_b67)
        have F_value_b66 := F_value_b66.other W74 (Or.inl ne_b66_b67)
        have A_b67 : AR Z h74 b67 .char [(.int (nar .char c1)), (.int (nar .char c2)), (.int (nar .char c3)), (.int (nar .char c4)), (.int (nar .char c5)), (.int (nar .char c6)), (.int (nar .char c7))] := A_b67
        have A_b67 : AR Z h74 b67 .char (([c1, c2, c3, c4, c5, c6, c7] : List Int32).map Value.int) := by rw [nar_lat lc1, nar_lat lc2, nar_lat lc3, nar_lat lc4, nar_lat lc5, nar_lat lc6, nar_lat lc7] at A_b67; exact A_b67
        refine g_special (pc := 302) w74 (argsL := [(.ref b67)]) (rest := [(.ref b66)]) (W := 1) rfl rfl (tw8 hw) (tw9 hw) (tw6 hw) (tw10 hw) (by decide) (c_strinit hw st (cs := ([c1, c2, c3, c4, c5, c6, c7] : List Int32)) E_b66 F_coder_b66 F_value_b66 A_b67 (all32 lc1.1 (all32 lc2.1 (all32 lc3.1 (all32 lc4.1 (all32 lc5.1 (all32 lc6.1 (all32 lc7.1 all32n))))))) (Nat.le_of_ble_eq_true rfl) (Ne.symm ne_b66_b67)) (by simp) (allS (Or.inr fr_b66) all0) rfl (lenOf pd10 rfl) rfl (by decide) (Nat.le_of_eq rfl) (by decide) (by decide) (by decide) at_302 ?_
        rintro _ T75 h75 ns75 ⟨rfl, rfl, t75, E_b66, F_coder_b66, F_value_b66, A_t75⟩ K75 w75
        have A_b67 := A_b67.keep K75 (ninS (Ne.symm ne_b66_b67) nin0)
        refine g_astore (pc := 305) w75 at_305 rfl (l' := #[.val (.int p0), .val (.int p1), .val (.int p2), .val (.int p3), .val (.int c1), .val (.int c2), .val (.int c3), .val (.int c4), .val (.int c5), .val (.int c6), .val (.int c7), .val (.int c8), .val (.int ((((p2.toUInt32 >>> ((20 : Int32) &&& 31).toUInt32).toInt32) &&& (255 : Int32)).toUInt32.toUInt16.toUInt32.toInt32)), .val (.int (p3 &&& (3 : Int32))), .val (.ref b66), .unset, .unset]) rfl ?_
        refine g_bipush (pc := 307) w75 at_307 (z := (7 : Int32)) (by decide) ?_
        refine g_istore (pc := 309) w75 at_309 (l' := #[.val (.int p0), .val (.int p1), .val (.int p2), .val (.int p3), .val (.int c1), .val (.int c2), .val (.int c3), .val (.int c4), .val (.int c5), .val (.int c6), .val (.int c7), .val (.int c8), .val (.int ((((p2.toUInt32 >>> ((20 : Int32) &&& 31).toUInt32).toInt32) &&& (255 : Int32)).toUInt32.toUInt16.toUInt32.toInt32)), .val (.int (p3 &&& (3 : Int32))), .val (.ref b66), .val (.int (7 : Int32)), .unset]) rfl ?_
        refine g_goto (pc := 311) w75 at_311 (by decide) (pc' := 329) (by decide) ?_
        refine g_iload (pc := 329) w75 at_329 rfl ?_
        refine g_bipush (pc := 331) w75 at_331 (z := (8 : Int32)) (by decide) ?_
        refine g_icmpYes (pc := 333) w75 at_333 ((tlt ((by decide) : (7 : Int32) < (8 : Int32))).1) (by decide) (pc' := 436) (by decide) ?_
        refine g_iconst (pc := 436) w75 at_436 (z := (0 : Int32)) (by decide) ?_
        refine g_istore (pc := 437) w75 at_437 (l' := #[.val (.int p0), .val (.int p1), .val (.int p2), .val (.int p3), .val (.int c1), .val (.int c2), .val (.int c3), .val (.int c4), .val (.int c5), .val (.int c6), .val (.int c7), .val (.int c8), .val (.int ((((p2.toUInt32 >>> ((20 : Int32) &&& 31).toUInt32).toInt32) &&& (255 : Int32)).toUInt32.toUInt16.toUInt32.toInt32)), .val (.int (p3 &&& (3 : Int32))), .val (.ref b66), .val (.int (7 : Int32)), .val (.int (0 : Int32))]) rfl ?_
        refine g_aload (pc := 439) w75 at_439 rfl rfl ?_
        refine g_static (pc := 441) w75 (argsL := [(.ref b66)]) (rest := []) (W := 0) (tw37 hw) (tw38 hw) (tw39 hw) (tw40 hw) (by decide) (c_isw hw st (xs := ([c1, c2, c3, c4, c5, c6, c7] : List Int32).map b8) E_b66 F_coder_b66 F_value_b66 (by rw [List.map_map]; exact A_t75)) (by simp) all0 rfl (lenOf pd12 rfl) rfl (by decide) (Nat.le_of_eq rfl) (by decide) (by decide) (by decide) at_441 ?_
        rintro _ T76 h76 ns76 ⟨rfl, rfl⟩ K76 w76
        have A_b67 := A_b67.keep K76 nin0
        have E_b66 := E_b66.keep K76
        have F_coder_b66 := F_coder_b66.keep K76 nin0
        have F_value_b66 := F_value_b66.keep K76 nin0
        have A_t75 := A_t75.keep K76 nin0
        refine g_iload (pc := 444) w76 at_444 rfl ?_
        refine g_icmpNo (pc := 446) w76 at_446 ((teq ((by rw [if_pos (by simp [RB])]) : (if (([c1, c2, c3, c4, c5, c6, c7] : List Int32).map b8).length < RB.length then 0 else rmci (([c1, c2, c3, c4, c5, c6, c7] : List Int32).map b8) RB) = (0 : Int32))).2) ?_
        refine g_iconst (pc := 449) w76 at_449 (z := (1 : Int32)) (by decide) ?_
        refine g_goto (pc := 450) w76 at_450 (by decide) (pc' := 454) (by decide) ?_
        exact g_retN (pc := 454) w76 (t := .boolean) rfl (by simp) rfl (by decide) (by decide) (ns := []) (fun _ q => nomatch q) at_454 ⟨rfl, rfl⟩
      · refine g_icmpYes (pc := 255) w8 at_255 ((feq (hs2 : ¬ (p3 &&& (3 : Int32)) = (2 : Int32))).2) (by decide) (pc' := 314) (by decide) ?_
        refine g_new (pc := 314) w8 (tw4 hw) (tw5 hw) (tw6 hw) (by decide) (by decide) at_314 ?_
        intro T77 h77 b77 w77 eq_b77 fr_b77 E77 E_b77 D77
        have F_coder_b77 : Fld Z h77 b77 "java/lang/String" "coder" "B" (.int (0 : Int32)) := D77 (Or.inr (tw31 hw)) (ty := .byte) (by decide)
        have F_value_b77 : Fld Z h77 b77 "java/lang/String" "value" "[B" .null := D77 (Or.inr (tw33 hw)) (ty := (.array .byte)) (by decide)
        clear D77
        refine g_dup (pc := 317) w77 at_317 rfl ?_
        refine g_iconst (pc := 318) w77 at_318 (z := (0 : Int32)) (by decide) ?_
        refine g_newP (pc := 319) (aty := .char) w77 (tw7 hw) (by decide) (cap := 0) (by decide) (by decide) (by decide) (by decide) at_319 ?_
        intro T78 h78 b78 w78 eq_b78 fr_b78 E78 A_b78
        have ne_b77_b78 : b77 ≠ b78 := Nat.ne_of_lt (by rw [eq_b78]; exact E_b77.lt)
        have E_b77 := E_b77.ext E78
        have F_coder_b77 := F_coder_b77.ext E78
        have F_value_b77 := F_value_b77.ext E78
        have A_b78 : AR Z h78 b78 .char [] := A_b78
        refine g_special (pc := 321) w78 (argsL := [(.ref b78)]) (rest := [(.ref b77)]) (W := 1) rfl rfl (tw8 hw) (tw9 hw) (tw6 hw) (tw10 hw) (by decide) (c_strinit hw st (cs := ([] : List Int32)) E_b77 F_coder_b77 F_value_b77 A_b78 all32n (Nat.le_of_ble_eq_true rfl) (Ne.symm ne_b77_b78)) (by simp) (allS (Or.inr fr_b77) all0) rfl (lenOf pd10 rfl) rfl (by decide) (Nat.le_of_eq rfl) (by decide) (by decide) (by decide) at_321 ?_
        rintro _ T79 h79 ns79 ⟨rfl, rfl, t79, E_b77, F_coder_b77, F_value_b77, A_t79⟩ K79 w79
        have A_b78 := A_b78.keep K79 (ninS (Ne.symm ne_b77_b78) nin0)
        refine g_astore (pc := 324) w79 at_324 rfl (l' := #[.val (.int p0), .val (.int p1), .val (.int p2), .val (.int p3), .val (.int c1), .val (.int c2), .val (.int c3), .val (.int c4), .val (.int c5), .val (.int c6), .val (.int c7), .val (.int c8), .val (.int ((((p2.toUInt32 >>> ((20 : Int32) &&& 31).toUInt32).toInt32) &&& (255 : Int32)).toUInt32.toUInt16.toUInt32.toInt32)), .val (.int (p3 &&& (3 : Int32))), .val (.ref b77), .unset, .unset]) rfl ?_
        refine g_iconst (pc := 326) w79 at_326 (z := (0 : Int32)) (by decide) ?_
        refine g_istore (pc := 327) w79 at_327 (l' := #[.val (.int p0), .val (.int p1), .val (.int p2), .val (.int p3), .val (.int c1), .val (.int c2), .val (.int c3), .val (.int c4), .val (.int c5), .val (.int c6), .val (.int c7), .val (.int c8), .val (.int ((((p2.toUInt32 >>> ((20 : Int32) &&& 31).toUInt32).toInt32) &&& (255 : Int32)).toUInt32.toUInt16.toUInt32.toInt32)), .val (.int (p3 &&& (3 : Int32))), .val (.ref b77), .val (.int (0 : Int32)), .unset]) rfl ?_
        refine g_iload (pc := 329) w79 at_329 rfl ?_
        refine g_bipush (pc := 331) w79 at_331 (z := (8 : Int32)) (by decide) ?_
        refine g_icmpYes (pc := 333) w79 at_333 ((tlt ((by decide) : (0 : Int32) < (8 : Int32))).1) (by decide) (pc' := 436) (by decide) ?_
        refine g_iconst (pc := 436) w79 at_436 (z := (0 : Int32)) (by decide) ?_
        refine g_istore (pc := 437) w79 at_437 (l' := #[.val (.int p0), .val (.int p1), .val (.int p2), .val (.int p3), .val (.int c1), .val (.int c2), .val (.int c3), .val (.int c4), .val (.int c5), .val (.int c6), .val (.int c7), .val (.int c8), .val (.int ((((p2.toUInt32 >>> ((20 : Int32) &&& 31).toUInt32).toInt32) &&& (255 : Int32)).toUInt32.toUInt16.toUInt32.toInt32)), .val (.int (p3 &&& (3 : Int32))), .val (.ref b77), .val (.int (0 : Int32)), .val (.int (0 : Int32))]) rfl ?_
        refine g_aload (pc := 439) w79 at_439 rfl rfl ?_
        refine g_static (pc := 441) w79 (argsL := [(.ref b77)]) (rest := []) (W := 0) (tw37 hw) (tw38 hw) (tw39 hw) (tw40 hw) (by decide) (c_isw hw st (xs := ([] : List Int32).map b8) E_b77 F_coder_b77 F_value_b77 (by rw [List.map_map]; exact A_t79)) (by simp) all0 rfl (lenOf pd12 rfl) rfl (by decide) (Nat.le_of_eq rfl) (by decide) (by decide) (by decide) at_441 ?_
        rintro _ T80 h80 ns80 ⟨rfl, rfl⟩ K80 w80
        have A_b78 := A_b78.keep K80 nin0
        have E_b77 := E_b77.keep K80
        have F_coder_b77 := F_coder_b77.keep K80 nin0
        have F_value_b77 := F_value_b77.keep K80 nin0
        have A_t79 := A_t79.keep K80 nin0
        refine g_iload (pc := 444) w80 at_444 rfl ?_
        refine g_icmpNo (pc := 446) w80 at_446 ((teq ((by rw [if_pos (by simp [RB])]) : (if (([] : List Int32).map b8).length < RB.length then 0 else rmci (([] : List Int32).map b8) RB) = (0 : Int32))).2) ?_
        refine g_iconst (pc := 449) w80 at_449 (z := (1 : Int32)) (by decide) ?_
        refine g_goto (pc := 450) w80 at_450 (by decide) (pc' := 454) (by decide) ?_
        exact g_retN (pc := 454) w80 (t := .boolean) rfl (by simp) rfl (by decide) (by decide) (ns := []) (fun _ q => nomatch q) at_454 ⟨rfl, rfl⟩

set_option maxRecDepth 65536 in
set_option maxHeartbeats 40000000 in
theorem comes_1 {Post : Tables → Env → Array Value → State → Outcome → State → Prop} (hpost : ∀ tb e args s v u, (limb_1_1.after args s (.returned v) u = true ∧ limb_1_2.after args s (.returned v) u = true ∧ True) → ReturnedEndW s (.returned v) u (Jvm.fieldLocs frame_1_writes args s ++ Jvm.arrayLocs frame_1_arrays args s ++ Jvm.staticLocs frame_1_statics s) 24 2176 → Post tb e args s (.returned v) u) :
    ArmFor flags0 classFile x code maxLocals ret World_1 tables_1 room_1 Calls_1 rest_1 Pre_1 Post := by
  intro l hfl _ _ p e ha hc hk s m args below hf hA hF happ hP
  obtain ⟨hcalls, hrest, hpre⟩ := hP
  obtain ⟨-, -, -, hnamed, -, -, -, hat⟩ := (Spec.applies_iff hf).mp happ
  obtain ⟨hg, hn⟩ := and_e (Cond.before_iff.mp (show (Jvm.Cond.and given_1 narrow_1).before args s = true from hpre))
  obtain ⟨gc, gg0⟩ := and_e hg
  obtain ⟨ga0, gg1⟩ := and_e gg0
  obtain ⟨ga1, gg2⟩ := and_e gg1
  obtain ⟨ga2, gg3⟩ := and_e gg2
  obtain ⟨w0, w1, w2, w3, rfl⟩ : ∃ w0 w1 w2 w3 : Value, args = #[w0, w1, w2, w3] := by
    have hs : args.size = 4 := by simpa [Cond.value, given_1] using gc
    obtain ⟨L⟩ := args
    match L, hs with
    | [w0, w1, w2, w3], _ => exact ⟨w0, w1, w2, w3, rfl⟩
  have hw := fun d (hd : d ∈ tables_1) => atoms_spec (ws := Jvm.Cond.code x code maxLocals ret :: tables_1) hat d (List.mem_cons_of_mem _ hd)
  have hcode := atoms_spec (ws := Jvm.Cond.code x code maxLocals ret :: tables_1) hat (Jvm.Cond.code x code maxLocals ret) (List.mem_cons_self ..)
  have hfit : Fit s := fun {y c} hc i hi => by
    obtain ⟨ha, rfl⟩ := Array.getElem?_eq_some_iff.mp hc
    have q := List.all_eq_true.mp ((Array.all_eq_true_iff_forall_mem.mp hF) _ (Array.getElem_mem ha)) i (List.mem_range.mpr hi)
    simpa [Array.getElem?_eq_getElem hi] using q
  obtain ⟨hsets, hown0⟩ := atoms_of _ (rest_1_c_eq ▸ (show rest_1_c.before _ s = true from hrest))
  obtain ⟨i0, ei0⟩ := is_v ga0
  obtain rfl : w0 = (.int i0) := Option.some.inj ei0
  obtain ⟨i1, ei1⟩ := is_v ga1
  obtain rfl : w1 = (.int i1) := Option.some.inj ei1
  obtain ⟨i2, ei2⟩ := is_v ga2
  obtain rfl : w2 = (.int i2) := Option.some.inj ei2
  obtain ⟨i3, ei3⟩ := is_v gg3
  obtain rfl : w3 = (.int i3) := Option.some.inj ei3
  obtain ⟨zc, ezc⟩ := is_v (Cond.before_iff.mp (hsets _ (List.mem_of_getElem? (i := 1) rfl)))
  have nzc : ¬ zc = 0 := fun q => by
    have z1 := not_v (Cond.before_iff.mp (hsets _ (List.mem_of_getElem? (i := 2) rfl)))
    rw [eq_i ezc (Term.int_eval 0) (by rw [q])] at z1
    cases z1
  have st1 : ∃ z : Int32, Sta s s.heap "java/lang/String" "COMPACT_STRINGS" "Z" (.int z) ∧ ¬ z = 0 := ⟨zc, Sta.start ezc (Or.inl (hsets _ (List.mem_of_getElem? (i := 0) rfl))), nzc⟩
  have st : Sts s := ⟨st1, trivial⟩
  have hE : EW s _ EL0 := (EW.cons (tw41 hw) (by decide) (EW.cons (tw68 hw) (by decide) EW.nil))
  have H : CHv s EL0 s.vm s.heap := CHv.start hE (fun p hp => hcalls.1 p hp) (hsets _ (List.mem_of_getElem? (i := 2) rfl)) (tw23 hw) (tw5 hw)
  obtain ⟨z1, z2, z3, z4, z5, z6, z7, z8⟩ := (Spec.appliesLoose_iff hf).mp ((Spec.applies_iff_loose hf).mp happ).1
  have hl : (head1 [Cond.code x code maxLocals ret] room_1).appliesLoose x e.platform s = true := (Spec.appliesLoose_iff hf).mpr ⟨z1, z2, z3, z4, z5, z6, z7, by show (Cond.and _ .tt).before _ s = true; rw [Cond.before_and, hcode]; rfl⟩
  obtain ⟨n, o, h1, h2, h3, v, L, ns, rfl, ⟨rfl, -⟩, -, hL, -, -, hR⟩ := (c_law (l := l) hw st (h0 := s.heap)) p e ha hc hk s m _ below hf hl ⟨rfl, State.Warmed39.refl s, rfl, H, hE, ⟨Nat.le_refl _, fun _ _ q => q⟩, (fun _ q => nomatch q), (fun _ q => nomatch q)⟩ trivial
  have hN : ∀ y ∈ L, s.heap.size ≤ y.base := fun y hy => (hL y hy).elim (fun q => nomatch q) id
  refine ⟨n, _, h1, h2, h3, hpost _ _ _ _ _ _ ⟨Cond.after_iff.mpr rfl, Cond.after_iff.mpr (eq_i res_at (Term.int_eval (1)) rfl), trivial⟩ ⟨hR.1, hR.2.1, hR.2.2.1, (hR.2.2.2.sift fun y hy => Or.inr (hN y hy)).mono (by decide) (by decide)⟩⟩
theorem main_1_1 : Claimed_1_1 := comes_1 fun _ _ _ _ _ _ h hF => ⟨h.1, hF⟩
theorem main_1_2 : Claimed_1_2 := comes_1 fun _ _ _ _ _ _ h hF => ⟨h.2.1, hF⟩
end Jvm.Pilot.@@N@@
namespace Jvm.Pilot.@@N@@
open Jvm Jvm.ClassFile Sem Op Lib Jvm.Free Jvm.Stand Jvm.Pilot.@@N@@.Jvm.D
/-! MADE BY PROGRAM (witnessworld.py) out of the Statement's table words and the real class files: 22 classes; the members and pool entries that the words name. The judged class is class 1, her method 1. -/
namespace start1
open Jvm.ClassFile
def u (s : String) : CpInfo := .utf8 (stringToUtf16 s)
/-- a pool by its gaps: so many unusable entries, then the entry; so many at the end -/
def gap : Nat → List CpInfo → List CpInfo
  | 0, r => r
  | n + 1, r => .unusable :: gap n r
def poolList (es : List (Nat × CpInfo)) (last : Nat) : List CpInfo := es.foldr (fun e r => gap e.1 (e.2 :: r)) (gap last [])
def pool (es : List (Nat × CpInfo)) (last : Nat) : Array CpInfo := ⟨poolList es last⟩
def fileOf (pool : Array CpInfo) (this : Nat) (attrs : Array Attribute := #[]) (ms : Array MethodInfo := #[]) (fl : Nat := 33) (sup : Nat := 0) (ifs : Array Nat := #[]) (fds : Array FieldInfo := #[]) : ClassFile where
  minorVersion := 0
  majorVersion := 65
  constantPool := pool
  accessFlags := fl
  thisClass := this
  superClass := sup
  interfaces := ifs
  fields := fds
  methods := ms
  attributes := attrs
def plain (name : String) (sup : Option ClassId) : Class where
  name := name
  kind := .ordinary
  loader := none
  accessFlags := 33
  super := sup
  interfaces := #[]
  cf := none
  fields := #[]
  methods := #[]
  instanceTypes := #[]
  staticTypes := #[]
  resolved := #[]
  callSites := []
  init := .initialized
  statics := none
  mirror := none

def pool0 : Array CpInfo := pool [(5, u "<init>"), (0, u "()V"), (1, .class_ 10), (1, u "java/lang/Object")] 113

def k0c0 : Code := { maxStack := 0, maxLocals := 1, code := object_method_1_code, exceptionTable := #[], attributes := #[] }
def k0m0 : Method := { name := "<init>", desc := "()V", sig := { parameters := [], returnType := none }, accessFlags := 1, code := some k0c0 }
/-- java/lang/Object -/
def k0 : Class := { plain "java/lang/Object" none with
  accessFlags := 33
  interfaces := #[]
  cf := some (fileOf pool0 8 #[] #[{ accessFlags := 1, nameIndex := 5, descriptorIndex := 6, attributes := #[] }] 33 0 #[] #[])
  fields := #[]
  methods := #[k0m0]
  instanceTypes := #[]
  staticTypes := #[]
  resolved := Array.replicate 124 none
  statics := none }

def pool1 : Array CpInfo := pool [(2, .class_ 4), (1, u "java/lang/Object"), (0, u "<init>"), (0, u "()V"), (0, .methodref 8 9), (0, .class_ 10), (0, .nameAndType 11 12), (0, u "com/example/fencelock/fencelock/store/RedisAddressIsWrittenAsRedisPinLaw"), (0, u "draw"), (0, u "(ICC)C"), (0, .class_ 14), (0, u "java/lang/String"), (0, .methodref 13 16), (0, .nameAndType 5 17), (0, u "([C)V"), (0, .methodref 8 19), (0, .nameAndType 20 21), (0, u "is"), (0, u "(CCC)Z"), (0, .methodref 23 24), (0, .class_ 25), (0, .nameAndType 26 27), (0, u "com/example/fencelock/fencelock/store/RedisAddress"), (0, u "isWrittenAsRedis"), (0, u "(Ljava/lang/String;)Z"), (2, u "law"), (0, u "(IIII)Z")] 3

def k1m0 : Method := { name := "<init>", desc := "()V", sig := { parameters := [], returnType := none }, accessFlags := 2, code := none }
def k1c1 : Code := { maxStack := 6, maxLocals := 17, code := code, exceptionTable := #[], attributes := #[] }
def k1m1 : Method := { name := "law", desc := "(IIII)Z", sig := { parameters := [.int, .int, .int, .int], returnType := some .boolean }, accessFlags := 9, code := some k1c1 }
def k1c2 : Code := { maxStack := 2, maxLocals := 4, code := method_3_code, exceptionTable := #[], attributes := #[] }
def k1m2 : Method := { name := "draw", desc := "(ICC)C", sig := { parameters := [.int, .char, .char], returnType := some .char }, accessFlags := 10, code := some k1c2 }
def k1c3 : Code := { maxStack := 2, maxLocals := 3, code := method_4_code, exceptionTable := #[], attributes := #[] }
def k1m3 : Method := { name := "is", desc := "(CCC)Z", sig := { parameters := [.char, .char, .char], returnType := some .boolean }, accessFlags := 10, code := some k1c3 }
/-- com/example/fencelock/fencelock/store/RedisAddressIsWrittenAsRedisPinLaw -/
def k1 : Class := { plain "com/example/fencelock/fencelock/store/RedisAddressIsWrittenAsRedisPinLaw" (some 0) with
  accessFlags := 49
  interfaces := #[]
  cf := some (fileOf pool1 8 #[] #[{ accessFlags := 2, nameIndex := 5, descriptorIndex := 6, attributes := #[] }, { accessFlags := 9, nameIndex := 30, descriptorIndex := 31, attributes := #[] }, { accessFlags := 10, nameIndex := 11, descriptorIndex := 12, attributes := #[] }, { accessFlags := 10, nameIndex := 20, descriptorIndex := 21, attributes := #[] }] 49 2 #[] #[])
  fields := #[]
  methods := #[k1m0, k1m1, k1m2, k1m3]
  instanceTypes := #[]
  staticTypes := #[]
  resolved := Array.replicate 35 none
  statics := none }

def pool2 : Array CpInfo := pool [(1, .class_ 2), (0, u "java/io/Serializable"), (0, .class_ 4), (0, u "java/lang/Object")] 2

/-- java/io/Serializable -/
def k2 : Class := { plain "java/io/Serializable" (some 0) with
  accessFlags := 1537
  interfaces := #[]
  cf := some (fileOf pool2 1 #[] #[] 1537 3 #[] #[])
  fields := #[]
  methods := #[]
  instanceTypes := #[]
  staticTypes := #[]
  resolved := Array.replicate 7 none
  statics := none }

def pool3 : Array CpInfo := pool [(1, .class_ 2), (0, u "java/lang/Comparable"), (0, .class_ 4), (0, u "java/lang/Object")] 7

/-- java/lang/Comparable -/
def k3 : Class := { plain "java/lang/Comparable" (some 0) with
  accessFlags := 1537
  interfaces := #[]
  cf := some (fileOf pool3 1 #[] #[] 1537 3 #[] #[])
  fields := #[]
  methods := #[]
  instanceTypes := #[]
  staticTypes := #[]
  resolved := Array.replicate 12 none
  statics := none }

def pool4 : Array CpInfo := pool [(2, .class_ 4), (1, u "java/lang/CharSequence"), (42, .class_ 48), (0, u "java/lang/CharSequence$1CodePointIterator"), (10, .class_ 60), (0, u "java/lang/CharSequence$1CharIterator"), (5, .class_ 67), (0, u "java/lang/Object")] 63

/-- java/lang/CharSequence -/
def k4 : Class := { plain "java/lang/CharSequence" (some 0) with
  accessFlags := 1537
  interfaces := #[]
  cf := some (fileOf pool4 2 #[.nestMembers #[47, 59]] #[] 1537 66 #[] #[])
  fields := #[]
  methods := #[]
  instanceTypes := #[]
  staticTypes := #[]
  resolved := Array.replicate 131 none
  statics := none }

def pool5 : Array CpInfo := pool [(1, .class_ 2), (0, u "java/lang/constant/Constable"), (0, .class_ 4), (0, u "java/lang/Object")] 6

/-- java/lang/constant/Constable -/
def k5 : Class := { plain "java/lang/constant/Constable" (some 0) with
  accessFlags := 1537
  interfaces := #[]
  cf := some (fileOf pool5 1 #[] #[] 1537 3 #[] #[])
  fields := #[]
  methods := #[]
  instanceTypes := #[]
  staticTypes := #[]
  resolved := Array.replicate 11 none
  statics := none }

def pool6 : Array CpInfo := pool [(1, .class_ 2), (0, u "java/lang/constant/ConstantDesc"), (0, .class_ 4), (0, u "java/lang/Object")] 32

/-- java/lang/constant/ConstantDesc -/
def k6 : Class := { plain "java/lang/constant/ConstantDesc" (some 0) with
  accessFlags := 1537
  interfaces := #[]
  cf := some (fileOf pool6 1 #[] #[] 1537 3 #[] #[])
  fields := #[]
  methods := #[]
  instanceTypes := #[]
  staticTypes := #[]
  resolved := Array.replicate 37 none
  statics := none }

def pool7 : Array CpInfo := pool [(1, .methodref 2 3), (0, .class_ 4), (0, .nameAndType 5 6), (0, u "java/lang/Object"), (0, u "<init>"), (0, u "()V"), (0, .string 8), (0, u ""), (0, .fieldref 10 11), (0, .class_ 12), (0, .nameAndType 13 14), (0, u "java/lang/String"), (0, u "value"), (0, u "[B"), (0, .fieldref 10 16), (0, .nameAndType 17 18), (0, u "coder"), (0, u "B"), (2, u "hash"), (0, u "I"), (2, u "hashIsZero"), (0, u "Z"), (0, .methodref 10 28), (0, .nameAndType 5 29), (0, u "([CIILjava/lang/Void;)V"), (8, .fieldref 10 39), (0, .nameAndType 40 26), (0, u "COMPACT_STRINGS"), (1, .class_ 44), (1, u "java/lang/StringUTF16"), (0, u "compress"), (1, .methodref 42 48), (0, .nameAndType 49 50), (0, u "coderFromArrayLen"), (0, u "([BI)B"), (56, .class_ 109), (1, u "java/lang/StringLatin1"), (67, .methodref 42 178), (0, .nameAndType 45 179), (0, u "([CII)[B"), (154, u "()I"), (0, .methodref 10 336), (0, .nameAndType 17 337), (0, u "()B"), (167, .methodref 10 506), (0, .nameAndType 507 334), (0, u "length"), (67, .class_ 576), (0, u "java/lang/CharSequence"), (7, u "regionMatches"), (0, u "(ZILjava/lang/String;II)Z"), (13, u "CASE_INSENSITIVE_ORDER"), (0, u "Ljava/util/Comparator;"), (12, .methodref 107 614), (0, .nameAndType 615 616), (0, u "regionMatchesCI"), (0, u "([BI[BII)Z"), (393, u "([C)V"), (90, u "serialPersistentFields"), (0, u "[Ljava/io/ObjectStreamField;"), (0, .class_ 1104), (0, u "java/lang/String$CaseInsensitiveComparator"), (1, .class_ 1107), (0, u "java/io/Serializable"), (0, .class_ 1109), (0, u "java/lang/Comparable"), (0, .class_ 1111), (0, u "java/lang/constant/Constable"), (0, .class_ 1113), (0, u "java/lang/constant/ConstantDesc"), (2, u "serialVersionUID"), (0, u "J"), (3, u "REPL"), (0, u "C"), (2, u "LATIN1"), (1, u "UTF16")] 323

def k7m0 : Method := { name := "<init>", desc := "()V", sig := { parameters := [], returnType := none }, accessFlags := 1, code := none }
def k7c1 : Code := { maxStack := 5, maxLocals := 2, code := jdk_42_method_3_code, exceptionTable := #[], attributes := #[] }
def k7m1 : Method := { name := "<init>", desc := "([C)V", sig := { parameters := [(.array .char)], returnType := none }, accessFlags := 1, code := some k7c1 }
def k7c2 : Code := { maxStack := 2, maxLocals := 1, code := jdk_42_method_54_code, exceptionTable := #[], attributes := #[] }
def k7m2 : Method := { name := "length", desc := "()I", sig := { parameters := [], returnType := some .int }, accessFlags := 1, code := some k7c2 }
def k7c3 : Code := { maxStack := 6, maxLocals := 9, code := jdk_42_method_74_code, exceptionTable := #[], attributes := #[] }
def k7m3 : Method := { name := "regionMatches", desc := "(ZILjava/lang/String;II)Z", sig := { parameters := [.boolean, .int, (.object "java/lang/String"), .int, .int], returnType := some .boolean }, accessFlags := 1, code := some k7c3 }
def k7c4 : Code := { maxStack := 4, maxLocals := 6, code := jdk_42_method_149_code, exceptionTable := #[], attributes := #[] }
def k7m4 : Method := { name := "<init>", desc := "([CIILjava/lang/Void;)V", sig := { parameters := [(.array .char), .int, .int, (.object "java/lang/Void")], returnType := none }, accessFlags := 2, code := some k7c4 }
def k7c5 : Code := { maxStack := 1, maxLocals := 1, code := jdk_42_method_152_code, exceptionTable := #[], attributes := #[] }
def k7m5 : Method := { name := "coder", desc := "()B", sig := { parameters := [], returnType := some .byte }, accessFlags := 0, code := some k7c5 }
/-- java/lang/String -/
def k7 : Class := { plain "java/lang/String" (some 0) with
  accessFlags := 49
  interfaces := #[2, 3, 4, 5, 6]
  cf := some (fileOf pool7 10 #[.nestMembers #[1103]] #[{ accessFlags := 1, nameIndex := 5, descriptorIndex := 6, attributes := #[] }, { accessFlags := 1, nameIndex := 5, descriptorIndex := 1010, attributes := #[] }, { accessFlags := 1, nameIndex := 507, descriptorIndex := 334, attributes := #[] }, { accessFlags := 1, nameIndex := 584, descriptorIndex := 585, attributes := #[] }, { accessFlags := 2, nameIndex := 5, descriptorIndex := 29, attributes := #[] }, { accessFlags := 0, nameIndex := 17, descriptorIndex := 337, attributes := #[] }] 49 2 #[1106, 1108, 575, 1110, 1112] #[{ accessFlags := 18, nameIndex := 13, descriptorIndex := 14, attributes := #[] }, { accessFlags := 18, nameIndex := 17, descriptorIndex := 18, attributes := #[] }, { accessFlags := 2, nameIndex := 21, descriptorIndex := 22, attributes := #[] }, { accessFlags := 2, nameIndex := 25, descriptorIndex := 26, attributes := #[] }, { accessFlags := 26, nameIndex := 1116, descriptorIndex := 1117, attributes := #[] }, { accessFlags := 24, nameIndex := 40, descriptorIndex := 26, attributes := #[] }, { accessFlags := 26, nameIndex := 1101, descriptorIndex := 1102, attributes := #[] }, { accessFlags := 26, nameIndex := 1121, descriptorIndex := 1122, attributes := #[] }, { accessFlags := 25, nameIndex := 599, descriptorIndex := 600, attributes := #[] }, { accessFlags := 24, nameIndex := 1125, descriptorIndex := 18, attributes := #[] }, { accessFlags := 24, nameIndex := 1127, descriptorIndex := 18, attributes := #[] }])
  fields := #[{ name := "value", type := (.array .byte), accessFlags := 18, slot := 0, constantValue := 0 }, { name := "coder", type := .byte, accessFlags := 18, slot := 1, constantValue := 0 }, { name := "hash", type := .int, accessFlags := 2, slot := 2, constantValue := 0 }, { name := "hashIsZero", type := .boolean, accessFlags := 2, slot := 3, constantValue := 0 }, { name := "serialVersionUID", type := .long, accessFlags := 26, slot := 0, constantValue := 0 }, { name := "COMPACT_STRINGS", type := .boolean, accessFlags := 24, slot := 1, constantValue := 0 }, { name := "serialPersistentFields", type := (.array (.object "java/io/ObjectStreamField")), accessFlags := 26, slot := 2, constantValue := 0 }, { name := "REPL", type := .char, accessFlags := 26, slot := 3, constantValue := 0 }, { name := "CASE_INSENSITIVE_ORDER", type := (.object "java/util/Comparator"), accessFlags := 25, slot := 4, constantValue := 0 }, { name := "LATIN1", type := .byte, accessFlags := 24, slot := 5, constantValue := 0 }, { name := "UTF16", type := .byte, accessFlags := 24, slot := 6, constantValue := 0 }]
  methods := #[k7m0, k7m1, k7m2, k7m3, k7m4, k7m5]
  instanceTypes := #[(.array .byte), .byte, .int, .boolean]
  staticTypes := #[.long, .boolean, (.array (.object "java/io/ObjectStreamField")), .char, (.object "java/util/Comparator"), .byte, .byte]
  resolved := Array.replicate 1451 none
  statics := some 0 }

def pool8 : Array CpInfo := pool [(6, .class_ 8), (1, u "java/lang/Object"), (0, u "<init>"), (0, u "()V"), (1, .class_ 14), (1, u "java/lang/StringUTF16"), (31, u "$assertionsDisabled"), (0, u "Z"), (13, u "HI_BYTE_SHIFT"), (0, u "I"), (2, u "LO_BYTE_SHIFT"), (49, .methodref 12 116), (0, .nameAndType 117 118), (0, u "compress"), (0, u "([CI[BII)I"), (3, u "([CII)[B"), (138, u "coderFromArrayLen"), (0, u "([BI)B"), (106, .class_ 371), (1, u "java/lang/StringUTF16$LinesSpliterator"), (58, u "MAX_LENGTH"), (196, .class_ 628), (0, u "java/lang/StringUTF16$CodePointsSpliterator"), (0, .class_ 630), (0, u "java/lang/StringUTF16$CharsSpliterator")] 4

def k8m0 : Method := { name := "<init>", desc := "()V", sig := { parameters := [], returnType := none }, accessFlags := 0, code := none }
def k8c1 : Code := { maxStack := 2, maxLocals := 2, code := jdk_52_method_15_code, exceptionTable := #[], attributes := #[] }
def k8m1 : Method := { name := "coderFromArrayLen", desc := "([BI)B", sig := { parameters := [(.array .byte), .int], returnType := some .byte }, accessFlags := 8, code := some k8c1 }
def k8c2 : Code := { maxStack := 5, maxLocals := 6, code := jdk_52_method_16_code, exceptionTable := #[], attributes := #[] }
def k8m2 : Method := { name := "compress", desc := "([CII)[B", sig := { parameters := [(.array .char), .int, .int], returnType := some (.array .byte) }, accessFlags := 9, code := some k8c2 }
def k8c3 : Code := { maxStack := 3, maxLocals := 7, code := jdk_52_method_21_code, exceptionTable := #[], attributes := #[] }
def k8m3 : Method := { name := "compress", desc := "([CI[BII)I", sig := { parameters := [(.array .char), .int, (.array .byte), .int, .int], returnType := some .int }, accessFlags := 9, code := some k8c3 }
/-- java/lang/StringUTF16 -/
def k8 : Class := { plain "java/lang/StringUTF16" (some 0) with
  accessFlags := 48
  interfaces := #[]
  cf := some (fileOf pool8 12 #[.nestMembers #[627, 629, 369]] #[{ accessFlags := 0, nameIndex := 9, descriptorIndex := 10, attributes := #[] }, { accessFlags := 8, nameIndex := 261, descriptorIndex := 262, attributes := #[] }, { accessFlags := 9, nameIndex := 117, descriptorIndex := 122, attributes := #[] }, { accessFlags := 9, nameIndex := 117, descriptorIndex := 118, attributes := #[] }] 48 6 #[] #[{ accessFlags := 26, nameIndex := 61, descriptorIndex := 62, attributes := #[] }, { accessFlags := 26, nameIndex := 65, descriptorIndex := 62, attributes := #[] }, { accessFlags := 24, nameIndex := 430, descriptorIndex := 62, attributes := #[] }, { accessFlags := 4120, nameIndex := 46, descriptorIndex := 47, attributes := #[] }])
  fields := #[{ name := "HI_BYTE_SHIFT", type := .int, accessFlags := 26, slot := 0, constantValue := 0 }, { name := "LO_BYTE_SHIFT", type := .int, accessFlags := 26, slot := 1, constantValue := 0 }, { name := "MAX_LENGTH", type := .int, accessFlags := 24, slot := 2, constantValue := 0 }, { name := "$assertionsDisabled", type := .boolean, accessFlags := 4120, slot := 3, constantValue := 0 }]
  methods := #[k8m0, k8m1, k8m2, k8m3]
  instanceTypes := #[]
  staticTypes := #[.int, .int, .int, .boolean]
  resolved := Array.replicate 635 none
  statics := none }

def pool9 : Array CpInfo := pool [(2, .class_ 4), (1, u "java/lang/Object"), (3, .class_ 10), (1, u "com/example/fencelock/fencelock/store/RedisAddress"), (0, u "host"), (0, u "Ljava/lang/String;"), (2, u "port"), (0, u "I"), (2, u "database"), (0, .string 21), (0, u "redis://"), (0, .methodref 23 24), (0, .class_ 25), (0, .nameAndType 26 27), (0, u "java/lang/String"), (0, u "length"), (0, u "()I"), (0, .methodref 23 29), (0, .nameAndType 30 31), (0, u "regionMatches"), (0, u "(ZILjava/lang/String;II)Z"), (22, u "(Ljava/lang/String;)Z"), (88, u "SCHEME"), (1, u "FORMS"), (2, u "DEFAULT_PORT"), (3, u "isWrittenAsRedis")] 39

def k9c0 : Code := { maxStack := 6, maxLocals := 2, code := prog_16_method_2_code, exceptionTable := #[], attributes := #[] }
def k9m0 : Method := { name := "isWrittenAsRedis", desc := "(Ljava/lang/String;)Z", sig := { parameters := [(.object "java/lang/String")], returnType := some .boolean }, accessFlags := 8, code := some k9c0 }
/-- com/example/fencelock/fencelock/store/RedisAddress -/
def k9 : Class := { plain "com/example/fencelock/fencelock/store/RedisAddress" (some 0) with
  accessFlags := 32
  interfaces := #[]
  cf := some (fileOf pool9 8 #[] #[{ accessFlags := 8, nameIndex := 152, descriptorIndex := 54, attributes := #[] }] 32 2 #[] #[{ accessFlags := 24, nameIndex := 143, descriptorIndex := 12, attributes := #[] }, { accessFlags := 24, nameIndex := 145, descriptorIndex := 12, attributes := #[] }, { accessFlags := 26, nameIndex := 148, descriptorIndex := 16, attributes := #[] }, { accessFlags := 18, nameIndex := 11, descriptorIndex := 12, attributes := #[] }, { accessFlags := 18, nameIndex := 15, descriptorIndex := 16, attributes := #[] }, { accessFlags := 18, nameIndex := 19, descriptorIndex := 16, attributes := #[] }])
  fields := #[{ name := "SCHEME", type := (.object "java/lang/String"), accessFlags := 24, slot := 0, constantValue := 0 }, { name := "FORMS", type := (.object "java/lang/String"), accessFlags := 24, slot := 1, constantValue := 0 }, { name := "DEFAULT_PORT", type := .int, accessFlags := 26, slot := 2, constantValue := 0 }, { name := "host", type := (.object "java/lang/String"), accessFlags := 18, slot := 0, constantValue := 0 }, { name := "port", type := .int, accessFlags := 18, slot := 1, constantValue := 0 }, { name := "database", type := .int, accessFlags := 18, slot := 2, constantValue := 0 }]
  methods := #[k9m0]
  instanceTypes := #[(.object "java/lang/String"), .int, .int]
  staticTypes := #[(.object "java/lang/String"), (.object "java/lang/String"), .int]
  resolved := Array.replicate 192 none
  statics := none }

def pool10 : Array CpInfo := pool [(4, .class_ 6), (1, u "java/lang/Object"), (0, u "<init>"), (0, u "()V"), (5, .class_ 16), (1, u "java/lang/StringLatin1"), (50, .class_ 69), (1, u "java/lang/CharacterDataLatin1"), (51, u "$assertionsDisabled"), (0, u "Z"), (30, .methodref 67 154), (0, .nameAndType 155 156), (0, u "equalsIgnoreCase"), (0, u "(BB)Z"), (64, .class_ 223), (1, u "java/lang/StringLatin1$LinesSpliterator"), (116, u "regionMatchesCI"), (0, u "([BI[BII)Z"), (48, .class_ 391), (0, u "java/lang/StringLatin1$CharsSpliterator")] 3

def k10m0 : Method := { name := "<init>", desc := "()V", sig := { parameters := [], returnType := none }, accessFlags := 0, code := none }
def k10c1 : Code := { maxStack := 2, maxLocals := 8, code := jdk_43_method_30_code, exceptionTable := #[], attributes := #[] }
def k10m1 : Method := { name := "regionMatchesCI", desc := "([BI[BII)Z", sig := { parameters := [(.array .byte), .int, (.array .byte), .int, .int], returnType := some .boolean }, accessFlags := 9, code := some k10c1 }
/-- java/lang/StringLatin1 -/
def k10 : Class := { plain "java/lang/StringLatin1" (some 0) with
  accessFlags := 48
  interfaces := #[]
  cf := some (fileOf pool10 14 #[.nestMembers #[390, 221]] #[{ accessFlags := 0, nameIndex := 7, descriptorIndex := 8, attributes := #[] }, { accessFlags := 9, nameIndex := 340, descriptorIndex := 341, attributes := #[] }] 48 4 #[] #[{ accessFlags := 4120, nameIndex := 121, descriptorIndex := 122, attributes := #[] }])
  fields := #[{ name := "$assertionsDisabled", type := .boolean, accessFlags := 4120, slot := 0, constantValue := 0 }]
  methods := #[k10m0, k10m1]
  instanceTypes := #[]
  staticTypes := #[.boolean]
  resolved := Array.replicate 395 none
  statics := none }

def pool11 : Array CpInfo := pool [(2, .class_ 4), (1, u "java/lang/Object"), (0, u "<init>"), (0, u "()V"), (1, .class_ 10), (1, u "java/lang/CharacterData")] 75

def k11m0 : Method := { name := "<init>", desc := "()V", sig := { parameters := [], returnType := none }, accessFlags := 0, code := none }
/-- java/lang/CharacterData -/
def k11 : Class := { plain "java/lang/CharacterData" (some 0) with
  accessFlags := 1056
  interfaces := #[]
  cf := some (fileOf pool11 8 #[] #[{ accessFlags := 0, nameIndex := 5, descriptorIndex := 6, attributes := #[] }] 1056 2 #[] #[])
  fields := #[]
  methods := #[k11m0]
  instanceTypes := #[]
  staticTypes := #[]
  resolved := Array.replicate 86 none
  statics := none }

def pool12 : Array CpInfo := pool [(2, .class_ 4), (1, u "java/lang/CharacterDataLatin1"), (0, u "A"), (0, u "[I"), (2, u "B"), (0, u "[C"), (16, u "DIGITS"), (0, u "[B"), (8, u "sharpsMap"), (1, .class_ 41), (1, u "java/lang/CharacterData"), (0, u "<init>"), (0, u "()V"), (3, u "instance"), (0, u "Ljava/lang/CharacterDataLatin1;"), (66, u "equalsIgnoreCase"), (0, u "(BB)Z")] 24

def k12c0 : Code := { maxStack := 3, maxLocals := 3, code := jdk_116_method_22_code, exceptionTable := #[], attributes := #[] }
def k12m0 : Method := { name := "equalsIgnoreCase", desc := "(BB)Z", sig := { parameters := [.byte, .byte], returnType := some .boolean }, accessFlags := 8, code := some k12c0 }
def k12m1 : Method := { name := "<init>", desc := "()V", sig := { parameters := [], returnType := none }, accessFlags := 2, code := none }
/-- java/lang/CharacterDataLatin1 -/
def k12 : Class := { plain "java/lang/CharacterDataLatin1" (some 11) with
  accessFlags := 32
  interfaces := #[]
  cf := some (fileOf pool12 2 #[] #[{ accessFlags := 8, nameIndex := 115, descriptorIndex := 116, attributes := #[] }, { accessFlags := 2, nameIndex := 42, descriptorIndex := 43, attributes := #[] }] 32 39 #[] #[{ accessFlags := 26, nameIndex := 27, descriptorIndex := 28, attributes := #[] }, { accessFlags := 8, nameIndex := 37, descriptorIndex := 10, attributes := #[] }, { accessFlags := 24, nameIndex := 47, descriptorIndex := 48, attributes := #[] }, { accessFlags := 24, nameIndex := 5, descriptorIndex := 6, attributes := #[] }, { accessFlags := 24, nameIndex := 9, descriptorIndex := 10, attributes := #[] }])
  fields := #[{ name := "DIGITS", type := (.array .byte), accessFlags := 26, slot := 0, constantValue := 0 }, { name := "sharpsMap", type := (.array .char), accessFlags := 8, slot := 1, constantValue := 0 }, { name := "instance", type := (.object "java/lang/CharacterDataLatin1"), accessFlags := 24, slot := 2, constantValue := 0 }, { name := "A", type := (.array .int), accessFlags := 24, slot := 3, constantValue := 0 }, { name := "B", type := (.array .char), accessFlags := 24, slot := 4, constantValue := 0 }]
  methods := #[k12m0, k12m1]
  instanceTypes := #[]
  staticTypes := #[(.array .byte), (.array .char), (.object "java/lang/CharacterDataLatin1"), (.array .int), (.array .char)]
  resolved := Array.replicate 141 none
  statics := none }

def pool13 : Array CpInfo := pool [(2, .class_ 4), (1, u "java/lang/Object"), (0, u "<init>"), (0, u "()V"), (17, .class_ 26), (1, u "jdk/internal/util/Preconditions"), (28, .class_ 56), (0, u "jdk/internal/util/Preconditions$4"), (57, .class_ 115), (0, u "jdk/internal/util/Preconditions$1"), (7, u "SIOOBE_FORMATTER"), (0, u "Ljava/util/function/BiFunction;"), (0, .class_ 126), (0, u "jdk/internal/util/Preconditions$2"), (3, u "AIOOBE_FORMATTER"), (0, .class_ 132), (0, u "jdk/internal/util/Preconditions$3"), (3, u "IOOBE_FORMATTER")] 57

def k13m0 : Method := { name := "<init>", desc := "()V", sig := { parameters := [], returnType := none }, accessFlags := 1, code := none }
/-- jdk/internal/util/Preconditions -/
def k13 : Class := { plain "jdk/internal/util/Preconditions" (some 0) with
  accessFlags := 33
  interfaces := #[]
  cf := some (fileOf pool13 24 #[.nestMembers #[55, 131, 125, 114]] #[{ accessFlags := 1, nameIndex := 5, descriptorIndex := 6, attributes := #[] }] 33 2 #[] #[{ accessFlags := 25, nameIndex := 123, descriptorIndex := 124, attributes := #[] }, { accessFlags := 25, nameIndex := 130, descriptorIndex := 124, attributes := #[] }, { accessFlags := 25, nameIndex := 136, descriptorIndex := 124, attributes := #[] }])
  fields := #[{ name := "SIOOBE_FORMATTER", type := (.object "java/util/function/BiFunction"), accessFlags := 25, slot := 0, constantValue := 0 }, { name := "AIOOBE_FORMATTER", type := (.object "java/util/function/BiFunction"), accessFlags := 25, slot := 1, constantValue := 0 }, { name := "IOOBE_FORMATTER", type := (.object "java/util/function/BiFunction"), accessFlags := 25, slot := 2, constantValue := 0 }]
  methods := #[k13m0]
  instanceTypes := #[]
  staticTypes := #[(.object "java/util/function/BiFunction"), (.object "java/util/function/BiFunction"), (.object "java/util/function/BiFunction")]
  resolved := Array.replicate 194 none
  statics := some 1 }

def pool14 : Array CpInfo := pool [(9, u "<init>"), (6, .class_ 18), (1, u "java/lang/Object"), (0, u "()V"), (1, .class_ 23), (1, u "jdk/internal/util/ArraysSupport"), (0, u "LOG2_ARRAY_LONG_INDEX_SCALE"), (0, u "I"), (2, u "U"), (0, u "Ljdk/internal/misc/Unsafe;"), (8, u "BIG_ENDIAN"), (0, u "Z"), (8, u "LOG2_BYTE_BIT_SIZE"), (4, u "LOG2_ARRAY_INT_INDEX_SCALE"), (54, u "JLA"), (0, u "Ljdk/internal/access/JavaLangAccess;"), (11, u "LOG2_ARRAY_BOOLEAN_INDEX_SCALE"), (9, u "LOG2_ARRAY_BYTE_INDEX_SCALE"), (5, u "LOG2_ARRAY_CHAR_INDEX_SCALE"), (5, u "LOG2_ARRAY_SHORT_INDEX_SCALE"), (18, u "LOG2_ARRAY_FLOAT_INDEX_SCALE"), (24, u "LOG2_ARRAY_DOUBLE_INDEX_SCALE"), (89, u "T_BOOLEAN"), (2, u "T_CHAR"), (1, u "T_FLOAT"), (1, u "T_DOUBLE"), (1, u "T_BYTE"), (1, u "T_SHORT"), (1, u "T_INT"), (1, u "T_LONG"), (1, u "SOFT_MAX_ARRAY_LENGTH")] 83

def k14m0 : Method := { name := "<init>", desc := "()V", sig := { parameters := [], returnType := none }, accessFlags := 2, code := none }
/-- jdk/internal/util/ArraysSupport -/
def k14 : Class := { plain "jdk/internal/util/ArraysSupport" (some 0) with
  accessFlags := 33
  interfaces := #[]
  cf := some (fileOf pool14 21 #[] #[{ accessFlags := 2, nameIndex := 9, descriptorIndex := 19, attributes := #[] }] 33 16 #[] #[{ accessFlags := 24, nameIndex := 28, descriptorIndex := 29, attributes := #[] }, { accessFlags := 26, nameIndex := 38, descriptorIndex := 39, attributes := #[] }, { accessFlags := 25, nameIndex := 121, descriptorIndex := 25, attributes := #[] }, { accessFlags := 25, nameIndex := 131, descriptorIndex := 25, attributes := #[] }, { accessFlags := 25, nameIndex := 137, descriptorIndex := 25, attributes := #[] }, { accessFlags := 25, nameIndex := 143, descriptorIndex := 25, attributes := #[] }, { accessFlags := 25, nameIndex := 53, descriptorIndex := 25, attributes := #[] }, { accessFlags := 25, nameIndex := 24, descriptorIndex := 25, attributes := #[] }, { accessFlags := 25, nameIndex := 162, descriptorIndex := 25, attributes := #[] }, { accessFlags := 25, nameIndex := 187, descriptorIndex := 25, attributes := #[] }, { accessFlags := 26, nameIndex := 48, descriptorIndex := 25, attributes := #[] }, { accessFlags := 25, nameIndex := 277, descriptorIndex := 25, attributes := #[] }, { accessFlags := 25, nameIndex := 280, descriptorIndex := 25, attributes := #[] }, { accessFlags := 25, nameIndex := 282, descriptorIndex := 25, attributes := #[] }, { accessFlags := 25, nameIndex := 284, descriptorIndex := 25, attributes := #[] }, { accessFlags := 25, nameIndex := 286, descriptorIndex := 25, attributes := #[] }, { accessFlags := 25, nameIndex := 288, descriptorIndex := 25, attributes := #[] }, { accessFlags := 25, nameIndex := 290, descriptorIndex := 25, attributes := #[] }, { accessFlags := 25, nameIndex := 292, descriptorIndex := 25, attributes := #[] }, { accessFlags := 26, nameIndex := 108, descriptorIndex := 109, attributes := #[] }, { accessFlags := 25, nameIndex := 294, descriptorIndex := 25, attributes := #[] }])
  fields := #[{ name := "U", type := (.object "jdk/internal/misc/Unsafe"), accessFlags := 24, slot := 0, constantValue := 0 }, { name := "BIG_ENDIAN", type := .boolean, accessFlags := 26, slot := 1, constantValue := 0 }, { name := "LOG2_ARRAY_BOOLEAN_INDEX_SCALE", type := .int, accessFlags := 25, slot := 2, constantValue := 0 }, { name := "LOG2_ARRAY_BYTE_INDEX_SCALE", type := .int, accessFlags := 25, slot := 3, constantValue := 0 }, { name := "LOG2_ARRAY_CHAR_INDEX_SCALE", type := .int, accessFlags := 25, slot := 4, constantValue := 0 }, { name := "LOG2_ARRAY_SHORT_INDEX_SCALE", type := .int, accessFlags := 25, slot := 5, constantValue := 0 }, { name := "LOG2_ARRAY_INT_INDEX_SCALE", type := .int, accessFlags := 25, slot := 6, constantValue := 0 }, { name := "LOG2_ARRAY_LONG_INDEX_SCALE", type := .int, accessFlags := 25, slot := 7, constantValue := 0 }, { name := "LOG2_ARRAY_FLOAT_INDEX_SCALE", type := .int, accessFlags := 25, slot := 8, constantValue := 0 }, { name := "LOG2_ARRAY_DOUBLE_INDEX_SCALE", type := .int, accessFlags := 25, slot := 9, constantValue := 0 }, { name := "LOG2_BYTE_BIT_SIZE", type := .int, accessFlags := 26, slot := 10, constantValue := 0 }, { name := "T_BOOLEAN", type := .int, accessFlags := 25, slot := 11, constantValue := 0 }, { name := "T_CHAR", type := .int, accessFlags := 25, slot := 12, constantValue := 0 }, { name := "T_FLOAT", type := .int, accessFlags := 25, slot := 13, constantValue := 0 }, { name := "T_DOUBLE", type := .int, accessFlags := 25, slot := 14, constantValue := 0 }, { name := "T_BYTE", type := .int, accessFlags := 25, slot := 15, constantValue := 0 }, { name := "T_SHORT", type := .int, accessFlags := 25, slot := 16, constantValue := 0 }, { name := "T_INT", type := .int, accessFlags := 25, slot := 17, constantValue := 0 }, { name := "T_LONG", type := .int, accessFlags := 25, slot := 18, constantValue := 0 }, { name := "JLA", type := (.object "jdk/internal/access/JavaLangAccess"), accessFlags := 26, slot := 19, constantValue := 0 }, { name := "SOFT_MAX_ARRAY_LENGTH", type := .int, accessFlags := 25, slot := 20, constantValue := 0 }]
  methods := #[k14m0]
  instanceTypes := #[]
  staticTypes := #[(.object "jdk/internal/misc/Unsafe"), .boolean, .int, .int, .int, .int, .int, .int, .int, .int, .int, .int, .int, .int, .int, .int, .int, .int, .int, (.object "jdk/internal/access/JavaLangAccess"), .int]
  resolved := Array.replicate 378 none
  statics := none }

def pool15 : Array CpInfo := pool [(1, u "java/lang/Cloneable"), (0, .class_ 1), (0, u "java/lang/Object"), (0, .class_ 3)] 3

/-- java/lang/Cloneable -/
def k15 : Class := { plain "java/lang/Cloneable" (some 0) with
  accessFlags := 1537
  interfaces := #[]
  cf := some (fileOf pool15 2 #[] #[] 1537 4 #[] #[])
  fields := #[]
  methods := #[]
  instanceTypes := #[]
  staticTypes := #[]
  resolved := Array.replicate 8 none
  statics := none }

/-- the primitive byte -/
def k16 : Class := { plain "byte" none with kind := .primitive 'B', accessFlags := 0x411 }
/-- [B -/
def k17 : Class := { plain "[B" (some 0) with kind := .array 16 .byte, interfaces := #[15, 2], accessFlags := 1041 }

/-- the primitive char -/
def k18 : Class := { plain "char" none with kind := .primitive 'C', accessFlags := 0x411 }
/-- [C -/
def k19 : Class := { plain "[C" (some 0) with kind := .array 18 .char, interfaces := #[15, 2], accessFlags := 1041 }

/-- the primitive int -/
def k20 : Class := { plain "int" none with kind := .primitive 'I', accessFlags := 0x411 }
/-- [I -/
def k21 : Class := { plain "[I" (some 0) with kind := .array 20 .int, interfaces := #[15, 2], accessFlags := 1041 }

def heap : Heap := #[{ cls := 7, slots := #[.long 0, .int 1, .null, .int 0, .null, .int 0, .int 0], vm := .statics 7 },
  { cls := 13, slots := #[.null, .null, .null], vm := .statics 13 }]
def classes : Array Class := #[k0, k1, k2, k3, k4, k5, k6, k7, k8, k9, k10, k11, k12, k13, k14, k15, k16, k17, k18, k19, k20, k21]
def interned : List (Array UInt16 × Addr) := []
def slotsUsed : Nat := 10
def theMethod : MethodId := ⟨1, 1⟩
def args0 : Array Value := #[.int 5, .int 6, .int 7, .int 0]
def aboutOver (below : List Frame) : State where
  vm := { classes := classes, interned := interned.toArray }
  heap := heap
  slotsUsed := slotsUsed
  threads := #[{ frames := .invoking theMethod args0 :: below }]
def below0 : List Frame := [.native { method := ⟨0, 0⟩, args := #[] }]
def about1 : State := aboutOver below0
def p0 : Program := .bare "" "" ""
def e0 : Env := launch0.env 0 0 0
theorem w_frames : about1.frames = Frame.invoking theMethod args0 :: below0 := rfl
set_option maxRecDepth 65536 in
theorem w_args : argsFit about1.vm theMethod args0 = true := by decide +kernel
set_option maxRecDepth 65536 in
theorem w_heap : heapFits about1 = true := by decide +kernel
set_option maxRecDepth 65536 in
theorem w_runnable : about1.curStatus? = some .runnable := by decide +kernel
set_option maxRecDepth 65536 in
theorem w_alone : about1.alone = true := by decide +kernel
set_option maxRecDepth 65536 in
theorem w_named : about1.methodNamed? x = some theMethod := by decide +kernel
set_option maxRecDepth 65536 in
theorem w_hears : about1.hears theMethod below0 = true := by decide +kernel
set_option maxRecDepth 65536 in
theorem w_ripe : about1.ripe theMethod args0 below0 = true := by decide +kernel
theorem w_running : about1.status = .running := rfl
set_option maxRecDepth 65536 in
theorem w_room : about1.hasRoom e0.platform room_1 = true :=
  launch0.hasRoom_least _ room_1 (by decide +kernel) (by decide +kernel) (by decide +kernel) (by decide +kernel) (by decide +kernel) (by decide +kernel)
theorem allAtoms_all (ts : List Jvm.Cond) (a : Array Jvm.Value) (st : Jvm.State) : (allAtoms ts).before a st = ts.all (fun c => c.before a st) := by
  induction ts with
  | nil => rfl
  | cons c t ih =>
    show (Jvm.Cond.and c (allAtoms t)).before a st = _
    rw [Jvm.Cond.before_and, ih, List.all_cons]
def words1 : List Jvm.Cond := Jvm.Cond.code x code maxLocals ret :: tables_1
/-- a 'code' word, met by the world's own term for the bytes: nothing is compared byte by byte -/
theorem code_word {y : MethodName} {bytes : ByteArray} {mx : Nat} {rt : Option FieldType} {a : Array Value} {s : State} {m : MethodId} {meth : Method} {c : Code} (h1 : s.methodNamed? y = some m) (h2 : s.vm.method? m = some meth) (h3 : meth.code = some c) (h4 : c.code = bytes)
    (h5 : (c.maxLocals == mx && c.exceptionTable.isEmpty && decide (c.maxStack ≤ mostOperands) && decide (meth.sig.returnType = rt) && !meth.locks && decide (parseMethodDescriptor y.desc = some meth.sig)) = true) : (Jvm.Cond.code y bytes mx rt).before a s = true := by
  simp only [Bool.and_eq_true, beq_iff_eq, Bool.not_eq_true', decide_eq_true_eq] at h5
  obtain ⟨⟨⟨⟨⟨g1, g2⟩, g3⟩, g4⟩, g5⟩, g6⟩ := h5
  simp [Cond.before, Cond.holds, Cond.value, h1, h2, h3, h4, g1, g2, g3, g4, g5, g6]
def isCode : Jvm.Cond → Bool
  | .code _ _ _ _ => true
  | _ => false
theorem all_split {L : List Jvm.Cond} {P : Jvm.Cond → Bool} (h1 : L.all (fun c => isCode c || P c) = true) (h2 : ∀ c ∈ L.filter isCode, P c = true) : L.all P = true := by
  refine List.all_eq_true.mpr fun c hc => ?_
  have h := List.all_eq_true.mp h1 c hc
  rcases Bool.eq_false_or_eq_true (isCode c) with hi | hi
  · exact h2 c (List.mem_filter.mpr ⟨hc, hi⟩)
  · simpa [hi] using h
set_option maxRecDepth 65536 in
theorem w_c0 : (Jvm.Cond.code x code maxLocals ret).before args0 about1 = true := code_word (m := ⟨1, 1⟩) (meth := k1m1) (c := k1c1) (by decide +kernel) rfl rfl rfl (by decide +kernel)
set_option maxRecDepth 65536 in
theorem w_c1 : (Jvm.Cond.code ({ cls := "com/example/fencelock/fencelock/store/RedisAddressIsWrittenAsRedisPinLaw", name := "draw", desc := "(ICC)C" } : Jvm.MethodName) method_3_code (4 : Nat) (Option.some Jvm.ClassFile.FieldType.char)).before args0 about1 = true := code_word (m := ⟨1, 2⟩) (meth := k1m2) (c := k1c2) (by decide +kernel) rfl rfl rfl (by decide +kernel)
set_option maxRecDepth 65536 in
theorem w_c2 : (Jvm.Cond.code ({ cls := "java/lang/String", name := "<init>", desc := "([C)V" } : Jvm.MethodName) jdk_42_method_3_code (2 : Nat) (Option.none : Option Jvm.ClassFile.FieldType)).before args0 about1 = true := code_word (m := ⟨7, 1⟩) (meth := k7m1) (c := k7c1) (by decide +kernel) rfl rfl rfl (by decide +kernel)
set_option maxRecDepth 65536 in
theorem w_c3 : (Jvm.Cond.code ({ cls := "java/lang/String", name := "<init>", desc := "([CIILjava/lang/Void;)V" } : Jvm.MethodName) jdk_42_method_149_code (6 : Nat) (Option.none : Option Jvm.ClassFile.FieldType)).before args0 about1 = true := code_word (m := ⟨7, 4⟩) (meth := k7m4) (c := k7c4) (by decide +kernel) rfl rfl rfl (by decide +kernel)
set_option maxRecDepth 65536 in
theorem w_c4 : (Jvm.Cond.code ({ cls := "java/lang/Object", name := "<init>", desc := "()V" } : Jvm.MethodName) object_method_1_code (1 : Nat) (Option.none : Option Jvm.ClassFile.FieldType)).before args0 about1 = true := code_word (m := ⟨0, 0⟩) (meth := k0m0) (c := k0c0) (by decide +kernel) rfl rfl rfl (by decide +kernel)
set_option maxRecDepth 65536 in
theorem w_c5 : (Jvm.Cond.code ({ cls := "java/lang/StringUTF16", name := "compress", desc := "([CII)[B" } : Jvm.MethodName) jdk_52_method_16_code (6 : Nat) (Option.some (Jvm.ClassFile.FieldType.array Jvm.ClassFile.FieldType.byte))).before args0 about1 = true := code_word (m := ⟨8, 2⟩) (meth := k8m2) (c := k8c2) (by decide +kernel) rfl rfl rfl (by decide +kernel)
set_option maxRecDepth 65536 in
theorem w_c6 : (Jvm.Cond.code ({ cls := "java/lang/StringUTF16", name := "compress", desc := "([CI[BII)I" } : Jvm.MethodName) jdk_52_method_21_code (7 : Nat) (Option.some Jvm.ClassFile.FieldType.int)).before args0 about1 = true := code_word (m := ⟨8, 3⟩) (meth := k8m3) (c := k8c3) (by decide +kernel) rfl rfl rfl (by decide +kernel)
set_option maxRecDepth 65536 in
theorem w_c7 : (Jvm.Cond.code ({ cls := "java/lang/StringUTF16", name := "coderFromArrayLen", desc := "([BI)B" } : Jvm.MethodName) jdk_52_method_15_code (2 : Nat) (Option.some Jvm.ClassFile.FieldType.byte)).before args0 about1 = true := code_word (m := ⟨8, 1⟩) (meth := k8m1) (c := k8c1) (by decide +kernel) rfl rfl rfl (by decide +kernel)
set_option maxRecDepth 65536 in
theorem w_c8 : (Jvm.Cond.code ({ cls := "com/example/fencelock/fencelock/store/RedisAddressIsWrittenAsRedisPinLaw", name := "is", desc := "(CCC)Z" } : Jvm.MethodName) method_4_code (3 : Nat) (Option.some Jvm.ClassFile.FieldType.boolean)).before args0 about1 = true := code_word (m := ⟨1, 3⟩) (meth := k1m3) (c := k1c3) (by decide +kernel) rfl rfl rfl (by decide +kernel)
set_option maxRecDepth 65536 in
theorem w_c9 : (Jvm.Cond.code ({ cls := "com/example/fencelock/fencelock/store/RedisAddress", name := "isWrittenAsRedis", desc := "(Ljava/lang/String;)Z" } : Jvm.MethodName) prog_16_method_2_code (2 : Nat) (Option.some Jvm.ClassFile.FieldType.boolean)).before args0 about1 = true := code_word (m := ⟨9, 0⟩) (meth := k9m0) (c := k9c0) (by decide +kernel) rfl rfl rfl (by decide +kernel)
set_option maxRecDepth 65536 in
theorem w_c10 : (Jvm.Cond.code ({ cls := "java/lang/String", name := "length", desc := "()I" } : Jvm.MethodName) jdk_42_method_54_code (1 : Nat) (Option.some Jvm.ClassFile.FieldType.int)).before args0 about1 = true := code_word (m := ⟨7, 2⟩) (meth := k7m2) (c := k7c2) (by decide +kernel) rfl rfl rfl (by decide +kernel)
set_option maxRecDepth 65536 in
theorem w_c11 : (Jvm.Cond.code ({ cls := "java/lang/String", name := "coder", desc := "()B" } : Jvm.MethodName) jdk_42_method_152_code (1 : Nat) (Option.some Jvm.ClassFile.FieldType.byte)).before args0 about1 = true := code_word (m := ⟨7, 5⟩) (meth := k7m5) (c := k7c5) (by decide +kernel) rfl rfl rfl (by decide +kernel)
set_option maxRecDepth 65536 in
theorem w_c12 : (Jvm.Cond.code ({ cls := "java/lang/String", name := "regionMatches", desc := "(ZILjava/lang/String;II)Z" } : Jvm.MethodName) jdk_42_method_74_code (9 : Nat) (Option.some Jvm.ClassFile.FieldType.boolean)).before args0 about1 = true := code_word (m := ⟨7, 3⟩) (meth := k7m3) (c := k7c3) (by decide +kernel) rfl rfl rfl (by decide +kernel)
set_option maxRecDepth 65536 in
theorem w_c13 : (Jvm.Cond.code ({ cls := "java/lang/StringLatin1", name := "regionMatchesCI", desc := "([BI[BII)Z" } : Jvm.MethodName) jdk_43_method_30_code (8 : Nat) (Option.some Jvm.ClassFile.FieldType.boolean)).before args0 about1 = true := code_word (m := ⟨10, 1⟩) (meth := k10m1) (c := k10c1) (by decide +kernel) rfl rfl rfl (by decide +kernel)
set_option maxRecDepth 65536 in
theorem w_c14 : (Jvm.Cond.code ({ cls := "java/lang/CharacterDataLatin1", name := "equalsIgnoreCase", desc := "(BB)Z" } : Jvm.MethodName) jdk_116_method_22_code (3 : Nat) (Option.some Jvm.ClassFile.FieldType.boolean)).before args0 about1 = true := code_word (m := ⟨12, 0⟩) (meth := k12m0) (c := k12c0) (by decide +kernel) rfl rfl rfl (by decide +kernel)
def codes1 : List Jvm.Cond := [Jvm.Cond.code x code maxLocals ret, Jvm.Cond.code ({ cls := "com/example/fencelock/fencelock/store/RedisAddressIsWrittenAsRedisPinLaw", name := "draw", desc := "(ICC)C" } : Jvm.MethodName) method_3_code (4 : Nat) (Option.some Jvm.ClassFile.FieldType.char), Jvm.Cond.code ({ cls := "java/lang/String", name := "<init>", desc := "([C)V" } : Jvm.MethodName) jdk_42_method_3_code (2 : Nat) (Option.none : Option Jvm.ClassFile.FieldType), Jvm.Cond.code ({ cls := "java/lang/String", name := "<init>", desc := "([CIILjava/lang/Void;)V" } : Jvm.MethodName) jdk_42_method_149_code (6 : Nat) (Option.none : Option Jvm.ClassFile.FieldType), Jvm.Cond.code ({ cls := "java/lang/Object", name := "<init>", desc := "()V" } : Jvm.MethodName) object_method_1_code (1 : Nat) (Option.none : Option Jvm.ClassFile.FieldType), Jvm.Cond.code ({ cls := "java/lang/StringUTF16", name := "compress", desc := "([CII)[B" } : Jvm.MethodName) jdk_52_method_16_code (6 : Nat) (Option.some (Jvm.ClassFile.FieldType.array Jvm.ClassFile.FieldType.byte)), Jvm.Cond.code ({ cls := "java/lang/StringUTF16", name := "compress", desc := "([CI[BII)I" } : Jvm.MethodName) jdk_52_method_21_code (7 : Nat) (Option.some Jvm.ClassFile.FieldType.int), Jvm.Cond.code ({ cls := "java/lang/StringUTF16", name := "coderFromArrayLen", desc := "([BI)B" } : Jvm.MethodName) jdk_52_method_15_code (2 : Nat) (Option.some Jvm.ClassFile.FieldType.byte), Jvm.Cond.code ({ cls := "com/example/fencelock/fencelock/store/RedisAddressIsWrittenAsRedisPinLaw", name := "is", desc := "(CCC)Z" } : Jvm.MethodName) method_4_code (3 : Nat) (Option.some Jvm.ClassFile.FieldType.boolean), Jvm.Cond.code ({ cls := "com/example/fencelock/fencelock/store/RedisAddress", name := "isWrittenAsRedis", desc := "(Ljava/lang/String;)Z" } : Jvm.MethodName) prog_16_method_2_code (2 : Nat) (Option.some Jvm.ClassFile.FieldType.boolean), Jvm.Cond.code ({ cls := "java/lang/String", name := "length", desc := "()I" } : Jvm.MethodName) jdk_42_method_54_code (1 : Nat) (Option.some Jvm.ClassFile.FieldType.int), Jvm.Cond.code ({ cls := "java/lang/String", name := "coder", desc := "()B" } : Jvm.MethodName) jdk_42_method_152_code (1 : Nat) (Option.some Jvm.ClassFile.FieldType.byte), Jvm.Cond.code ({ cls := "java/lang/String", name := "regionMatches", desc := "(ZILjava/lang/String;II)Z" } : Jvm.MethodName) jdk_42_method_74_code (9 : Nat) (Option.some Jvm.ClassFile.FieldType.boolean), Jvm.Cond.code ({ cls := "java/lang/StringLatin1", name := "regionMatchesCI", desc := "([BI[BII)Z" } : Jvm.MethodName) jdk_43_method_30_code (8 : Nat) (Option.some Jvm.ClassFile.FieldType.boolean), Jvm.Cond.code ({ cls := "java/lang/CharacterDataLatin1", name := "equalsIgnoreCase", desc := "(BB)Z" } : Jvm.MethodName) jdk_116_method_22_code (3 : Nat) (Option.some Jvm.ClassFile.FieldType.boolean)]
set_option maxRecDepth 65536 in
theorem codes_eq : words1.filter isCode = codes1 := rfl
theorem w_codes : ∀ c ∈ words1.filter isCode, c.before args0 about1 = true := by
  rw [codes_eq]
  intro c hc
  simp only [codes1, List.mem_cons, List.not_mem_nil, or_false] at hc
  rcases hc with rfl | rfl | rfl | rfl | rfl | rfl | rfl | rfl | rfl | rfl | rfl | rfl | rfl | rfl | rfl
  · exact w_c0
  · exact w_c1
  · exact w_c2
  · exact w_c3
  · exact w_c4
  · exact w_c5
  · exact w_c6
  · exact w_c7
  · exact w_c8
  · exact w_c9
  · exact w_c10
  · exact w_c11
  · exact w_c12
  · exact w_c13
  · exact w_c14
set_option maxRecDepth 65536 in
theorem w_t1 : (words1.take 24).all (fun c => isCode c || c.before args0 about1) = true := by decide +kernel
set_option maxRecDepth 65536 in
theorem w_t2 : ((words1.drop 24).take 24).all (fun c => isCode c || c.before args0 about1) = true := by decide +kernel
set_option maxRecDepth 65536 in
theorem w_t3 : ((words1.drop 24).drop 24).all (fun c => isCode c || c.before args0 about1) = true := by decide +kernel
theorem w_tables : (allAtoms (Jvm.Cond.code x code maxLocals ret :: tables_1)).before args0 about1 = true := by
  rw [allAtoms_all]
  show words1.all (fun c => c.before args0 about1) = true
  refine all_split ?_ w_codes
  rw [← List.take_append_drop 24 words1, List.all_append, w_t1, ← List.take_append_drop 24 (words1.drop 24), List.all_append, w_t2, w_t3]
  rfl
set_option maxRecDepth 65536 in
theorem w_rest : rest_1_c.before args0 about1 = true := by decide +kernel
set_option maxRecDepth 65536 in
theorem w_case : (Jvm.Cond.and given_1 narrow_1).before args0 about1 = true := by decide +kernel
set_option maxRecDepth 65536 in
theorem w_consts : constsHeld consts_1 about1 := Jvm.Lit.constsHeldB_iff.mp (by decide +kernel)
theorem w_applies : (headSpec (Jvm.Cond.code x code maxLocals ret :: tables_1) room_1).applies x e0.platform about1 = true :=
  (Spec.applies_iff w_frames).mpr ⟨w_running, w_runnable, w_alone, w_named, w_hears, w_ripe, w_room, w_tables⟩
theorem atStart : AtStart classFile x code maxLocals ret World_1 tables_1 room_1 Calls_1 rest_1 Pre_1 launch0 p0 e0 about1 theMethod args0 below0 :=
  ⟨lists_1, trivial, launch0.admits_env _ _ _, launch0.least_env, fairChoices_fair.cas, fairChoices_fair.clock, w_frames, w_args, w_heap, w_applies, ⟨w_consts, trivial⟩, w_rest, w_case⟩
end start1
theorem witness_1 : WitnessClaimed_1 := ⟨start1.p0, start1.e0, start1.about1, start1.theMethod, start1.args0, start1.below0, start1.atStart⟩
end Jvm.Pilot.@@N@@
