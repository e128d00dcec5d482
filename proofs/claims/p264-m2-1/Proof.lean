import JvmDerived
import JvmDerived.Pilot.@@N@@Statement
import JvmDerived.Pilot.@@N@@Code
set_option linter.unusedVariables false
set_option linter.unusedSimpArgs false
namespace Jvm.RoadKit
open Sem ClassFile Op Lib Jvm.Stand Jvm.Free Jvm.LawKit
section Own
/-- the walk comes to its end from here: it returns, what it returns and the heap are as Q says, nothing old is written -/
def End (Z : State) (p : Program) (e : Env) (below : List Frame) (s : State) (Q : Option Value → Heap → Prop) (kc ks : Nat) (T : State) (g : JFrame) : Prop :=
  ∃ s₂ o, Steps p.tables e below (T.setTop g) s₂ ∧ s₂.status = .running ∧ Ended s₂ below o ∧ ∃ v L, o = .returned v ∧ (Fr Z.heap.size L ∧ Ext Z.heap s₂.heap ∧ Q v s₂.heap) ∧ ReturnedEndW s o s₂ L kc ks
/-- where the walk stands, with all that is fixed in a body -/
def Sd (l : Launch) (Z : State) (own nm : String) (bytes : ByteArray) (ml : Nat) (ret : Option FieldType) (R : Room) (p : Program) (e : Env) (s : State) (m : MethodId) (args : Array Value) (below : List Frame) (T : State) (h : Heap) (cells slots : Nat) : Prop :=
  ∃ (meth : Method) (c : Code) (locs : List Loc) (vm0 : Vm) (k0 : Nat), s.Since vm0 k0 ∧ k0 ≤ h.size ∧ Stand p l e R (s.setVm vm0) m args below meth c T locs cells slots ∧ Fr Z.heap.size locs ∧ T.heap = h ∧ Ext Z.heap h ∧ p.tables.exec = Jvm.exec ∧ c.code = bytes ∧ c.maxLocals = ml ∧ vm0.findClass own = some m.cls ∧ meth.name = nm ∧ meth.sig.returnType = ret ∧ meth.locks = false ∧ Z.Warmed39 vm0
/-- a contract: called with these arguments over the heap h0 the body returns, as Q says -/
def Con (l : Launch) (Z : State) (y : MethodName) (bytes : ByteArray) (ml : Nat) (ret : Option FieldType) (rm : Room) (as : Array Value) (h0 : Heap) (Q : Option Value → Heap → Prop) : Prop :=
  ∀ ws : List Jvm.Cond, MetFree l y (head1 (Jvm.Cond.code y bytes ml ret :: ws) rm) (fun a U => a = as ∧ Z.Warmed39 U.vm ∧ U.heap = h0) (fun _ _ _ _ _ => True) (fun _ U o U' => ∃ v L, o = .returned v ∧ (Fr Z.heap.size L ∧ Ext Z.heap U'.heap ∧ Q v U'.heap) ∧ ReturnedEndW U o U' L rm.cells rm.slots)
theorem Ext.refl (h : Heap) : Ext h h := ⟨Nat.le_refl _, fun _ _ q => q⟩
theorem Ext.trans {h h' h'' : Heap} (E : Ext h h') (E' : Ext h' h'') : Ext h h'' := ⟨Nat.le_trans E.1 E'.1, fun a c q => E'.2 a c (E.2 a c q)⟩
theorem Ext.keep {h0 h h' : Heap} {ws : List Addr} (E : Ext h0 h) (K : Keep h h' ws) (q : ∀ x ∈ ws, h0.size ≤ x) : Ext h0 h' := ⟨Nat.le_trans E.1 K.1, fun x c r => K.2.1 x c (E.2 x c r) fun z => absurd (Array.getElem?_eq_some_iff.mp r).1 (Nat.not_lt.mpr (q x z))⟩
theorem Ext.wr {h0 h h' : Heap} {a : Addr} {sl : Nat} {v : Value} (E : Ext h0 h) (W : Wr h h' a sl v) (q : h0.size ≤ a) : Ext h0 h' := E.keep (Keep.of_wr W) (allS q all0)
theorem Keep.of_ext {h h' : Heap} (E : Ext h h') (ws : List Addr) : Keep h h' ws := (Keep.refl h ws).ext E
theorem Keep.ext0 {h h' : Heap} (K : Keep h h' []) : Ext h h' := ⟨K.1, fun x c q => K.2.1 x c q nin0⟩
theorem Keep.sub {h h' : Heap} {ws ws' : List Addr} (K : Keep h h' ws) (q : ∀ x ∈ ws, x ∈ ws') : Keep h h' ws' := ⟨K.1, fun x c r n => K.2.1 x c r fun z => n (q x z), K.2.2⟩
theorem Con.of {l : Launch} {Z : State} {y : MethodName} {bytes : ByteArray} {ml : Nat} {ret : Option FieldType} {rm : Room} {as : Array Value} {h0 : Heap} {Q : Option Value → Heap → Prop} (pn : plainFor y = true) (hE : Ext Z.heap h0)
    (body : ∀ (p : Program) (e : Env) (s : State) (m : MethodId) (below : List Frame) (T : State), Sd l Z y.cls y.name bytes ml ret rm p e s m as below T h0 0 0 → End Z p e below s Q rm.cells rm.slots T (entryFrame m as ml)) : Con l Z y bytes ml ret rm as h0 Q := by
  intro ws
  refine MetFree.of_bodySF pn hisR ?_
  intro p e s m args below meth c s₁ Bd hml hP hK
  obtain ⟨rfl, hZ, hh⟩ := hP
  have X : Stand p l e rm s m args below meth c s₁ [] 0 0 := Stand.of_body Bd
  have e0 : s₁.heap = h0 := by rw [← hh, Bd.state]; rfl
  exact body p e s m below s₁ ⟨meth, c, [], s.vm, 0, (State.WarmedH.refl s).since 0, Nat.zero_le _, X, Fr.nil _, e0, hE, Bd.exec, Bd.bytes, hml, findClass_of_methodNamed Bd.named, (name_of_methodNamed Bd.named Bd.method).1, Bd.returns, Bd.notSynchronized, hZ⟩
variable {l : Launch} {Z : State} {own nm : String} {bytes : ByteArray} {ml : Nat} {ret : Option FieldType} {R : Room} {p : Program} {e : Env} {s : State} {m : MethodId} {args : Array Value} {below : List Frame} {T : State} {h : Heap} {cells slots : Nat} {Q : Option Value → Heap → Prop} {kc ks : Nat} {pc pc' : Nat} {Ls : Array Slot} {st : List Value} {a0 : Array Value}
theorem End.go {T' : State} {g g' : JFrame} (k : End Z p e below s Q kc ks T' g') (stp : ∀ target, Steps p.tables e below (T'.setTop g') target → Steps p.tables e below (T.setTop g) target) : End Z p e below s Q kc ks T g := by
  obtain ⟨s2, o, h1, h2⟩ := k
  exact ⟨s2, o, stp _ h1, h2⟩
theorem End.frame {g g' : JFrame} (q : g = g') (k : End Z p e below s Q kc ks T g') : End Z p e below s Q kc ks T g := q ▸ k
theorem End.of {Q' : Option Value → Heap → Prop} {g : JFrame} (k : End Z p e below s Q kc ks T g) (q : ∀ v h, Q v h → Q' v h) : End Z p e below s Q' kc ks T g := by
  obtain ⟨s2, o, h1, h2, h3, v, L, h4, ⟨h5, h6, h7⟩, h8⟩ := k
  exact ⟨s2, o, h1, h2, h3, v, L, h4, ⟨h5, h6, q _ _ h7⟩, h8⟩
theorem Con.imp {y : MethodName} {rm : Room} {as : Array Value} {h0 : Heap} {Q' : Option Value → Heap → Prop} (C : Con l Z y bytes ml ret rm as h0 Q) (q : ∀ v h, Q v h → Q' v h) : Con l Z y bytes ml ret rm as h0 Q' := by
  intro ws p e ha hc hk s m args below hf happ hP hK
  obtain ⟨n, o, h1, h2, h3, v, L, h4, ⟨h5, h6, h7⟩, h8⟩ := C ws p e ha hc hk s m args below hf happ hP hK
  exact ⟨n, o, h1, h2, h3, v, L, h4, ⟨h5, h6, q _ _ h7⟩, h8⟩
theorem Sd.ext (X : Sd l Z own nm bytes ml ret R p e s m args below T h cells slots) : Ext Z.heap h := by obtain ⟨meth, c, locs, vm0, k0, hS, hk, X, N, e0, E, -⟩ := X; exact E
theorem Sd.le (X : Sd l Z own nm bytes ml ret R p e s m args below T h cells slots) : Z.heap.size ≤ h.size := X.ext.1
theorem Sd.more (X : Sd l Z own nm bytes ml ret R p e s m args below T h cells slots) {cells' slots' : Nat} (h1 : cells ≤ cells') (h2 : slots ≤ slots') : Sd l Z own nm bytes ml ret R p e s m args below T h cells' slots' := by
  obtain ⟨meth, c, locs, vm0, k0, hS, hk, X, r⟩ := X; exact ⟨meth, c, locs, vm0, k0, hS, hk, X.more h1 h2, r⟩
/-! returns -/
theorem E_ret0 (X : Sd l Z own nm bytes ml none R p e s m args below T h cells slots) (hd : decode bytes pc = .ok (.return_, 1)) (h1 : cells ≤ kc) (h2 : slots ≤ ks) (hq : Q none h) : End Z p e below s Q kc ks T (mkF m pc Ls []) := by
  obtain ⟨meth, c, locs, vm0, k0, hS, hk, X, N, e0, E, hx, hb, hml, hown, hnm, hret, hlk, hZ⟩ := X
  subst hb
  obtain ⟨fs, hr, hrun, hended, hRE⟩ := X.leaveW hS (by rw [e0]; exact hk) (v := none) (fun _ => rfl)
  exact ⟨_, _, X.returnOut hx hret hd hr, hrun, hended, _, _, rfl, ⟨N, by show Ext Z.heap T.heap; rw [e0]; exact E, by show Q none T.heap; rw [e0]; exact hq⟩, hRE.1, hRE.2.1, hRE.2.2.1, hRE.2.2.2.mono h1 h2⟩
theorem E_retW {t : FieldType} {w : Value} {i : Instr} (hn : narrow t w = w) (hi : (i = .ireturn ∧ (t = .int ∨ t = .boolean ∨ t = .byte ∨ t = .char ∨ t = .short) ∧ ∃ z, w = .int z) ∨ (i = .lreturn ∧ t = .long ∧ ∃ z, w = .long z) ∨ (i = .dreturn ∧ t = .double ∧ ∃ z, w = .double z) ∨ (i = .freturn ∧ t = .float ∧ ∃ z, w = .float z) ∨ (i = .areturn ∧ t.isReference = true ∧ w.isRef = true))
    (X : Sd l Z own nm bytes ml (some t) R p e s m args below T h cells slots) (hd : decode bytes pc = .ok (i, 1)) (h1 : cells ≤ kc) (h2 : slots ≤ ks) (hq : Q (some w) h) : End Z p e below s Q kc ks T (mkF m pc Ls (w :: st)) := by
  obtain ⟨meth, c, locs, vm0, k0, hS, hk, X, N, e0, E, hx, hb, hml, hown, hnm, hret, hlk, hZ⟩ := X
  subst hb
  obtain ⟨fs, hr, hrun, hended, hRE⟩ := X.leaveW hS (by rw [e0]; exact hk) (v := some w) (fun h => by rw [hret] at h; cases h)
  exact ⟨_, _, retOut X hx hret hn hi hd hr, hrun, hended, _, _, rfl, ⟨N, by show Ext Z.heap T.heap; rw [e0]; exact E, by show Q (some w) T.heap; rw [e0]; exact hq⟩, hRE.1, hRE.2.1, hRE.2.2.1, hRE.2.2.2.mono h1 h2⟩
theorem E_retI {z : Int32} (X : Sd l Z own nm bytes ml (some .int) R p e s m args below T h cells slots) (hd : decode bytes pc = .ok (.ireturn, 1)) (h1 : cells ≤ kc) (h2 : slots ≤ ks) (hq : Q (some (.int z)) h) : End Z p e below s Q kc ks T (mkF m pc Ls (.int z :: st)) :=
  E_retW (t := .int) rfl (Or.inl ⟨rfl, Or.inl rfl, z, rfl⟩) X hd h1 h2 hq
theorem E_retL {z : Int64} (X : Sd l Z own nm bytes ml (some .long) R p e s m args below T h cells slots) (hd : decode bytes pc = .ok (.lreturn, 1)) (h1 : cells ≤ kc) (h2 : slots ≤ ks) (hq : Q (some (.long z)) h) : End Z p e below s Q kc ks T (mkF m pc Ls (.long z :: st)) :=
  E_retW (t := .long) rfl (Or.inr (Or.inl ⟨rfl, rfl, z, rfl⟩)) X hd h1 h2 hq
theorem E_retA {t : FieldType} {w : Value} (X : Sd l Z own nm bytes ml (some t) R p e s m args below T h cells slots) (hd : decode bytes pc = .ok (.areturn, 1)) (ht : t.isReference = true) (hw : w.isRef = true) (h1 : cells ≤ kc) (h2 : slots ≤ ks) (hq : Q (some w) h) : End Z p e below s Q kc ks T (mkF m pc Ls (w :: st)) :=
  E_retW (by rcases ref_cases hw with rfl | ⟨a, rfl⟩ <;> (cases t <;> first | rfl | (simp [FieldType.isReference] at ht))) (Or.inr (Or.inr (Or.inr (Or.inr ⟨rfl, ht, hw⟩)))) X hd h1 h2 hq
theorem E_retZ {z : Int32} (hz : z = 0 ∨ z = 1) (X : Sd l Z own nm bytes ml (some .boolean) R p e s m args below T h cells slots) (hd : decode bytes pc = .ok (.ireturn, 1)) (h1 : cells ≤ kc) (h2 : slots ≤ ks) (hq : Q (some (.int z)) h) : End Z p e below s Q kc ks T (mkF m pc Ls (.int z :: st)) :=
  E_retW (t := .boolean) (by rcases hz with rfl | rfl <;> rfl) (Or.inl ⟨rfl, Or.inr (Or.inl rfl), z, rfl⟩) X hd h1 h2 hq
theorem E_iloadN (X : Sd l Z own nm bytes ml ret R p e s m args below T h cells slots) {i : Fin 4} {v : Int32} (hd : decode bytes pc = .ok (.iload_n i, 1)) (hp : pc + 1 = pc') (hl : Ls[i.val]? = some (.val (.int v))) (k : End Z p e below s Q kc ks T (mkF m pc' Ls (.int v :: st))) : End Z p e below s Q kc ks T (mkF m pc Ls st) := by
  subst hp; obtain ⟨meth, c, locs, vm0, k0, hS, hk, X, -, -, -, hx, hb, -⟩ := X; subst hb
  exact k.go fun _ => XS.iloadN X.here hx (g := mkF m pc Ls st) rfl hd hl
theorem E_iload (X : Sd l Z own nm bytes ml ret R p e s m args below T h cells slots) {i : Nat} {v : Int32} (hd : decode bytes pc = .ok (.iload i, 2)) (hp : pc + 2 = pc') (hl : Ls[i]? = some (.val (.int v))) (k : End Z p e below s Q kc ks T (mkF m pc' Ls (.int v :: st))) : End Z p e below s Q kc ks T (mkF m pc Ls st) := by
  subst hp; obtain ⟨meth, c, locs, vm0, k0, hS, hk, X, -, -, -, hx, hb, -⟩ := X; subst hb
  exact k.go fun _ => XS.iload X.here hx (g := mkF m pc Ls st) rfl hd hl
theorem E_istoreN (X : Sd l Z own nm bytes ml ret R p e s m args below T h cells slots) {i : Fin 4} {v : Int32} {Ls' : Array Slot} (hd : decode bytes pc = .ok (.istore_n i, 1)) (hp : pc + 1 = pc') (hl : storeLocals Ls i.val (.int v) = some Ls') (k : End Z p e below s Q kc ks T (mkF m pc' Ls' st)) : End Z p e below s Q kc ks T (mkF m pc Ls (.int v :: st)) := by
  subst hp; obtain ⟨meth, c, locs, vm0, k0, hS, hk, X, -, -, -, hx, hb, -⟩ := X; subst hb
  exact k.go fun _ => XS.istoreN X.here hx (g := mkF m pc Ls (.int v :: st)) rfl hd rfl hl
theorem E_istore (X : Sd l Z own nm bytes ml ret R p e s m args below T h cells slots) {i : Nat} {v : Int32} {Ls' : Array Slot} (hd : decode bytes pc = .ok (.istore i, 2)) (hp : pc + 2 = pc') (hl : storeLocals Ls i (.int v) = some Ls') (k : End Z p e below s Q kc ks T (mkF m pc' Ls' st)) : End Z p e below s Q kc ks T (mkF m pc Ls (.int v :: st)) := by
  subst hp; obtain ⟨meth, c, locs, vm0, k0, hS, hk, X, -, -, -, hx, hb, -⟩ := X; subst hb
  exact k.go fun _ => XS.istore X.here hx (g := mkF m pc Ls (.int v :: st)) rfl hd rfl hl
theorem E_lloadN (X : Sd l Z own nm bytes ml ret R p e s m args below T h cells slots) {i : Fin 4} {v : Int64} (hd : decode bytes pc = .ok (.lload_n i, 1)) (hp : pc + 1 = pc') (hl : Ls[i.val]? = some (.val (.long v))) (k : End Z p e below s Q kc ks T (mkF m pc' Ls (.long v :: st))) : End Z p e below s Q kc ks T (mkF m pc Ls st) := by
  subst hp; obtain ⟨meth, c, locs, vm0, k0, hS, hk, X, -, -, -, hx, hb, -⟩ := X; subst hb
  exact k.go fun _ => XS.lloadN X.here hx (g := mkF m pc Ls st) rfl hd hl
theorem E_lload (X : Sd l Z own nm bytes ml ret R p e s m args below T h cells slots) {i : Nat} {v : Int64} (hd : decode bytes pc = .ok (.lload i, 2)) (hp : pc + 2 = pc') (hl : Ls[i]? = some (.val (.long v))) (k : End Z p e below s Q kc ks T (mkF m pc' Ls (.long v :: st))) : End Z p e below s Q kc ks T (mkF m pc Ls st) := by
  subst hp; obtain ⟨meth, c, locs, vm0, k0, hS, hk, X, -, -, -, hx, hb, -⟩ := X; subst hb
  exact k.go fun _ => XS.lload X.here hx (g := mkF m pc Ls st) rfl hd hl
theorem E_lstoreN (X : Sd l Z own nm bytes ml ret R p e s m args below T h cells slots) {i : Fin 4} {v : Int64} {Ls' : Array Slot} (hd : decode bytes pc = .ok (.lstore_n i, 1)) (hp : pc + 1 = pc') (hl : storeLocals Ls i.val (.long v) = some Ls') (k : End Z p e below s Q kc ks T (mkF m pc' Ls' st)) : End Z p e below s Q kc ks T (mkF m pc Ls (.long v :: st)) := by
  subst hp; obtain ⟨meth, c, locs, vm0, k0, hS, hk, X, -, -, -, hx, hb, -⟩ := X; subst hb
  exact k.go fun _ => XS.lstoreN X.here hx (g := mkF m pc Ls (.long v :: st)) rfl hd rfl hl
theorem E_lstore (X : Sd l Z own nm bytes ml ret R p e s m args below T h cells slots) {i : Nat} {v : Int64} {Ls' : Array Slot} (hd : decode bytes pc = .ok (.lstore i, 2)) (hp : pc + 2 = pc') (hl : storeLocals Ls i (.long v) = some Ls') (k : End Z p e below s Q kc ks T (mkF m pc' Ls' st)) : End Z p e below s Q kc ks T (mkF m pc Ls (.long v :: st)) := by
  subst hp; obtain ⟨meth, c, locs, vm0, k0, hS, hk, X, -, -, -, hx, hb, -⟩ := X; subst hb
  exact k.go fun _ => XS.lstore X.here hx (g := mkF m pc Ls (.long v :: st)) rfl hd rfl hl
theorem E_aloadN (X : Sd l Z own nm bytes ml ret R p e s m args below T h cells slots) {i : Fin 4} {v : Value} (hd : decode bytes pc = .ok (.aload_n i, 1)) (hp : pc + 1 = pc') (hl : Ls[i.val]? = some (.val v)) (hv : v.isRef = true) (k : End Z p e below s Q kc ks T (mkF m pc' Ls (v :: st))) : End Z p e below s Q kc ks T (mkF m pc Ls st) := by
  subst hp; obtain ⟨meth, c, locs, vm0, k0, hS, hk, X, -, -, -, hx, hb, -⟩ := X; subst hb
  exact k.go fun _ => XS.aloadN X.here hx (g := mkF m pc Ls st) rfl hd hl hv
theorem E_aload (X : Sd l Z own nm bytes ml ret R p e s m args below T h cells slots) {i : Nat} {v : Value} (hd : decode bytes pc = .ok (.aload i, 2)) (hp : pc + 2 = pc') (hl : Ls[i]? = some (.val v)) (hv : v.isRef = true) (k : End Z p e below s Q kc ks T (mkF m pc' Ls (v :: st))) : End Z p e below s Q kc ks T (mkF m pc Ls st) := by
  subst hp; obtain ⟨meth, c, locs, vm0, k0, hS, hk, X, -, -, -, hx, hb, -⟩ := X; subst hb
  exact k.go fun _ => XS.aload X.here hx (g := mkF m pc Ls st) rfl hd hl hv
theorem E_astoreN (X : Sd l Z own nm bytes ml ret R p e s m args below T h cells slots) {i : Fin 4} {v : Value} {Ls' : Array Slot} (hd : decode bytes pc = .ok (.astore_n i, 1)) (hp : pc + 1 = pc') (hv : v.isRef = true) (hl : storeLocals Ls i.val v = some Ls') (k : End Z p e below s Q kc ks T (mkF m pc' Ls' st)) : End Z p e below s Q kc ks T (mkF m pc Ls (v :: st)) := by
  subst hp; obtain ⟨meth, c, locs, vm0, k0, hS, hk, X, -, -, -, hx, hb, -⟩ := X; subst hb
  exact k.go fun _ => XS.astoreN X.here hx (g := mkF m pc Ls (v :: st)) rfl hd rfl hv hl
theorem E_astore (X : Sd l Z own nm bytes ml ret R p e s m args below T h cells slots) {i : Nat} {v : Value} {Ls' : Array Slot} (hd : decode bytes pc = .ok (.astore i, 2)) (hp : pc + 2 = pc') (hv : v.isRef = true) (hl : storeLocals Ls i v = some Ls') (k : End Z p e below s Q kc ks T (mkF m pc' Ls' st)) : End Z p e below s Q kc ks T (mkF m pc Ls (v :: st)) := by
  subst hp; obtain ⟨meth, c, locs, vm0, k0, hS, hk, X, -, -, -, hx, hb, -⟩ := X; subst hb
  exact k.go fun _ => XS.astore X.here hx (g := mkF m pc Ls (v :: st)) rfl hd rfl hv hl
theorem E_iconst (X : Sd l Z own nm bytes ml ret R p e s m args below T h cells slots) {i : Int} {v : Int32} (hd : decode bytes pc = .ok (.iconst i, 1)) (hp : pc + 1 = pc') (hv : Int32.ofInt i = v) (k : End Z p e below s Q kc ks T (mkF m pc' Ls (.int v :: st))) : End Z p e below s Q kc ks T (mkF m pc Ls st) := by
  subst hp; obtain ⟨meth, c, locs, vm0, k0, hS, hk, X, -, -, -, hx, hb, -⟩ := X; subst hb
  exact k.go fun _ => by subst hv; exact XS.iconst X.here hx (g := mkF m pc Ls st) rfl hd
theorem E_bipush (X : Sd l Z own nm bytes ml ret R p e s m args below T h cells slots) {i : Int} {v : Int32} (hd : decode bytes pc = .ok (.bipush i, 2)) (hp : pc + 2 = pc') (hv : (Int8.ofInt i).toInt32 = v) (k : End Z p e below s Q kc ks T (mkF m pc' Ls (.int v :: st))) : End Z p e below s Q kc ks T (mkF m pc Ls st) := by
  subst hp; obtain ⟨meth, c, locs, vm0, k0, hS, hk, X, -, -, -, hx, hb, -⟩ := X; subst hb
  exact k.go fun _ => by subst hv; exact XS.bipush X.here hx (g := mkF m pc Ls st) rfl hd
theorem E_sipush (X : Sd l Z own nm bytes ml ret R p e s m args below T h cells slots) {i : Int} {v : Int32} (hd : decode bytes pc = .ok (.sipush i, 3)) (hp : pc + 3 = pc') (hv : (Int16.ofInt i).toInt32 = v) (k : End Z p e below s Q kc ks T (mkF m pc' Ls (.int v :: st))) : End Z p e below s Q kc ks T (mkF m pc Ls st) := by
  subst hp; obtain ⟨meth, c, locs, vm0, k0, hS, hk, X, -, -, -, hx, hb, -⟩ := X; subst hb
  exact k.go fun _ => by subst hv; exact XS.sipush X.here hx (g := mkF m pc Ls st) rfl hd
theorem E_lconst (X : Sd l Z own nm bytes ml ret R p e s m args below T h cells slots) {i : Fin 2} {v : Int64} (hd : decode bytes pc = .ok (.lconst i, 1)) (hp : pc + 1 = pc') (hv : Int64.ofNat i = v) (k : End Z p e below s Q kc ks T (mkF m pc' Ls (.long v :: st))) : End Z p e below s Q kc ks T (mkF m pc Ls st) := by
  subst hp; obtain ⟨meth, c, locs, vm0, k0, hS, hk, X, -, -, -, hx, hb, -⟩ := X; subst hb
  exact k.go fun _ => by subst hv; exact XS.lconst X.here hx (g := mkF m pc Ls st) rfl hd
theorem E_null (X : Sd l Z own nm bytes ml ret R p e s m args below T h cells slots)  (hd : decode bytes pc = .ok (.aconst_null, 1)) (hp : pc + 1 = pc') (k : End Z p e below s Q kc ks T (mkF m pc' Ls (.null :: st))) : End Z p e below s Q kc ks T (mkF m pc Ls st) := by
  subst hp; obtain ⟨meth, c, locs, vm0, k0, hS, hk, X, -, -, -, hx, hb, -⟩ := X; subst hb
  exact k.go fun _ => XS.aconstNull X.here hx (g := mkF m pc Ls st) rfl hd
theorem E_iadd (X : Sd l Z own nm bytes ml ret R p e s m args below T h cells slots) {x y : Int32} (hd : decode bytes pc = .ok (.iadd, 1)) (hp : pc + 1 = pc') (k : End Z p e below s Q kc ks T (mkF m pc' Ls (.int (x + y) :: st))) : End Z p e below s Q kc ks T (mkF m pc Ls (.int y :: .int x :: st)) := by
  subst hp; obtain ⟨meth, c, locs, vm0, k0, hS, hk, X, -, -, -, hx, hb, -⟩ := X; subst hb
  exact k.go fun _ => XS.iadd X.here hx (g := mkF m pc Ls (.int y :: .int x :: st)) rfl hd rfl
theorem E_isub (X : Sd l Z own nm bytes ml ret R p e s m args below T h cells slots) {x y : Int32} (hd : decode bytes pc = .ok (.isub, 1)) (hp : pc + 1 = pc') (k : End Z p e below s Q kc ks T (mkF m pc' Ls (.int (x - y) :: st))) : End Z p e below s Q kc ks T (mkF m pc Ls (.int y :: .int x :: st)) := by
  subst hp; obtain ⟨meth, c, locs, vm0, k0, hS, hk, X, -, -, -, hx, hb, -⟩ := X; subst hb
  exact k.go fun _ => XS.isub X.here hx (g := mkF m pc Ls (.int y :: .int x :: st)) rfl hd rfl
theorem E_imul (X : Sd l Z own nm bytes ml ret R p e s m args below T h cells slots) {x y : Int32} (hd : decode bytes pc = .ok (.imul, 1)) (hp : pc + 1 = pc') (k : End Z p e below s Q kc ks T (mkF m pc' Ls (.int (x * y) :: st))) : End Z p e below s Q kc ks T (mkF m pc Ls (.int y :: .int x :: st)) := by
  subst hp; obtain ⟨meth, c, locs, vm0, k0, hS, hk, X, -, -, -, hx, hb, -⟩ := X; subst hb
  exact k.go fun _ => XS.imul X.here hx (g := mkF m pc Ls (.int y :: .int x :: st)) rfl hd rfl
theorem E_iand (X : Sd l Z own nm bytes ml ret R p e s m args below T h cells slots) {x y : Int32} (hd : decode bytes pc = .ok (.iand, 1)) (hp : pc + 1 = pc') (k : End Z p e below s Q kc ks T (mkF m pc' Ls (.int (x &&& y) :: st))) : End Z p e below s Q kc ks T (mkF m pc Ls (.int y :: .int x :: st)) := by
  subst hp; obtain ⟨meth, c, locs, vm0, k0, hS, hk, X, -, -, -, hx, hb, -⟩ := X; subst hb
  exact k.go fun _ => XS.iand X.here hx (g := mkF m pc Ls (.int y :: .int x :: st)) rfl hd rfl
theorem E_ior (X : Sd l Z own nm bytes ml ret R p e s m args below T h cells slots) {x y : Int32} (hd : decode bytes pc = .ok (.ior, 1)) (hp : pc + 1 = pc') (k : End Z p e below s Q kc ks T (mkF m pc' Ls (.int (x ||| y) :: st))) : End Z p e below s Q kc ks T (mkF m pc Ls (.int y :: .int x :: st)) := by
  subst hp; obtain ⟨meth, c, locs, vm0, k0, hS, hk, X, -, -, -, hx, hb, -⟩ := X; subst hb
  exact k.go fun _ => XS.ior X.here hx (g := mkF m pc Ls (.int y :: .int x :: st)) rfl hd rfl
theorem E_ixor (X : Sd l Z own nm bytes ml ret R p e s m args below T h cells slots) {x y : Int32} (hd : decode bytes pc = .ok (.ixor, 1)) (hp : pc + 1 = pc') (k : End Z p e below s Q kc ks T (mkF m pc' Ls (.int (x ^^^ y) :: st))) : End Z p e below s Q kc ks T (mkF m pc Ls (.int y :: .int x :: st)) := by
  subst hp; obtain ⟨meth, c, locs, vm0, k0, hS, hk, X, -, -, -, hx, hb, -⟩ := X; subst hb
  exact k.go fun _ => XS.ixor X.here hx (g := mkF m pc Ls (.int y :: .int x :: st)) rfl hd rfl
theorem E_idiv (X : Sd l Z own nm bytes ml ret R p e s m args below T h cells slots) {x y : Int32} (hd : decode bytes pc = .ok (.idiv, 1)) (hp : pc + 1 = pc') (hy : y ≠ 0) (k : End Z p e below s Q kc ks T (mkF m pc' Ls (.int (x / y) :: st))) : End Z p e below s Q kc ks T (mkF m pc Ls (.int y :: .int x :: st)) := by
  subst hp; obtain ⟨meth, c, locs, vm0, k0, hS, hk, X, -, -, -, hx, hb, -⟩ := X; subst hb
  exact k.go fun _ => XS.idiv X.here hx (g := mkF m pc Ls (.int y :: .int x :: st)) rfl hd rfl hy
theorem E_ineg (X : Sd l Z own nm bytes ml ret R p e s m args below T h cells slots) {x : Int32} (hd : decode bytes pc = .ok (.ineg, 1)) (hp : pc + 1 = pc') (k : End Z p e below s Q kc ks T (mkF m pc' Ls (.int (-x) :: st))) : End Z p e below s Q kc ks T (mkF m pc Ls (.int x :: st)) := by
  subst hp; obtain ⟨meth, c, locs, vm0, k0, hS, hk, X, -, -, -, hx, hb, -⟩ := X; subst hb
  exact k.go fun _ => XS.ineg X.here hx (g := mkF m pc Ls (.int x :: st)) rfl hd rfl
theorem E_ladd (X : Sd l Z own nm bytes ml ret R p e s m args below T h cells slots) {x y : Int64} (hd : decode bytes pc = .ok (.ladd, 1)) (hp : pc + 1 = pc') (k : End Z p e below s Q kc ks T (mkF m pc' Ls (.long (x + y) :: st))) : End Z p e below s Q kc ks T (mkF m pc Ls (.long y :: .long x :: st)) := by
  subst hp; obtain ⟨meth, c, locs, vm0, k0, hS, hk, X, -, -, -, hx, hb, -⟩ := X; subst hb
  exact k.go fun _ => XS.ladd X.here hx (g := mkF m pc Ls (.long y :: .long x :: st)) rfl hd rfl
theorem E_lsub (X : Sd l Z own nm bytes ml ret R p e s m args below T h cells slots) {x y : Int64} (hd : decode bytes pc = .ok (.lsub, 1)) (hp : pc + 1 = pc') (k : End Z p e below s Q kc ks T (mkF m pc' Ls (.long (x - y) :: st))) : End Z p e below s Q kc ks T (mkF m pc Ls (.long y :: .long x :: st)) := by
  subst hp; obtain ⟨meth, c, locs, vm0, k0, hS, hk, X, -, -, -, hx, hb, -⟩ := X; subst hb
  exact k.go fun _ => XS.lsub X.here hx (g := mkF m pc Ls (.long y :: .long x :: st)) rfl hd rfl
theorem E_lmul (X : Sd l Z own nm bytes ml ret R p e s m args below T h cells slots) {x y : Int64} (hd : decode bytes pc = .ok (.lmul, 1)) (hp : pc + 1 = pc') (k : End Z p e below s Q kc ks T (mkF m pc' Ls (.long (x * y) :: st))) : End Z p e below s Q kc ks T (mkF m pc Ls (.long y :: .long x :: st)) := by
  subst hp; obtain ⟨meth, c, locs, vm0, k0, hS, hk, X, -, -, -, hx, hb, -⟩ := X; subst hb
  exact k.go fun _ => XS.lmul X.here hx (g := mkF m pc Ls (.long y :: .long x :: st)) rfl hd rfl
theorem E_land (X : Sd l Z own nm bytes ml ret R p e s m args below T h cells slots) {x y : Int64} (hd : decode bytes pc = .ok (.land, 1)) (hp : pc + 1 = pc') (k : End Z p e below s Q kc ks T (mkF m pc' Ls (.long (x &&& y) :: st))) : End Z p e below s Q kc ks T (mkF m pc Ls (.long y :: .long x :: st)) := by
  subst hp; obtain ⟨meth, c, locs, vm0, k0, hS, hk, X, -, -, -, hx, hb, -⟩ := X; subst hb
  exact k.go fun _ => XS.land X.here hx (g := mkF m pc Ls (.long y :: .long x :: st)) rfl hd rfl
theorem E_lor (X : Sd l Z own nm bytes ml ret R p e s m args below T h cells slots) {x y : Int64} (hd : decode bytes pc = .ok (.lor, 1)) (hp : pc + 1 = pc') (k : End Z p e below s Q kc ks T (mkF m pc' Ls (.long (x ||| y) :: st))) : End Z p e below s Q kc ks T (mkF m pc Ls (.long y :: .long x :: st)) := by
  subst hp; obtain ⟨meth, c, locs, vm0, k0, hS, hk, X, -, -, -, hx, hb, -⟩ := X; subst hb
  exact k.go fun _ => XS.lor X.here hx (g := mkF m pc Ls (.long y :: .long x :: st)) rfl hd rfl
theorem E_lxor (X : Sd l Z own nm bytes ml ret R p e s m args below T h cells slots) {x y : Int64} (hd : decode bytes pc = .ok (.lxor, 1)) (hp : pc + 1 = pc') (k : End Z p e below s Q kc ks T (mkF m pc' Ls (.long (x ^^^ y) :: st))) : End Z p e below s Q kc ks T (mkF m pc Ls (.long y :: .long x :: st)) := by
  subst hp; obtain ⟨meth, c, locs, vm0, k0, hS, hk, X, -, -, -, hx, hb, -⟩ := X; subst hb
  exact k.go fun _ => XS.lxor X.here hx (g := mkF m pc Ls (.long y :: .long x :: st)) rfl hd rfl
theorem E_ldiv (X : Sd l Z own nm bytes ml ret R p e s m args below T h cells slots) {x y : Int64} (hd : decode bytes pc = .ok (.ldiv, 1)) (hp : pc + 1 = pc') (hy : y ≠ 0) (k : End Z p e below s Q kc ks T (mkF m pc' Ls (.long (x / y) :: st))) : End Z p e below s Q kc ks T (mkF m pc Ls (.long y :: .long x :: st)) := by
  subst hp; obtain ⟨meth, c, locs, vm0, k0, hS, hk, X, -, -, -, hx, hb, -⟩ := X; subst hb
  exact k.go fun _ => XS.ldiv X.here hx (g := mkF m pc Ls (.long y :: .long x :: st)) rfl hd rfl hy
theorem E_lneg (X : Sd l Z own nm bytes ml ret R p e s m args below T h cells slots) {x : Int64} (hd : decode bytes pc = .ok (.lneg, 1)) (hp : pc + 1 = pc') (k : End Z p e below s Q kc ks T (mkF m pc' Ls (.long (-x) :: st))) : End Z p e below s Q kc ks T (mkF m pc Ls (.long x :: st)) := by
  subst hp; obtain ⟨meth, c, locs, vm0, k0, hS, hk, X, -, -, -, hx, hb, -⟩ := X; subst hb
  exact k.go fun _ => XS.lneg X.here hx (g := mkF m pc Ls (.long x :: st)) rfl hd rfl
theorem E_irem (X : Sd l Z own nm bytes ml ret R p e s m args below T h cells slots) {x y : Int32} (hd : decode bytes pc = .ok (.irem, 1)) (hp : pc + 1 = pc') (hy : y ≠ 0) (k : End Z p e below s Q kc ks T (mkF m pc' Ls (.int (x % y) :: st))) : End Z p e below s Q kc ks T (mkF m pc Ls (.int y :: .int x :: st)) := by
  subst hp; obtain ⟨meth, c, locs, vm0, k0, hS, hk, X, -, -, -, hx, hb, -⟩ := X; subst hb
  exact k.go fun _ => iremM X hx (g := mkF m pc Ls (.int y :: .int x :: st)) rfl hd rfl hy
theorem E_lrem (X : Sd l Z own nm bytes ml ret R p e s m args below T h cells slots) {x y : Int64} (hd : decode bytes pc = .ok (.lrem, 1)) (hp : pc + 1 = pc') (hy : y ≠ 0) (k : End Z p e below s Q kc ks T (mkF m pc' Ls (.long (x % y) :: st))) : End Z p e below s Q kc ks T (mkF m pc Ls (.long y :: .long x :: st)) := by
  subst hp; obtain ⟨meth, c, locs, vm0, k0, hS, hk, X, -, -, -, hx, hb, -⟩ := X; subst hb
  exact k.go fun _ => fun hr => XS.lrem X.here hx (g := mkF m pc Ls (.long y :: .long x :: st)) rfl hd rfl hy (by rw [lrem_mod x y]; exact hr)
theorem E_ishl (X : Sd l Z own nm bytes ml ret R p e s m args below T h cells slots) {x y : Int32} (hd : decode bytes pc = .ok (.ishl, 1)) (hp : pc + 1 = pc') (k : End Z p e below s Q kc ks T (mkF m pc' Ls (.int (x <<< (y &&& 31)) :: st))) : End Z p e below s Q kc ks T (mkF m pc Ls (.int y :: .int x :: st)) := by
  subst hp; obtain ⟨meth, c, locs, vm0, k0, hS, hk, X, -, -, -, hx, hb, -⟩ := X; subst hb
  exact k.go fun _ => XS.ishl X.here hx (g := mkF m pc Ls (.int y :: .int x :: st)) rfl hd rfl
theorem E_ishr (X : Sd l Z own nm bytes ml ret R p e s m args below T h cells slots) {x y : Int32} (hd : decode bytes pc = .ok (.ishr, 1)) (hp : pc + 1 = pc') (k : End Z p e below s Q kc ks T (mkF m pc' Ls (.int (x >>> (y &&& 31)) :: st))) : End Z p e below s Q kc ks T (mkF m pc Ls (.int y :: .int x :: st)) := by
  subst hp; obtain ⟨meth, c, locs, vm0, k0, hS, hk, X, -, -, -, hx, hb, -⟩ := X; subst hb
  exact k.go fun _ => XS.ishr X.here hx (g := mkF m pc Ls (.int y :: .int x :: st)) rfl hd rfl
theorem E_iushr (X : Sd l Z own nm bytes ml ret R p e s m args below T h cells slots) {x y : Int32} (hd : decode bytes pc = .ok (.iushr, 1)) (hp : pc + 1 = pc') (k : End Z p e below s Q kc ks T (mkF m pc' Ls (.int ((x.toUInt32 >>> (y &&& 31).toUInt32).toInt32) :: st))) : End Z p e below s Q kc ks T (mkF m pc Ls (.int y :: .int x :: st)) := by
  subst hp; obtain ⟨meth, c, locs, vm0, k0, hS, hk, X, -, -, -, hx, hb, -⟩ := X; subst hb
  exact k.go fun _ => XS.iushr X.here hx (g := mkF m pc Ls (.int y :: .int x :: st)) rfl hd rfl
theorem E_lshl (X : Sd l Z own nm bytes ml ret R p e s m args below T h cells slots) {x : Int64} {y : Int32} (hd : decode bytes pc = .ok (.lshl, 1)) (hp : pc + 1 = pc') (k : End Z p e below s Q kc ks T (mkF m pc' Ls (.long (x <<< (y &&& 0x3f).toInt64) :: st))) : End Z p e below s Q kc ks T (mkF m pc Ls (.int y :: .long x :: st)) := by
  subst hp; obtain ⟨meth, c, locs, vm0, k0, hS, hk, X, -, -, -, hx, hb, -⟩ := X; subst hb
  exact k.go fun _ => XS.lshl X.here hx (g := mkF m pc Ls (.int y :: .long x :: st)) rfl hd rfl
theorem E_lshr (X : Sd l Z own nm bytes ml ret R p e s m args below T h cells slots) {x : Int64} {y : Int32} (hd : decode bytes pc = .ok (.lshr, 1)) (hp : pc + 1 = pc') (k : End Z p e below s Q kc ks T (mkF m pc' Ls (.long (x >>> (y &&& 0x3f).toInt64) :: st))) : End Z p e below s Q kc ks T (mkF m pc Ls (.int y :: .long x :: st)) := by
  subst hp; obtain ⟨meth, c, locs, vm0, k0, hS, hk, X, -, -, -, hx, hb, -⟩ := X; subst hb
  exact k.go fun _ => XS.lshr X.here hx (g := mkF m pc Ls (.int y :: .long x :: st)) rfl hd rfl
theorem E_lushr (X : Sd l Z own nm bytes ml ret R p e s m args below T h cells slots) {x : Int64} {y : Int32} (hd : decode bytes pc = .ok (.lushr, 1)) (hp : pc + 1 = pc') (k : End Z p e below s Q kc ks T (mkF m pc' Ls (.long ((x.toUInt64 >>> (y &&& 0x3f).toInt64.toUInt64).toInt64) :: st))) : End Z p e below s Q kc ks T (mkF m pc Ls (.int y :: .long x :: st)) := by
  subst hp; obtain ⟨meth, c, locs, vm0, k0, hS, hk, X, -, -, -, hx, hb, -⟩ := X; subst hb
  exact k.go fun _ => XS.lushr X.here hx (g := mkF m pc Ls (.int y :: .long x :: st)) rfl hd rfl
theorem E_i2l (X : Sd l Z own nm bytes ml ret R p e s m args below T h cells slots) {x : Int32} (hd : decode bytes pc = .ok (.i2l, 1)) (hp : pc + 1 = pc') (k : End Z p e below s Q kc ks T (mkF m pc' Ls (.long (x.toInt64) :: st))) : End Z p e below s Q kc ks T (mkF m pc Ls (.int x :: st)) := by
  subst hp; obtain ⟨meth, c, locs, vm0, k0, hS, hk, X, -, -, -, hx, hb, -⟩ := X; subst hb
  exact k.go fun _ => XS.i2l X.here hx (g := mkF m pc Ls (.int x :: st)) rfl hd rfl
theorem E_l2i (X : Sd l Z own nm bytes ml ret R p e s m args below T h cells slots) {x : Int64} (hd : decode bytes pc = .ok (.l2i, 1)) (hp : pc + 1 = pc') (k : End Z p e below s Q kc ks T (mkF m pc' Ls (.int (x.toInt32) :: st))) : End Z p e below s Q kc ks T (mkF m pc Ls (.long x :: st)) := by
  subst hp; obtain ⟨meth, c, locs, vm0, k0, hS, hk, X, -, -, -, hx, hb, -⟩ := X; subst hb
  exact k.go fun _ => XS.l2i X.here hx (g := mkF m pc Ls (.long x :: st)) rfl hd rfl
theorem E_i2b (X : Sd l Z own nm bytes ml ret R p e s m args below T h cells slots) {x : Int32} (hd : decode bytes pc = .ok (.i2b, 1)) (hp : pc + 1 = pc') (k : End Z p e below s Q kc ks T (mkF m pc' Ls (.int (x.toInt8.toInt32) :: st))) : End Z p e below s Q kc ks T (mkF m pc Ls (.int x :: st)) := by
  subst hp; obtain ⟨meth, c, locs, vm0, k0, hS, hk, X, -, -, -, hx, hb, -⟩ := X; subst hb
  exact k.go fun _ => XS.i2b X.here hx (g := mkF m pc Ls (.int x :: st)) rfl hd rfl
theorem E_i2c (X : Sd l Z own nm bytes ml ret R p e s m args below T h cells slots) {x : Int32} (hd : decode bytes pc = .ok (.i2c, 1)) (hp : pc + 1 = pc') (k : End Z p e below s Q kc ks T (mkF m pc' Ls (.int (x.toUInt32.toUInt16.toUInt32.toInt32) :: st))) : End Z p e below s Q kc ks T (mkF m pc Ls (.int x :: st)) := by
  subst hp; obtain ⟨meth, c, locs, vm0, k0, hS, hk, X, -, -, -, hx, hb, -⟩ := X; subst hb
  exact k.go fun _ => XS.i2c X.here hx (g := mkF m pc Ls (.int x :: st)) rfl hd rfl
theorem E_i2s (X : Sd l Z own nm bytes ml ret R p e s m args below T h cells slots) {x : Int32} (hd : decode bytes pc = .ok (.i2s, 1)) (hp : pc + 1 = pc') (k : End Z p e below s Q kc ks T (mkF m pc' Ls (.int (x.toInt16.toInt32) :: st))) : End Z p e below s Q kc ks T (mkF m pc Ls (.int x :: st)) := by
  subst hp; obtain ⟨meth, c, locs, vm0, k0, hS, hk, X, -, -, -, hx, hb, -⟩ := X; subst hb
  exact k.go fun _ => XS.i2s X.here hx (g := mkF m pc Ls (.int x :: st)) rfl hd rfl
theorem E_lcmp (X : Sd l Z own nm bytes ml ret R p e s m args below T h cells slots) {x y : Int64} (hd : decode bytes pc = .ok (.lcmp, 1)) (hp : pc + 1 = pc') (k : End Z p e below s Q kc ks T (mkF m pc' Ls (.int (lcmpW x y) :: st))) : End Z p e below s Q kc ks T (mkF m pc Ls (.long y :: .long x :: st)) := by
  subst hp; obtain ⟨meth, c, locs, vm0, k0, hS, hk, X, -, -, -, hx, hb, -⟩ := X; subst hb
  exact k.go fun _ => XS.lcmp X.here hx (g := mkF m pc Ls (.long y :: .long x :: st)) rfl hd rfl
theorem E_iinc (X : Sd l Z own nm bytes ml ret R p e s m args below T h cells slots) {i : Nat} {cst : Int} {x z : Int32} {Ls' : Array Slot} (hd : decode bytes pc = .ok (.iinc i cst, 3)) (hp : pc + 3 = pc') (hl : Ls[i]? = some (.val (.int x))) (hz : x + Int32.ofInt cst = z) (hl' : storeLocals Ls i (.int z) = some Ls') (k : End Z p e below s Q kc ks T (mkF m pc' Ls' st)) : End Z p e below s Q kc ks T (mkF m pc Ls st) := by
  subst hp; obtain ⟨meth, c, locs, vm0, k0, hS, hk, X, -, -, -, hx, hb, -⟩ := X; subst hb
  exact k.go fun _ => by subst hz; exact XS.iinc X.here hx (g := mkF m pc Ls st) rfl hd hl hl'
theorem E_dup (X : Sd l Z own nm bytes ml ret R p e s m args below T h cells slots) {v : Value} (hd : decode bytes pc = .ok (.dup, 1)) (hp : pc + 1 = pc') (hc : v.category = 1) (k : End Z p e below s Q kc ks T (mkF m pc' Ls (v :: v :: st))) : End Z p e below s Q kc ks T (mkF m pc Ls (v :: st)) := by
  subst hp; obtain ⟨meth, c, locs, vm0, k0, hS, hk, X, -, -, -, hx, hb, -⟩ := X; subst hb
  exact k.go fun _ => XS.dup X.here hx (g := mkF m pc Ls (v :: st)) rfl hd rfl hc
theorem E_pop (X : Sd l Z own nm bytes ml ret R p e s m args below T h cells slots) {v : Value} (hd : decode bytes pc = .ok (.pop, 1)) (hp : pc + 1 = pc') (hc : v.category = 1) (k : End Z p e below s Q kc ks T (mkF m pc' Ls st)) : End Z p e below s Q kc ks T (mkF m pc Ls (v :: st)) := by
  subst hp; obtain ⟨meth, c, locs, vm0, k0, hS, hk, X, -, -, -, hx, hb, -⟩ := X; subst hb
  exact k.go fun _ => XS.pop X.here hx (g := mkF m pc Ls (v :: st)) rfl hd rfl hc
theorem E_dup_x1 (X : Sd l Z own nm bytes ml ret R p e s m args below T h cells slots) {v w : Value} (hd : decode bytes pc = .ok (.dup_x1, 1)) (hp : pc + 1 = pc') (hc : v.category = 1) (hc' : w.category = 1) (k : End Z p e below s Q kc ks T (mkF m pc' Ls (v :: w :: v :: st))) : End Z p e below s Q kc ks T (mkF m pc Ls (v :: w :: st)) := by
  subst hp; obtain ⟨meth, c, locs, vm0, k0, hS, hk, X, -, -, -, hx, hb, -⟩ := X; subst hb
  exact k.go fun _ => XS.dupX1 X.here hx (g := mkF m pc Ls (v :: w :: st)) rfl hd rfl hc hc'
theorem E_dup2 (X : Sd l Z own nm bytes ml ret R p e s m args below T h cells slots) {v w : Value} (hd : decode bytes pc = .ok (.dup2, 1)) (hp : pc + 1 = pc') (hc : v.category = 1) (hc' : w.category = 1) (k : End Z p e below s Q kc ks T (mkF m pc' Ls (v :: w :: v :: w :: st))) : End Z p e below s Q kc ks T (mkF m pc Ls (v :: w :: st)) := by
  subst hp; obtain ⟨meth, c, locs, vm0, k0, hS, hk, X, -, -, -, hx, hb, -⟩ := X; subst hb
  exact k.go fun _ => XT.dup2 X.here hx (g := mkF m pc Ls (v :: w :: st)) rfl hd rfl hc hc'
theorem E_dup2L (X : Sd l Z own nm bytes ml ret R p e s m args below T h cells slots) {x : Int64} (hd : decode bytes pc = .ok (.dup2, 1)) (hp : pc + 1 = pc') (k : End Z p e below s Q kc ks T (mkF m pc' Ls (.long x :: .long x :: st))) : End Z p e below s Q kc ks T (mkF m pc Ls (.long x :: st)) := by
  subst hp; obtain ⟨meth, c, locs, vm0, k0, hS, hk, X, -, -, -, hx, hb, -⟩ := X; subst hb
  exact k.go fun _ => XT.dup2L X.here hx (g := mkF m pc Ls (.long x :: st)) rfl hd rfl
theorem E_goto (X : Sd l Z own nm bytes ml ret R p e s m args below T h cells slots) {o : Int} (hd : decode bytes pc = .ok (.goto o, 3)) (ho : 0 ≤ (pc : Int) + o) (hp : ((pc : Int) + o).toNat = pc') (k : End Z p e below s Q kc ks T (mkF m pc' Ls st)) : End Z p e below s Q kc ks T (mkF m pc Ls st) := by
  obtain ⟨meth, c, locs, vm0, k0, hS, hk, X, -, -, -, hx, hb, -⟩ := X; subst hb
  exact k.go fun _ => XS.goto X.here hx (g := mkF m pc Ls st) rfl rfl hd ho hp
theorem E_if (X : Sd l Z own nm bytes ml ret R p e s m args below T h cells slots) {cd : ClassFile.Cond} {o : Int} {x : Int32} {P : Prop} [Decidable P] (hP : ifCond.holds cd x = decide P) (hd : decode bytes pc = .ok (.ifCond cd o, 3)) {pcY pcN : Nat} (ho : 0 ≤ (pc : Int) + o) (hY : ((pc : Int) + o).toNat = pcY) (hN : pc + 3 = pcN)
    (kY : P → End Z p e below s Q kc ks T (mkF m pcY Ls st)) (kN : ¬ P → End Z p e below s Q kc ks T (mkF m pcN Ls st)) : End Z p e below s Q kc ks T (mkF m pc Ls (.int x :: st)) := by
  obtain ⟨meth, c, locs, vm0, k0, hS, hk, X, -, -, -, hx, hb, -⟩ := X; subst hb hN
  by_cases q : P
  · exact (kY q).go fun _ => XS.ifYes X.here hx (g := mkF m pc Ls (.int x :: st)) rfl rfl hd rfl (by rw [hP]; simp [q]) ho hY
  · exact (kN q).go fun _ => XS.ifNo X.here hx (g := mkF m pc Ls (.int x :: st)) rfl hd rfl (by rw [hP]; simp [q])
theorem E_icmp (X : Sd l Z own nm bytes ml ret R p e s m args below T h cells slots) {cd : ClassFile.Cond} {o : Int} {x y : Int32} {P : Prop} [Decidable P] (hP : if_icmp.holds cd x y = decide P) (hd : decode bytes pc = .ok (.if_icmp cd o, 3)) {pcY pcN : Nat} (ho : 0 ≤ (pc : Int) + o) (hY : ((pc : Int) + o).toNat = pcY) (hN : pc + 3 = pcN)
    (kY : P → End Z p e below s Q kc ks T (mkF m pcY Ls st)) (kN : ¬ P → End Z p e below s Q kc ks T (mkF m pcN Ls st)) : End Z p e below s Q kc ks T (mkF m pc Ls (.int y :: .int x :: st)) := by
  obtain ⟨meth, c, locs, vm0, k0, hS, hk, X, -, -, -, hx, hb, -⟩ := X; subst hb hN
  by_cases q : P
  · exact (kY q).go fun _ => XS.icmpYes X.here hx (g := mkF m pc Ls (.int y :: .int x :: st)) rfl rfl hd rfl (by rw [hP]; simp [q]) ho hY
  · exact (kN q).go fun _ => XS.icmpNo X.here hx (g := mkF m pc Ls (.int y :: .int x :: st)) rfl hd rfl (by rw [hP]; simp [q])
theorem ic_lt (x y : Int32) : if_icmp.holds .lt x y = decide (x < y) := by
  by_cases q : x < y
  · rw [(tlt q).1]; simp [q]
  · rw [(flt q).1]; simp [q]
theorem ic_ge (x y : Int32) : if_icmp.holds .ge x y = decide (¬ x < y) := by
  by_cases q : x < y
  · rw [(tlt q).2.1]; simp [q]
  · rw [(flt q).2.1]; simp [q]
theorem ic_gt (x y : Int32) : if_icmp.holds .gt x y = decide (y < x) := by
  by_cases q : y < x
  · rw [(tlt q).2.2.1]; simp [q]
  · rw [(flt q).2.2.1]; simp [q]
theorem ic_le (x y : Int32) : if_icmp.holds .le x y = decide (¬ y < x) := by
  by_cases q : y < x
  · rw [(tlt q).2.2.2]; simp [q]
  · rw [(flt q).2.2.2]; simp [q]
theorem ic_eq (x y : Int32) : if_icmp.holds .eq x y = decide (x = y) := by
  by_cases q : x = y
  · rw [(teq q).1]; simp [q]
  · rw [(feq q).1]; simp [q]
theorem ic_ne (x y : Int32) : if_icmp.holds .ne x y = decide (¬ x = y) := by
  by_cases q : x = y
  · rw [(teq q).2]; simp [q]
  · rw [(feq q).2]; simp [q]
theorem i0_lt (x : Int32) : ifCond.holds .lt x = decide (x < 0) := (if0 _ _).trans (ic_lt _ _)
theorem i0_ge (x : Int32) : ifCond.holds .ge x = decide (¬ x < 0) := (if0 _ _).trans (ic_ge _ _)
theorem i0_gt (x : Int32) : ifCond.holds .gt x = decide (0 < x) := (if0 _ _).trans (ic_gt _ _)
theorem i0_le (x : Int32) : ifCond.holds .le x = decide (¬ 0 < x) := (if0 _ _).trans (ic_le _ _)
theorem i0_eq (x : Int32) : ifCond.holds .eq x = decide (x = 0) := (if0 _ _).trans (ic_eq _ _)
theorem i0_ne (x : Int32) : ifCond.holds .ne x = decide (¬ x = 0) := (if0 _ _).trans (ic_ne _ _)
theorem il_lt (x y : Int64) : ifCond.holds .lt (lcmpW x y) = decide (x < y) := (i0_lt _).trans (by simp only [lw_lt])
theorem il_ge (x y : Int64) : ifCond.holds .ge (lcmpW x y) = decide (¬ x < y) := (i0_ge _).trans (by simp only [lw_lt])
theorem il_gt (x y : Int64) : ifCond.holds .gt (lcmpW x y) = decide (y < x) := (i0_gt _).trans (by simp only [lw_gt])
theorem il_le (x y : Int64) : ifCond.holds .le (lcmpW x y) = decide (¬ y < x) := (i0_le _).trans (by simp only [lw_gt])
theorem il_eq (x y : Int64) : ifCond.holds .eq (lcmpW x y) = decide (x = y) := (i0_eq _).trans (by simp only [lw_eq])
theorem il_ne (x y : Int64) : ifCond.holds .ne (lcmpW x y) = decide (¬ x = y) := (i0_ne _).trans (by simp only [lw_eq])
theorem E_acmp (X : Sd l Z own nm bytes ml ret R p e s m args below T h cells slots) {cd : ACond} {o : Int} {x y : Value} {pcE pcU : Nat} (hd : decode bytes pc = .ok (.if_acmp cd o, 3)) (hx1 : x.isRef = true) (hy1 : y.isRef = true) (ho : 0 ≤ (pc : Int) + o) (hE : pcE = if acV cd true = true then ((pc : Int) + o).toNat else pc + 3) (hU : pcU = if acV cd false = true then ((pc : Int) + o).toNat else pc + 3)
    (kE : x = y → End Z p e below s Q kc ks T (mkF m pcE Ls st)) (kU : ¬ x = y → End Z p e below s Q kc ks T (mkF m pcU Ls st)) : End Z p e below s Q kc ks T (mkF m pc Ls (y :: x :: st)) := by
  obtain ⟨meth, c, locs, vm0, k0, hS, hk, X, -, -, -, hx, hb, -⟩ := X; subst hb
  by_cases q : x = y
  · exact (kE q).go fun _ => Jvm.RoadKit.acmp (g := mkF m pc Ls (y :: x :: st)) X hx rfl hx1 hy1 (same := true) rfl hd rfl (decide_eq_true q) ho hE
  · exact (kU q).go fun _ => Jvm.RoadKit.acmp (g := mkF m pc Ls (y :: x :: st)) X hx rfl hx1 hy1 (same := false) rfl hd rfl (decide_eq_false q) ho hU
theorem E_ifnullY (X : Sd l Z own nm bytes ml ret R p e s m args below T h cells slots) {o : Int} (hd : decode bytes pc = .ok (.ifnull o, 3)) (ho : 0 ≤ (pc : Int) + o) (hp : ((pc : Int) + o).toNat = pc') (k : End Z p e below s Q kc ks T (mkF m pc' Ls st)) : End Z p e below s Q kc ks T (mkF m pc Ls (.null :: st)) := by
  obtain ⟨meth, c, locs, vm0, k0, hS, hk, X, -, -, -, hx, hb, -⟩ := X; subst hb
  exact k.go fun _ => XS.ifnullYes X.here hx (g := mkF m pc Ls (.null :: st)) rfl rfl hd rfl ho hp
theorem E_ifnullN (X : Sd l Z own nm bytes ml ret R p e s m args below T h cells slots) {o : Int} {b : Addr} (hd : decode bytes pc = .ok (.ifnull o, 3)) (hp : pc + 3 = pc') (k : End Z p e below s Q kc ks T (mkF m pc' Ls st)) : End Z p e below s Q kc ks T (mkF m pc Ls (.ref b :: st)) := by
  subst hp; obtain ⟨meth, c, locs, vm0, k0, hS, hk, X, -, -, -, hx, hb, -⟩ := X; subst hb
  exact k.go fun _ => XS.ifnullNo X.here hx (g := mkF m pc Ls (.ref b :: st)) rfl hd rfl
theorem E_ifnonnullY (X : Sd l Z own nm bytes ml ret R p e s m args below T h cells slots) {o : Int} {b : Addr} (hd : decode bytes pc = .ok (.ifnonnull o, 3)) (ho : 0 ≤ (pc : Int) + o) (hp : ((pc : Int) + o).toNat = pc') (k : End Z p e below s Q kc ks T (mkF m pc' Ls st)) : End Z p e below s Q kc ks T (mkF m pc Ls (.ref b :: st)) := by
  obtain ⟨meth, c, locs, vm0, k0, hS, hk, X, -, -, -, hx, hb, -⟩ := X; subst hb
  exact k.go fun _ => XS.ifnonnullYes X.here hx (g := mkF m pc Ls (.ref b :: st)) rfl rfl hd rfl ho hp
theorem E_ifnonnullN (X : Sd l Z own nm bytes ml ret R p e s m args below T h cells slots) {o : Int} (hd : decode bytes pc = .ok (.ifnonnull o, 3)) (hp : pc + 3 = pc') (k : End Z p e below s Q kc ks T (mkF m pc' Ls st)) : End Z p e below s Q kc ks T (mkF m pc Ls (.null :: st)) := by
  subst hp; obtain ⟨meth, c, locs, vm0, k0, hS, hk, X, -, -, -, hx, hb, -⟩ := X; subst hb
  exact k.go fun _ => XS.ifnonnullNo X.here hx (g := mkF m pc Ls (.null :: st)) rfl hd rfl
/-! constants -/
theorem E_ldcI (X : Sd l Z own nm bytes ml ret R p e s m args below T h cells slots) {i : Nat} {v : Int32} (w : (Jvm.Cond.constant own i v).before a0 Z = true) (hd : decode bytes pc = .ok (.ldc i, 2)) (hp : pc + 2 = pc') (k : End Z p e below s Q kc ks T (mkF m pc' Ls (.int v :: st))) : End Z p e below s Q kc ks T (mkF m pc Ls st) := by
  subst hp; obtain ⟨meth, c, locs, vm0, k0, hS, hk, X, N, e0, E, hx, hb, hml, hown, hnm, hret, hlk, hZ⟩ := X; subst hb
  exact k.go (X.ldcInt hx hown (mvT hZ w) (g := mkF m pc Ls st) rfl hd)
theorem E_ldcJ (X : Sd l Z own nm bytes ml ret R p e s m args below T h cells slots) {i : Nat} {v : Int64} (w : (Jvm.Cond.constantLong own i v).before a0 Z = true) (hd : decode bytes pc = .ok (.ldc2_w i, 3)) (hp : pc + 3 = pc') (k : End Z p e below s Q kc ks T (mkF m pc' Ls (.long v :: st))) : End Z p e below s Q kc ks T (mkF m pc Ls st) := by
  subst hp; obtain ⟨meth, c, locs, vm0, k0, hS, hk, X, N, e0, E, hx, hb, hml, hown, hnm, hret, hlk, hZ⟩ := X; subst hb
  exact k.go (X.ldc2Long hx hown (mvT hZ w) (g := mkF m pc Ls st) rfl hd)
/-! fields, statics -/
theorem E_getF (X : Sd l Z own nm bytes ml ret R p e s m args below T h cells slots) {R0 O n d host : String} {i : Nat} {a : Addr} {v : Value} (w : (Jvm.Cond.fieldLink own i R0 n d).before a0 Z = true ∨ (Jvm.Cond.fieldLinkNest own i R0 n d host).before a0 Z = true) (via : Via Z R0 O n d) (F : Fld Z h a O n d v) (hd : decode bytes pc = .ok (.getfield i, 3)) (hp : pc + 3 = pc')
    (k : ∀ T', Sd l Z own nm bytes ml ret R p e s m args below T' h cells slots → End Z p e below s Q kc ks T' (mkF m pc' Ls (v :: st))) : End Z p e below s Q kc ks T (mkF m pc Ls (.ref a :: st)) := by
  subst hp; obtain ⟨meth, c, locs, vm0, k0, hS, hk, X, N, e0, E, hx, hb, hml, hown, r⟩ := X; subst hb
  obtain ⟨T', X', e', stp⟩ := getF X hx r.2.2.2 hown w via e0 F (g := mkF m pc Ls (.ref a :: st)) rfl rfl hd
  exact (k T' ⟨meth, c, locs, vm0, k0, hS, hk, X', N, e', E, hx, rfl, hml, hown, r⟩).go stp
theorem E_putF (X : Sd l Z own nm bytes ml ret R p e s m args below T h cells slots) {R0 O n d host C : String} {i kk : Nat} {ty : FieldType} {a : Addr} {v old : Value} (w : (Jvm.Cond.fieldLink own i R0 n d).before a0 Z = true ∨ (Jvm.Cond.fieldLinkNest own i R0 n d host).before a0 Z = true) (via : Via Z R0 O n d) (F : Fld Z h a O n d old) (E1 : Exa Z h a C)
    (L : (Jvm.Cond.lays C O n d).before a0 Z = true ∨ ((Jvm.Cond.laysFinal C O n d).before a0 Z = true ∧ own = O ∧ nm = "<init>")) (wi : (Jvm.Cond.instantiable C kk).before a0 Z = true) (hty : parseFieldDescriptor d = some ty) (hn : narrow ty v = v) (hf : fits ty v = true) (ha : Z.heap.size ≤ a) (hd : decode bytes pc = .ok (.putfield i, 3)) (hp : pc + 3 = pc')
    (k : ∀ T' h', Sd l Z own nm bytes ml ret R p e s m args below T' h' cells slots → Wr h h' a (slotOf Z O n d) v → End Z p e below s Q kc ks T' (mkF m pc' Ls st)) : End Z p e below s Q kc ks T (mkF m pc Ls (v :: .ref a :: st)) := by
  subst hp; obtain ⟨meth, c, locs, vm0, k0, hS, hk, X, N, e0, E, hx, hb, hml, hown, hnm, r⟩ := X; subst hb
  obtain ⟨T', h', X', e', W, stp⟩ := putF X hx r.2.2 hown w via e0 F E1 (L.imp id fun q => ⟨q.1, q.2.1, hnm.trans q.2.2⟩) wi hty hn hf (g := mkF m pc Ls (v :: .ref a :: st)) rfl rfl hd
  exact (k T' h' ⟨meth, c, _, vm0, k0, hS, by rw [W.size]; exact hk, X', Fr.snoc X' N ha, e', E.wr W ha, hx, rfl, hml, hown, hnm, r⟩ W).go stp
theorem E_getS (X : Sd l Z own nm bytes ml ret R p e s m args below T h cells slots) {R0 O n d host : String} {i : Nat} {v : Value} (w : (Jvm.Cond.fieldLink own i R0 n d).before a0 Z = true ∨ (Jvm.Cond.fieldLinkNest own i R0 n d host).before a0 Z = true) (via : Via Z R0 O n d) (F : Sta Z Z.heap O n d v) (hd : decode bytes pc = .ok (.getstatic i, 3)) (hp : pc + 3 = pc')
    (k : ∀ T', Sd l Z own nm bytes ml ret R p e s m args below T' h cells slots → End Z p e below s Q kc ks T' (mkF m pc' Ls (v :: st))) : End Z p e below s Q kc ks T (mkF m pc Ls st) := by
  subst hp; obtain ⟨meth, c, locs, vm0, k0, hS, hk, X, N, e0, E, hx, hb, hml, hown, r⟩ := X; subst hb
  obtain ⟨T', X', e', stp⟩ := getS2 X hx r.2.2.2 hown w via e0 (F.ext E) (g := mkF m pc Ls st) rfl hd
  exact (k T' ⟨meth, c, locs, vm0, k0, hS, hk, X', N, e', E, hx, rfl, hml, hown, r⟩).go stp
/-! new objects -/
theorem E_new (X : Sd l Z own nm bytes ml ret R p e s m args below T h cells slots) {C : String} {i n : Nat} {cells' slots' : Nat} (w : (Jvm.Cond.classLink own i C).before a0 Z = true) (wi : (Jvm.Cond.instantiable C n).before a0 Z = true) (wz : (Jvm.Cond.initialized C).before a0 Z = true) (hd : decode bytes pc = .ok (.new i, 3)) (hp : pc + 3 = pc') (hcc : cells + 1 = cells') (hss : slots + n = slots') (hc : cells' ≤ R.cells) (hl : slots' ≤ R.slots)
    (k : ∀ T' h' a, a = h.size → Sd l Z own nm bytes ml ret R p e s m args below T' h' cells' slots' → Ext h h' → Exa Z h' a C → (∀ {O n d : String} {ty : FieldType}, Laid Z a0 C O n d → parseFieldDescriptor d = some ty → Fld Z h' a O n d (defaultValue ty)) → End Z p e below s Q kc ks T' (mkF m pc' Ls (.ref a :: st))) : End Z p e below s Q kc ks T (mkF m pc Ls st) := by
  subst hp hcc hss; obtain ⟨meth, c, locs, vm0, k0, hS, hk, X, N, e0, E, hx, hb, hml, hown, r⟩ := X; subst hb
  obtain ⟨T', h', X', e', E2, A2, D2, -, stp⟩ := newO X hx r.2.2.2 hown w wi wz e0 (g := mkF m pc Ls st) rfl hd hc hl
  exact (k T' h' h.size rfl ⟨meth, c, locs, vm0, k0, hS, Nat.le_trans hk E2.1, X', N, e', E.trans E2, hx, rfl, hml, hown, r⟩ E2 A2 (fun q1 q2 => D2 q1 q2)).go stp
theorem E_initO (X : Sd l Z own nm bytes ml ret R p e s m args below T h cells slots) {i : Nat} {a : Addr} (w1 : (Jvm.Cond.methodLink own i Lib.objectInit).before a0 Z = true) (w2 : (Jvm.Cond.instanceMethod Lib.objectInit).before a0 Z = true) (w3 : (Jvm.Cond.code Lib.objectInit ⟨#[0xb1]⟩ 1 none).before a0 Z = true) (hsz : Ls.size = ml) (hd : decode bytes pc = .ok (.invokespecial i, 3)) (hp : pc + 3 = pc') (hf : 1 ≤ R.frames) {W : Nat} (hW : (st.map fun v => v.category).sum ≤ W) (hl : W + 12 ≤ R.locals)
    (k : ∀ T', Sd l Z own nm bytes ml ret R p e s m args below T' h cells slots → End Z p e below s Q kc ks T' (mkF m pc' Ls st)) : End Z p e below s Q kc ks T (mkF m pc Ls (.ref a :: st)) := by
  subst hp; obtain ⟨meth, c, locs, vm0, k0, hS, hk, X, N, e0, E, hx, hb, hml, hown, r⟩ := X; subst hb
  obtain ⟨T', X', e', stp⟩ := initO X hx r.2.2.2 hown w1 w2 w3 e0 (g := mkF m pc Ls (.ref a :: st)) rfl (hsz.trans hml.symm) rfl hd hf (W := W) (by show 2 * 0 + _ ≤ _; omega) hl
  exact (k T' ⟨meth, c, locs, vm0, k0, hS, hk, X', N, e', E, hx, rfl, hml, hown, r⟩).go stp
/-! calls by a contract -/
theorem E_callS (X : Sd l Z own nm bytes ml ret R p e s m args below T h cells slots) {i : Nat} {y : MethodName} {bytes' : ByteArray} {ml' : Nat} {ret' : Option FieldType} {rm : Room} {Qc : Option Value → Heap → Prop} {as : Array Value} {ps : List FieldType} {rr : Option FieldType} {argsL rest : List Value} {W : Nat} {cells' slots' : Nat} (C : Con l Z y bytes' ml' ret' rm as h Qc)
    (w1 : (Jvm.Cond.methodLink own i y).before a0 Z = true) (w2 : (Jvm.Cond.static y).before a0 Z = true) (w3 : (Jvm.Cond.initialized y.cls).before a0 Z = true) (w4 : (Jvm.Cond.code y bytes' ml' ret').before a0 Z = true) (hy : y.cls ≠ "java/lang/invoke/MethodHandle" ∧ y.cls ≠ "java/lang/invoke/VarHandle") (hsz : Ls.size = ml) (has : argsL.toArray = as) (hpd : parseMethodDescriptor y.desc = some ⟨ps, rr⟩) (hlen : argsL.length = ps.length) (hst : st = argsL.reverse ++ rest)
    (hd : decode bytes pc = .ok (.invokestatic i, 3)) (hp : pc + 3 = pc') (hW : (rest.map fun v => v.category).sum ≤ W) (hf : rm.frames + 1 ≤ R.frames) (hl : W + (ml' + 11) + rm.locals ≤ R.locals) (hcc : cells + rm.cells = cells') (hss : slots + rm.slots = slots') (hc : cells' ≤ R.cells) (hs : slots' ≤ R.slots)
    (k : ∀ v T' h', Sd l Z own nm bytes ml ret R p e s m args below T' h' cells' slots' → Qc v h' → End Z p e below s Q kc ks T' (mkF m pc' Ls (v.toList ++ rest))) : End Z p e below s Q kc ks T (mkF m pc Ls st) := by
  subst hp hst hcc hss; obtain ⟨meth, c, locs, vm0, k0, hS, hk, X, N, e0, E, hx, hb, hml, hown, r⟩ := X; subst hb
  obtain ⟨v, _, ⟨T', L', k', n'⟩, -, X', hS', hgr, ⟨Lc, hQ, l1, l2, l3⟩, stp⟩ := callSS X hx (y := y) hown (mvT r.2.2.2 w1) (mvT r.2.2.2 w2) (mvT r.2.2.2 w3) (mvT r.2.2.2 w4) hy (backOfS (W := W) (Q := fun v h L => Fr Z.heap.size L ∧ Ext Z.heap h ∧ Qc v h) (C []) r.2.2.2 w4 w3 hf hl) (g := mkF m pc Ls (argsL.reverse ++ rest)) rfl (hsz.trans hml.symm) (argsL := argsL) (rest := rest) (lenOf hpd hlen) rfl (by show 2 * 0 + _ ≤ _; omega) hd (fun _ _ => ⟨has, e0, hc, hs⟩)
  dsimp only [Pt.U, Pt.locs, Pt.cells, Pt.slots] at X' hS' hgr l1 l2 l3 stp hQ
  subst l1 l2 l3
  exact (k v T' T'.heap ⟨meth, c, _, T'.vm, T'.heap.size, hS.trans hS' (by rw [← e0] at hk; exact Nat.le_trans hk hgr), Nat.le_refl _, X', Fr.app N hQ.1, rfl, hQ.2.1, hx, rfl, hml, (hS'.1.alike.findClass _ _).trans hown, r.1, r.2.1, r.2.2.1, State.Warmed39.trans (t := s.setVm vm0) r.2.2.2 hS'.1⟩ hQ.2.2).go fun _ q => stp.trans q
theorem E_callI (X : Sd l Z own nm bytes ml ret R p e s m args below T h cells slots) {i : Nat} {y : MethodName} {bytes' : ByteArray} {ml' : Nat} {rm : Room} {Qc : Option Value → Heap → Prop} {a : Addr} {as : Array Value} {ps : List FieldType} {rr : Option FieldType} {argsL rest : List Value} {W : Nat} {cells' slots' : Nat} (C : Con l Z y bytes' ml' none rm as h Qc)
    (w1 : (Jvm.Cond.methodLink own i y).before a0 Z = true) (w2 : (Jvm.Cond.instanceMethod y).before a0 Z = true) (w3 : (Jvm.Cond.initialized y.cls).before a0 Z = true) (w4 : (Jvm.Cond.code y bytes' ml' none).before a0 Z = true) (hy1 : y.name = "<init>") (hy : y.cls ≠ "java/lang/invoke/MethodHandle" ∧ y.cls ≠ "java/lang/invoke/VarHandle") (hsz : Ls.size = ml) (has : (.ref a :: argsL).toArray = as) (hpd : parseMethodDescriptor y.desc = some ⟨ps, rr⟩) (hlen : argsL.length = ps.length) (hst : st = argsL.reverse ++ .ref a :: rest)
    (hd : decode bytes pc = .ok (.invokespecial i, 3)) (hp : pc + 3 = pc') (hW : (rest.map fun v => v.category).sum ≤ W) (hf : rm.frames + 1 ≤ R.frames) (hl : W + (ml' + 11) + rm.locals ≤ R.locals) (hcc : cells + rm.cells = cells') (hss : slots + rm.slots = slots') (hc : cells' ≤ R.cells) (hs : slots' ≤ R.slots)
    (k : ∀ v T' h', Sd l Z own nm bytes ml ret R p e s m args below T' h' cells' slots' → Qc v h' → End Z p e below s Q kc ks T' (mkF m pc' Ls (v.toList ++ rest))) : End Z p e below s Q kc ks T (mkF m pc Ls st) := by
  subst hp hst hcc hss; obtain ⟨meth, c, locs, vm0, k0, hS, hk, X, N, e0, E, hx, hb, hml, hown, r⟩ := X; subst hb
  obtain ⟨v, _, ⟨T', L', k', n'⟩, -, X', hS', hgr, ⟨Lc, hQ, l1, l2, l3⟩, stp⟩ := X.specialBackS hx (y := y) hy1 hown (mvT r.2.2.2 w1) (mvT r.2.2.2 w2) (mvT r.2.2.2 w4) hy (backOfS (W := W) (Q := fun v h L => Fr Z.heap.size L ∧ Ext Z.heap h ∧ Qc v h) (C []) r.2.2.2 w4 w3 hf hl) (g := mkF m pc Ls (argsL.reverse ++ .ref a :: rest)) rfl (hsz.trans hml.symm) (Steps.refl _) (a := a) (argsL := argsL) (rest := rest) (lenOf hpd hlen) rfl (by show 2 * 0 + _ ≤ _; omega) hd (fun _ _ => ⟨has, e0, hc, hs⟩)
  dsimp only [Pt.U, Pt.locs, Pt.cells, Pt.slots] at X' hS' hgr l1 l2 l3 stp hQ
  subst l1 l2 l3
  exact (k v T' T'.heap ⟨meth, c, _, T'.vm, T'.heap.size, hS.trans hS' (by rw [← e0] at hk; exact Nat.le_trans hk hgr), Nat.le_refl _, X', Fr.app N hQ.1, rfl, hQ.2.1, hx, rfl, hml, (hS'.1.alike.findClass _ _).trans hown, r.1, r.2.1, r.2.2.1, State.Warmed39.trans (t := s.setVm vm0) r.2.2.2 hS'.1⟩ hQ.2.2).go fun _ q => stp.trans q
theorem E_callV (X : Sd l Z own nm bytes ml ret R p e s m args below T h cells slots) {i : Nat} {y : MethodName} {K : String} {bytes' : ByteArray} {ml' : Nat} {ret' : Option FieldType} {rm : Room} {Qc : Option Value → Heap → Prop} {a : Addr} {as : Array Value} {ps : List FieldType} {rr : Option FieldType} {argsL rest : List Value} {W : Nat} {cells' slots' : Nat} (C : Con l Z y bytes' ml' ret' rm as h Qc) (E1 : Exa Z h a K)
    (w1 : (Jvm.Cond.methodLink own i y).before a0 Z = true) (wd : (Jvm.Cond.declares y).before a0 Z = true) (ws : (Jvm.Cond.selects K y y).before a0 Z = true) (w2 : (Jvm.Cond.instanceMethod y).before a0 Z = true) (w3 : (Jvm.Cond.initialized y.cls).before a0 Z = true) (w4 : (Jvm.Cond.code y bytes' ml' ret').before a0 Z = true) (hK : K = y.cls) (hy : y.cls ≠ "java/lang/invoke/MethodHandle" ∧ y.cls ≠ "java/lang/invoke/VarHandle") (hsz : Ls.size = ml) (has : (.ref a :: argsL).toArray = as) (hpd : parseMethodDescriptor y.desc = some ⟨ps, rr⟩) (hlen : argsL.length = ps.length) (hst : st = argsL.reverse ++ .ref a :: rest)
    (hd : decode bytes pc = .ok (.invokevirtual i, 3)) (hp : pc + 3 = pc') (hW : (rest.map fun v => v.category).sum ≤ W) (hf : rm.frames + 1 ≤ R.frames) (hl : W + (ml' + 11) + rm.locals ≤ R.locals) (hcc : cells + rm.cells = cells') (hss : slots + rm.slots = slots') (hc : cells' ≤ R.cells) (hs : slots' ≤ R.slots)
    (k : ∀ v T' h', Sd l Z own nm bytes ml ret R p e s m args below T' h' cells' slots' → Qc v h' → End Z p e below s Q kc ks T' (mkF m pc' Ls (v.toList ++ rest))) : End Z p e below s Q kc ks T (mkF m pc Ls st) := by
  subst hp hst hcc hss; obtain ⟨meth, c, locs, vm0, k0, hS, hk, X, N, e0, E, hx, hb, hml, hown, r⟩ := X; subst hb
  subst hK
  obtain ⟨cq, kq, qa, qb, qc⟩ := isOf (s := s.setVm vm0) r.2.2.2 e0 E1
  obtain ⟨v, _, ⟨T', L', k', n'⟩, -, X', hS', hgr, ⟨Lc, hQ, l1, l2, l3⟩, stp⟩ := X.virtualBackS hx (y := y) (z := y) hown (mvT r.2.2.2 w1) (mvT r.2.2.2 wd) (notFace_of_selects (args := #[]) (mvT r.2.2.2 ws)) (mvT r.2.2.2 ws) (mvT r.2.2.2 w2) hy (backOfS (W := W) (Q := fun v h L => Fr Z.heap.size L ∧ Ext Z.heap h ∧ Qc v h) (C []) r.2.2.2 w4 w3 hf hl) qa qc (g := mkF m pc Ls (argsL.reverse ++ .ref a :: rest)) rfl (hsz.trans hml.symm) (Steps.refl _) (argsL := argsL) (rest := rest) (lenOf hpd hlen) rfl (by show 2 * 0 + _ ≤ _; omega) hd (fun _ _ => ⟨has, e0, hc, hs⟩)
  dsimp only [Pt.U, Pt.locs, Pt.cells, Pt.slots] at X' hS' hgr l1 l2 l3 stp hQ
  subst l1 l2 l3
  exact (k v T' T'.heap ⟨meth, c, _, T'.vm, T'.heap.size, hS.trans hS' (by rw [← e0] at hk; exact Nat.le_trans hk hgr), Nat.le_refl _, X', Fr.app N hQ.1, rfl, hQ.2.1, hx, rfl, hml, (hS'.1.alike.findClass _ _).trans hown, r.1, r.2.1, r.2.2.1, State.Warmed39.trans (t := s.setVm vm0) r.2.2.2 hS'.1⟩ hQ.2.2).go fun _ q => stp.trans q
/-! arrays by their list of values -/
def Ar (Z : State) (h : Heap) (a : Addr) (ty : FieldType) (vs : List Value) : Prop := ∃ c : Cell, Arr Z h a c ty ∧ c.slots = vs.toArray
section ArFacts
variable {h' : Heap} {a b : Addr} {ty : FieldType} {vs : List Value} {ws : List Addr} {v : Value} {sl : Nat}
theorem Ar.lt (F : Ar Z h a ty vs) : a < h.size := by obtain ⟨c, A, -⟩ := F; exact A.lt
theorem Ar.ext (F : Ar Z h a ty vs) (E : Ext h h') : Ar Z h' a ty vs := by obtain ⟨c, A, r⟩ := F; exact ⟨c, A.ext E, r⟩
theorem Ar.other (F : Ar Z h b ty vs) (W : Wr h h' a sl v) (q : b ≠ a) : Ar Z h' b ty vs := by obtain ⟨c, A, r⟩ := F; exact ⟨c, A.other W q, r⟩
theorem Ar.keep (F : Ar Z h a ty vs) (K : Keep h h' ws) (q : a ∉ ws) : Ar Z h' a ty vs := by obtain ⟨c, A, r⟩ := F; exact ⟨c, ⟨K.2.1 a c A.1 q, A.2⟩, r⟩
theorem Ar.set (F : Ar Z h a ty vs) (W : Wr h h' a sl v) : Ar Z h' a ty (vs.set sl v) := by
  obtain ⟨c, A, r⟩ := F
  exact ⟨_, A.same W, by simp [Cell.setSlot, r]⟩
theorem Ar.ne_exa {C : String} {k : Nat} (F : Ar Z h b ty vs) (E : Exa Z h a C) (wi : (Jvm.Cond.instantiable C k).before a0 Z = true) : a ≠ b := by obtain ⟨c, A, r⟩ := F; exact ne_arr E wi A
theorem Ar.ne {vs' : List Value} (F : Ar Z h a ty vs) (G : Ar Z h b ty vs') (q : vs ≠ vs') : a ≠ b := fun e => by
  subst e; obtain ⟨c, A, r⟩ := F; obtain ⟨c', A', r'⟩ := G
  cases A.1.symm.trans A'.1
  exact q (by simpa using congrArg Array.toList (r.symm.trans r'))
theorem Ar.at {c : Cell} {j : Int32} (r : c.slots = vs.toArray) (hj : ¬ j < 0) (hv : vs[j.toNatClampNeg]? = some v) : ¬ (j < 0 ∨ c.slots.size ≤ j.toNatClampNeg) ∧ c.slots[j.toNatClampNeg]? = some v := by
  refine ⟨fun q => ?_, by rw [r]; simpa using hv⟩
  rcases q with q | q
  · exact hj q
  · rw [r] at q
    have := (List.getElem?_eq_some_iff.mp hv).1
    simp at q; omega
theorem Ar.inb {c : Cell} {j : Int32} (r : c.slots = vs.toArray) (hj : ¬ j < 0) (hl : j.toNatClampNeg < vs.length) : ¬ (j < 0 ∨ c.slots.size ≤ j.toNatClampNeg) := (Ar.at r hj (List.getElem?_eq_getElem hl)).1
end ArFacts
theorem E_newA (X : Sd l Z own nm bytes ml ret R p e s m args below T h cells slots) {aty : ArrayType} {n : Int32} {cap : Nat} {vs : List Value} {cells' slots' : Nat} (w : (Jvm.Cond.arrayClass (newarray.typeOf aty)).before a0 Z = true) (hd : decode bytes pc = .ok (.newarray aty, 2)) (hp : pc + 2 = pc') (hn : ¬ n < 0) (hcap : n.toNatClampNeg ≤ cap) (hb8 : cap * 8 ≤ 536870912) (hvs : List.replicate n.toNatClampNeg (defaultValue (newarray.typeOf aty)) = vs) (hcc : cells + 1 = cells') (hss : slots + cap = slots') (hc : cells' ≤ R.cells) (hl : slots' ≤ R.slots)
    (k : ∀ T' h' a, a = h.size → Sd l Z own nm bytes ml ret R p e s m args below T' h' cells' slots' → Ext h h' → Ar Z h' a (newarray.typeOf aty) vs → End Z p e below s Q kc ks T' (mkF m pc' Ls (.ref a :: st))) : End Z p e below s Q kc ks T (mkF m pc Ls (.int n :: st)) := by
  subst hp hcc hss hvs; obtain ⟨meth, c, locs, vm0, k0, hS, hk, X, N, e0, E, hx, hb, hml, hown, r⟩ := X; subst hb
  obtain ⟨T', h', cA, X', e', E2, A2, stp⟩ := newP X hx r.2.2.2 w e0 (g := mkF m pc Ls (.int n :: st)) rfl hd rfl hn hcap hb8 hc hl
  exact (k T' h' h.size rfl ⟨meth, c, locs, vm0, k0, hS, Nat.le_trans hk E2.1, X', N, e', E.trans E2, hx, rfl, hml, hown, r⟩ E2 ⟨_, A2, by simp [newA]⟩).go stp
theorem E_newAE (X : Sd l Z own nm bytes ml ret R p e s m args below T h cells slots) {aty : ArrayType} {n : Int32} {cap : Nat} {vs : List Value} {cells' slots' : Nat} {ad : String} (had : "[" ++ (newarray.typeOf aty).toString = ad) (w : (Jvm.Cond.arrayClass (newarray.typeOf aty)).before a0 Z = true) (hd : decode bytes pc = .ok (.newarray aty, 2)) (hp : pc + 2 = pc') (hn : ¬ n < 0) (hcap : n.toNatClampNeg ≤ cap) (hb8 : cap * 8 ≤ 536870912) (hvs : List.replicate n.toNatClampNeg (defaultValue (newarray.typeOf aty)) = vs) (hcc : cells + 1 = cells') (hss : slots + cap = slots') (hc : cells' ≤ R.cells) (hl : slots' ≤ R.slots)
    (k : ∀ T' h' a, a = h.size → Sd l Z own nm bytes ml ret R p e s m args below T' h' cells' slots' → Ext h h' → Ar Z h' a (newarray.typeOf aty) vs → Exa Z h' a ad → End Z p e below s Q kc ks T' (mkF m pc' Ls (.ref a :: st))) : End Z p e below s Q kc ks T (mkF m pc Ls (.int n :: st)) := by
  subst hp hcc hss hvs; obtain ⟨meth, c, locs, vm0, k0, hS, hk, X, N, e0, E, hx, hb, hml, hown, r⟩ := X; subst hb
  obtain ⟨T', h', cA, X', e', E2, A2, A3, stp⟩ := newPE X hx r.2.2.2 w e0 (g := mkF m pc Ls (.int n :: st)) rfl hd rfl hn hcap hb8 hc hl had
  exact (k T' h' h.size rfl ⟨meth, c, locs, vm0, k0, hS, Nat.le_trans hk E2.1, X', N, e', E.trans E2, hx, rfl, hml, hown, r⟩ E2 ⟨_, A2, by simp [newA]⟩ A3).go stp
theorem E_alen (X : Sd l Z own nm bytes ml ret R p e s m args below T h cells slots) {a : Addr} {ty : FieldType} {vs : List Value} {n : Int32} (F : Ar Z h a ty vs) (hn : vs.length.toInt32 = n) (hd : decode bytes pc = .ok (.arraylength, 1)) (hp : pc + 1 = pc') (k : End Z p e below s Q kc ks T (mkF m pc' Ls (.int n :: st))) : End Z p e below s Q kc ks T (mkF m pc Ls (.ref a :: st)) := by
  subst hp hn; obtain ⟨meth, c, locs, vm0, k0, hS, hk, X, N, e0, E, hx, hb, hml, hown, r⟩ := X; subst hb
  obtain ⟨cl, A, q⟩ := F
  have q2 : cl.slots.size = vs.length := by rw [q]; simp
  rw [← q2] at k
  exact k.go fun t => X.arraylength hx (by rw [e0]; exact A.1) (State.isArrayOf_alike r.2.2.2.alike A.2.1) (g := mkF m pc Ls (.ref a :: st)) rfl rfl hd t
theorem E_iaload (X : Sd l Z own nm bytes ml ret R p e s m args below T h cells slots) {a : Addr} {vs : List Value} {j : Int32} {v : Value} (F : Ar Z h a .int vs) (hj : ¬ j < 0) (hv : vs[j.toNatClampNeg]? = some v) (hd : decode bytes pc = .ok (.iaload, 1)) (hp : pc + 1 = pc') (k : End Z p e below s Q kc ks T (mkF m pc' Ls (v :: st))) : End Z p e below s Q kc ks T (mkF m pc Ls (.int j :: .ref a :: st)) := by
  subst hp; obtain ⟨meth, c, locs, vm0, k0, hS, hk, X, N, e0, E, hx, hb, hml, hown, r⟩ := X; subst hb
  obtain ⟨cl, A, q⟩ := F
  obtain ⟨i1, i2⟩ := Ar.at q hj hv
  exact k.go fun t => X.iaload hx (by rw [e0]; exact A.1) (State.isArrayOf_alike r.2.2.2.alike A.2.1) A.2.2 i1 i2 (g := mkF m pc Ls (.int j :: .ref a :: st)) rfl rfl hd t
theorem E_laload (X : Sd l Z own nm bytes ml ret R p e s m args below T h cells slots) {a : Addr} {vs : List Value} {j : Int32} {v : Value} (F : Ar Z h a .long vs) (hj : ¬ j < 0) (hv : vs[j.toNatClampNeg]? = some v) (hd : decode bytes pc = .ok (.laload, 1)) (hp : pc + 1 = pc') (k : End Z p e below s Q kc ks T (mkF m pc' Ls (v :: st))) : End Z p e below s Q kc ks T (mkF m pc Ls (.int j :: .ref a :: st)) := by
  subst hp; obtain ⟨meth, c, locs, vm0, k0, hS, hk, X, N, e0, E, hx, hb, hml, hown, r⟩ := X; subst hb
  obtain ⟨cl, A, q⟩ := F
  obtain ⟨i1, i2⟩ := Ar.at q hj hv
  exact k.go fun t => X.laload hx (by rw [e0]; exact A.1) (State.isArrayOf_alike r.2.2.2.alike A.2.1) A.2.2 i1 i2 (g := mkF m pc Ls (.int j :: .ref a :: st)) rfl rfl hd t
theorem E_caload (X : Sd l Z own nm bytes ml ret R p e s m args below T h cells slots) {a : Addr} {vs : List Value} {j : Int32} {v : Value} (F : Ar Z h a .char vs) (hj : ¬ j < 0) (hv : vs[j.toNatClampNeg]? = some v) (hd : decode bytes pc = .ok (.caload, 1)) (hp : pc + 1 = pc') (k : End Z p e below s Q kc ks T (mkF m pc' Ls (v :: st))) : End Z p e below s Q kc ks T (mkF m pc Ls (.int j :: .ref a :: st)) := by
  subst hp; obtain ⟨meth, c, locs, vm0, k0, hS, hk, X, N, e0, E, hx, hb, hml, hown, r⟩ := X; subst hb
  obtain ⟨cl, A, q⟩ := F
  obtain ⟨i1, i2⟩ := Ar.at q hj hv
  exact k.go fun t => X.caload hx (by rw [e0]; exact A.1) (State.isArrayOf_alike r.2.2.2.alike A.2.1) A.2.2 i1 i2 (g := mkF m pc Ls (.int j :: .ref a :: st)) rfl rfl hd t
theorem E_baload (X : Sd l Z own nm bytes ml ret R p e s m args below T h cells slots) {a : Addr} {vs : List Value} {j : Int32} {v : Value} (F : Ar Z h a .byte vs) (hj : ¬ j < 0) (hv : vs[j.toNatClampNeg]? = some v) (hd : decode bytes pc = .ok (.baload, 1)) (hp : pc + 1 = pc') (k : End Z p e below s Q kc ks T (mkF m pc' Ls (v :: st))) : End Z p e below s Q kc ks T (mkF m pc Ls (.int j :: .ref a :: st)) := by
  subst hp; obtain ⟨meth, c, locs, vm0, k0, hS, hk, X, N, e0, E, hx, hb, hml, hown, r⟩ := X; subst hb
  obtain ⟨cl, A, q⟩ := F
  obtain ⟨i1, i2⟩ := Ar.at q hj hv
  exact k.go fun t => X.baloadBytes hx (by rw [e0]; exact A.1) (State.isArrayOf_alike r.2.2.2.alike A.2.1) A.2.2 i1 i2 (g := mkF m pc Ls (.int j :: .ref a :: st)) rfl rfl hd t
theorem E_baload_Z (X : Sd l Z own nm bytes ml ret R p e s m args below T h cells slots) {a : Addr} {vs : List Value} {j : Int32} {v : Value} (F : Ar Z h a .boolean vs) (hj : ¬ j < 0) (hv : vs[j.toNatClampNeg]? = some v) (hd : decode bytes pc = .ok (.baload, 1)) (hp : pc + 1 = pc') (k : End Z p e below s Q kc ks T (mkF m pc' Ls (v :: st))) : End Z p e below s Q kc ks T (mkF m pc Ls (.int j :: .ref a :: st)) := by
  subst hp; obtain ⟨meth, c, locs, vm0, k0, hS, hk, X, N, e0, E, hx, hb, hml, hown, r⟩ := X; subst hb
  obtain ⟨cl, A, q⟩ := F
  obtain ⟨i1, i2⟩ := Ar.at q hj hv
  exact k.go fun t => X.baloadBooleans hx (by rw [e0]; exact A.1) (State.isArrayOf_alike r.2.2.2.alike A.2.1) A.2.2 i1 i2 (g := mkF m pc Ls (.int j :: .ref a :: st)) rfl rfl hd t
theorem E_aaload (X : Sd l Z own nm bytes ml ret R p e s m args below T h cells slots) {a : Addr} {vs : List Value} {j : Int32} {v : Value} {ty : FieldType} (F : Ar Z h a ty vs) (hty : ty.isReference = true) (hj : ¬ j < 0) (hv : vs[j.toNatClampNeg]? = some v) (hd : decode bytes pc = .ok (.aaload, 1)) (hp : pc + 1 = pc') (k : End Z p e below s Q kc ks T (mkF m pc' Ls (v :: st))) : End Z p e below s Q kc ks T (mkF m pc Ls (.int j :: .ref a :: st)) := by
  subst hp; obtain ⟨meth, c, locs, vm0, k0, hS, hk, X, N, e0, E, hx, hb, hml, hown, r⟩ := X; subst hb
  obtain ⟨cl, A, q⟩ := F
  obtain ⟨i1, i2⟩ := Ar.at q hj hv
  exact k.go fun t => X.aaload hx (by rw [e0]; exact A.1) (State.isArrayOf_alike r.2.2.2.alike A.2.1) hty A.2.2 i1 i2 (g := mkF m pc Ls (.int j :: .ref a :: st)) rfl rfl hd t
theorem E_iastore (X : Sd l Z own nm bytes ml ret R p e s m args below T h cells slots) {a : Addr} {vs vs' : List Value} {j : Int32} {x : Int32} (F : Ar Z h a .int vs) (hj : ¬ j < 0) (hl : j.toNatClampNeg < vs.length) (hvs : vs.set j.toNatClampNeg (.int x) = vs') (ha : Z.heap.size ≤ a) (hd : decode bytes pc = .ok (.iastore, 1)) (hp : pc + 1 = pc')
    (k : ∀ T' h', Sd l Z own nm bytes ml ret R p e s m args below T' h' cells slots → Wr h h' a j.toNatClampNeg (.int x) → Ar Z h' a .int vs' → End Z p e below s Q kc ks T' (mkF m pc' Ls st)) : End Z p e below s Q kc ks T (mkF m pc Ls (.int x :: .int j :: .ref a :: st)) := by
  subst hp hvs; obtain ⟨meth, c, locs, vm0, k0, hS, hk, X, N, e0, E, hx, hb, hml, hown, r⟩ := X; subst hb
  have F0 := F
  obtain ⟨cl, A, q⟩ := F
  obtain ⟨T', h', X', e', W, stp⟩ := stI X hx r.2.2.2 e0 A (Ar.inb q hj hl) (g := mkF m pc Ls (.int x :: .int j :: .ref a :: st)) rfl rfl hd
  exact (k T' h' ⟨meth, c, _, vm0, k0, hS, by rw [W.size]; exact hk, X', Fr.snoc X' N ha, e', E.wr W ha, hx, rfl, hml, hown, r⟩ W (F0.set W)).go stp
theorem E_lastore (X : Sd l Z own nm bytes ml ret R p e s m args below T h cells slots) {a : Addr} {vs vs' : List Value} {j : Int32} {x : Int64} (F : Ar Z h a .long vs) (hj : ¬ j < 0) (hl : j.toNatClampNeg < vs.length) (hvs : vs.set j.toNatClampNeg (.long x) = vs') (ha : Z.heap.size ≤ a) (hd : decode bytes pc = .ok (.lastore, 1)) (hp : pc + 1 = pc')
    (k : ∀ T' h', Sd l Z own nm bytes ml ret R p e s m args below T' h' cells slots → Wr h h' a j.toNatClampNeg (.long x) → Ar Z h' a .long vs' → End Z p e below s Q kc ks T' (mkF m pc' Ls st)) : End Z p e below s Q kc ks T (mkF m pc Ls (.long x :: .int j :: .ref a :: st)) := by
  subst hp hvs; obtain ⟨meth, c, locs, vm0, k0, hS, hk, X, N, e0, E, hx, hb, hml, hown, r⟩ := X; subst hb
  have F0 := F
  obtain ⟨cl, A, q⟩ := F
  obtain ⟨T', h', X', e', W, stp⟩ := stJ X hx r.2.2.2 e0 A (Ar.inb q hj hl) (g := mkF m pc Ls (.long x :: .int j :: .ref a :: st)) rfl rfl hd
  exact (k T' h' ⟨meth, c, _, vm0, k0, hS, by rw [W.size]; exact hk, X', Fr.snoc X' N ha, e', E.wr W ha, hx, rfl, hml, hown, r⟩ W (F0.set W)).go stp
theorem E_castore (X : Sd l Z own nm bytes ml ret R p e s m args below T h cells slots) {a : Addr} {vs vs' : List Value} {j : Int32} {x : Int32} (F : Ar Z h a .char vs) (hj : ¬ j < 0) (hl : j.toNatClampNeg < vs.length) (hvs : vs.set j.toNatClampNeg (.int (nar .char x)) = vs') (ha : Z.heap.size ≤ a) (hd : decode bytes pc = .ok (.castore, 1)) (hp : pc + 1 = pc')
    (k : ∀ T' h', Sd l Z own nm bytes ml ret R p e s m args below T' h' cells slots → Wr h h' a j.toNatClampNeg (.int (nar .char x)) → Ar Z h' a .char vs' → End Z p e below s Q kc ks T' (mkF m pc' Ls st)) : End Z p e below s Q kc ks T (mkF m pc Ls (.int x :: .int j :: .ref a :: st)) := by
  subst hp hvs; obtain ⟨meth, c, locs, vm0, k0, hS, hk, X, N, e0, E, hx, hb, hml, hown, r⟩ := X; subst hb
  have F0 := F
  obtain ⟨cl, A, q⟩ := F
  obtain ⟨T', h', X', e', W, stp⟩ := stC X hx r.2.2.2 e0 A (Ar.inb q hj hl) (g := mkF m pc Ls (.int x :: .int j :: .ref a :: st)) rfl rfl hd
  exact (k T' h' ⟨meth, c, _, vm0, k0, hS, by rw [W.size]; exact hk, X', Fr.snoc X' N ha, e', E.wr W ha, hx, rfl, hml, hown, r⟩ W (F0.set W)).go stp
theorem E_bastore (X : Sd l Z own nm bytes ml ret R p e s m args below T h cells slots) {a : Addr} {vs vs' : List Value} {j : Int32} {x : Int32} (F : Ar Z h a .byte vs) (hj : ¬ j < 0) (hl : j.toNatClampNeg < vs.length) (hvs : vs.set j.toNatClampNeg (.int (nar .byte x)) = vs') (ha : Z.heap.size ≤ a) (hd : decode bytes pc = .ok (.bastore, 1)) (hp : pc + 1 = pc')
    (k : ∀ T' h', Sd l Z own nm bytes ml ret R p e s m args below T' h' cells slots → Wr h h' a j.toNatClampNeg (.int (nar .byte x)) → Ar Z h' a .byte vs' → End Z p e below s Q kc ks T' (mkF m pc' Ls st)) : End Z p e below s Q kc ks T (mkF m pc Ls (.int x :: .int j :: .ref a :: st)) := by
  subst hp hvs; obtain ⟨meth, c, locs, vm0, k0, hS, hk, X, N, e0, E, hx, hb, hml, hown, r⟩ := X; subst hb
  have F0 := F
  obtain ⟨cl, A, q⟩ := F
  obtain ⟨T', h', X', e', W, stp⟩ := stB X hx r.2.2.2 e0 A (Ar.inb q hj hl) (g := mkF m pc Ls (.int x :: .int j :: .ref a :: st)) rfl rfl hd
  exact (k T' h' ⟨meth, c, _, vm0, k0, hS, by rw [W.size]; exact hk, X', Fr.snoc X' N ha, e', E.wr W ha, hx, rfl, hml, hown, r⟩ W (F0.set W)).go stp
theorem E_bastore_Z (X : Sd l Z own nm bytes ml ret R p e s m args below T h cells slots) {a : Addr} {vs vs' : List Value} {j : Int32} {x : Int32} (F : Ar Z h a .boolean vs) (hj : ¬ j < 0) (hl : j.toNatClampNeg < vs.length) (hvs : vs.set j.toNatClampNeg (.int (nar .boolean x)) = vs') (ha : Z.heap.size ≤ a) (hd : decode bytes pc = .ok (.bastore, 1)) (hp : pc + 1 = pc')
    (k : ∀ T' h', Sd l Z own nm bytes ml ret R p e s m args below T' h' cells slots → Wr h h' a j.toNatClampNeg (.int (nar .boolean x)) → Ar Z h' a .boolean vs' → End Z p e below s Q kc ks T' (mkF m pc' Ls st)) : End Z p e below s Q kc ks T (mkF m pc Ls (.int x :: .int j :: .ref a :: st)) := by
  subst hp hvs; obtain ⟨meth, c, locs, vm0, k0, hS, hk, X, N, e0, E, hx, hb, hml, hown, r⟩ := X; subst hb
  have F0 := F
  obtain ⟨cl, A, q⟩ := F
  obtain ⟨T', h', X', e', W, stp⟩ := stZ X hx r.2.2.2 e0 A (Ar.inb q hj hl) (g := mkF m pc Ls (.int x :: .int j :: .ref a :: st)) rfl rfl hd
  exact (k T' h' ⟨meth, c, _, vm0, k0, hS, by rw [W.size]; exact hk, X', Fr.snoc X' N ha, e', E.wr W ha, hx, rfl, hml, hown, r⟩ W (F0.set W)).go stp
theorem E_clone (X : Sd l Z own nm bytes ml ret R p e s m args below T h cells slots) {ad : String} {i cap W : Nat} {a : Addr} {ty : FieldType} {vs : List Value} {cells' slots' : Nat} (w1 : (Jvm.Cond.methodLink own i ⟨ad, "clone", "()Ljava/lang/Object;"⟩).before a0 Z = true) (w2 : (Jvm.Cond.sameMethod ad "java/lang/Object" "clone" "()Ljava/lang/Object;").before a0 Z = true) (w3 : (Jvm.Cond.native ⟨"java/lang/Object", "clone", "()Ljava/lang/Object;"⟩).before a0 Z = true)
    (w4 : (Jvm.Cond.instanceMethod ⟨"java/lang/Object", "clone", "()Ljava/lang/Object;"⟩).before a0 Z = true) (w5 : (Jvm.Cond.selects ad ⟨ad, "clone", "()Ljava/lang/Object;"⟩ ⟨"java/lang/Object", "clone", "()Ljava/lang/Object;"⟩).before a0 Z = true) (w6 : (Jvm.Cond.castable ad "java/lang/Cloneable").before a0 Z = true) (F : Ar Z h a ty vs) (E1 : Exa Z h a ad) (hfit : ∀ v ∈ vs, fits ty v = true) (hsz : Ls.size = ml) (hd : decode bytes pc = .ok (.invokevirtual i, 3)) (hp : pc + 3 = pc')
    (hf : 1 ≤ R.frames) (hW : (st.map fun v => v.category).sum ≤ W) (hl : W + 14 ≤ R.locals) (hcap : vs.length ≤ cap) (hcc : cells + 1 = cells') (hss : slots + cap = slots') (hc : cells' ≤ R.cells) (hsl : slots' ≤ R.slots)
    (k : ∀ T' h' b, b = h.size → Sd l Z own nm bytes ml ret R p e s m args below T' h' cells' slots' → Ext h h' → Ar Z h' b ty vs → Exa Z h' b ad → End Z p e below s Q kc ks T' (mkF m pc' Ls (.ref b :: st))) : End Z p e below s Q kc ks T (mkF m pc Ls (.ref a :: st)) := by
  subst hp hcc hss; obtain ⟨meth, c, locs, vm0, k0, hS, hk, X, N, e0, E, hx, hb, hml, hown, r⟩ := X; subst hb
  obtain ⟨cl, A, q⟩ := F
  have FC : FitC Z cl := fitC_of A fun i hi v hv => hfit v (by rw [q] at hv; exact List.mem_of_getElem? (by simpa using hv))
  obtain ⟨T', h', X', e', E2, A2, A3, stp⟩ := cloneA X hx r.2.2.2 hown w1 w2 w3 w4 w5 w6 e0 A E1 FC (g := mkF m pc Ls (.ref a :: st)) rfl (hsz.trans hml.symm) rfl hd hf (W := W) (cap := cap) (by show 2 * 0 + _ ≤ _; omega) hl (by rw [q]; simpa using hcap) hc hsl
  exact (k T' h' h.size rfl ⟨meth, c, locs, vm0, k0, hS, Nat.le_trans hk E2.1, X', N, e', E.trans E2, hx, rfl, hml, hown, r⟩ E2 ⟨_, A2, q⟩ A3).go stp
theorem E_cast (X : Sd l Z own nm bytes ml ret R p e s m args below T h cells slots) {K : String} {i : Nat} {a : Addr} (w : (Jvm.Cond.classLink own i K).before a0 Z = true) (F : Ins Z h a K true) (hd : decode bytes pc = .ok (.checkcast i, 3)) (hp : pc + 3 = pc')
    (k : ∀ T', Sd l Z own nm bytes ml ret R p e s m args below T' h cells slots → End Z p e below s Q kc ks T' (mkF m pc' Ls (.ref a :: st))) : End Z p e below s Q kc ks T (mkF m pc Ls (.ref a :: st)) := by
  subst hp; obtain ⟨meth, c, locs, vm0, k0, hS, hk, X, N, e0, E, hx, hb, hml, hown, r⟩ := X; subst hb
  obtain ⟨T', X', e', stp⟩ := castY X hx r.2.2.2 hown w e0 F (g := mkF m pc Ls (.ref a :: st)) rfl rfl hd
  exact (k T' ⟨meth, c, locs, vm0, k0, hS, hk, X', N, e', E, hx, rfl, hml, hown, r⟩).go stp
theorem E_instY (X : Sd l Z own nm bytes ml ret R p e s m args below T h cells slots) {K : String} {i : Nat} {a : Addr} (w : (Jvm.Cond.classLink own i K).before a0 Z = true) (F : Ins Z h a K true) (hd : decode bytes pc = .ok (.instanceof i, 3)) (hp : pc + 3 = pc')
    (k : ∀ T', Sd l Z own nm bytes ml ret R p e s m args below T' h cells slots → End Z p e below s Q kc ks T' (mkF m pc' Ls (.int 1 :: st))) : End Z p e below s Q kc ks T (mkF m pc Ls (.ref a :: st)) := by
  subst hp; obtain ⟨meth, c, locs, vm0, k0, hS, hk, X, N, e0, E, hx, hb, hml, hown, r⟩ := X; subst hb
  obtain ⟨T', X', e', stp⟩ := instY X hx r.2.2.2 hown w e0 F (g := mkF m pc Ls (.ref a :: st)) rfl rfl hd
  exact (k T' ⟨meth, c, locs, vm0, k0, hS, hk, X', N, e', E, hx, rfl, hml, hown, r⟩).go stp
theorem isref_cat {v : Value} (h : v.isRef = true) : v.category = 1 := by rcases ref_cases h with rfl | ⟨a, rfl⟩ <;> rfl
theorem own_irr (x : Int32) : ¬ x < x := by rw [Int32.lt_iff_toInt_lt]; omega
theorem own_irrL (x : Int64) : ¬ x < x := by rw [Int64.lt_iff_toInt_lt]; omega
theorem E_callP (X : Sd l Z own nm bytes ml ret R p e s m args below T h cells slots) {i : Nat} {y : MethodName} {K : String} {bytes' : ByteArray} {ml' : Nat} {ret' : Option FieldType} {rm : Room} {Qc : Option Value → Heap → Prop} {a : Addr} {as : Array Value} {ps : List FieldType} {rr : Option FieldType} {argsL rest : List Value} {W : Nat} {cells' slots' : Nat} (C : Con l Z y bytes' ml' ret' rm as h Qc) (E1 : Exa Z h a K)
    (w1 : (Jvm.Cond.methodLink own i y).before a0 Z = true) (w2 : (Jvm.Cond.instanceMethod y).before a0 Z = true) (ws : (Jvm.Cond.selects y.cls y y).before a0 Z = true) (wp : (Jvm.Cond.privateMethod y).before a0 Z = true) (w3 : (Jvm.Cond.initialized y.cls).before a0 Z = true) (w4 : (Jvm.Cond.code y bytes' ml' ret').before a0 Z = true) (hy : y.cls ≠ "java/lang/invoke/MethodHandle" ∧ y.cls ≠ "java/lang/invoke/VarHandle") (hsz : Ls.size = ml) (has : (.ref a :: argsL).toArray = as) (hpd : parseMethodDescriptor y.desc = some ⟨ps, rr⟩) (hlen : argsL.length = ps.length) (hst : st = argsL.reverse ++ .ref a :: rest)
    (hd : decode bytes pc = .ok (.invokevirtual i, 3)) (hp : pc + 3 = pc') (hW : (rest.map fun v => v.category).sum ≤ W) (hf : rm.frames + 1 ≤ R.frames) (hl : W + (ml' + 11) + rm.locals ≤ R.locals) (hcc : cells + rm.cells = cells') (hss : slots + rm.slots = slots') (hc : cells' ≤ R.cells) (hs : slots' ≤ R.slots)
    (k : ∀ v T' h', Sd l Z own nm bytes ml ret R p e s m args below T' h' cells' slots' → Qc v h' → End Z p e below s Q kc ks T' (mkF m pc' Ls (v.toList ++ rest))) : End Z p e below s Q kc ks T (mkF m pc Ls st) := by
  subst hp hst hcc hss; obtain ⟨meth, c, locs, vm0, k0, hS, hk, X, N, e0, E, hx, hb, hml, hown, r⟩ := X; subst hb
  obtain ⟨cq, q1, q2⟩ := E1.cell
  obtain ⟨v, _, ⟨T', L', k', n'⟩, -, X', hS', hgr, ⟨Lc, hQ, l1, l2, l3⟩, stp⟩ := X.privateBackS hx (y := y) hown (mvT r.2.2.2 w1) (mvT r.2.2.2 w2) (mvT r.2.2.2 ws) (Cond.privateMethod_at (mvP r.2.2.2 wp (args := #[]))) (mvT r.2.2.2 w4) hy (backOfS (W := W) (Q := fun v h L => Fr Z.heap.size L ∧ Ext Z.heap h ∧ Qc v h) (C []) r.2.2.2 w4 w3 hf hl) (g := mkF m pc Ls (argsL.reverse ++ .ref a :: rest)) rfl (hsz.trans hml.symm) (Steps.refl _) (a := a) (by rw [e0]; exact q1) q2 (argsL := argsL) (rest := rest) (lenOf hpd hlen) rfl (by show 2 * 0 + _ ≤ _; omega) hd (fun _ _ => ⟨has, e0, hc, hs⟩)
  dsimp only [Pt.U, Pt.locs, Pt.cells, Pt.slots] at X' hS' hgr l1 l2 l3 stp hQ
  subst l1 l2 l3
  exact (k v T' T'.heap ⟨meth, c, _, T'.vm, T'.heap.size, hS.trans hS' (by rw [← e0] at hk; exact Nat.le_trans hk hgr), Nat.le_refl _, X', Fr.app N hQ.1, rfl, hQ.2.1, hx, rfl, hml, (hS'.1.alike.findClass _ _).trans hown, r.1, r.2.1, r.2.2.1, State.Warmed39.trans (t := s.setVm vm0) r.2.2.2 hS'.1⟩ hQ.2.2).go fun _ q => stp.trans q
theorem E_callU (X : Sd l Z own nm bytes ml ret R p e s m args below T h cells slots) {i : Nat} {x y : MethodName} {K : String} {bytes' : ByteArray} {ml' : Nat} {ret' : Option FieldType} {rm : Room} {Qc : Option Value → Heap → Prop} {a : Addr} {as : Array Value} {ps : List FieldType} {rr : Option FieldType} {argsL rest : List Value} {W : Nat} {cells' slots' : Nat} (C : Con l Z y bytes' ml' ret' rm as h Qc) (E1 : Exa Z h a K)
    (w1 : (Jvm.Cond.methodLink own i x).before a0 Z = true) (wm : (Jvm.Cond.sameMethod x.cls y.cls x.name x.desc).before a0 Z = true) (wd : (Jvm.Cond.declares ⟨y.cls, x.name, x.desc⟩).before a0 Z = true) (ws : (Jvm.Cond.selects K x y).before a0 Z = true) (w2 : (Jvm.Cond.instanceMethod y).before a0 Z = true) (w3 : (Jvm.Cond.initialized y.cls).before a0 Z = true) (w4 : (Jvm.Cond.code y bytes' ml' ret').before a0 Z = true) (hy : y.cls ≠ "java/lang/invoke/MethodHandle" ∧ y.cls ≠ "java/lang/invoke/VarHandle") (hsz : Ls.size = ml) (has : (.ref a :: argsL).toArray = as) (hpd : parseMethodDescriptor x.desc = some ⟨ps, rr⟩) (hlen : argsL.length = ps.length) (hst : st = argsL.reverse ++ .ref a :: rest)
    (hd : decode bytes pc = .ok (.invokevirtual i, 3)) (hp : pc + 3 = pc') (hW : (rest.map fun v => v.category).sum ≤ W) (hf : rm.frames + 1 ≤ R.frames) (hl : W + (ml' + 11) + rm.locals ≤ R.locals) (hcc : cells + rm.cells = cells') (hss : slots + rm.slots = slots') (hc : cells' ≤ R.cells) (hs : slots' ≤ R.slots)
    (k : ∀ v T' h', Sd l Z own nm bytes ml ret R p e s m args below T' h' cells' slots' → Qc v h' → End Z p e below s Q kc ks T' (mkF m pc' Ls (v.toList ++ rest))) : End Z p e below s Q kc ks T (mkF m pc Ls st) := by
  subst hp hst hcc hss; obtain ⟨meth, c, locs, vm0, k0, hS, hk, X, N, e0, E, hx, hb, hml, hown, r⟩ := X; subst hb
  obtain ⟨cq, kq, qa, qb, qc⟩ := isOf (s := s.setVm vm0) r.2.2.2 e0 E1
  obtain ⟨v, _, ⟨T', L', k', n'⟩, -, X', hS', hgr, ⟨Lc, hQ, l1, l2, l3⟩, stp⟩ := X.virtualBackUpS hx (x := x) (y := y) (owner := y.cls) hown (mvT r.2.2.2 w1) (mvT r.2.2.2 wm) (mvT r.2.2.2 wd) hy (mvT r.2.2.2 ws) (mvT r.2.2.2 w2) (backOfS (W := W) (Q := fun v h L => Fr Z.heap.size L ∧ Ext Z.heap h ∧ Qc v h) (C []) r.2.2.2 w4 w3 hf hl) qa qc (g := mkF m pc Ls (argsL.reverse ++ .ref a :: rest)) rfl (hsz.trans hml.symm) (Steps.refl _) (argsL := argsL) (rest := rest) (lenOf hpd hlen) rfl (by show 2 * 0 + _ ≤ _; omega) hd (fun _ _ => ⟨has, e0, hc, hs⟩)
  dsimp only [Pt.U, Pt.locs, Pt.cells, Pt.slots] at X' hS' hgr l1 l2 l3 stp hQ
  subst l1 l2 l3
  exact (k v T' T'.heap ⟨meth, c, _, T'.vm, T'.heap.size, hS.trans hS' (by rw [← e0] at hk; exact Nat.le_trans hk hgr), Nat.le_refl _, X', Fr.app N hQ.1, rfl, hQ.2.1, hx, rfl, hml, (hS'.1.alike.findClass _ _).trans hown, r.1, r.2.1, r.2.2.1, State.Warmed39.trans (t := s.setVm vm0) r.2.2.2 hS'.1⟩ hQ.2.2).go fun _ q => stp.trans q
theorem E_eqI {x z : Int32} (q : x = z) (k : End Z p e below s Q kc ks T (mkF m pc Ls (.int z :: st))) : End Z p e below s Q kc ks T (mkF m pc Ls (.int x :: st)) := by subst q; exact k
theorem E_eqJ {x z : Int64} (q : x = z) (k : End Z p e below s Q kc ks T (mkF m pc Ls (.long z :: st))) : End Z p e below s Q kc ks T (mkF m pc Ls (.long x :: st)) := by subst q; exact k
theorem E_eqV {x z : Value} (q : x = z) (k : End Z p e below s Q kc ks T (mkF m pc Ls (z :: st))) : End Z p e below s Q kc ks T (mkF m pc Ls (x :: st)) := by subst q; exact k
/-! from the case's words -/
theorem own_eq {first : State} {o : Option Outcome} {idx : List Nat} {a b : Term} (h : (Jvm.Cond.eq a b).value args first o s idx = some true) : ∃ v, a.eval args first o idx s = some v ∧ b.eval args first o idx s = some v := by
  simp only [Cond.value] at h
  split at h <;> simp_all
theorem own_exa {t : Term} {K : String} (h : (Jvm.Cond.exactly t K).value args s none s [] = some true) : ∃ a, t.eval args s none [] s = some (.ref a) ∧ Exa s s.heap a K := by
  obtain ⟨a, c, cell, k, e1, r⟩ := Cond.exactly_spec (Cond.before_iff.mpr h)
  exact ⟨a, e1, Exa.start e1 h⟩
theorem own_eqi {t u : Term} {v : Value} (h : (Jvm.Cond.eq t u).value args s none s [] = some true) (hu : u.eval args s none [] s = some v) : t.eval args s none [] s = some v := by
  obtain ⟨w, h1, h2⟩ := own_eq h
  rw [h1, ← h2, hu]
theorem own_fld {t : Term} {C n d : String} {v : Value} {a : Addr} (ev : t.eval args s none [] s = some (.ref a)) (h : (Term.field t C n d).eval args s none [] s = some v) : Fld s s.heap a C n d v :=
  Fld.start (by simpa [Term.eval, ev] using h)
theorem own_arr {t : Term} {ty : FieldType} {a : Addr} (ev : t.eval args s none [] s = some (.ref a)) (h : (Jvm.Cond.arrayOf t ty).value args s none s [] = some true) : ∃ c, Arr s s.heap a c ty ∧ s.arrayAt? a = some c := by
  obtain ⟨c, A⟩ := Arr.start ev h
  exact ⟨c, A, A.fin (Vm.Alike.refl _)⟩
theorem own_len {t : Term} {a : Addr} {c : Cell} {n : Int32} (ev : t.eval args s none [] s = some (.ref a)) (hc : s.arrayAt? a = some c) (h : (Term.length t).eval args s none [] s = some (.int n)) : c.slots.size = n.toNatClampNeg := by
  simp only [Term.eval, ev, hc, Option.bind_eq_bind, Option.bind_some] at h
  split at h
  · rename_i q
    have h := Value.int.inj (Option.some.inj h)
    rw [← h]
    have h2 := len_toInt q
    show _ = (Int32.toInt _).toNat
    rw [h2]; rfl
  · cases h
theorem own_el {t : Term} {a : Addr} {c : Cell} {k : Int32} {v : Value} (ev : t.eval args s none [] s = some (.ref a)) (hc : s.arrayAt? a = some c) (h : (Term.elem t (.int k)).eval args s none [] s = some v) : c.slots[k.toNatClampNeg]? = some v := by
  simp only [Term.eval, ev, hc, Option.bind_eq_bind, Option.bind_some] at h
  split at h
  · cases h
  · exact h
theorem own_ar {a : Addr} {c : Cell} {ty : FieldType} {vs : List Value} (A : Arr Z h a c ty) (hs : c.slots.size = vs.length) (H : HasL c 0 vs) : Ar Z h a ty vs := by
  refine ⟨c, A, ?_⟩
  apply Array.ext'
  apply List.ext_getElem?
  intro i
  by_cases hi : i < vs.length
  · have := HasL.at (dv := .null) vs 0 H i hi
    rw [Nat.zero_add] at this
    simp only [List.getElem?_toArray, Array.getElem?_toList] at *
    rw [this, List.getD_eq_getElem?_getD, List.getElem?_eq_getElem hi]; rfl
  · rw [List.getElem?_eq_none (by simpa [hs] using Nat.le_of_not_lt hi), List.getElem?_eq_none (by simpa using Nat.le_of_not_lt hi)]
theorem E_ldcF (X : Sd l Z own nm bytes ml ret R p e s m args below T h cells slots) {i : Nat} {b : UInt32} (w : (Jvm.Cond.constantFloat own i b).before a0 Z = true) (hd : decode bytes pc = .ok (.ldc i, 2)) (hp : pc + 2 = pc') (k : End Z p e below s Q kc ks T (mkF m pc' Ls (.float b :: st))) : End Z p e below s Q kc ks T (mkF m pc Ls st) := by
  subst hp; obtain ⟨meth, c, locs, vm0, k0, hS, hk, X, N, e0, E, hx, hb, hml, hown, hnm, hret, hlk, hZ⟩ := X; subst hb
  obtain ⟨kk, cf, hk, hcf, hc⟩ := Cond.constantFloat_spec hown (mvT (s := s.setVm vm0) (args := args) hZ w)
  exact k.go (X.ldcFloat hx hk hcf hc (g := mkF m pc Ls st) rfl hd)
/-! arrays of references, with what they take -/
def ArR (Z : State) (h : Heap) (a : Addr) (ty : FieldType) (C : String) (vs : List Value) : Prop := ∃ c : Cell, Arr Z h a c ty ∧ c.slots = vs.toArray ∧ (Ovr Z c.cls C ∨ ∃ t, OvrA Z c.cls t C)
section ArRFacts
variable {h' : Heap} {a b y : Addr} {ty : FieldType} {C : String} {vs : List Value} {ws : List Addr} {v : Value} {sl : Nat}
theorem ArR.ar (F : ArR Z h a ty C vs) : Ar Z h a ty vs := by obtain ⟨c, A, r, -⟩ := F; exact ⟨c, A, r⟩
theorem ArR.lt (F : ArR Z h a ty C vs) : a < h.size := F.ar.lt
theorem ArR.ext (F : ArR Z h a ty C vs) (E : Ext h h') : ArR Z h' a ty C vs := by obtain ⟨c, A, r⟩ := F; exact ⟨c, A.ext E, r⟩
theorem ArR.other (F : ArR Z h b ty C vs) (W : Wr h h' a sl v) (q : b ≠ a) : ArR Z h' b ty C vs := by obtain ⟨c, A, r⟩ := F; exact ⟨c, A.other W q, r⟩
theorem ArR.keep (F : ArR Z h a ty C vs) (K : Keep h h' ws) (q : a ∉ ws) : ArR Z h' a ty C vs := by obtain ⟨c, A, r⟩ := F; exact ⟨c, ⟨K.2.1 a c A.1 q, A.2⟩, r⟩
theorem ArR.set (F : ArR Z h a ty C vs) (W : Wr h h' a sl v) : ArR Z h' a ty C (vs.set sl v) := by
  obtain ⟨c, A, r, O⟩ := F
  exact ⟨_, A.same W, by simp [Cell.setSlot, r], O⟩
theorem ArR.sto (F : ArR Z h a ty C vs) (I : Ins Z h y C true) : Sto Z h a (.ref y) := by
  obtain ⟨c, A, -, O | ⟨t, O⟩⟩ := F
  · exact Sto.of A O I
  · exact Sto.ofVA A rfl O I
end ArRFacts
theorem E_newRA (X : Sd l Z own nm bytes ml ret R p e s m args below T h cells slots) {C : String} {ty : FieldType} {i cap : Nat} {n : Int32} {vs : List Value} {cells' slots' : Nat} (hC : (FieldType.array ty).toString = C) (w1 : (Jvm.Cond.classLink own i C).before a0 Z = true) (w2 : (Jvm.Cond.arrayOver (.array ty)).before a0 Z = true) (hd : decode bytes pc = .ok (.anewarray i, 3)) (hp : pc + 3 = pc') (hn : ¬ n < 0) (hcap : n.toNatClampNeg ≤ cap) (hb8 : cap * 8 ≤ 536870912) (hvs : List.replicate n.toNatClampNeg Value.null = vs) (hcc : cells + 1 = cells') (hss : slots + cap = slots') (hc : cells' ≤ R.cells) (hl : slots' ≤ R.slots)
    (k : ∀ T' h' a, a = h.size → Sd l Z own nm bytes ml ret R p e s m args below T' h' cells' slots' → Ext h h' → ArR Z h' a (.array ty) C vs → End Z p e below s Q kc ks T' (mkF m pc' Ls (.ref a :: st))) : End Z p e below s Q kc ks T (mkF m pc Ls (.int n :: st)) := by
  subst hp hcc hss hvs; obtain ⟨meth, c, locs, vm0, k0, hS, hk, X, N, e0, E, hx, hb, hml, hown, r⟩ := X; subst hb
  obtain ⟨T', h', cA, X', e', E2, A2, -, O2, stp⟩ := newRA X hx r.2.2.2 hown hC w1 w2 e0 (g := mkF m pc Ls (.int n :: st)) rfl hd rfl hn hcap hb8 hc hl rfl
  exact (k T' h' h.size rfl ⟨meth, c, locs, vm0, k0, hS, Nat.le_trans hk E2.1, X', N, e', E.trans E2, hx, rfl, hml, hown, r⟩ E2 ⟨_, A2, by simp [newA, defaultValue], Or.inr ⟨_, O2⟩⟩).go stp
theorem E_newR (X : Sd l Z own nm bytes ml ret R p e s m args below T h cells slots) {C : String} {i cap : Nat} {n : Int32} {vs : List Value} {cells' slots' : Nat} (w1 : (Jvm.Cond.classLink own i C).before a0 Z = true) (w2 : (Jvm.Cond.arrayOver (.object C)).before a0 Z = true) (hd : decode bytes pc = .ok (.anewarray i, 3)) (hp : pc + 3 = pc') (hn : ¬ n < 0) (hcap : n.toNatClampNeg ≤ cap) (hb8 : cap * 8 ≤ 536870912) (hvs : List.replicate n.toNatClampNeg Value.null = vs) (hcc : cells + 1 = cells') (hss : slots + cap = slots') (hc : cells' ≤ R.cells) (hl : slots' ≤ R.slots)
    (k : ∀ T' h' a, a = h.size → Sd l Z own nm bytes ml ret R p e s m args below T' h' cells' slots' → Ext h h' → ArR Z h' a (.object C) C vs → End Z p e below s Q kc ks T' (mkF m pc' Ls (.ref a :: st))) : End Z p e below s Q kc ks T (mkF m pc Ls (.int n :: st)) := by
  subst hp hcc hss hvs; obtain ⟨meth, c, locs, vm0, k0, hS, hk, X, N, e0, E, hx, hb, hml, hown, r⟩ := X; subst hb
  obtain ⟨T', h', cA, X', e', E2, A2, O2, stp⟩ := newR X hx r.2.2.2 hown w1 w2 e0 (g := mkF m pc Ls (.int n :: st)) rfl hd rfl hn hcap hb8 hc hl
  exact (k T' h' h.size rfl ⟨meth, c, locs, vm0, k0, hS, Nat.le_trans hk E2.1, X', N, e', E.trans E2, hx, rfl, hml, hown, r⟩ E2 ⟨_, A2, by simp [newA, defaultValue], Or.inl O2⟩).go stp
theorem E_aastore (X : Sd l Z own nm bytes ml ret R p e s m args below T h cells slots) {a y : Addr} {ty : FieldType} {C : String} {vs vs' : List Value} {j : Int32} (F : ArR Z h a ty C vs) (I : Ins Z h y C true) (hty : ty.isReference = true) (hj : ¬ j < 0) (hl : j.toNatClampNeg < vs.length) (hvs : vs.set j.toNatClampNeg (.ref y) = vs') (ha : Z.heap.size ≤ a) (hd : decode bytes pc = .ok (.aastore, 1)) (hp : pc + 1 = pc')
    (k : ∀ T' h', Sd l Z own nm bytes ml ret R p e s m args below T' h' cells slots → Wr h h' a j.toNatClampNeg (.ref y) → ArR Z h' a ty C vs' → End Z p e below s Q kc ks T' (mkF m pc' Ls st)) : End Z p e below s Q kc ks T (mkF m pc Ls (.ref y :: .int j :: .ref a :: st)) := by
  subst hp hvs; obtain ⟨meth, c, locs, vm0, k0, hS, hk, X, N, e0, E, hx, hb, hml, hown, r⟩ := X; subst hb
  have F0 := F
  have S := F.sto I
  obtain ⟨cl, A, q, -⟩ := F
  obtain ⟨T', h', X', e', W, stp⟩ := stR X hx r.2.2.2 e0 A (Ar.inb q hj hl) hty S (g := mkF m pc Ls (.ref y :: .int j :: .ref a :: st)) rfl rfl hd
  exact (k T' h' ⟨meth, c, _, vm0, k0, hS, by rw [W.size]; exact hk, X', Fr.snoc X' N ha, e', E.wr W ha, hx, rfl, hml, hown, r⟩ W (F0.set W)).go stp
theorem E_ldcwI (X : Sd l Z own nm bytes ml ret R p e s m args below T h cells slots) {i : Nat} {v : Int32} (w : (Jvm.Cond.constant own i v).before a0 Z = true) (hd : decode bytes pc = .ok (.ldc_w i, 3)) (hp : pc + 3 = pc') (k : End Z p e below s Q kc ks T (mkF m pc' Ls (.int v :: st))) : End Z p e below s Q kc ks T (mkF m pc Ls st) := by
  subst hp; obtain ⟨meth, c, locs, vm0, k0, hS, hk, X, N, e0, E, hx, hb, hml, hown, hnm, hret, hlk, hZ⟩ := X; subst hb
  exact k.go (X.ldcwInt hx hown (mvT hZ w) (g := mkF m pc Ls st) rfl hd)
theorem Ar.arv {a : Addr} {ty : FieldType} {vs : List Value} {z : Int32} (dv : Value) (F : Ar Z h a ty vs) (hf : ∀ v ∈ vs, fits ty v = true) (hn : vs.length = z.toNatClampNeg) (hz : ¬ z < 0) : ∃ k, Arv Z h a k ty z vs dv := by
  obtain ⟨c, A, r⟩ := F
  have hs : c.slots.size = vs.length := by rw [r]; simp
  refine ⟨c.cls, c, A, rfl, by rw [hs]; exact hn, hz, fun i hi => ?_, fun i hi => ?_⟩
  · rw [hs] at hi
    rw [r, List.getD_eq_getElem?_getD]; simp [hi]
  · rw [hs] at hi
    rw [List.getD_eq_getElem?_getD, List.getElem?_eq_getElem hi]
    exact hf _ (List.getElem_mem hi)
theorem Ar.of_arv {a : Addr} {ty : FieldType} {vs : List Value} {z : Int32} {dv : Value} {k : ClassId} (F : Arv Z h a k ty z vs dv) (hn : vs.length = z.toNatClampNeg) : Ar Z h a ty vs := by
  obtain ⟨c, A, -, hs, -, H, -⟩ := F
  refine ⟨c, A, ?_⟩
  apply Array.ext'
  apply List.ext_getElem?
  intro i
  by_cases hi : i < vs.length
  · have := H i (by omega)
    rw [Array.getElem?_toList, this, List.getD_eq_getElem?_getD, List.getElem?_eq_getElem hi]
    simp [hi]
  · rw [List.getElem?_eq_none (by rw [Array.length_toList]; omega), List.getElem?_eq_none (by simpa using Nat.le_of_not_lt hi)]
theorem E_acopy (X : Sd l Z own nm bytes ml ret R p e s m args below T h cells slots) {i W : Nat} {a b : Addr} {ty : FieldType} {vs vd vd2 : List Value} {sp dp nn z z' : Int32} (w1 : (Jvm.Cond.methodLink own i Jvm.Stand.acN).before a0 Z = true) (w2 : (Jvm.Cond.native Jvm.Stand.acN).before a0 Z = true) (w3 : (Jvm.Cond.static Jvm.Stand.acN).before a0 Z = true) (w4 : (Jvm.Cond.initialized "java/lang/System").before a0 Z = true)
    (A : Ar Z h a ty vs) (B : Ar Z h b ty vd) (hty : refKind ty = false) (fa : ∀ v ∈ vs, fits ty v = true) (fb : ∀ v ∈ vd, fits ty v = true) (za : vs.length = z.toNatClampNeg) (hz : ¬ z < 0) (zb : vd.length = z'.toNatClampNeg) (hz' : ¬ z' < 0) (h1 : ¬ sp < 0) (h2 : ¬ dp < 0) (h3 : ¬ nn < 0) (h4 : sp.toNatClampNeg + nn.toNatClampNeg ≤ vs.length) (h5 : dp.toNatClampNeg + nn.toNatClampNeg ≤ vd.length)
    (hvd : vd.take dp.toNatClampNeg ++ ((List.range nn.toNatClampNeg).map fun i => vs.getD (sp.toNatClampNeg + i) .null) ++ vd.drop (dp.toNatClampNeg + nn.toNatClampNeg) = vd2) (hb0 : Z.heap.size ≤ b) (hsz : Ls.size = ml) (hd : decode bytes pc = .ok (.invokestatic i, 3)) (hp : pc + 3 = pc') (hf : 1 ≤ R.frames) (hW : (st.map fun v => v.category).sum ≤ W) (hlo : W + (nativeFrameWords "java/lang/System" "arraycopy" 5 + 11) ≤ R.locals)
    (k : ∀ T' h', Sd l Z own nm bytes ml ret R p e s m args below T' h' cells slots → Keep h h' [b] → Ar Z h' b ty vd2 → End Z p e below s Q kc ks T' (mkF m pc' Ls st)) : End Z p e below s Q kc ks T (mkF m pc Ls (.int nn :: .int dp :: .ref b :: .int sp :: .ref a :: st)) := by
  subst hp hvd; obtain ⟨meth, c, locs, vm0, k0, hS, hk, X, N, e0, E, hx, hb, hml, hown, r⟩ := X; subst hb
  obtain ⟨k1, A1⟩ := A.arv .null fa za hz
  obtain ⟨k2, B1⟩ := B.arv .null fb zb hz'
  obtain ⟨T', h', L, X', e', N', K, B2, stp⟩ := cpA X hx r.2.2.2 hown w1 w2 w3 w4 e0 A1 B1 (Or.inl ⟨rfl, hty⟩) h1 h2 h3 (by rw [← za]; exact h4) (by rw [← zb]; exact h5) rfl h5 N hb0 (g := mkF m pc Ls (.int nn :: .int dp :: .ref b :: .int sp :: .ref a :: st)) rfl (hsz.trans hml.symm) rfl hd hf (W := W) (by show 2 * 0 + _ ≤ _; omega) hlo
  refine (k T' h' ⟨meth, c, _, vm0, k0, hS, Nat.le_trans hk K.1, X', N', e', E.keep K (allS hb0 all0), hx, rfl, hml, hown, r⟩ K (Ar.of_arv B2 ?_)).go stp
  simp; omega
theorem E_ldcS (X : Sd l Z own nm bytes ml ret R p e s m args below T h cells slots) {i n : Nat} {text : String} {cells' slots' : Nat} (w : (Jvm.Cond.stringLink own i text).before a0 Z = true) (wS : ∀ a ∈ Bundle.stringAtoms, a.before a0 Z = true) (hd : decode bytes pc = .ok (.ldc i, 2)) (hp : pc + 2 = pc') (hn : 4 * text.toList.length ≤ n) (hbig : n ≤ 536870912) (hcc : cells + 2 = cells') (hss : slots + (n + 4) = slots') (hc : cells' ≤ R.cells) (hl : slots' ≤ R.slots)
    (k : ∀ T' h' a, Sd l Z own nm bytes ml ret R p e s m args below T' h' cells' slots' → Ext h h' → End Z p e below s Q kc ks T' (mkF m pc' Ls (.ref a :: st))) : End Z p e below s Q kc ks T (mkF m pc Ls st) := by
  subst hp hcc hss; obtain ⟨meth, c, locs, vm0, k0, hS, hk, X, N, e0, E, hx, hb, hml, hown, r⟩ := X; subst hb
  obtain ⟨a, T', h', k1, X', e', E2, hS', hk', hZ', hown', stp⟩ := ldcS X hx r.2.2.2 hown w wS e0 hS hk (g := mkF m pc Ls st) rfl hd hn hbig hc hl
  exact (k T' h' a ⟨meth, c, locs, T'.vm, k1, hS', hk', X', N, e', E.trans E2, hx, rfl, hml, hown', r.1, r.2.1, r.2.2.1, hZ'⟩ E2).go stp
end Own
end Jvm.RoadKit
namespace Jvm.Pilot.@@N@@
open Jvm Jvm.ClassFile Sem Op Lib Jvm.Free Jvm.Stand Jvm.LawKit Jvm.RoadKit Bundle Jvm.Pilot.@@N@@.Jvm.D
theorem w_0 {a0 : Array Value} {Z : State} (hw : ∀ d ∈ tables_1, d.before a0 Z = true) : (Jvm.Cond.constant "com/example/tidewire/tidewire/core/AccountRestoreBalancePinLaw" (7 : Nat) (2147483647 : Int32)).before a0 Z = true := hw _ (List.mem_of_getElem? (i := 0) rfl)
theorem w_1 {a0 : Array Value} {Z : State} (hw : ∀ d ∈ tables_1, d.before a0 Z = true) : (Jvm.Cond.arrayClass Jvm.ClassFile.FieldType.long).before a0 Z = true := hw _ (List.mem_of_getElem? (i := 1) rfl)
theorem w_2 {a0 : Array Value} {Z : State} (hw : ∀ d ∈ tables_1, d.before a0 Z = true) : (Jvm.Cond.classLink "com/example/tidewire/tidewire/core/AccountRestoreBalancePinLaw" (8 : Nat) "com/example/tidewire/tidewire/core/Account").before a0 Z = true := hw _ (List.mem_of_getElem? (i := 2) rfl)
theorem w_3 {a0 : Array Value} {Z : State} (hw : ∀ d ∈ tables_1, d.before a0 Z = true) : (Jvm.Cond.instantiable "com/example/tidewire/tidewire/core/Account" (11 : Nat)).before a0 Z = true := hw _ (List.mem_of_getElem? (i := 3) rfl)
theorem w_4 {a0 : Array Value} {Z : State} (hw : ∀ d ∈ tables_1, d.before a0 Z = true) : (Jvm.Cond.initialized "com/example/tidewire/tidewire/core/Account").before a0 Z = true := hw _ (List.mem_of_getElem? (i := 4) rfl)
theorem w_5 {a0 : Array Value} {Z : State} (hw : ∀ d ∈ tables_1, d.before a0 Z = true) : (Jvm.Cond.stringLink "com/example/tidewire/tidewire/core/AccountRestoreBalancePinLaw" (10 : Nat) "A").before a0 Z = true := hw _ (List.mem_of_getElem? (i := 5) rfl)
theorem w_6 {a0 : Array Value} {Z : State} (hw : ∀ d ∈ tables_1, d.before a0 Z = true) : (Jvm.Cond.initialized "java/lang/String").before a0 Z = true := hw _ (List.mem_of_getElem? (i := 6) rfl)
theorem w_7 {a0 : Array Value} {Z : State} (hw : ∀ d ∈ tables_1, d.before a0 Z = true) : (Jvm.Cond.instantiable "java/lang/String" (4 : Nat)).before a0 Z = true := hw _ (List.mem_of_getElem? (i := 7) rfl)
theorem w_8 {a0 : Array Value} {Z : State} (hw : ∀ d ∈ tables_1, d.before a0 Z = true) : (Jvm.Cond.arrayClass Jvm.ClassFile.FieldType.byte).before a0 Z = true := hw _ (List.mem_of_getElem? (i := 8) rfl)
theorem w_9 {a0 : Array Value} {Z : State} (hw : ∀ d ∈ tables_1, d.before a0 Z = true) : (Jvm.Cond.laysFinal "java/lang/String" "java/lang/String" "value" "[B").before a0 Z = true := hw _ (List.mem_of_getElem? (i := 9) rfl)
theorem w_10 {a0 : Array Value} {Z : State} (hw : ∀ d ∈ tables_1, d.before a0 Z = true) : (Jvm.Cond.laysFinal "java/lang/String" "java/lang/String" "coder" "B").before a0 Z = true := hw _ (List.mem_of_getElem? (i := 10) rfl)
theorem w_11 {a0 : Array Value} {Z : State} (hw : ∀ d ∈ tables_1, d.before a0 Z = true) : (Jvm.Cond.soleField "java/lang/String" "value").before a0 Z = true := hw _ (List.mem_of_getElem? (i := 11) rfl)
theorem w_12 {a0 : Array Value} {Z : State} (hw : ∀ d ∈ tables_1, d.before a0 Z = true) : (Jvm.Cond.soleField "java/lang/String" "coder").before a0 Z = true := hw _ (List.mem_of_getElem? (i := 12) rfl)
theorem w_13 {a0 : Array Value} {Z : State} (hw : ∀ d ∈ tables_1, d.before a0 Z = true) : (Jvm.Cond.methodLink "com/example/tidewire/tidewire/core/AccountRestoreBalancePinLaw" (12 : Nat) ({ cls := "com/example/tidewire/tidewire/core/Account", name := "<init>", desc := "(Ljava/lang/String;[J)V" } : Jvm.MethodName)).before a0 Z = true := hw _ (List.mem_of_getElem? (i := 13) rfl)
theorem w_14 {a0 : Array Value} {Z : State} (hw : ∀ d ∈ tables_1, d.before a0 Z = true) : (Jvm.Cond.instanceMethod ({ cls := "com/example/tidewire/tidewire/core/Account", name := "<init>", desc := "(Ljava/lang/String;[J)V" } : Jvm.MethodName)).before a0 Z = true := hw _ (List.mem_of_getElem? (i := 14) rfl)
theorem w_15 {a0 : Array Value} {Z : State} (hw : ∀ d ∈ tables_1, d.before a0 Z = true) : (Jvm.Cond.code ({ cls := "com/example/tidewire/tidewire/core/Account", name := "<init>", desc := "(Ljava/lang/String;[J)V" } : Jvm.MethodName) prog_1_method_1_code (3 : Nat) (Option.none : Option Jvm.ClassFile.FieldType)).before a0 Z = true := hw _ (List.mem_of_getElem? (i := 15) rfl)
theorem w_16 {a0 : Array Value} {Z : State} (hw : ∀ d ∈ tables_1, d.before a0 Z = true) : (Jvm.Cond.methodLink "com/example/tidewire/tidewire/core/Account" (1 : Nat) ({ cls := "java/lang/Object", name := "<init>", desc := "()V" } : Jvm.MethodName)).before a0 Z = true := hw _ (List.mem_of_getElem? (i := 16) rfl)
theorem w_17 {a0 : Array Value} {Z : State} (hw : ∀ d ∈ tables_1, d.before a0 Z = true) : (Jvm.Cond.instanceMethod ({ cls := "java/lang/Object", name := "<init>", desc := "()V" } : Jvm.MethodName)).before a0 Z = true := hw _ (List.mem_of_getElem? (i := 17) rfl)
theorem w_18 {a0 : Array Value} {Z : State} (hw : ∀ d ∈ tables_1, d.before a0 Z = true) : (Jvm.Cond.code ({ cls := "java/lang/Object", name := "<init>", desc := "()V" } : Jvm.MethodName) object_method_1_code (1 : Nat) (Option.none : Option Jvm.ClassFile.FieldType)).before a0 Z = true := hw _ (List.mem_of_getElem? (i := 18) rfl)
theorem w_19 {a0 : Array Value} {Z : State} (hw : ∀ d ∈ tables_1, d.before a0 Z = true) : (Jvm.Cond.classLink "com/example/tidewire/tidewire/core/Account" (7 : Nat) "java/util/HashMap").before a0 Z = true := hw _ (List.mem_of_getElem? (i := 19) rfl)
theorem w_20 {a0 : Array Value} {Z : State} (hw : ∀ d ∈ tables_1, d.before a0 Z = true) : (Jvm.Cond.instantiable "java/util/HashMap" (8 : Nat)).before a0 Z = true := hw _ (List.mem_of_getElem? (i := 20) rfl)
theorem w_21 {a0 : Array Value} {Z : State} (hw : ∀ d ∈ tables_1, d.before a0 Z = true) : (Jvm.Cond.initialized "java/util/HashMap").before a0 Z = true := hw _ (List.mem_of_getElem? (i := 21) rfl)
theorem w_22 {a0 : Array Value} {Z : State} (hw : ∀ d ∈ tables_1, d.before a0 Z = true) : (Jvm.Cond.methodLink "com/example/tidewire/tidewire/core/Account" (9 : Nat) ({ cls := "java/util/HashMap", name := "<init>", desc := "()V" } : Jvm.MethodName)).before a0 Z = true := hw _ (List.mem_of_getElem? (i := 22) rfl)
theorem w_23 {a0 : Array Value} {Z : State} (hw : ∀ d ∈ tables_1, d.before a0 Z = true) : (Jvm.Cond.instanceMethod ({ cls := "java/util/HashMap", name := "<init>", desc := "()V" } : Jvm.MethodName)).before a0 Z = true := hw _ (List.mem_of_getElem? (i := 23) rfl)
theorem w_24 {a0 : Array Value} {Z : State} (hw : ∀ d ∈ tables_1, d.before a0 Z = true) : (Jvm.Cond.code ({ cls := "java/util/HashMap", name := "<init>", desc := "()V" } : Jvm.MethodName) jdk_69_method_7_code (1 : Nat) (Option.none : Option Jvm.ClassFile.FieldType)).before a0 Z = true := hw _ (List.mem_of_getElem? (i := 24) rfl)
theorem w_25 {a0 : Array Value} {Z : State} (hw : ∀ d ∈ tables_1, d.before a0 Z = true) : (Jvm.Cond.methodLink "java/util/HashMap" (43 : Nat) ({ cls := "java/util/AbstractMap", name := "<init>", desc := "()V" } : Jvm.MethodName)).before a0 Z = true := hw _ (List.mem_of_getElem? (i := 25) rfl)
theorem w_26 {a0 : Array Value} {Z : State} (hw : ∀ d ∈ tables_1, d.before a0 Z = true) : (Jvm.Cond.instanceMethod ({ cls := "java/util/AbstractMap", name := "<init>", desc := "()V" } : Jvm.MethodName)).before a0 Z = true := hw _ (List.mem_of_getElem? (i := 26) rfl)
theorem w_29 {a0 : Array Value} {Z : State} (hw : ∀ d ∈ tables_1, d.before a0 Z = true) : (Jvm.Cond.initialized "java/util/AbstractMap").before a0 Z = true := hw _ (List.mem_of_getElem? (i := 29) rfl)
theorem w_30 {a0 : Array Value} {Z : State} (hw : ∀ d ∈ tables_1, d.before a0 Z = true) : (Jvm.Cond.code ({ cls := "java/util/AbstractMap", name := "<init>", desc := "()V" } : Jvm.MethodName) jdk_71_method_1_code (1 : Nat) (Option.none : Option Jvm.ClassFile.FieldType)).before a0 Z = true := hw _ (List.mem_of_getElem? (i := 30) rfl)
theorem w_31 {a0 : Array Value} {Z : State} (hw : ∀ d ∈ tables_1, d.before a0 Z = true) : (Jvm.Cond.methodLink "java/util/AbstractMap" (1 : Nat) ({ cls := "java/lang/Object", name := "<init>", desc := "()V" } : Jvm.MethodName)).before a0 Z = true := hw _ (List.mem_of_getElem? (i := 31) rfl)
theorem w_32 {a0 : Array Value} {Z : State} (hw : ∀ d ∈ tables_1, d.before a0 Z = true) : (Jvm.Cond.constantFloat "java/util/HashMap" (92 : Nat) (1061158912 : UInt32)).before a0 Z = true := hw _ (List.mem_of_getElem? (i := 32) rfl)
theorem w_33 {a0 : Array Value} {Z : State} (hw : ∀ d ∈ tables_1, d.before a0 Z = true) : (Jvm.Cond.fieldLink "java/util/HashMap" (81 : Nat) "java/util/HashMap" "loadFactor" "F").before a0 Z = true := hw _ (List.mem_of_getElem? (i := 33) rfl)
theorem w_34 {a0 : Array Value} {Z : State} (hw : ∀ d ∈ tables_1, d.before a0 Z = true) : (Jvm.Cond.laysFinal "java/util/HashMap" "java/util/HashMap" "loadFactor" "F").before a0 Z = true := hw _ (List.mem_of_getElem? (i := 34) rfl)
theorem w_35 {a0 : Array Value} {Z : State} (hw : ∀ d ∈ tables_1, d.before a0 Z = true) : (Jvm.Cond.fieldLink "com/example/tidewire/tidewire/core/Account" (10 : Nat) "com/example/tidewire/tidewire/core/Account" "histories" "Ljava/util/Map;").before a0 Z = true := hw _ (List.mem_of_getElem? (i := 35) rfl)
theorem w_36 {a0 : Array Value} {Z : State} (hw : ∀ d ∈ tables_1, d.before a0 Z = true) : (Jvm.Cond.laysFinal "com/example/tidewire/tidewire/core/Account" "com/example/tidewire/tidewire/core/Account" "histories" "Ljava/util/Map;").before a0 Z = true := hw _ (List.mem_of_getElem? (i := 36) rfl)
theorem w_37 {a0 : Array Value} {Z : State} (hw : ∀ d ∈ tables_1, d.before a0 Z = true) : (Jvm.Cond.classLink "com/example/tidewire/tidewire/core/Account" (16 : Nat) "java/util/ArrayList").before a0 Z = true := hw _ (List.mem_of_getElem? (i := 37) rfl)
theorem w_38 {a0 : Array Value} {Z : State} (hw : ∀ d ∈ tables_1, d.before a0 Z = true) : (Jvm.Cond.instantiable "java/util/ArrayList" (3 : Nat)).before a0 Z = true := hw _ (List.mem_of_getElem? (i := 38) rfl)
theorem w_39 {a0 : Array Value} {Z : State} (hw : ∀ d ∈ tables_1, d.before a0 Z = true) : (Jvm.Cond.initialized "java/util/ArrayList").before a0 Z = true := hw _ (List.mem_of_getElem? (i := 39) rfl)
theorem w_40 {a0 : Array Value} {Z : State} (hw : ∀ d ∈ tables_1, d.before a0 Z = true) : (Jvm.Cond.methodLink "com/example/tidewire/tidewire/core/Account" (18 : Nat) ({ cls := "java/util/ArrayList", name := "<init>", desc := "()V" } : Jvm.MethodName)).before a0 Z = true := hw _ (List.mem_of_getElem? (i := 40) rfl)
theorem w_41 {a0 : Array Value} {Z : State} (hw : ∀ d ∈ tables_1, d.before a0 Z = true) : (Jvm.Cond.instanceMethod ({ cls := "java/util/ArrayList", name := "<init>", desc := "()V" } : Jvm.MethodName)).before a0 Z = true := hw _ (List.mem_of_getElem? (i := 41) rfl)
theorem w_42 {a0 : Array Value} {Z : State} (hw : ∀ d ∈ tables_1, d.before a0 Z = true) : (Jvm.Cond.code ({ cls := "java/util/ArrayList", name := "<init>", desc := "()V" } : Jvm.MethodName) jdk_38_method_2_code (1 : Nat) (Option.none : Option Jvm.ClassFile.FieldType)).before a0 Z = true := hw _ (List.mem_of_getElem? (i := 42) rfl)
theorem w_43 {a0 : Array Value} {Z : State} (hw : ∀ d ∈ tables_1, d.before a0 Z = true) : (Jvm.Cond.methodLink "java/util/ArrayList" (1 : Nat) ({ cls := "java/util/AbstractList", name := "<init>", desc := "()V" } : Jvm.MethodName)).before a0 Z = true := hw _ (List.mem_of_getElem? (i := 43) rfl)
theorem w_44 {a0 : Array Value} {Z : State} (hw : ∀ d ∈ tables_1, d.before a0 Z = true) : (Jvm.Cond.instanceMethod ({ cls := "java/util/AbstractList", name := "<init>", desc := "()V" } : Jvm.MethodName)).before a0 Z = true := hw _ (List.mem_of_getElem? (i := 44) rfl)
theorem w_47 {a0 : Array Value} {Z : State} (hw : ∀ d ∈ tables_1, d.before a0 Z = true) : (Jvm.Cond.initialized "java/util/AbstractList").before a0 Z = true := hw _ (List.mem_of_getElem? (i := 47) rfl)
theorem w_48 {a0 : Array Value} {Z : State} (hw : ∀ d ∈ tables_1, d.before a0 Z = true) : (Jvm.Cond.code ({ cls := "java/util/AbstractList", name := "<init>", desc := "()V" } : Jvm.MethodName) jdk_39_method_1_code (1 : Nat) (Option.none : Option Jvm.ClassFile.FieldType)).before a0 Z = true := hw _ (List.mem_of_getElem? (i := 48) rfl)
theorem w_49 {a0 : Array Value} {Z : State} (hw : ∀ d ∈ tables_1, d.before a0 Z = true) : (Jvm.Cond.methodLink "java/util/AbstractList" (1 : Nat) ({ cls := "java/util/AbstractCollection", name := "<init>", desc := "()V" } : Jvm.MethodName)).before a0 Z = true := hw _ (List.mem_of_getElem? (i := 49) rfl)
theorem w_50 {a0 : Array Value} {Z : State} (hw : ∀ d ∈ tables_1, d.before a0 Z = true) : (Jvm.Cond.instanceMethod ({ cls := "java/util/AbstractCollection", name := "<init>", desc := "()V" } : Jvm.MethodName)).before a0 Z = true := hw _ (List.mem_of_getElem? (i := 50) rfl)
theorem w_53 {a0 : Array Value} {Z : State} (hw : ∀ d ∈ tables_1, d.before a0 Z = true) : (Jvm.Cond.initialized "java/util/AbstractCollection").before a0 Z = true := hw _ (List.mem_of_getElem? (i := 53) rfl)
theorem w_54 {a0 : Array Value} {Z : State} (hw : ∀ d ∈ tables_1, d.before a0 Z = true) : (Jvm.Cond.code ({ cls := "java/util/AbstractCollection", name := "<init>", desc := "()V" } : Jvm.MethodName) jdk_22_method_1_code (1 : Nat) (Option.none : Option Jvm.ClassFile.FieldType)).before a0 Z = true := hw _ (List.mem_of_getElem? (i := 54) rfl)
theorem w_55 {a0 : Array Value} {Z : State} (hw : ∀ d ∈ tables_1, d.before a0 Z = true) : (Jvm.Cond.methodLink "java/util/AbstractCollection" (1 : Nat) ({ cls := "java/lang/Object", name := "<init>", desc := "()V" } : Jvm.MethodName)).before a0 Z = true := hw _ (List.mem_of_getElem? (i := 55) rfl)
theorem w_56 {a0 : Array Value} {Z : State} (hw : ∀ d ∈ tables_1, d.before a0 Z = true) : (Jvm.Cond.fieldLink "java/util/AbstractList" (7 : Nat) "java/util/AbstractList" "modCount" "I").before a0 Z = true := hw _ (List.mem_of_getElem? (i := 56) rfl)
theorem w_57 {a0 : Array Value} {Z : State} (hw : ∀ d ∈ tables_1, d.before a0 Z = true) : (Jvm.Cond.lays "java/util/ArrayList" "java/util/AbstractList" "modCount" "I").before a0 Z = true := hw _ (List.mem_of_getElem? (i := 57) rfl)
theorem w_58 {a0 : Array Value} {Z : State} (hw : ∀ d ∈ tables_1, d.before a0 Z = true) : (Jvm.Cond.fieldLink "java/util/ArrayList" (39 : Nat) "java/util/ArrayList" "DEFAULTCAPACITY_EMPTY_ELEMENTDATA" "[Ljava/lang/Object;").before a0 Z = true := hw _ (List.mem_of_getElem? (i := 58) rfl)
theorem w_59 {a0 : Array Value} {Z : State} (hw : ∀ d ∈ tables_1, d.before a0 Z = true) : (Jvm.Cond.fieldLink "java/util/ArrayList" (9 : Nat) "java/util/ArrayList" "elementData" "[Ljava/lang/Object;").before a0 Z = true := hw _ (List.mem_of_getElem? (i := 59) rfl)
theorem w_60 {a0 : Array Value} {Z : State} (hw : ∀ d ∈ tables_1, d.before a0 Z = true) : (Jvm.Cond.lays "java/util/ArrayList" "java/util/ArrayList" "elementData" "[Ljava/lang/Object;").before a0 Z = true := hw _ (List.mem_of_getElem? (i := 60) rfl)
theorem w_61 {a0 : Array Value} {Z : State} (hw : ∀ d ∈ tables_1, d.before a0 Z = true) : (Jvm.Cond.fieldLink "com/example/tidewire/tidewire/core/Account" (19 : Nat) "com/example/tidewire/tidewire/core/Account" "changedOrders" "Ljava/util/List;").before a0 Z = true := hw _ (List.mem_of_getElem? (i := 61) rfl)
theorem w_62 {a0 : Array Value} {Z : State} (hw : ∀ d ∈ tables_1, d.before a0 Z = true) : (Jvm.Cond.laysFinal "com/example/tidewire/tidewire/core/Account" "com/example/tidewire/tidewire/core/Account" "changedOrders" "Ljava/util/List;").before a0 Z = true := hw _ (List.mem_of_getElem? (i := 62) rfl)
theorem w_63 {a0 : Array Value} {Z : State} (hw : ∀ d ∈ tables_1, d.before a0 Z = true) : (Jvm.Cond.fieldLink "com/example/tidewire/tidewire/core/Account" (23 : Nat) "com/example/tidewire/tidewire/core/Account" "id" "Ljava/lang/String;").before a0 Z = true := hw _ (List.mem_of_getElem? (i := 63) rfl)
theorem w_64 {a0 : Array Value} {Z : State} (hw : ∀ d ∈ tables_1, d.before a0 Z = true) : (Jvm.Cond.laysFinal "com/example/tidewire/tidewire/core/Account" "com/example/tidewire/tidewire/core/Account" "id" "Ljava/lang/String;").before a0 Z = true := hw _ (List.mem_of_getElem? (i := 64) rfl)
theorem w_65 {a0 : Array Value} {Z : State} (hw : ∀ d ∈ tables_1, d.before a0 Z = true) : (Jvm.Cond.methodLink "com/example/tidewire/tidewire/core/Account" (27 : Nat) ({ cls := "[J", name := "clone", desc := "()Ljava/lang/Object;" } : Jvm.MethodName)).before a0 Z = true := hw _ (List.mem_of_getElem? (i := 65) rfl)
theorem w_66 {a0 : Array Value} {Z : State} (hw : ∀ d ∈ tables_1, d.before a0 Z = true) : (Jvm.Cond.sameMethod "[J" "java/lang/Object" "clone" "()Ljava/lang/Object;").before a0 Z = true := hw _ (List.mem_of_getElem? (i := 66) rfl)
theorem w_68 {a0 : Array Value} {Z : State} (hw : ∀ d ∈ tables_1, d.before a0 Z = true) : (Jvm.Cond.instanceMethod ({ cls := "java/lang/Object", name := "clone", desc := "()Ljava/lang/Object;" } : Jvm.MethodName)).before a0 Z = true := hw _ (List.mem_of_getElem? (i := 68) rfl)
theorem w_69 {a0 : Array Value} {Z : State} (hw : ∀ d ∈ tables_1, d.before a0 Z = true) : (Jvm.Cond.selects "[J" ({ cls := "[J", name := "clone", desc := "()Ljava/lang/Object;" } : Jvm.MethodName) ({ cls := "java/lang/Object", name := "clone", desc := "()Ljava/lang/Object;" } : Jvm.MethodName)).before a0 Z = true := hw _ (List.mem_of_getElem? (i := 69) rfl)
theorem w_70 {a0 : Array Value} {Z : State} (hw : ∀ d ∈ tables_1, d.before a0 Z = true) : (Jvm.Cond.native ({ cls := "java/lang/Object", name := "clone", desc := "()Ljava/lang/Object;" } : Jvm.MethodName)).before a0 Z = true := hw _ (List.mem_of_getElem? (i := 70) rfl)
theorem w_71 {a0 : Array Value} {Z : State} (hw : ∀ d ∈ tables_1, d.before a0 Z = true) : (Jvm.Cond.castable "[J" "java/lang/Cloneable").before a0 Z = true := hw _ (List.mem_of_getElem? (i := 71) rfl)
theorem w_72 {a0 : Array Value} {Z : State} (hw : ∀ d ∈ tables_1, d.before a0 Z = true) : (Jvm.Cond.classLink "com/example/tidewire/tidewire/core/Account" (28 : Nat) "[J").before a0 Z = true := hw _ (List.mem_of_getElem? (i := 72) rfl)
theorem w_74 {a0 : Array Value} {Z : State} (hw : ∀ d ∈ tables_1, d.before a0 Z = true) : (Jvm.Cond.fieldLink "com/example/tidewire/tidewire/core/Account" (33 : Nat) "com/example/tidewire/tidewire/core/Account" "available" "[J").before a0 Z = true := hw _ (List.mem_of_getElem? (i := 74) rfl)
theorem w_75 {a0 : Array Value} {Z : State} (hw : ∀ d ∈ tables_1, d.before a0 Z = true) : (Jvm.Cond.laysFinal "com/example/tidewire/tidewire/core/Account" "com/example/tidewire/tidewire/core/Account" "available" "[J").before a0 Z = true := hw _ (List.mem_of_getElem? (i := 75) rfl)
theorem w_76 {a0 : Array Value} {Z : State} (hw : ∀ d ∈ tables_1, d.before a0 Z = true) : (Jvm.Cond.fieldLink "com/example/tidewire/tidewire/core/Account" (36 : Nat) "com/example/tidewire/tidewire/core/Account" "locked" "[J").before a0 Z = true := hw _ (List.mem_of_getElem? (i := 76) rfl)
theorem w_77 {a0 : Array Value} {Z : State} (hw : ∀ d ∈ tables_1, d.before a0 Z = true) : (Jvm.Cond.laysFinal "com/example/tidewire/tidewire/core/Account" "com/example/tidewire/tidewire/core/Account" "locked" "[J").before a0 Z = true := hw _ (List.mem_of_getElem? (i := 77) rfl)
theorem w_78 {a0 : Array Value} {Z : State} (hw : ∀ d ∈ tables_1, d.before a0 Z = true) : (Jvm.Cond.fieldLink "com/example/tidewire/tidewire/core/Account" (39 : Nat) "com/example/tidewire/tidewire/core/Account" "availableBefore" "[J").before a0 Z = true := hw _ (List.mem_of_getElem? (i := 78) rfl)
theorem w_79 {a0 : Array Value} {Z : State} (hw : ∀ d ∈ tables_1, d.before a0 Z = true) : (Jvm.Cond.laysFinal "com/example/tidewire/tidewire/core/Account" "com/example/tidewire/tidewire/core/Account" "availableBefore" "[J").before a0 Z = true := hw _ (List.mem_of_getElem? (i := 79) rfl)
theorem w_80 {a0 : Array Value} {Z : State} (hw : ∀ d ∈ tables_1, d.before a0 Z = true) : (Jvm.Cond.fieldLink "com/example/tidewire/tidewire/core/Account" (42 : Nat) "com/example/tidewire/tidewire/core/Account" "lockedBefore" "[J").before a0 Z = true := hw _ (List.mem_of_getElem? (i := 80) rfl)
theorem w_81 {a0 : Array Value} {Z : State} (hw : ∀ d ∈ tables_1, d.before a0 Z = true) : (Jvm.Cond.laysFinal "com/example/tidewire/tidewire/core/Account" "com/example/tidewire/tidewire/core/Account" "lockedBefore" "[J").before a0 Z = true := hw _ (List.mem_of_getElem? (i := 81) rfl)
theorem w_82 {a0 : Array Value} {Z : State} (hw : ∀ d ∈ tables_1, d.before a0 Z = true) : (Jvm.Cond.classLink "com/example/tidewire/tidewire/core/AccountRestoreBalancePinLaw" (15 : Nat) "java/util/ArrayList").before a0 Z = true := hw _ (List.mem_of_getElem? (i := 82) rfl)
theorem w_83 {a0 : Array Value} {Z : State} (hw : ∀ d ∈ tables_1, d.before a0 Z = true) : (Jvm.Cond.methodLink "com/example/tidewire/tidewire/core/AccountRestoreBalancePinLaw" (17 : Nat) ({ cls := "java/util/ArrayList", name := "<init>", desc := "()V" } : Jvm.MethodName)).before a0 Z = true := hw _ (List.mem_of_getElem? (i := 83) rfl)
theorem w_84 {a0 : Array Value} {Z : State} (hw : ∀ d ∈ tables_1, d.before a0 Z = true) : (Jvm.Cond.methodLink "com/example/tidewire/tidewire/core/AccountRestoreBalancePinLaw" (18 : Nat) ({ cls := "com/example/tidewire/tidewire/core/Account", name := "logChangesIn", desc := "(Ljava/util/List;)V" } : Jvm.MethodName)).before a0 Z = true := hw _ (List.mem_of_getElem? (i := 84) rfl)
theorem w_85 {a0 : Array Value} {Z : State} (hw : ∀ d ∈ tables_1, d.before a0 Z = true) : (Jvm.Cond.declares ({ cls := "com/example/tidewire/tidewire/core/Account", name := "logChangesIn", desc := "(Ljava/util/List;)V" } : Jvm.MethodName)).before a0 Z = true := hw _ (List.mem_of_getElem? (i := 85) rfl)
theorem w_86 {a0 : Array Value} {Z : State} (hw : ∀ d ∈ tables_1, d.before a0 Z = true) : (Jvm.Cond.instanceMethod ({ cls := "com/example/tidewire/tidewire/core/Account", name := "logChangesIn", desc := "(Ljava/util/List;)V" } : Jvm.MethodName)).before a0 Z = true := hw _ (List.mem_of_getElem? (i := 86) rfl)
theorem w_87 {a0 : Array Value} {Z : State} (hw : ∀ d ∈ tables_1, d.before a0 Z = true) : (Jvm.Cond.selects "com/example/tidewire/tidewire/core/Account" ({ cls := "com/example/tidewire/tidewire/core/Account", name := "logChangesIn", desc := "(Ljava/util/List;)V" } : Jvm.MethodName) ({ cls := "com/example/tidewire/tidewire/core/Account", name := "logChangesIn", desc := "(Ljava/util/List;)V" } : Jvm.MethodName)).before a0 Z = true := hw _ (List.mem_of_getElem? (i := 87) rfl)
theorem w_88 {a0 : Array Value} {Z : State} (hw : ∀ d ∈ tables_1, d.before a0 Z = true) : (Jvm.Cond.code ({ cls := "com/example/tidewire/tidewire/core/Account", name := "logChangesIn", desc := "(Ljava/util/List;)V" } : Jvm.MethodName) prog_1_method_2_code (2 : Nat) (Option.none : Option Jvm.ClassFile.FieldType)).before a0 Z = true := hw _ (List.mem_of_getElem? (i := 88) rfl)
theorem w_89 {a0 : Array Value} {Z : State} (hw : ∀ d ∈ tables_1, d.before a0 Z = true) : (Jvm.Cond.fieldLink "com/example/tidewire/tidewire/core/Account" (45 : Nat) "com/example/tidewire/tidewire/core/Account" "changedAccounts" "Ljava/util/List;").before a0 Z = true := hw _ (List.mem_of_getElem? (i := 89) rfl)
theorem w_90 {a0 : Array Value} {Z : State} (hw : ∀ d ∈ tables_1, d.before a0 Z = true) : (Jvm.Cond.lays "com/example/tidewire/tidewire/core/Account" "com/example/tidewire/tidewire/core/Account" "changedAccounts" "Ljava/util/List;").before a0 Z = true := hw _ (List.mem_of_getElem? (i := 90) rfl)
theorem w_91 {a0 : Array Value} {Z : State} (hw : ∀ d ∈ tables_1, d.before a0 Z = true) : (Jvm.Cond.methodLink "com/example/tidewire/tidewire/core/AccountRestoreBalancePinLaw" (22 : Nat) ({ cls := "com/example/tidewire/tidewire/core/Account", name := "restoreBalance", desc := "(IJJ)V" } : Jvm.MethodName)).before a0 Z = true := hw _ (List.mem_of_getElem? (i := 91) rfl)
theorem w_92 {a0 : Array Value} {Z : State} (hw : ∀ d ∈ tables_1, d.before a0 Z = true) : (Jvm.Cond.declares ({ cls := "com/example/tidewire/tidewire/core/Account", name := "restoreBalance", desc := "(IJJ)V" } : Jvm.MethodName)).before a0 Z = true := hw _ (List.mem_of_getElem? (i := 92) rfl)
theorem w_93 {a0 : Array Value} {Z : State} (hw : ∀ d ∈ tables_1, d.before a0 Z = true) : (Jvm.Cond.instanceMethod ({ cls := "com/example/tidewire/tidewire/core/Account", name := "restoreBalance", desc := "(IJJ)V" } : Jvm.MethodName)).before a0 Z = true := hw _ (List.mem_of_getElem? (i := 93) rfl)
theorem w_94 {a0 : Array Value} {Z : State} (hw : ∀ d ∈ tables_1, d.before a0 Z = true) : (Jvm.Cond.selects "com/example/tidewire/tidewire/core/Account" ({ cls := "com/example/tidewire/tidewire/core/Account", name := "restoreBalance", desc := "(IJJ)V" } : Jvm.MethodName) ({ cls := "com/example/tidewire/tidewire/core/Account", name := "restoreBalance", desc := "(IJJ)V" } : Jvm.MethodName)).before a0 Z = true := hw _ (List.mem_of_getElem? (i := 94) rfl)
theorem w_95 {a0 : Array Value} {Z : State} (hw : ∀ d ∈ tables_1, d.before a0 Z = true) : (Jvm.Cond.code ({ cls := "com/example/tidewire/tidewire/core/Account", name := "restoreBalance", desc := "(IJJ)V" } : Jvm.MethodName) prog_1_method_6_code (6 : Nat) (Option.none : Option Jvm.ClassFile.FieldType)).before a0 Z = true := hw _ (List.mem_of_getElem? (i := 95) rfl)
theorem w_96 {a0 : Array Value} {Z : State} (hw : ∀ d ∈ tables_1, d.before a0 Z = true) : (Jvm.Cond.methodLink "com/example/tidewire/tidewire/core/AccountRestoreBalancePinLaw" (26 : Nat) ({ cls := "com/example/tidewire/tidewire/core/Account", name := "available", desc := "(I)J" } : Jvm.MethodName)).before a0 Z = true := hw _ (List.mem_of_getElem? (i := 96) rfl)
theorem w_97 {a0 : Array Value} {Z : State} (hw : ∀ d ∈ tables_1, d.before a0 Z = true) : (Jvm.Cond.declares ({ cls := "com/example/tidewire/tidewire/core/Account", name := "available", desc := "(I)J" } : Jvm.MethodName)).before a0 Z = true := hw _ (List.mem_of_getElem? (i := 97) rfl)
theorem w_98 {a0 : Array Value} {Z : State} (hw : ∀ d ∈ tables_1, d.before a0 Z = true) : (Jvm.Cond.instanceMethod ({ cls := "com/example/tidewire/tidewire/core/Account", name := "available", desc := "(I)J" } : Jvm.MethodName)).before a0 Z = true := hw _ (List.mem_of_getElem? (i := 98) rfl)
theorem w_99 {a0 : Array Value} {Z : State} (hw : ∀ d ∈ tables_1, d.before a0 Z = true) : (Jvm.Cond.selects "com/example/tidewire/tidewire/core/Account" ({ cls := "com/example/tidewire/tidewire/core/Account", name := "available", desc := "(I)J" } : Jvm.MethodName) ({ cls := "com/example/tidewire/tidewire/core/Account", name := "available", desc := "(I)J" } : Jvm.MethodName)).before a0 Z = true := hw _ (List.mem_of_getElem? (i := 99) rfl)
theorem w_100 {a0 : Array Value} {Z : State} (hw : ∀ d ∈ tables_1, d.before a0 Z = true) : (Jvm.Cond.code ({ cls := "com/example/tidewire/tidewire/core/Account", name := "available", desc := "(I)J" } : Jvm.MethodName) prog_1_method_4_code (2 : Nat) (Option.some Jvm.ClassFile.FieldType.long)).before a0 Z = true := hw _ (List.mem_of_getElem? (i := 100) rfl)
theorem w_101 {a0 : Array Value} {Z : State} (hw : ∀ d ∈ tables_1, d.before a0 Z = true) : (Jvm.Cond.methodLink "com/example/tidewire/tidewire/core/AccountRestoreBalancePinLaw" (30 : Nat) ({ cls := "com/example/tidewire/tidewire/core/AccountRestoreBalancePinLaw", name := "expAvail", desc := "(IIJJ)J" } : Jvm.MethodName)).before a0 Z = true := hw _ (List.mem_of_getElem? (i := 101) rfl)
theorem w_102 {a0 : Array Value} {Z : State} (hw : ∀ d ∈ tables_1, d.before a0 Z = true) : (Jvm.Cond.static ({ cls := "com/example/tidewire/tidewire/core/AccountRestoreBalancePinLaw", name := "expAvail", desc := "(IIJJ)J" } : Jvm.MethodName)).before a0 Z = true := hw _ (List.mem_of_getElem? (i := 102) rfl)
theorem w_103 {a0 : Array Value} {Z : State} (hw : ∀ d ∈ tables_1, d.before a0 Z = true) : (Jvm.Cond.initialized "com/example/tidewire/tidewire/core/AccountRestoreBalancePinLaw").before a0 Z = true := hw _ (List.mem_of_getElem? (i := 103) rfl)
theorem w_104 {a0 : Array Value} {Z : State} (hw : ∀ d ∈ tables_1, d.before a0 Z = true) : (Jvm.Cond.code ({ cls := "com/example/tidewire/tidewire/core/AccountRestoreBalancePinLaw", name := "expAvail", desc := "(IIJJ)J" } : Jvm.MethodName) method_2_code (6 : Nat) (Option.some Jvm.ClassFile.FieldType.long)).before a0 Z = true := hw _ (List.mem_of_getElem? (i := 104) rfl)
theorem w_105 {a0 : Array Value} {Z : State} (hw : ∀ d ∈ tables_1, d.before a0 Z = true) : (Jvm.Cond.methodLink "com/example/tidewire/tidewire/core/AccountRestoreBalancePinLaw" (36 : Nat) ({ cls := "com/example/tidewire/tidewire/core/Account", name := "locked", desc := "(I)J" } : Jvm.MethodName)).before a0 Z = true := hw _ (List.mem_of_getElem? (i := 105) rfl)
theorem w_106 {a0 : Array Value} {Z : State} (hw : ∀ d ∈ tables_1, d.before a0 Z = true) : (Jvm.Cond.declares ({ cls := "com/example/tidewire/tidewire/core/Account", name := "locked", desc := "(I)J" } : Jvm.MethodName)).before a0 Z = true := hw _ (List.mem_of_getElem? (i := 106) rfl)
theorem w_107 {a0 : Array Value} {Z : State} (hw : ∀ d ∈ tables_1, d.before a0 Z = true) : (Jvm.Cond.instanceMethod ({ cls := "com/example/tidewire/tidewire/core/Account", name := "locked", desc := "(I)J" } : Jvm.MethodName)).before a0 Z = true := hw _ (List.mem_of_getElem? (i := 107) rfl)
theorem w_108 {a0 : Array Value} {Z : State} (hw : ∀ d ∈ tables_1, d.before a0 Z = true) : (Jvm.Cond.selects "com/example/tidewire/tidewire/core/Account" ({ cls := "com/example/tidewire/tidewire/core/Account", name := "locked", desc := "(I)J" } : Jvm.MethodName) ({ cls := "com/example/tidewire/tidewire/core/Account", name := "locked", desc := "(I)J" } : Jvm.MethodName)).before a0 Z = true := hw _ (List.mem_of_getElem? (i := 108) rfl)
theorem w_109 {a0 : Array Value} {Z : State} (hw : ∀ d ∈ tables_1, d.before a0 Z = true) : (Jvm.Cond.code ({ cls := "com/example/tidewire/tidewire/core/Account", name := "locked", desc := "(I)J" } : Jvm.MethodName) prog_1_method_5_code (2 : Nat) (Option.some Jvm.ClassFile.FieldType.long)).before a0 Z = true := hw _ (List.mem_of_getElem? (i := 109) rfl)
theorem w_110 {a0 : Array Value} {Z : State} (hw : ∀ d ∈ tables_1, d.before a0 Z = true) : (Jvm.Cond.methodLink "com/example/tidewire/tidewire/core/AccountRestoreBalancePinLaw" (39 : Nat) ({ cls := "com/example/tidewire/tidewire/core/AccountRestoreBalancePinLaw", name := "expLocked", desc := "(IIJ)J" } : Jvm.MethodName)).before a0 Z = true := hw _ (List.mem_of_getElem? (i := 110) rfl)
theorem w_111 {a0 : Array Value} {Z : State} (hw : ∀ d ∈ tables_1, d.before a0 Z = true) : (Jvm.Cond.static ({ cls := "com/example/tidewire/tidewire/core/AccountRestoreBalancePinLaw", name := "expLocked", desc := "(IIJ)J" } : Jvm.MethodName)).before a0 Z = true := hw _ (List.mem_of_getElem? (i := 111) rfl)
theorem w_112 {a0 : Array Value} {Z : State} (hw : ∀ d ∈ tables_1, d.before a0 Z = true) : (Jvm.Cond.code ({ cls := "com/example/tidewire/tidewire/core/AccountRestoreBalancePinLaw", name := "expLocked", desc := "(IIJ)J" } : Jvm.MethodName) method_3_code (4 : Nat) (Option.some Jvm.ClassFile.FieldType.long)).before a0 Z = true := hw _ (List.mem_of_getElem? (i := 112) rfl)
theorem w_113 {a0 : Array Value} {Z : State} (hw : ∀ d ∈ tables_1, d.before a0 Z = true) : (Jvm.Cond.methodLink "com/example/tidewire/tidewire/core/AccountRestoreBalancePinLaw" (43 : Nat) ({ cls := "java/util/ArrayList", name := "size", desc := "()I" } : Jvm.MethodName)).before a0 Z = true := hw _ (List.mem_of_getElem? (i := 113) rfl)
theorem w_114 {a0 : Array Value} {Z : State} (hw : ∀ d ∈ tables_1, d.before a0 Z = true) : (Jvm.Cond.declares ({ cls := "java/util/ArrayList", name := "size", desc := "()I" } : Jvm.MethodName)).before a0 Z = true := hw _ (List.mem_of_getElem? (i := 114) rfl)
theorem w_115 {a0 : Array Value} {Z : State} (hw : ∀ d ∈ tables_1, d.before a0 Z = true) : (Jvm.Cond.instanceMethod ({ cls := "java/util/ArrayList", name := "size", desc := "()I" } : Jvm.MethodName)).before a0 Z = true := hw _ (List.mem_of_getElem? (i := 115) rfl)
theorem w_116 {a0 : Array Value} {Z : State} (hw : ∀ d ∈ tables_1, d.before a0 Z = true) : (Jvm.Cond.selects "java/util/ArrayList" ({ cls := "java/util/ArrayList", name := "size", desc := "()I" } : Jvm.MethodName) ({ cls := "java/util/ArrayList", name := "size", desc := "()I" } : Jvm.MethodName)).before a0 Z = true := hw _ (List.mem_of_getElem? (i := 116) rfl)
theorem w_117 {a0 : Array Value} {Z : State} (hw : ∀ d ∈ tables_1, d.before a0 Z = true) : (Jvm.Cond.code ({ cls := "java/util/ArrayList", name := "size", desc := "()I" } : Jvm.MethodName) jdk_38_method_8_code (1 : Nat) (Option.some Jvm.ClassFile.FieldType.int)).before a0 Z = true := hw _ (List.mem_of_getElem? (i := 117) rfl)
theorem w_118 {a0 : Array Value} {Z : State} (hw : ∀ d ∈ tables_1, d.before a0 Z = true) : (Jvm.Cond.fieldLink "java/util/ArrayList" (48 : Nat) "java/util/ArrayList" "size" "I").before a0 Z = true := hw _ (List.mem_of_getElem? (i := 118) rfl)
theorem w_119 {a0 : Array Value} {Z : State} (hw : ∀ d ∈ tables_1, d.before a0 Z = true) : (Jvm.Cond.lays "java/util/ArrayList" "java/util/ArrayList" "size" "I").before a0 Z = true := hw _ (List.mem_of_getElem? (i := 119) rfl)
theorem own_rem3 (x : Int32) : (x &&& (2147483647 : Int32)) % (3 : Int32) = (0 : Int32) ∨ (x &&& (2147483647 : Int32)) % (3 : Int32) = (1 : Int32) ∨ (x &&& (2147483647 : Int32)) % (3 : Int32) = (2 : Int32) := by
  have h := (c_and x 2147483647 (by decide)).1
  have h2 := (c_irem (x &&& (2147483647 : Int32)) (3 : Int32) 3 rfl).1 h
  generalize (x &&& (2147483647 : Int32)) % (3 : Int32) = z at h2 ⊢
  generalize (x &&& (2147483647 : Int32)).toInt = y at h2
  simp only [← Int32.toInt_inj]
  have q0 : (0 : Int32).toInt = 0 := rfl
  have q1 : (1 : Int32).toInt = 1 := rfl
  have q2 : (2 : Int32).toInt = 2 := rfl
  omega
theorem own_sa {a0 : Array Value} {Z : State} (hw : ∀ d ∈ tables_1, d.before a0 Z = true) : ∀ a ∈ Bundle.stringAtoms, a.before a0 Z = true := by
  intro d hd
  simp only [Bundle.stringAtoms, List.mem_cons, List.not_mem_nil, or_false] at hd
  rcases hd with rfl | rfl | rfl | rfl | rfl | rfl | rfl
  · exact w_6 hw
  · exact w_7 hw
  · exact w_8 hw
  · exact w_9 hw
  · exact w_10 hw
  · exact w_11 hw
  · exact w_12 hw
theorem d4_0 : decode jdk_71_method_1_code 0 = .ok (.aload_n 0, 1) := by decide +kernel
theorem d4_1 : decode jdk_71_method_1_code 1 = .ok (.invokespecial 1, 3) := by decide +kernel
theorem d4_4 : decode jdk_71_method_1_code 4 = .ok (.return_, 1) := by decide +kernel
theorem ef_rm4 (m : MethodId) (x0 : Addr) : entryFrame m #[(.ref x0)] 1 = mkF m 0 #[.val (.ref x0)] [] := by first | (simp [entryFrame, mkF, argsToLocals, Value.category]; done) | (simp [entryFrame, mkF, argsToLocals, *]; done) | rfl
set_option maxRecDepth 65536 in
set_option maxHeartbeats 2000000 in
theorem rm4 (l : Launch) (Z : State) (a0 : Array Value) (hw : ∀ d ∈ tables_1, d.before a0 Z = true) (a : Addr) (h0 : Heap) (hE : Ext Z.heap h0) :
    Con l Z (⟨"java/util/AbstractMap", "<init>", "()V"⟩ : MethodName) jdk_71_method_1_code 1 none ({ frames := 1, cells := 0, slots := 0, locals := 12 } : Room) #[(.ref a)] h0 (fun vv hh => vv = none ∧ h0 = hh) := by
  refine Con.of (plainFor_of_name (by first | (simp [plainName, overriddenIn]; done) | decide +kernel)) hE ?_
  intro p e s m below T (X : Sd l Z "java/util/AbstractMap" "<init>" jdk_71_method_1_code 1 none ({ frames := 1, cells := 0, slots := 0, locals := 12 } : Room) p e s m #[(.ref a)] below T h0 0 0)
  refine End.frame (ef_rm4 m a) ?_
  show End Z p e below s _ _ _ _ (mkF m 0 #[.val (.ref a)] [])
  refine E_aloadN (v := (.ref a)) (pc' := 1) X d4_0 rfl rfl rfl ?_
  refine E_initO (pc' := 4) X (w_31 hw) (w_17 hw) (w_18 hw) rfl d4_1 rfl (by decide) (W := 0) (Nat.le_refl _) (by decide) (fun T X => ?_)
  exact E_ret0 X d4_4 (by decide) (by decide) ⟨rfl, rfl⟩
theorem d3_0 : decode jdk_69_method_7_code 0 = .ok (.aload_n 0, 1) := by decide +kernel
theorem d3_1 : decode jdk_69_method_7_code 1 = .ok (.invokespecial 43, 3) := by decide +kernel
theorem d3_4 : decode jdk_69_method_7_code 4 = .ok (.aload_n 0, 1) := by decide +kernel
theorem d3_5 : decode jdk_69_method_7_code 5 = .ok (.ldc 92, 2) := by decide +kernel
theorem d3_7 : decode jdk_69_method_7_code 7 = .ok (.putfield 81, 3) := by decide +kernel
theorem d3_10 : decode jdk_69_method_7_code 10 = .ok (.return_, 1) := by decide +kernel
theorem pd_0 : parseMethodDescriptor "()V" = some ⟨[], none⟩ := by decide +kernel
theorem ef_rm3 (m : MethodId) (x0 : Addr) : entryFrame m #[(.ref x0)] 1 = mkF m 0 #[.val (.ref x0)] [] := by first | (simp [entryFrame, mkF, argsToLocals, Value.category]; done) | (simp [entryFrame, mkF, argsToLocals, *]; done) | rfl
set_option maxRecDepth 65536 in
set_option maxHeartbeats 2000000 in
theorem rm3 (l : Launch) (Z : State) (a0 : Array Value) (hw : ∀ d ∈ tables_1, d.before a0 Z = true) (a : Addr) (h0 : Heap) (hE : Ext Z.heap h0) (hE0 : Exa Z h0 a "java/util/HashMap") (hF1 : Fld Z h0 a "java/util/HashMap" "loadFactor" "F" (.float 0)) (hfr2 : Z.heap.size ≤ a) :
    Con l Z (⟨"java/util/HashMap", "<init>", "()V"⟩ : MethodName) jdk_69_method_7_code 1 none ({ frames := 2, cells := 0, slots := 0, locals := 24 } : Room) #[(.ref a)] h0 (fun vv hh => vv = none ∧ Keep h0 hh [a]) := by
  refine Con.of (plainFor_of_name (by first | (simp [plainName, overriddenIn]; done) | decide +kernel)) hE ?_
  intro p e s m below T (X : Sd l Z "java/util/HashMap" "<init>" jdk_69_method_7_code 1 none ({ frames := 2, cells := 0, slots := 0, locals := 24 } : Room) p e s m #[(.ref a)] below T h0 0 0)
  refine End.frame (ef_rm3 m a) ?_
  have K_0 : Keep h0 h0 [a] := Keep.refl _ _
  show End Z p e below s _ _ _ _ (mkF m 0 #[.val (.ref a)] [])
  refine E_aloadN (v := (.ref a)) (pc' := 1) X d3_0 rfl rfl rfl ?_
  refine E_callI (a := a) (pc' := 4) (W := 0) (cells' := 0) (slots' := 0) (argsL := []) (rest := []) X (rm4 l Z a0 hw a h0 X.ext) (w_25 hw) (w_26 hw) (w_29 hw) (w_30 hw) rfl (by decide) rfl rfl pd_0 rfl rfl d3_1 rfl (Nat.le_refl _) (by decide) (by decide) rfl rfl (by decide) (by decide) (fun v1 T h_2 X hQ3 => ?_)
  obtain ⟨rfl, rfl⟩ := hQ3
  show End Z p e below s _ _ _ _ (mkF m 4 #[.val (.ref a)] [])
  refine E_aloadN (v := (.ref a)) (pc' := 5) X d3_4 rfl rfl rfl ?_
  refine E_ldcF (b := (1061158912 : UInt32)) (pc' := 7) X (w_32 hw) d3_5 rfl ?_
  refine E_putF (pc' := 10) X (host := "") (Or.inl (w_33 hw)) Via.refl hF1 hE0 (Or.inr ⟨(w_34 hw), rfl, rfl⟩) (w_20 hw) (ty := .float) (by decide) rfl rfl hfr2 d3_7 rfl (fun T h_6 X W_5 => ?_)
  have K_7 : Keep h0 h_6 [a] := K_0.wr W_5 (Or.inl (List.mem_of_getElem? (i := 0) rfl))
  exact E_ret0 X d3_10 (by decide) (by decide) ⟨rfl, K_7⟩
theorem d7_0 : decode jdk_22_method_1_code 0 = .ok (.aload_n 0, 1) := by decide +kernel
theorem d7_1 : decode jdk_22_method_1_code 1 = .ok (.invokespecial 1, 3) := by decide +kernel
theorem d7_4 : decode jdk_22_method_1_code 4 = .ok (.return_, 1) := by decide +kernel
theorem ef_rm7 (m : MethodId) (x0 : Addr) : entryFrame m #[(.ref x0)] 1 = mkF m 0 #[.val (.ref x0)] [] := by first | (simp [entryFrame, mkF, argsToLocals, Value.category]; done) | (simp [entryFrame, mkF, argsToLocals, *]; done) | rfl
set_option maxRecDepth 65536 in
set_option maxHeartbeats 2000000 in
theorem rm7 (l : Launch) (Z : State) (a0 : Array Value) (hw : ∀ d ∈ tables_1, d.before a0 Z = true) (a : Addr) (h0 : Heap) (hE : Ext Z.heap h0) :
    Con l Z (⟨"java/util/AbstractCollection", "<init>", "()V"⟩ : MethodName) jdk_22_method_1_code 1 none ({ frames := 1, cells := 0, slots := 0, locals := 12 } : Room) #[(.ref a)] h0 (fun vv hh => vv = none ∧ h0 = hh) := by
  refine Con.of (plainFor_of_name (by first | (simp [plainName, overriddenIn]; done) | decide +kernel)) hE ?_
  intro p e s m below T (X : Sd l Z "java/util/AbstractCollection" "<init>" jdk_22_method_1_code 1 none ({ frames := 1, cells := 0, slots := 0, locals := 12 } : Room) p e s m #[(.ref a)] below T h0 0 0)
  refine End.frame (ef_rm7 m a) ?_
  show End Z p e below s _ _ _ _ (mkF m 0 #[.val (.ref a)] [])
  refine E_aloadN (v := (.ref a)) (pc' := 1) X d7_0 rfl rfl rfl ?_
  refine E_initO (pc' := 4) X (w_55 hw) (w_17 hw) (w_18 hw) rfl d7_1 rfl (by decide) (W := 0) (Nat.le_refl _) (by decide) (fun T X => ?_)
  exact E_ret0 X d7_4 (by decide) (by decide) ⟨rfl, rfl⟩
theorem d6_0 : decode jdk_39_method_1_code 0 = .ok (.aload_n 0, 1) := by decide +kernel
theorem d6_1 : decode jdk_39_method_1_code 1 = .ok (.invokespecial 1, 3) := by decide +kernel
theorem d6_4 : decode jdk_39_method_1_code 4 = .ok (.aload_n 0, 1) := by decide +kernel
theorem d6_5 : decode jdk_39_method_1_code 5 = .ok (.iconst 0, 1) := by decide +kernel
theorem d6_6 : decode jdk_39_method_1_code 6 = .ok (.putfield 7, 3) := by decide +kernel
theorem d6_9 : decode jdk_39_method_1_code 9 = .ok (.return_, 1) := by decide +kernel
theorem ef_rm6 (m : MethodId) (x0 : Addr) : entryFrame m #[(.ref x0)] 1 = mkF m 0 #[.val (.ref x0)] [] := by first | (simp [entryFrame, mkF, argsToLocals, Value.category]; done) | (simp [entryFrame, mkF, argsToLocals, *]; done) | rfl
set_option maxRecDepth 65536 in
set_option maxHeartbeats 2000000 in
theorem rm6 (l : Launch) (Z : State) (a0 : Array Value) (hw : ∀ d ∈ tables_1, d.before a0 Z = true) (a : Addr) (h0 : Heap) (hE : Ext Z.heap h0) (hE0 : Exa Z h0 a "java/util/ArrayList") (hF1 : Fld Z h0 a "java/util/AbstractList" "modCount" "I" (.int (0 : Int32))) (hF2 : Fld Z h0 a "java/util/ArrayList" "elementData" "[Ljava/lang/Object;" .null) (hF3 : Fld Z h0 a "java/util/ArrayList" "size" "I" (.int (0 : Int32))) (hfr4 : Z.heap.size ≤ a) :
    Con l Z (⟨"java/util/AbstractList", "<init>", "()V"⟩ : MethodName) jdk_39_method_1_code 1 none ({ frames := 2, cells := 0, slots := 0, locals := 24 } : Room) #[(.ref a)] h0 (fun vv hh => vv = none ∧ Keep h0 hh [a] ∧ Exa Z hh a "java/util/ArrayList" ∧ Fld Z hh a "java/util/ArrayList" "elementData" "[Ljava/lang/Object;" .null ∧ Fld Z hh a "java/util/ArrayList" "size" "I" (.int (0 : Int32))) := by
  refine Con.of (plainFor_of_name (by first | (simp [plainName, overriddenIn]; done) | decide +kernel)) hE ?_
  intro p e s m below T (X : Sd l Z "java/util/AbstractList" "<init>" jdk_39_method_1_code 1 none ({ frames := 2, cells := 0, slots := 0, locals := 24 } : Room) p e s m #[(.ref a)] below T h0 0 0)
  refine End.frame (ef_rm6 m a) ?_
  have K_0 : Keep h0 h0 [a] := Keep.refl _ _
  show End Z p e below s _ _ _ _ (mkF m 0 #[.val (.ref a)] [])
  refine E_aloadN (v := (.ref a)) (pc' := 1) X d6_0 rfl rfl rfl ?_
  refine E_callI (a := a) (pc' := 4) (W := 0) (cells' := 0) (slots' := 0) (argsL := []) (rest := []) X (rm7 l Z a0 hw a h0 X.ext) (w_49 hw) (w_50 hw) (w_53 hw) (w_54 hw) rfl (by decide) rfl rfl pd_0 rfl rfl d6_1 rfl (Nat.le_refl _) (by decide) (by decide) rfl rfl (by decide) (by decide) (fun v1 T h_2 X hQ3 => ?_)
  obtain ⟨rfl, rfl⟩ := hQ3
  show End Z p e below s _ _ _ _ (mkF m 4 #[.val (.ref a)] [])
  refine E_aloadN (v := (.ref a)) (pc' := 5) X d6_4 rfl rfl rfl ?_
  refine E_iconst (v := (0 : Int32)) (pc' := 6) X d6_5 rfl rfl ?_
  refine E_putF (pc' := 9) X (host := "") (Or.inl (w_56 hw)) Via.refl hF1 hE0 (Or.inl (w_57 hw)) (w_38 hw) (ty := .int) (by decide) rfl rfl hfr4 d6_6 rfl (fun T h_6 X W_5 => ?_)
  have K_7 : Keep h0 h_6 [a] := K_0.wr W_5 (Or.inl (List.mem_of_getElem? (i := 0) rfl))
  have E_8 : Exa Z h_6 a "java/util/ArrayList" := (hE0.wr W_5)
  have F_9 : Fld Z h_6 a "java/util/ArrayList" "elementData" "[Ljava/lang/Object;" .null := (hF2.other W_5 (Or.inr (slot_ne (Or.inl (w_60 hw)) (Or.inl (w_57 hw)) (by decide) (t := (.array (.object "java/lang/Object"))) (t' := .int) (by decide) (by decide))))
  have F_10 : Fld Z h_6 a "java/util/ArrayList" "size" "I" (.int (0 : Int32)) := (hF3.other W_5 (Or.inr (slot_ne (Or.inl (w_119 hw)) (Or.inl (w_57 hw)) (by decide) (t := .int) (t' := .int) (by decide) (by decide))))
  exact E_ret0 X d6_9 (by decide) (by decide) ⟨rfl, K_7, E_8, F_9, F_10⟩
theorem d5_0 : decode jdk_38_method_2_code 0 = .ok (.aload_n 0, 1) := by decide +kernel
theorem d5_1 : decode jdk_38_method_2_code 1 = .ok (.invokespecial 1, 3) := by decide +kernel
theorem d5_4 : decode jdk_38_method_2_code 4 = .ok (.aload_n 0, 1) := by decide +kernel
theorem d5_5 : decode jdk_38_method_2_code 5 = .ok (.getstatic 39, 3) := by decide +kernel
theorem d5_8 : decode jdk_38_method_2_code 8 = .ok (.putfield 9, 3) := by decide +kernel
theorem d5_11 : decode jdk_38_method_2_code 11 = .ok (.return_, 1) := by decide +kernel
theorem ef_rm5 (m : MethodId) (x0 : Addr) : entryFrame m #[(.ref x0)] 1 = mkF m 0 #[.val (.ref x0)] [] := by first | (simp [entryFrame, mkF, argsToLocals, Value.category]; done) | (simp [entryFrame, mkF, argsToLocals, *]; done) | rfl
set_option maxRecDepth 65536 in
set_option maxHeartbeats 2000000 in
theorem rm5 (l : Launch) (Z : State) (a0 : Array Value) (hw : ∀ d ∈ tables_1, d.before a0 Z = true) (a : Addr) (oD : Addr) (h0 : Heap) (hE : Ext Z.heap h0) (hS0 : Sta Z Z.heap "java/util/ArrayList" "DEFAULTCAPACITY_EMPTY_ELEMENTDATA" "[Ljava/lang/Object;" (.ref oD)) (hE1 : Exa Z h0 a "java/util/ArrayList") (hF2 : Fld Z h0 a "java/util/AbstractList" "modCount" "I" (.int (0 : Int32))) (hF3 : Fld Z h0 a "java/util/ArrayList" "elementData" "[Ljava/lang/Object;" .null) (hF4 : Fld Z h0 a "java/util/ArrayList" "size" "I" (.int (0 : Int32))) (hfr5 : Z.heap.size ≤ a) :
    Con l Z (⟨"java/util/ArrayList", "<init>", "()V"⟩ : MethodName) jdk_38_method_2_code 1 none ({ frames := 3, cells := 0, slots := 0, locals := 36 } : Room) #[(.ref a)] h0 (fun vv hh => vv = none ∧ Keep h0 hh [a] ∧ Exa Z hh a "java/util/ArrayList" ∧ Fld Z hh a "java/util/ArrayList" "size" "I" (.int (0 : Int32))) := by
  refine Con.of (plainFor_of_name (by first | (simp [plainName, overriddenIn]; done) | decide +kernel)) hE ?_
  intro p e s m below T (X : Sd l Z "java/util/ArrayList" "<init>" jdk_38_method_2_code 1 none ({ frames := 3, cells := 0, slots := 0, locals := 36 } : Room) p e s m #[(.ref a)] below T h0 0 0)
  refine End.frame (ef_rm5 m a) ?_
  have K_0 : Keep h0 h0 [a] := Keep.refl _ _
  show End Z p e below s _ _ _ _ (mkF m 0 #[.val (.ref a)] [])
  refine E_aloadN (v := (.ref a)) (pc' := 1) X d5_0 rfl rfl rfl ?_
  refine E_callI (a := a) (pc' := 4) (W := 0) (cells' := 0) (slots' := 0) (argsL := []) (rest := []) X (rm6 l Z a0 hw a h0 X.ext hE1 hF2 hF3 hF4 hfr5) (w_43 hw) (w_44 hw) (w_47 hw) (w_48 hw) rfl (by decide) rfl rfl pd_0 rfl rfl d5_1 rfl (Nat.le_refl _) (by decide) (by decide) rfl rfl (by decide) (by decide) (fun v1 T h_2 X hQ3 => ?_)
  obtain ⟨rfl, Kc_4, E_5, F_6, F_7⟩ := hQ3
  have K_8 : Keep h0 h_2 [a] := K_0.trans Kc_4 (allS (Or.inl (List.mem_of_getElem? (i := 0) rfl)) all0)
  show End Z p e below s _ _ _ _ (mkF m 4 #[.val (.ref a)] [])
  refine E_aloadN (v := (.ref a)) (pc' := 5) X d5_4 rfl rfl rfl ?_
  refine E_getS (pc' := 8) X (host := "") (Or.inl (w_58 hw)) Via.refl hS0 d5_5 rfl (fun T X => ?_)
  refine E_putF (pc' := 11) X (host := "") (Or.inl (w_59 hw)) Via.refl F_6 E_5 (Or.inl (w_60 hw)) (w_38 hw) (ty := (.array (.object "java/lang/Object"))) (by decide) rfl rfl hfr5 d5_8 rfl (fun T h_10 X W_9 => ?_)
  have K_11 : Keep h0 h_10 [a] := K_8.wr W_9 (Or.inl (List.mem_of_getElem? (i := 0) rfl))
  have E_12 : Exa Z h_10 a "java/util/ArrayList" := (E_5.wr W_9)
  have F_13 : Fld Z h_10 a "java/util/ArrayList" "size" "I" (.int (0 : Int32)) := (F_7.other W_9 (Or.inr (slot_ne (Or.inl (w_119 hw)) (Or.inl (w_60 hw)) (by decide) (t := .int) (t' := (.array (.object "java/lang/Object"))) (by decide) (by decide))))
  exact E_ret0 X d5_11 (by decide) (by decide) ⟨rfl, K_11, E_12, F_13⟩
theorem d1_0 : decode prog_1_method_1_code 0 = .ok (.aload_n 0, 1) := by decide +kernel
theorem d1_1 : decode prog_1_method_1_code 1 = .ok (.invokespecial 1, 3) := by decide +kernel
theorem d1_4 : decode prog_1_method_1_code 4 = .ok (.aload_n 0, 1) := by decide +kernel
theorem d1_5 : decode prog_1_method_1_code 5 = .ok (.new 7, 3) := by decide +kernel
theorem d1_8 : decode prog_1_method_1_code 8 = .ok (.dup, 1) := by decide +kernel
theorem d1_9 : decode prog_1_method_1_code 9 = .ok (.invokespecial 9, 3) := by decide +kernel
theorem d1_12 : decode prog_1_method_1_code 12 = .ok (.putfield 10, 3) := by decide +kernel
theorem d1_15 : decode prog_1_method_1_code 15 = .ok (.aload_n 0, 1) := by decide +kernel
theorem d1_16 : decode prog_1_method_1_code 16 = .ok (.new 16, 3) := by decide +kernel
theorem d1_19 : decode prog_1_method_1_code 19 = .ok (.dup, 1) := by decide +kernel
theorem d1_20 : decode prog_1_method_1_code 20 = .ok (.invokespecial 18, 3) := by decide +kernel
theorem d1_23 : decode prog_1_method_1_code 23 = .ok (.putfield 19, 3) := by decide +kernel
theorem d1_26 : decode prog_1_method_1_code 26 = .ok (.aload_n 0, 1) := by decide +kernel
theorem d1_27 : decode prog_1_method_1_code 27 = .ok (.aload_n 1, 1) := by decide +kernel
theorem d1_28 : decode prog_1_method_1_code 28 = .ok (.putfield 23, 3) := by decide +kernel
theorem d1_31 : decode prog_1_method_1_code 31 = .ok (.aload_n 0, 1) := by decide +kernel
theorem d1_32 : decode prog_1_method_1_code 32 = .ok (.aload_n 2, 1) := by decide +kernel
theorem d1_33 : decode prog_1_method_1_code 33 = .ok (.invokevirtual 27, 3) := by decide +kernel
theorem d1_36 : decode prog_1_method_1_code 36 = .ok (.checkcast 28, 3) := by decide +kernel
theorem d1_39 : decode prog_1_method_1_code 39 = .ok (.putfield 33, 3) := by decide +kernel
theorem d1_42 : decode prog_1_method_1_code 42 = .ok (.aload_n 0, 1) := by decide +kernel
theorem d1_43 : decode prog_1_method_1_code 43 = .ok (.aload_n 2, 1) := by decide +kernel
theorem d1_44 : decode prog_1_method_1_code 44 = .ok (.arraylength, 1) := by decide +kernel
theorem d1_45 : decode prog_1_method_1_code 45 = .ok (.newarray .long, 2) := by decide +kernel
theorem d1_47 : decode prog_1_method_1_code 47 = .ok (.putfield 36, 3) := by decide +kernel
theorem d1_50 : decode prog_1_method_1_code 50 = .ok (.aload_n 0, 1) := by decide +kernel
theorem d1_51 : decode prog_1_method_1_code 51 = .ok (.aload_n 2, 1) := by decide +kernel
theorem d1_52 : decode prog_1_method_1_code 52 = .ok (.arraylength, 1) := by decide +kernel
theorem d1_53 : decode prog_1_method_1_code 53 = .ok (.newarray .long, 2) := by decide +kernel
theorem d1_55 : decode prog_1_method_1_code 55 = .ok (.putfield 39, 3) := by decide +kernel
theorem d1_58 : decode prog_1_method_1_code 58 = .ok (.aload_n 0, 1) := by decide +kernel
theorem d1_59 : decode prog_1_method_1_code 59 = .ok (.aload_n 2, 1) := by decide +kernel
theorem d1_60 : decode prog_1_method_1_code 60 = .ok (.arraylength, 1) := by decide +kernel
theorem d1_61 : decode prog_1_method_1_code 61 = .ok (.newarray .long, 2) := by decide +kernel
theorem d1_63 : decode prog_1_method_1_code 63 = .ok (.putfield 42, 3) := by decide +kernel
theorem d1_66 : decode prog_1_method_1_code 66 = .ok (.return_, 1) := by decide +kernel
theorem ef_rm1 (m : MethodId) (x0 : Addr) (x1 : Addr) (x2 : Addr) : entryFrame m #[(.ref x0), (.ref x1), (.ref x2)] 3 = mkF m 0 #[.val (.ref x0), .val (.ref x1), .val (.ref x2)] [] := by first | (simp [entryFrame, mkF, argsToLocals, Value.category]; done) | (simp [entryFrame, mkF, argsToLocals, *]; done) | rfl
set_option maxRecDepth 65536 in
set_option maxHeartbeats 2000000 in
theorem rm1 (l : Launch) (Z : State) (a0 : Array Value) (hw : ∀ d ∈ tables_1, d.before a0 Z = true) (a : Addr) (s0 : Addr) (t : Addr) (oD : Addr) (b0 : Int64) (b1 : Int64) (b2 : Int64) (h0 : Heap) (hE : Ext Z.heap h0) (hS0 : Sta Z Z.heap "java/util/ArrayList" "DEFAULTCAPACITY_EMPTY_ELEMENTDATA" "[Ljava/lang/Object;" (.ref oD)) (hE1 : Exa Z h0 a "com/example/tidewire/tidewire/core/Account") (hF2 : Fld Z h0 a "com/example/tidewire/tidewire/core/Account" "histories" "Ljava/util/Map;" .null) (hF3 : Fld Z h0 a "com/example/tidewire/tidewire/core/Account" "changedOrders" "Ljava/util/List;" .null) (hF4 : Fld Z h0 a "com/example/tidewire/tidewire/core/Account" "id" "Ljava/lang/String;" .null) (hF5 : Fld Z h0 a "com/example/tidewire/tidewire/core/Account" "available" "[J" .null) (hF6 : Fld Z h0 a "com/example/tidewire/tidewire/core/Account" "locked" "[J" .null) (hF7 : Fld Z h0 a "com/example/tidewire/tidewire/core/Account" "availableBefore" "[J" .null) (hF8 : Fld Z h0 a "com/example/tidewire/tidewire/core/Account" "lockedBefore" "[J" .null) (hF9 : Fld Z h0 a "com/example/tidewire/tidewire/core/Account" "changedAccounts" "Ljava/util/List;" .null) (hA10 : Ar Z h0 t .long [(.long b0), (.long b1), (.long b2)]) (hE11 : Exa Z h0 t "[J") (hfr12 : Z.heap.size ≤ a) :
    Con l Z (⟨"com/example/tidewire/tidewire/core/Account", "<init>", "(Ljava/lang/String;[J)V"⟩ : MethodName) prog_1_method_1_code 3 none ({ frames := 4, cells := 6, slots := 23, locals := 50 } : Room) #[(.ref a), (.ref s0), (.ref t)] h0 (fun vv hh => ∃ u : Addr, ∃ w : Addr, vv = none ∧ Keep h0 hh [a] ∧ h0.size ≤ u ∧ h0.size ≤ w ∧ Exa Z hh a "com/example/tidewire/tidewire/core/Account" ∧ Fld Z hh a "com/example/tidewire/tidewire/core/Account" "available" "[J" (.ref u) ∧ Fld Z hh a "com/example/tidewire/tidewire/core/Account" "locked" "[J" (.ref w) ∧ Fld Z hh a "com/example/tidewire/tidewire/core/Account" "changedAccounts" "Ljava/util/List;" .null ∧ Ar Z hh u .long [(.long b0), (.long b1), (.long b2)] ∧ Ar Z hh w .long [(.long (0 : Int64)), (.long (0 : Int64)), (.long (0 : Int64))] ∧ u ≠ w) := by
  refine Con.of (plainFor_of_name (by first | (simp [plainName, overriddenIn]; done) | decide +kernel)) hE ?_
  intro p e s m below T (X : Sd l Z "com/example/tidewire/tidewire/core/Account" "<init>" prog_1_method_1_code 3 none ({ frames := 4, cells := 6, slots := 23, locals := 50 } : Room) p e s m #[(.ref a), (.ref s0), (.ref t)] below T h0 0 0)
  refine End.frame (ef_rm1 m a s0 t) ?_
  have K_0 : Keep h0 h0 [a] := Keep.refl _ _
  have ne_1 : a ≠ t := ne_exa hE1 hE11 (by decide)
  show End Z p e below s _ _ _ _ (mkF m 0 #[.val (.ref a), .val (.ref s0), .val (.ref t)] [])
  refine E_aloadN (v := (.ref a)) (pc' := 1) X d1_0 rfl rfl rfl ?_
  refine E_initO (pc' := 4) X (w_16 hw) (w_17 hw) (w_18 hw) rfl d1_1 rfl (by decide) (W := 0) (Nat.le_refl _) (by decide) (fun T X => ?_)
  refine E_aloadN (v := (.ref a)) (pc' := 5) X d1_4 rfl rfl rfl ?_
  have le_o2 := X.le
  refine E_new (pc' := 8) X (cells' := 1) (slots' := 8) (w_19 hw) (w_20 hw) (w_21 hw) d1_5 rfl rfl rfl (by decide) (by decide) (fun T h_3 o2 g_7 X Ex_4 Ea_5 D_6 => ?_)
  have b_8 : h0.size ≤ o2 := by rw [g_7]; exact K_0.1
  have K_9 : Keep h0 h_3 [a] := K_0.ext Ex_4
  have fr_10 : Z.heap.size ≤ o2 := by rw [g_7]; exact le_o2
  have ne_11 : a ≠ o2 := Nat.ne_of_lt (by rw [g_7]; exact hE1.lt)
  have ne_12 : t ≠ o2 := Nat.ne_of_lt (by rw [g_7]; exact hE11.lt)
  refine E_dup (pc' := 9) X d1_8 rfl rfl ?_
  have F_13 : Fld Z h_3 o2 "java/util/HashMap" "loadFactor" "F" (.float 0) := (D_6 (Or.inr (w_34 hw)) (ty := .float) (by decide))
  refine E_callI (a := o2) (pc' := 12) (W := 2) (cells' := 1) (slots' := 8) (argsL := []) (rest := [(.ref o2), (.ref a)]) X (rm3 l Z a0 hw o2 h_3 X.ext Ea_5 F_13 fr_10) (w_22 hw) (w_23 hw) (w_21 hw) (w_24 hw) rfl (by decide) rfl rfl pd_0 rfl rfl d1_9 rfl (Nat.le_refl _) (by decide) (by decide) rfl rfl (by decide) (by decide) (fun v14 T h_15 X hQ16 => ?_)
  obtain ⟨rfl, Kc_17⟩ := hQ16
  have K_18 : Keep h0 h_15 [a] := K_9.trans Kc_17 (allS (Or.inr b_8) all0)
  show End Z p e below s _ _ _ _ (mkF m 12 #[.val (.ref a), .val (.ref s0), .val (.ref t)] [(.ref o2), (.ref a)])
  have F_19 : Fld Z h_15 a "com/example/tidewire/tidewire/core/Account" "histories" "Ljava/util/Map;" .null := ((hF2.ext Ex_4).keep Kc_17 (ninS ne_11 nin0))
  have E_20 : Exa Z h_15 a "com/example/tidewire/tidewire/core/Account" := ((hE1.ext Ex_4).keep Kc_17)
  refine E_putF (pc' := 15) X (host := "") (Or.inl (w_35 hw)) Via.refl F_19 E_20 (Or.inr ⟨(w_36 hw), rfl, rfl⟩) (w_3 hw) (ty := (.object "java/util/Map")) (by decide) rfl rfl hfr12 d1_12 rfl (fun T h_22 X W_21 => ?_)
  have K_23 : Keep h0 h_22 [a] := K_18.wr W_21 (Or.inl (List.mem_of_getElem? (i := 0) rfl))
  refine E_aloadN (v := (.ref a)) (pc' := 16) X d1_15 rfl rfl rfl ?_
  have E_30 : Exa Z h_22 a "com/example/tidewire/tidewire/core/Account" := (E_20.wr W_21)
  have E_31 : Exa Z h_22 o2 "java/util/HashMap" := ((Ea_5.keep Kc_17).wr W_21)
  have E_32 : Exa Z h_22 t "[J" := (((hE11.ext Ex_4).keep Kc_17).wr W_21)
  have le_o24 := X.le
  refine E_new (pc' := 19) X (cells' := 2) (slots' := 11) (w_37 hw) (w_38 hw) (w_39 hw) d1_16 rfl rfl rfl (by decide) (by decide) (fun T h_25 o24 g_29 X Ex_26 Ea_27 D_28 => ?_)
  have b_33 : h0.size ≤ o24 := by rw [g_29]; exact K_23.1
  have K_34 : Keep h0 h_25 [a] := K_23.ext Ex_26
  have fr_35 : Z.heap.size ≤ o24 := by rw [g_29]; exact le_o24
  have ne_36 : a ≠ o24 := Nat.ne_of_lt (by rw [g_29]; exact E_30.lt)
  have ne_37 : o2 ≠ o24 := Nat.ne_of_lt (by rw [g_29]; exact E_31.lt)
  have ne_38 : t ≠ o24 := Nat.ne_of_lt (by rw [g_29]; exact E_32.lt)
  refine E_dup (pc' := 20) X d1_19 rfl rfl ?_
  have F_39 : Fld Z h_25 o24 "java/util/AbstractList" "modCount" "I" (.int (0 : Int32)) := (D_28 (Or.inl (w_57 hw)) (ty := .int) (by decide))
  have F_40 : Fld Z h_25 o24 "java/util/ArrayList" "elementData" "[Ljava/lang/Object;" .null := (D_28 (Or.inl (w_60 hw)) (ty := (.array (.object "java/lang/Object"))) (by decide))
  have F_41 : Fld Z h_25 o24 "java/util/ArrayList" "size" "I" (.int (0 : Int32)) := (D_28 (Or.inl (w_119 hw)) (ty := .int) (by decide))
  refine E_callI (a := o24) (pc' := 23) (W := 2) (cells' := 2) (slots' := 11) (argsL := []) (rest := [(.ref o24), (.ref a)]) X (rm5 l Z a0 hw o24 oD h_25 X.ext hS0 Ea_27 F_39 F_40 F_41 fr_35) (w_40 hw) (w_41 hw) (w_39 hw) (w_42 hw) rfl (by decide) rfl rfl pd_0 rfl rfl d1_20 rfl (Nat.le_refl _) (by decide) (by decide) rfl rfl (by decide) (by decide) (fun v42 T h_43 X hQ44 => ?_)
  obtain ⟨rfl, Kc_45, E_46, F_47⟩ := hQ44
  have K_48 : Keep h0 h_43 [a] := K_34.trans Kc_45 (allS (Or.inr b_33) all0)
  show End Z p e below s _ _ _ _ (mkF m 23 #[.val (.ref a), .val (.ref s0), .val (.ref t)] [(.ref o24), (.ref a)])
  have F_49 : Fld Z h_43 a "com/example/tidewire/tidewire/core/Account" "changedOrders" "Ljava/util/List;" .null := (((((hF3.ext Ex_4).keep Kc_17 (ninS ne_11 nin0)).other W_21 (Or.inr (slot_ne (Or.inr (w_62 hw)) (Or.inr (w_36 hw)) (by decide) (t := (.object "java/util/List")) (t' := (.object "java/util/Map")) (by decide) (by decide)))).ext Ex_26).keep Kc_45 (ninS ne_36 nin0))
  have E_50 : Exa Z h_43 a "com/example/tidewire/tidewire/core/Account" := ((E_30.ext Ex_26).keep Kc_45)
  refine E_putF (pc' := 26) X (host := "") (Or.inl (w_61 hw)) Via.refl F_49 E_50 (Or.inr ⟨(w_62 hw), rfl, rfl⟩) (w_3 hw) (ty := (.object "java/util/List")) (by decide) rfl rfl hfr12 d1_23 rfl (fun T h_52 X W_51 => ?_)
  have K_53 : Keep h0 h_52 [a] := K_48.wr W_51 (Or.inl (List.mem_of_getElem? (i := 0) rfl))
  refine E_aloadN (v := (.ref a)) (pc' := 27) X d1_26 rfl rfl rfl ?_
  refine E_aloadN (v := (.ref s0)) (pc' := 28) X d1_27 rfl rfl rfl ?_
  have F_54 : Fld Z h_52 a "com/example/tidewire/tidewire/core/Account" "id" "Ljava/lang/String;" .null := ((((((hF4.ext Ex_4).keep Kc_17 (ninS ne_11 nin0)).other W_21 (Or.inr (slot_ne (Or.inr (w_64 hw)) (Or.inr (w_36 hw)) (by decide) (t := (.object "java/lang/String")) (t' := (.object "java/util/Map")) (by decide) (by decide)))).ext Ex_26).keep Kc_45 (ninS ne_36 nin0)).other W_51 (Or.inr (slot_ne (Or.inr (w_64 hw)) (Or.inr (w_62 hw)) (by decide) (t := (.object "java/lang/String")) (t' := (.object "java/util/List")) (by decide) (by decide))))
  have E_55 : Exa Z h_52 a "com/example/tidewire/tidewire/core/Account" := (E_50.wr W_51)
  refine E_putF (pc' := 31) X (host := "") (Or.inl (w_63 hw)) Via.refl F_54 E_55 (Or.inr ⟨(w_64 hw), rfl, rfl⟩) (w_3 hw) (ty := (.object "java/lang/String")) (by decide) rfl rfl hfr12 d1_28 rfl (fun T h_57 X W_56 => ?_)
  have K_58 : Keep h0 h_57 [a] := K_53.wr W_56 (Or.inl (List.mem_of_getElem? (i := 0) rfl))
  refine E_aloadN (v := (.ref a)) (pc' := 32) X d1_31 rfl rfl rfl ?_
  refine E_aloadN (v := (.ref t)) (pc' := 33) X d1_32 rfl rfl rfl ?_
  have A_59 : Ar Z h_57 t .long [(.long b0), (.long b1), (.long b2)] := (((((((hA10.ext Ex_4).keep Kc_17 (ninS ne_12 nin0)).other W_21 (Ne.symm ne_1)).ext Ex_26).keep Kc_45 (ninS ne_38 nin0)).other W_51 (Ne.symm ne_1)).other W_56 (Ne.symm ne_1))
  have E_60 : Exa Z h_57 t "[J" := ((((E_32.ext Ex_26).keep Kc_45).wr W_51).wr W_56)
  have E_66 : Exa Z h_57 a "com/example/tidewire/tidewire/core/Account" := (E_55.wr W_56)
  have E_67 : Exa Z h_57 o2 "java/util/HashMap" := ((((E_31.ext Ex_26).keep Kc_45).wr W_51).wr W_56)
  have E_68 : Exa Z h_57 o24 "java/util/ArrayList" := ((E_46.wr W_51).wr W_56)
  have le_o61 := X.le
  refine E_clone (pc' := 36) X (cap := 3) (W := 1) (cells' := 3) (slots' := 14) (w_65 hw) (w_66 hw) (w_70 hw) (w_68 hw) (w_69 hw) (w_71 hw) A_59 E_60 (by simp [fits]) rfl d1_33 rfl (by decide) (Nat.le_refl _) (by decide) (Nat.le_of_ble_eq_true rfl) rfl rfl (by decide) (by decide) (fun T h_62 o61 g_65 X Ex_63 Aa_64 EaAa_64 => ?_)
  have b_69 : h0.size ≤ o61 := by rw [g_65]; exact K_58.1
  have K_70 : Keep h0 h_62 [a] := K_58.ext Ex_63
  have fr_71 : Z.heap.size ≤ o61 := by rw [g_65]; exact le_o61
  have ne_72 : a ≠ o61 := Nat.ne_of_lt (by rw [g_65]; exact E_66.lt)
  have ne_73 : o2 ≠ o61 := Nat.ne_of_lt (by rw [g_65]; exact E_67.lt)
  have ne_74 : o24 ≠ o61 := Nat.ne_of_lt (by rw [g_65]; exact E_68.lt)
  have ne_75 : t ≠ o61 := Nat.ne_of_lt (by rw [g_65]; exact E_60.lt)
  refine E_cast (pc' := 39) X (w_72 hw) (Ins.self EaAa_64) d1_36 rfl (fun T X => ?_)
  have F_76 : Fld Z h_62 a "com/example/tidewire/tidewire/core/Account" "available" "[J" .null := ((((((((hF5.ext Ex_4).keep Kc_17 (ninS ne_11 nin0)).other W_21 (Or.inr (slot_ne (Or.inr (w_75 hw)) (Or.inr (w_36 hw)) (by decide) (t := (.array .long)) (t' := (.object "java/util/Map")) (by decide) (by decide)))).ext Ex_26).keep Kc_45 (ninS ne_36 nin0)).other W_51 (Or.inr (slot_ne (Or.inr (w_75 hw)) (Or.inr (w_62 hw)) (by decide) (t := (.array .long)) (t' := (.object "java/util/List")) (by decide) (by decide)))).other W_56 (Or.inr (slot_ne (Or.inr (w_75 hw)) (Or.inr (w_64 hw)) (by decide) (t := (.array .long)) (t' := (.object "java/lang/String")) (by decide) (by decide)))).ext Ex_63)
  have E_77 : Exa Z h_62 a "com/example/tidewire/tidewire/core/Account" := (E_66.ext Ex_63)
  refine E_putF (pc' := 42) X (host := "") (Or.inl (w_74 hw)) Via.refl F_76 E_77 (Or.inr ⟨(w_75 hw), rfl, rfl⟩) (w_3 hw) (ty := (.array .long)) (by decide) rfl rfl hfr12 d1_39 rfl (fun T h_79 X W_78 => ?_)
  have K_80 : Keep h0 h_79 [a] := K_70.wr W_78 (Or.inl (List.mem_of_getElem? (i := 0) rfl))
  refine E_aloadN (v := (.ref a)) (pc' := 43) X d1_42 rfl rfl rfl ?_
  refine E_aloadN (v := (.ref t)) (pc' := 44) X d1_43 rfl rfl rfl ?_
  have A_81 : Ar Z h_79 t .long [(.long b0), (.long b1), (.long b2)] := ((A_59.ext Ex_63).other W_78 (Ne.symm ne_1))
  refine E_alen (n := (3 : Int32)) (pc' := 45) X A_81 rfl d1_44 rfl ?_
  have E_87 : Exa Z h_79 a "com/example/tidewire/tidewire/core/Account" := (E_77.wr W_78)
  have E_88 : Exa Z h_79 o2 "java/util/HashMap" := ((E_67.ext Ex_63).wr W_78)
  have E_89 : Exa Z h_79 o24 "java/util/ArrayList" := ((E_68.ext Ex_63).wr W_78)
  have E_90 : Exa Z h_79 o61 "[J" := (EaAa_64.wr W_78)
  have E_91 : Exa Z h_79 t "[J" := ((E_60.ext Ex_63).wr W_78)
  have le_o82 := X.le
  refine E_newA (pc' := 47) X (aty := .long) (n := (3 : Int32)) (cap := 3) (vs := [(.long (0 : Int64)), (.long (0 : Int64)), (.long (0 : Int64))]) (cells' := 4) (slots' := 17) (w_1 hw) d1_45 rfl (by decide) (by decide) (by decide) rfl rfl rfl (by decide) (by decide) (fun T h_83 o82 g_86 X Ex_84 Aa_85 => ?_)
  have b_92 : h0.size ≤ o82 := by rw [g_86]; exact K_80.1
  have K_93 : Keep h0 h_83 [a] := K_80.ext Ex_84
  have fr_94 : Z.heap.size ≤ o82 := by rw [g_86]; exact le_o82
  have ne_95 : a ≠ o82 := Nat.ne_of_lt (by rw [g_86]; exact E_87.lt)
  have ne_96 : o2 ≠ o82 := Nat.ne_of_lt (by rw [g_86]; exact E_88.lt)
  have ne_97 : o24 ≠ o82 := Nat.ne_of_lt (by rw [g_86]; exact E_89.lt)
  have ne_98 : o61 ≠ o82 := Nat.ne_of_lt (by rw [g_86]; exact E_90.lt)
  have ne_99 : t ≠ o82 := Nat.ne_of_lt (by rw [g_86]; exact E_91.lt)
  have F_100 : Fld Z h_83 a "com/example/tidewire/tidewire/core/Account" "locked" "[J" .null := ((((((((((hF6.ext Ex_4).keep Kc_17 (ninS ne_11 nin0)).other W_21 (Or.inr (slot_ne (Or.inr (w_77 hw)) (Or.inr (w_36 hw)) (by decide) (t := (.array .long)) (t' := (.object "java/util/Map")) (by decide) (by decide)))).ext Ex_26).keep Kc_45 (ninS ne_36 nin0)).other W_51 (Or.inr (slot_ne (Or.inr (w_77 hw)) (Or.inr (w_62 hw)) (by decide) (t := (.array .long)) (t' := (.object "java/util/List")) (by decide) (by decide)))).other W_56 (Or.inr (slot_ne (Or.inr (w_77 hw)) (Or.inr (w_64 hw)) (by decide) (t := (.array .long)) (t' := (.object "java/lang/String")) (by decide) (by decide)))).ext Ex_63).other W_78 (Or.inr (slot_ne (Or.inr (w_77 hw)) (Or.inr (w_75 hw)) (by decide) (t := (.array .long)) (t' := (.array .long)) (by decide) (by decide)))).ext Ex_84)
  have E_101 : Exa Z h_83 a "com/example/tidewire/tidewire/core/Account" := (E_87.ext Ex_84)
  refine E_putF (pc' := 50) X (host := "") (Or.inl (w_76 hw)) Via.refl F_100 E_101 (Or.inr ⟨(w_77 hw), rfl, rfl⟩) (w_3 hw) (ty := (.array .long)) (by decide) rfl rfl hfr12 d1_47 rfl (fun T h_103 X W_102 => ?_)
  have K_104 : Keep h0 h_103 [a] := K_93.wr W_102 (Or.inl (List.mem_of_getElem? (i := 0) rfl))
  refine E_aloadN (v := (.ref a)) (pc' := 51) X d1_50 rfl rfl rfl ?_
  refine E_aloadN (v := (.ref t)) (pc' := 52) X d1_51 rfl rfl rfl ?_
  have A_105 : Ar Z h_103 t .long [(.long b0), (.long b1), (.long b2)] := ((A_81.ext Ex_84).other W_102 (Ne.symm ne_1))
  refine E_alen (n := (3 : Int32)) (pc' := 53) X A_105 rfl d1_52 rfl ?_
  have E_111 : Exa Z h_103 a "com/example/tidewire/tidewire/core/Account" := (E_101.wr W_102)
  have E_112 : Exa Z h_103 o2 "java/util/HashMap" := ((E_88.ext Ex_84).wr W_102)
  have E_113 : Exa Z h_103 o24 "java/util/ArrayList" := ((E_89.ext Ex_84).wr W_102)
  have E_114 : Exa Z h_103 o61 "[J" := ((E_90.ext Ex_84).wr W_102)
  have A_115 : Ar Z h_103 o82 .long [(.long (0 : Int64)), (.long (0 : Int64)), (.long (0 : Int64))] := (Aa_85.other W_102 (Ne.symm ne_95))
  have E_116 : Exa Z h_103 t "[J" := ((E_91.ext Ex_84).wr W_102)
  have le_o106 := X.le
  refine E_newA (pc' := 55) X (aty := .long) (n := (3 : Int32)) (cap := 3) (vs := [(.long (0 : Int64)), (.long (0 : Int64)), (.long (0 : Int64))]) (cells' := 5) (slots' := 20) (w_1 hw) d1_53 rfl (by decide) (by decide) (by decide) rfl rfl rfl (by decide) (by decide) (fun T h_107 o106 g_110 X Ex_108 Aa_109 => ?_)
  have b_117 : h0.size ≤ o106 := by rw [g_110]; exact K_104.1
  have K_118 : Keep h0 h_107 [a] := K_104.ext Ex_108
  have fr_119 : Z.heap.size ≤ o106 := by rw [g_110]; exact le_o106
  have ne_120 : a ≠ o106 := Nat.ne_of_lt (by rw [g_110]; exact E_111.lt)
  have ne_121 : o2 ≠ o106 := Nat.ne_of_lt (by rw [g_110]; exact E_112.lt)
  have ne_122 : o24 ≠ o106 := Nat.ne_of_lt (by rw [g_110]; exact E_113.lt)
  have ne_123 : o61 ≠ o106 := Nat.ne_of_lt (by rw [g_110]; exact E_114.lt)
  have ne_124 : o82 ≠ o106 := Nat.ne_of_lt (by rw [g_110]; exact A_115.lt)
  have ne_125 : t ≠ o106 := Nat.ne_of_lt (by rw [g_110]; exact E_116.lt)
  have F_126 : Fld Z h_107 a "com/example/tidewire/tidewire/core/Account" "availableBefore" "[J" .null := ((((((((((((hF7.ext Ex_4).keep Kc_17 (ninS ne_11 nin0)).other W_21 (Or.inr (slot_ne (Or.inr (w_79 hw)) (Or.inr (w_36 hw)) (by decide) (t := (.array .long)) (t' := (.object "java/util/Map")) (by decide) (by decide)))).ext Ex_26).keep Kc_45 (ninS ne_36 nin0)).other W_51 (Or.inr (slot_ne (Or.inr (w_79 hw)) (Or.inr (w_62 hw)) (by decide) (t := (.array .long)) (t' := (.object "java/util/List")) (by decide) (by decide)))).other W_56 (Or.inr (slot_ne (Or.inr (w_79 hw)) (Or.inr (w_64 hw)) (by decide) (t := (.array .long)) (t' := (.object "java/lang/String")) (by decide) (by decide)))).ext Ex_63).other W_78 (Or.inr (slot_ne (Or.inr (w_79 hw)) (Or.inr (w_75 hw)) (by decide) (t := (.array .long)) (t' := (.array .long)) (by decide) (by decide)))).ext Ex_84).other W_102 (Or.inr (slot_ne (Or.inr (w_79 hw)) (Or.inr (w_77 hw)) (by decide) (t := (.array .long)) (t' := (.array .long)) (by decide) (by decide)))).ext Ex_108)
  have E_127 : Exa Z h_107 a "com/example/tidewire/tidewire/core/Account" := (E_111.ext Ex_108)
  refine E_putF (pc' := 58) X (host := "") (Or.inl (w_78 hw)) Via.refl F_126 E_127 (Or.inr ⟨(w_79 hw), rfl, rfl⟩) (w_3 hw) (ty := (.array .long)) (by decide) rfl rfl hfr12 d1_55 rfl (fun T h_129 X W_128 => ?_)
  have K_130 : Keep h0 h_129 [a] := K_118.wr W_128 (Or.inl (List.mem_of_getElem? (i := 0) rfl))
  refine E_aloadN (v := (.ref a)) (pc' := 59) X d1_58 rfl rfl rfl ?_
  refine E_aloadN (v := (.ref t)) (pc' := 60) X d1_59 rfl rfl rfl ?_
  have A_131 : Ar Z h_129 t .long [(.long b0), (.long b1), (.long b2)] := ((A_105.ext Ex_108).other W_128 (Ne.symm ne_1))
  refine E_alen (n := (3 : Int32)) (pc' := 61) X A_131 rfl d1_60 rfl ?_
  have E_137 : Exa Z h_129 a "com/example/tidewire/tidewire/core/Account" := (E_127.wr W_128)
  have A_138 : Ar Z h_129 o106 .long [(.long (0 : Int64)), (.long (0 : Int64)), (.long (0 : Int64))] := (Aa_109.other W_128 (Ne.symm ne_120))
  have E_139 : Exa Z h_129 o2 "java/util/HashMap" := ((E_112.ext Ex_108).wr W_128)
  have E_140 : Exa Z h_129 o24 "java/util/ArrayList" := ((E_113.ext Ex_108).wr W_128)
  have E_141 : Exa Z h_129 o61 "[J" := ((E_114.ext Ex_108).wr W_128)
  have A_142 : Ar Z h_129 o82 .long [(.long (0 : Int64)), (.long (0 : Int64)), (.long (0 : Int64))] := ((A_115.ext Ex_108).other W_128 (Ne.symm ne_95))
  have E_143 : Exa Z h_129 t "[J" := ((E_116.ext Ex_108).wr W_128)
  have le_o132 := X.le
  refine E_newA (pc' := 63) X (aty := .long) (n := (3 : Int32)) (cap := 3) (vs := [(.long (0 : Int64)), (.long (0 : Int64)), (.long (0 : Int64))]) (cells' := 6) (slots' := 23) (w_1 hw) d1_61 rfl (by decide) (by decide) (by decide) rfl rfl rfl (by decide) (by decide) (fun T h_133 o132 g_136 X Ex_134 Aa_135 => ?_)
  have b_144 : h0.size ≤ o132 := by rw [g_136]; exact K_130.1
  have K_145 : Keep h0 h_133 [a] := K_130.ext Ex_134
  have fr_146 : Z.heap.size ≤ o132 := by rw [g_136]; exact le_o132
  have ne_147 : a ≠ o132 := Nat.ne_of_lt (by rw [g_136]; exact E_137.lt)
  have ne_148 : o106 ≠ o132 := Nat.ne_of_lt (by rw [g_136]; exact A_138.lt)
  have ne_149 : o2 ≠ o132 := Nat.ne_of_lt (by rw [g_136]; exact E_139.lt)
  have ne_150 : o24 ≠ o132 := Nat.ne_of_lt (by rw [g_136]; exact E_140.lt)
  have ne_151 : o61 ≠ o132 := Nat.ne_of_lt (by rw [g_136]; exact E_141.lt)
  have ne_152 : o82 ≠ o132 := Nat.ne_of_lt (by rw [g_136]; exact A_142.lt)
  have ne_153 : t ≠ o132 := Nat.ne_of_lt (by rw [g_136]; exact E_143.lt)
  have F_154 : Fld Z h_133 a "com/example/tidewire/tidewire/core/Account" "lockedBefore" "[J" .null := ((((((((((((((hF8.ext Ex_4).keep Kc_17 (ninS ne_11 nin0)).other W_21 (Or.inr (slot_ne (Or.inr (w_81 hw)) (Or.inr (w_36 hw)) (by decide) (t := (.array .long)) (t' := (.object "java/util/Map")) (by decide) (by decide)))).ext Ex_26).keep Kc_45 (ninS ne_36 nin0)).other W_51 (Or.inr (slot_ne (Or.inr (w_81 hw)) (Or.inr (w_62 hw)) (by decide) (t := (.array .long)) (t' := (.object "java/util/List")) (by decide) (by decide)))).other W_56 (Or.inr (slot_ne (Or.inr (w_81 hw)) (Or.inr (w_64 hw)) (by decide) (t := (.array .long)) (t' := (.object "java/lang/String")) (by decide) (by decide)))).ext Ex_63).other W_78 (Or.inr (slot_ne (Or.inr (w_81 hw)) (Or.inr (w_75 hw)) (by decide) (t := (.array .long)) (t' := (.array .long)) (by decide) (by decide)))).ext Ex_84).other W_102 (Or.inr (slot_ne (Or.inr (w_81 hw)) (Or.inr (w_77 hw)) (by decide) (t := (.array .long)) (t' := (.array .long)) (by decide) (by decide)))).ext Ex_108).other W_128 (Or.inr (slot_ne (Or.inr (w_81 hw)) (Or.inr (w_79 hw)) (by decide) (t := (.array .long)) (t' := (.array .long)) (by decide) (by decide)))).ext Ex_134)
  have E_155 : Exa Z h_133 a "com/example/tidewire/tidewire/core/Account" := (E_137.ext Ex_134)
  refine E_putF (pc' := 66) X (host := "") (Or.inl (w_80 hw)) Via.refl F_154 E_155 (Or.inr ⟨(w_81 hw), rfl, rfl⟩) (w_3 hw) (ty := (.array .long)) (by decide) rfl rfl hfr12 d1_63 rfl (fun T h_157 X W_156 => ?_)
  have K_158 : Keep h0 h_157 [a] := K_145.wr W_156 (Or.inl (List.mem_of_getElem? (i := 0) rfl))
  have E_159 : Exa Z h_157 a "com/example/tidewire/tidewire/core/Account" := (E_155.wr W_156)
  have F_160 : Fld Z h_157 a "com/example/tidewire/tidewire/core/Account" "available" "[J" (.ref o61) := (((((((F_76.same W_78).ext Ex_84).other W_102 (Or.inr (slot_ne (Or.inr (w_75 hw)) (Or.inr (w_77 hw)) (by decide) (t := (.array .long)) (t' := (.array .long)) (by decide) (by decide)))).ext Ex_108).other W_128 (Or.inr (slot_ne (Or.inr (w_75 hw)) (Or.inr (w_79 hw)) (by decide) (t := (.array .long)) (t' := (.array .long)) (by decide) (by decide)))).ext Ex_134).other W_156 (Or.inr (slot_ne (Or.inr (w_75 hw)) (Or.inr (w_81 hw)) (by decide) (t := (.array .long)) (t' := (.array .long)) (by decide) (by decide))))
  have F_161 : Fld Z h_157 a "com/example/tidewire/tidewire/core/Account" "locked" "[J" (.ref o82) := (((((F_100.same W_102).ext Ex_108).other W_128 (Or.inr (slot_ne (Or.inr (w_77 hw)) (Or.inr (w_79 hw)) (by decide) (t := (.array .long)) (t' := (.array .long)) (by decide) (by decide)))).ext Ex_134).other W_156 (Or.inr (slot_ne (Or.inr (w_77 hw)) (Or.inr (w_81 hw)) (by decide) (t := (.array .long)) (t' := (.array .long)) (by decide) (by decide))))
  have F_162 : Fld Z h_157 a "com/example/tidewire/tidewire/core/Account" "changedAccounts" "Ljava/util/List;" .null := (((((((((((((((hF9.ext Ex_4).keep Kc_17 (ninS ne_11 nin0)).other W_21 (Or.inr (slot_ne (Or.inl (w_90 hw)) (Or.inr (w_36 hw)) (by decide) (t := (.object "java/util/List")) (t' := (.object "java/util/Map")) (by decide) (by decide)))).ext Ex_26).keep Kc_45 (ninS ne_36 nin0)).other W_51 (Or.inr (slot_ne (Or.inl (w_90 hw)) (Or.inr (w_62 hw)) (by decide) (t := (.object "java/util/List")) (t' := (.object "java/util/List")) (by decide) (by decide)))).other W_56 (Or.inr (slot_ne (Or.inl (w_90 hw)) (Or.inr (w_64 hw)) (by decide) (t := (.object "java/util/List")) (t' := (.object "java/lang/String")) (by decide) (by decide)))).ext Ex_63).other W_78 (Or.inr (slot_ne (Or.inl (w_90 hw)) (Or.inr (w_75 hw)) (by decide) (t := (.object "java/util/List")) (t' := (.array .long)) (by decide) (by decide)))).ext Ex_84).other W_102 (Or.inr (slot_ne (Or.inl (w_90 hw)) (Or.inr (w_77 hw)) (by decide) (t := (.object "java/util/List")) (t' := (.array .long)) (by decide) (by decide)))).ext Ex_108).other W_128 (Or.inr (slot_ne (Or.inl (w_90 hw)) (Or.inr (w_79 hw)) (by decide) (t := (.object "java/util/List")) (t' := (.array .long)) (by decide) (by decide)))).ext Ex_134).other W_156 (Or.inr (slot_ne (Or.inl (w_90 hw)) (Or.inr (w_81 hw)) (by decide) (t := (.object "java/util/List")) (t' := (.array .long)) (by decide) (by decide))))
  have A_163 : Ar Z h_157 o61 .long [(.long b0), (.long b1), (.long b2)] := (((((((Aa_64.other W_78 (Ne.symm ne_72)).ext Ex_84).other W_102 (Ne.symm ne_72)).ext Ex_108).other W_128 (Ne.symm ne_72)).ext Ex_134).other W_156 (Ne.symm ne_72))
  have A_164 : Ar Z h_157 o82 .long [(.long (0 : Int64)), (.long (0 : Int64)), (.long (0 : Int64))] := ((A_142.ext Ex_134).other W_156 (Ne.symm ne_95))
  exact E_ret0 X d1_66 (by decide) (by decide) ⟨o61, o82, rfl, K_158, b_69, b_92, E_159, F_160, F_161, F_162, A_163, A_164, ne_98⟩
theorem d8_0 : decode prog_1_method_2_code 0 = .ok (.aload_n 0, 1) := by decide +kernel
theorem d8_1 : decode prog_1_method_2_code 1 = .ok (.aload_n 1, 1) := by decide +kernel
theorem d8_2 : decode prog_1_method_2_code 2 = .ok (.putfield 45, 3) := by decide +kernel
theorem d8_5 : decode prog_1_method_2_code 5 = .ok (.return_, 1) := by decide +kernel
theorem ef_rm8 (m : MethodId) (x0 : Addr) (x1 : Addr) : entryFrame m #[(.ref x0), (.ref x1)] 2 = mkF m 0 #[.val (.ref x0), .val (.ref x1)] [] := by first | (simp [entryFrame, mkF, argsToLocals, Value.category]; done) | (simp [entryFrame, mkF, argsToLocals, *]; done) | rfl
set_option maxRecDepth 65536 in
set_option maxHeartbeats 2000000 in
theorem rm8 (l : Launch) (Z : State) (a0 : Array Value) (hw : ∀ d ∈ tables_1, d.before a0 Z = true) (a : Addr) (o : Addr) (u : Addr) (w : Addr) (h0 : Heap) (hE : Ext Z.heap h0) (hE0 : Exa Z h0 a "com/example/tidewire/tidewire/core/Account") (hF1 : Fld Z h0 a "com/example/tidewire/tidewire/core/Account" "changedAccounts" "Ljava/util/List;" .null) (hF2 : Fld Z h0 a "com/example/tidewire/tidewire/core/Account" "available" "[J" (.ref u)) (hF3 : Fld Z h0 a "com/example/tidewire/tidewire/core/Account" "locked" "[J" (.ref w)) (hfr4 : Z.heap.size ≤ a) :
    Con l Z (⟨"com/example/tidewire/tidewire/core/Account", "logChangesIn", "(Ljava/util/List;)V"⟩ : MethodName) prog_1_method_2_code 2 none ({ frames := 0, cells := 0, slots := 0, locals := 0 } : Room) #[(.ref a), (.ref o)] h0 (fun vv hh => vv = none ∧ Keep h0 hh [a] ∧ Exa Z hh a "com/example/tidewire/tidewire/core/Account" ∧ Fld Z hh a "com/example/tidewire/tidewire/core/Account" "available" "[J" (.ref u) ∧ Fld Z hh a "com/example/tidewire/tidewire/core/Account" "locked" "[J" (.ref w)) := by
  refine Con.of (plainFor_of_name (by first | (simp [plainName, overriddenIn]; done) | decide +kernel)) hE ?_
  intro p e s m below T (X : Sd l Z "com/example/tidewire/tidewire/core/Account" "logChangesIn" prog_1_method_2_code 2 none ({ frames := 0, cells := 0, slots := 0, locals := 0 } : Room) p e s m #[(.ref a), (.ref o)] below T h0 0 0)
  refine End.frame (ef_rm8 m a o) ?_
  have K_0 : Keep h0 h0 [a] := Keep.refl _ _
  show End Z p e below s _ _ _ _ (mkF m 0 #[.val (.ref a), .val (.ref o)] [])
  refine E_aloadN (v := (.ref a)) (pc' := 1) X d8_0 rfl rfl rfl ?_
  refine E_aloadN (v := (.ref o)) (pc' := 2) X d8_1 rfl rfl rfl ?_
  refine E_putF (pc' := 5) X (host := "") (Or.inl (w_89 hw)) Via.refl hF1 hE0 (Or.inl (w_90 hw)) (w_3 hw) (ty := (.object "java/util/List")) (by decide) rfl rfl hfr4 d8_2 rfl (fun T h_2 X W_1 => ?_)
  have K_3 : Keep h0 h_2 [a] := K_0.wr W_1 (Or.inl (List.mem_of_getElem? (i := 0) rfl))
  have E_4 : Exa Z h_2 a "com/example/tidewire/tidewire/core/Account" := (hE0.wr W_1)
  have F_5 : Fld Z h_2 a "com/example/tidewire/tidewire/core/Account" "available" "[J" (.ref u) := (hF2.other W_1 (Or.inr (slot_ne (Or.inr (w_75 hw)) (Or.inl (w_90 hw)) (by decide) (t := (.array .long)) (t' := (.object "java/util/List")) (by decide) (by decide))))
  have F_6 : Fld Z h_2 a "com/example/tidewire/tidewire/core/Account" "locked" "[J" (.ref w) := (hF3.other W_1 (Or.inr (slot_ne (Or.inr (w_77 hw)) (Or.inl (w_90 hw)) (by decide) (t := (.array .long)) (t' := (.object "java/util/List")) (by decide) (by decide))))
  exact E_ret0 X d8_5 (by decide) (by decide) ⟨rfl, K_3, E_4, F_5, F_6⟩
theorem d9_0 : decode prog_1_method_6_code 0 = .ok (.aload_n 0, 1) := by decide +kernel
theorem d9_1 : decode prog_1_method_6_code 1 = .ok (.getfield 33, 3) := by decide +kernel
theorem d9_4 : decode prog_1_method_6_code 4 = .ok (.iload_n 1, 1) := by decide +kernel
theorem d9_5 : decode prog_1_method_6_code 5 = .ok (.lload_n 2, 1) := by decide +kernel
theorem d9_6 : decode prog_1_method_6_code 6 = .ok (.lastore, 1) := by decide +kernel
theorem d9_7 : decode prog_1_method_6_code 7 = .ok (.aload_n 0, 1) := by decide +kernel
theorem d9_8 : decode prog_1_method_6_code 8 = .ok (.getfield 36, 3) := by decide +kernel
theorem d9_11 : decode prog_1_method_6_code 11 = .ok (.iload_n 1, 1) := by decide +kernel
theorem d9_12 : decode prog_1_method_6_code 12 = .ok (.lload 4, 2) := by decide +kernel
theorem d9_14 : decode prog_1_method_6_code 14 = .ok (.lastore, 1) := by decide +kernel
theorem d9_15 : decode prog_1_method_6_code 15 = .ok (.return_, 1) := by decide +kernel
theorem ef_rm_rb0 (m : MethodId) (x0 : Addr) (x1 : Int32) (x2 : Int64) (x3 : Int64) : entryFrame m #[(.ref x0), (.int x1), (.long x2), (.long x3)] 6 = mkF m 0 #[.val (.ref x0), .val (.int x1), .val (.long x2), .second, .val (.long x3), .second] [] := by first | (simp [entryFrame, mkF, argsToLocals, Value.category]; done) | (simp [entryFrame, mkF, argsToLocals, *]; done) | rfl
set_option maxRecDepth 65536 in
set_option maxHeartbeats 2000000 in
theorem rm_rb0 (l : Launch) (Z : State) (a0 : Array Value) (hw : ∀ d ∈ tables_1, d.before a0 Z = true) (a : Addr) (x : Int64) (y : Int64) (u : Addr) (w : Addr) (b0 : Int64) (b1 : Int64) (b2 : Int64) (h0 : Heap) (hE : Ext Z.heap h0) (hF0 : Fld Z h0 a "com/example/tidewire/tidewire/core/Account" "available" "[J" (.ref u)) (hF1 : Fld Z h0 a "com/example/tidewire/tidewire/core/Account" "locked" "[J" (.ref w)) (hA2 : Ar Z h0 u .long [(.long b0), (.long b1), (.long b2)]) (hA3 : Ar Z h0 w .long [(.long (0 : Int64)), (.long (0 : Int64)), (.long (0 : Int64))]) (hne4 : u ≠ w) (hfr5 : Z.heap.size ≤ u) (hfr6 : Z.heap.size ≤ w) (hE7 : Exa Z h0 a "com/example/tidewire/tidewire/core/Account") :
    Con l Z (⟨"com/example/tidewire/tidewire/core/Account", "restoreBalance", "(IJJ)V"⟩ : MethodName) prog_1_method_6_code 6 none ({ frames := 0, cells := 0, slots := 0, locals := 0 } : Room) #[(.ref a), (.int (0 : Int32)), (.long x), (.long y)] h0 (fun vv hh => vv = none ∧ Keep h0 hh [u, w] ∧ Ar Z hh u .long [(.long x), (.long b1), (.long b2)] ∧ Ar Z hh w .long [(.long y), (.long (0 : Int64)), (.long (0 : Int64))]) := by
  refine Con.of (plainFor_of_name (by first | (simp [plainName, overriddenIn]; done) | decide +kernel)) hE ?_
  intro p e s m below T (X : Sd l Z "com/example/tidewire/tidewire/core/Account" "restoreBalance" prog_1_method_6_code 6 none ({ frames := 0, cells := 0, slots := 0, locals := 0 } : Room) p e s m #[(.ref a), (.int (0 : Int32)), (.long x), (.long y)] below T h0 0 0)
  refine End.frame (ef_rm_rb0 m a (0 : Int32) x y) ?_
  have K_0 : Keep h0 h0 [u, w] := Keep.refl _ _
  have ne_1 : a ≠ u := Ar.ne_exa hA2 hE7 (w_3 hw)
  have ne_2 : a ≠ w := Ar.ne_exa hA3 hE7 (w_3 hw)
  show End Z p e below s _ _ _ _ (mkF m 0 #[.val (.ref a), .val (.int (0 : Int32)), .val (.long x), .second, .val (.long y), .second] [])
  refine E_aloadN (v := (.ref a)) (pc' := 1) X d9_0 rfl rfl rfl ?_
  refine E_getF (pc' := 4) X (host := "") (Or.inl (w_74 hw)) Via.refl hF0 d9_1 rfl (fun T X => ?_)
  refine E_iloadN (pc' := 5) X d9_4 rfl rfl ?_
  refine E_lloadN (pc' := 6) X d9_5 rfl rfl ?_
  refine E_lastore (vs' := [(.long x), (.long b1), (.long b2)]) (pc' := 7) X hA2 (by decide) (Nat.le_of_ble_eq_true rfl) rfl hfr5 d9_6 rfl (fun T h_4 X W_3 Aa_5 => ?_)
  have K_6 : Keep h0 h_4 [u, w] := K_0.wr W_3 (Or.inl (List.mem_of_getElem? (i := 0) rfl))
  refine E_aloadN (v := (.ref a)) (pc' := 8) X d9_7 rfl rfl rfl ?_
  have F_7 : Fld Z h_4 a "com/example/tidewire/tidewire/core/Account" "locked" "[J" (.ref w) := (hF1.other W_3 (Or.inl ne_1))
  refine E_getF (pc' := 11) X (host := "") (Or.inl (w_76 hw)) Via.refl F_7 d9_8 rfl (fun T X => ?_)
  refine E_iloadN (pc' := 12) X d9_11 rfl rfl ?_
  refine E_lload (pc' := 14) X d9_12 rfl rfl ?_
  have A_8 : Ar Z h_4 w .long [(.long (0 : Int64)), (.long (0 : Int64)), (.long (0 : Int64))] := (hA3.other W_3 (Ne.symm hne4))
  refine E_lastore (vs' := [(.long y), (.long (0 : Int64)), (.long (0 : Int64))]) (pc' := 15) X A_8 (by decide) (Nat.le_of_ble_eq_true rfl) rfl hfr6 d9_14 rfl (fun T h_10 X W_9 Aa_11 => ?_)
  have K_12 : Keep h0 h_10 [u, w] := K_6.wr W_9 (Or.inl (List.mem_of_getElem? (i := 1) rfl))
  have A_13 : Ar Z h_10 u .long [(.long x), (.long b1), (.long b2)] := (Aa_5.other W_9 hne4)
  exact E_ret0 X d9_15 (by decide) (by decide) ⟨rfl, K_12, A_13, Aa_11⟩
theorem ef_rm_rb1 (m : MethodId) (x0 : Addr) (x1 : Int32) (x2 : Int64) (x3 : Int64) : entryFrame m #[(.ref x0), (.int x1), (.long x2), (.long x3)] 6 = mkF m 0 #[.val (.ref x0), .val (.int x1), .val (.long x2), .second, .val (.long x3), .second] [] := by first | (simp [entryFrame, mkF, argsToLocals, Value.category]; done) | (simp [entryFrame, mkF, argsToLocals, *]; done) | rfl
set_option maxRecDepth 65536 in
set_option maxHeartbeats 2000000 in
theorem rm_rb1 (l : Launch) (Z : State) (a0 : Array Value) (hw : ∀ d ∈ tables_1, d.before a0 Z = true) (a : Addr) (x : Int64) (y : Int64) (u : Addr) (w : Addr) (b0 : Int64) (b1 : Int64) (b2 : Int64) (h0 : Heap) (hE : Ext Z.heap h0) (hF0 : Fld Z h0 a "com/example/tidewire/tidewire/core/Account" "available" "[J" (.ref u)) (hF1 : Fld Z h0 a "com/example/tidewire/tidewire/core/Account" "locked" "[J" (.ref w)) (hA2 : Ar Z h0 u .long [(.long b0), (.long b1), (.long b2)]) (hA3 : Ar Z h0 w .long [(.long (0 : Int64)), (.long (0 : Int64)), (.long (0 : Int64))]) (hne4 : u ≠ w) (hfr5 : Z.heap.size ≤ u) (hfr6 : Z.heap.size ≤ w) (hE7 : Exa Z h0 a "com/example/tidewire/tidewire/core/Account") :
    Con l Z (⟨"com/example/tidewire/tidewire/core/Account", "restoreBalance", "(IJJ)V"⟩ : MethodName) prog_1_method_6_code 6 none ({ frames := 0, cells := 0, slots := 0, locals := 0 } : Room) #[(.ref a), (.int (1 : Int32)), (.long x), (.long y)] h0 (fun vv hh => vv = none ∧ Keep h0 hh [u, w] ∧ Ar Z hh u .long [(.long b0), (.long x), (.long b2)] ∧ Ar Z hh w .long [(.long (0 : Int64)), (.long y), (.long (0 : Int64))]) := by
  refine Con.of (plainFor_of_name (by first | (simp [plainName, overriddenIn]; done) | decide +kernel)) hE ?_
  intro p e s m below T (X : Sd l Z "com/example/tidewire/tidewire/core/Account" "restoreBalance" prog_1_method_6_code 6 none ({ frames := 0, cells := 0, slots := 0, locals := 0 } : Room) p e s m #[(.ref a), (.int (1 : Int32)), (.long x), (.long y)] below T h0 0 0)
  refine End.frame (ef_rm_rb1 m a (1 : Int32) x y) ?_
  have K_0 : Keep h0 h0 [u, w] := Keep.refl _ _
  have ne_1 : a ≠ u := Ar.ne_exa hA2 hE7 (w_3 hw)
  have ne_2 : a ≠ w := Ar.ne_exa hA3 hE7 (w_3 hw)
  show End Z p e below s _ _ _ _ (mkF m 0 #[.val (.ref a), .val (.int (1 : Int32)), .val (.long x), .second, .val (.long y), .second] [])
  refine E_aloadN (v := (.ref a)) (pc' := 1) X d9_0 rfl rfl rfl ?_
  refine E_getF (pc' := 4) X (host := "") (Or.inl (w_74 hw)) Via.refl hF0 d9_1 rfl (fun T X => ?_)
  refine E_iloadN (pc' := 5) X d9_4 rfl rfl ?_
  refine E_lloadN (pc' := 6) X d9_5 rfl rfl ?_
  refine E_lastore (vs' := [(.long b0), (.long x), (.long b2)]) (pc' := 7) X hA2 (by decide) (Nat.le_of_ble_eq_true rfl) rfl hfr5 d9_6 rfl (fun T h_4 X W_3 Aa_5 => ?_)
  have K_6 : Keep h0 h_4 [u, w] := K_0.wr W_3 (Or.inl (List.mem_of_getElem? (i := 0) rfl))
  refine E_aloadN (v := (.ref a)) (pc' := 8) X d9_7 rfl rfl rfl ?_
  have F_7 : Fld Z h_4 a "com/example/tidewire/tidewire/core/Account" "locked" "[J" (.ref w) := (hF1.other W_3 (Or.inl ne_1))
  refine E_getF (pc' := 11) X (host := "") (Or.inl (w_76 hw)) Via.refl F_7 d9_8 rfl (fun T X => ?_)
  refine E_iloadN (pc' := 12) X d9_11 rfl rfl ?_
  refine E_lload (pc' := 14) X d9_12 rfl rfl ?_
  have A_8 : Ar Z h_4 w .long [(.long (0 : Int64)), (.long (0 : Int64)), (.long (0 : Int64))] := (hA3.other W_3 (Ne.symm hne4))
  refine E_lastore (vs' := [(.long (0 : Int64)), (.long y), (.long (0 : Int64))]) (pc' := 15) X A_8 (by decide) (Nat.le_of_ble_eq_true rfl) rfl hfr6 d9_14 rfl (fun T h_10 X W_9 Aa_11 => ?_)
  have K_12 : Keep h0 h_10 [u, w] := K_6.wr W_9 (Or.inl (List.mem_of_getElem? (i := 1) rfl))
  have A_13 : Ar Z h_10 u .long [(.long b0), (.long x), (.long b2)] := (Aa_5.other W_9 hne4)
  exact E_ret0 X d9_15 (by decide) (by decide) ⟨rfl, K_12, A_13, Aa_11⟩
theorem ef_rm_rb2 (m : MethodId) (x0 : Addr) (x1 : Int32) (x2 : Int64) (x3 : Int64) : entryFrame m #[(.ref x0), (.int x1), (.long x2), (.long x3)] 6 = mkF m 0 #[.val (.ref x0), .val (.int x1), .val (.long x2), .second, .val (.long x3), .second] [] := by first | (simp [entryFrame, mkF, argsToLocals, Value.category]; done) | (simp [entryFrame, mkF, argsToLocals, *]; done) | rfl
set_option maxRecDepth 65536 in
set_option maxHeartbeats 2000000 in
theorem rm_rb2 (l : Launch) (Z : State) (a0 : Array Value) (hw : ∀ d ∈ tables_1, d.before a0 Z = true) (a : Addr) (x : Int64) (y : Int64) (u : Addr) (w : Addr) (b0 : Int64) (b1 : Int64) (b2 : Int64) (h0 : Heap) (hE : Ext Z.heap h0) (hF0 : Fld Z h0 a "com/example/tidewire/tidewire/core/Account" "available" "[J" (.ref u)) (hF1 : Fld Z h0 a "com/example/tidewire/tidewire/core/Account" "locked" "[J" (.ref w)) (hA2 : Ar Z h0 u .long [(.long b0), (.long b1), (.long b2)]) (hA3 : Ar Z h0 w .long [(.long (0 : Int64)), (.long (0 : Int64)), (.long (0 : Int64))]) (hne4 : u ≠ w) (hfr5 : Z.heap.size ≤ u) (hfr6 : Z.heap.size ≤ w) (hE7 : Exa Z h0 a "com/example/tidewire/tidewire/core/Account") :
    Con l Z (⟨"com/example/tidewire/tidewire/core/Account", "restoreBalance", "(IJJ)V"⟩ : MethodName) prog_1_method_6_code 6 none ({ frames := 0, cells := 0, slots := 0, locals := 0 } : Room) #[(.ref a), (.int (2 : Int32)), (.long x), (.long y)] h0 (fun vv hh => vv = none ∧ Keep h0 hh [u, w] ∧ Ar Z hh u .long [(.long b0), (.long b1), (.long x)] ∧ Ar Z hh w .long [(.long (0 : Int64)), (.long (0 : Int64)), (.long y)]) := by
  refine Con.of (plainFor_of_name (by first | (simp [plainName, overriddenIn]; done) | decide +kernel)) hE ?_
  intro p e s m below T (X : Sd l Z "com/example/tidewire/tidewire/core/Account" "restoreBalance" prog_1_method_6_code 6 none ({ frames := 0, cells := 0, slots := 0, locals := 0 } : Room) p e s m #[(.ref a), (.int (2 : Int32)), (.long x), (.long y)] below T h0 0 0)
  refine End.frame (ef_rm_rb2 m a (2 : Int32) x y) ?_
  have K_0 : Keep h0 h0 [u, w] := Keep.refl _ _
  have ne_1 : a ≠ u := Ar.ne_exa hA2 hE7 (w_3 hw)
  have ne_2 : a ≠ w := Ar.ne_exa hA3 hE7 (w_3 hw)
  show End Z p e below s _ _ _ _ (mkF m 0 #[.val (.ref a), .val (.int (2 : Int32)), .val (.long x), .second, .val (.long y), .second] [])
  refine E_aloadN (v := (.ref a)) (pc' := 1) X d9_0 rfl rfl rfl ?_
  refine E_getF (pc' := 4) X (host := "") (Or.inl (w_74 hw)) Via.refl hF0 d9_1 rfl (fun T X => ?_)
  refine E_iloadN (pc' := 5) X d9_4 rfl rfl ?_
  refine E_lloadN (pc' := 6) X d9_5 rfl rfl ?_
  refine E_lastore (vs' := [(.long b0), (.long b1), (.long x)]) (pc' := 7) X hA2 (by decide) (Nat.le_of_ble_eq_true rfl) rfl hfr5 d9_6 rfl (fun T h_4 X W_3 Aa_5 => ?_)
  have K_6 : Keep h0 h_4 [u, w] := K_0.wr W_3 (Or.inl (List.mem_of_getElem? (i := 0) rfl))
  refine E_aloadN (v := (.ref a)) (pc' := 8) X d9_7 rfl rfl rfl ?_
  have F_7 : Fld Z h_4 a "com/example/tidewire/tidewire/core/Account" "locked" "[J" (.ref w) := (hF1.other W_3 (Or.inl ne_1))
  refine E_getF (pc' := 11) X (host := "") (Or.inl (w_76 hw)) Via.refl F_7 d9_8 rfl (fun T X => ?_)
  refine E_iloadN (pc' := 12) X d9_11 rfl rfl ?_
  refine E_lload (pc' := 14) X d9_12 rfl rfl ?_
  have A_8 : Ar Z h_4 w .long [(.long (0 : Int64)), (.long (0 : Int64)), (.long (0 : Int64))] := (hA3.other W_3 (Ne.symm hne4))
  refine E_lastore (vs' := [(.long (0 : Int64)), (.long (0 : Int64)), (.long y)]) (pc' := 15) X A_8 (by decide) (Nat.le_of_ble_eq_true rfl) rfl hfr6 d9_14 rfl (fun T h_10 X W_9 Aa_11 => ?_)
  have K_12 : Keep h0 h_10 [u, w] := K_6.wr W_9 (Or.inl (List.mem_of_getElem? (i := 1) rfl))
  have A_13 : Ar Z h_10 u .long [(.long b0), (.long b1), (.long x)] := (Aa_5.other W_9 hne4)
  exact E_ret0 X d9_15 (by decide) (by decide) ⟨rfl, K_12, A_13, Aa_11⟩
theorem d10_0 : decode prog_1_method_4_code 0 = .ok (.aload_n 0, 1) := by decide +kernel
theorem d10_1 : decode prog_1_method_4_code 1 = .ok (.getfield 33, 3) := by decide +kernel
theorem d10_4 : decode prog_1_method_4_code 4 = .ok (.iload_n 1, 1) := by decide +kernel
theorem d10_5 : decode prog_1_method_4_code 5 = .ok (.laload, 1) := by decide +kernel
theorem d10_6 : decode prog_1_method_4_code 6 = .ok (.lreturn, 1) := by decide +kernel
theorem ef_rm10 (m : MethodId) (x0 : Addr) (x1 : Int32) : entryFrame m #[(.ref x0), (.int x1)] 2 = mkF m 0 #[.val (.ref x0), .val (.int x1)] [] := by first | (simp [entryFrame, mkF, argsToLocals, Value.category]; done) | (simp [entryFrame, mkF, argsToLocals, *]; done) | rfl
set_option maxRecDepth 65536 in
set_option maxHeartbeats 2000000 in
theorem rm10 (l : Launch) (Z : State) (a0 : Array Value) (hw : ∀ d ∈ tables_1, d.before a0 Z = true) (a : Addr) (j : Int32) (t : Addr) (vs : List Value) (r : Int64) (h0 : Heap) (hE : Ext Z.heap h0) (hF0 : Fld Z h0 a "com/example/tidewire/tidewire/core/Account" "available" "[J" (.ref t)) (hA1 : Ar Z h0 t .long vs) (hj : ¬ j < 0) (hv : vs[j.toNatClampNeg]? = some (.long r)) :
    Con l Z (⟨"com/example/tidewire/tidewire/core/Account", "available", "(I)J"⟩ : MethodName) prog_1_method_4_code 2 (some .long) ({ frames := 0, cells := 0, slots := 0, locals := 0 } : Room) #[(.ref a), (.int j)] h0 (fun vv hh => vv = some (.long r) ∧ h0 = hh) := by
  refine Con.of (plainFor_of_name (by first | (simp [plainName, overriddenIn]; done) | decide +kernel)) hE ?_
  intro p e s m below T (X : Sd l Z "com/example/tidewire/tidewire/core/Account" "available" prog_1_method_4_code 2 (some .long) ({ frames := 0, cells := 0, slots := 0, locals := 0 } : Room) p e s m #[(.ref a), (.int j)] below T h0 0 0)
  refine End.frame (ef_rm10 m a j) ?_
  show End Z p e below s _ _ _ _ (mkF m 0 #[.val (.ref a), .val (.int j)] [])
  refine E_aloadN (v := (.ref a)) (pc' := 1) X d10_0 rfl rfl rfl ?_
  refine E_getF (pc' := 4) X (host := "") (Or.inl (w_74 hw)) Via.refl hF0 d10_1 rfl (fun T X => ?_)
  refine E_iloadN (pc' := 5) X d10_4 rfl rfl ?_
  refine E_laload (v := (.long r)) (pc' := 6) X hA1 hj hv d10_5 rfl ?_
  exact E_retL X d10_6 (by decide) (by decide) ⟨rfl, rfl⟩
theorem d12_0 : decode prog_1_method_5_code 0 = .ok (.aload_n 0, 1) := by decide +kernel
theorem d12_1 : decode prog_1_method_5_code 1 = .ok (.getfield 36, 3) := by decide +kernel
theorem d12_4 : decode prog_1_method_5_code 4 = .ok (.iload_n 1, 1) := by decide +kernel
theorem d12_5 : decode prog_1_method_5_code 5 = .ok (.laload, 1) := by decide +kernel
theorem d12_6 : decode prog_1_method_5_code 6 = .ok (.lreturn, 1) := by decide +kernel
theorem ef_rm12 (m : MethodId) (x0 : Addr) (x1 : Int32) : entryFrame m #[(.ref x0), (.int x1)] 2 = mkF m 0 #[.val (.ref x0), .val (.int x1)] [] := by first | (simp [entryFrame, mkF, argsToLocals, Value.category]; done) | (simp [entryFrame, mkF, argsToLocals, *]; done) | rfl
set_option maxRecDepth 65536 in
set_option maxHeartbeats 2000000 in
theorem rm12 (l : Launch) (Z : State) (a0 : Array Value) (hw : ∀ d ∈ tables_1, d.before a0 Z = true) (a : Addr) (j : Int32) (t : Addr) (vs : List Value) (r : Int64) (h0 : Heap) (hE : Ext Z.heap h0) (hF0 : Fld Z h0 a "com/example/tidewire/tidewire/core/Account" "locked" "[J" (.ref t)) (hA1 : Ar Z h0 t .long vs) (hj : ¬ j < 0) (hv : vs[j.toNatClampNeg]? = some (.long r)) :
    Con l Z (⟨"com/example/tidewire/tidewire/core/Account", "locked", "(I)J"⟩ : MethodName) prog_1_method_5_code 2 (some .long) ({ frames := 0, cells := 0, slots := 0, locals := 0 } : Room) #[(.ref a), (.int j)] h0 (fun vv hh => vv = some (.long r) ∧ h0 = hh) := by
  refine Con.of (plainFor_of_name (by first | (simp [plainName, overriddenIn]; done) | decide +kernel)) hE ?_
  intro p e s m below T (X : Sd l Z "com/example/tidewire/tidewire/core/Account" "locked" prog_1_method_5_code 2 (some .long) ({ frames := 0, cells := 0, slots := 0, locals := 0 } : Room) p e s m #[(.ref a), (.int j)] below T h0 0 0)
  refine End.frame (ef_rm12 m a j) ?_
  show End Z p e below s _ _ _ _ (mkF m 0 #[.val (.ref a), .val (.int j)] [])
  refine E_aloadN (v := (.ref a)) (pc' := 1) X d12_0 rfl rfl rfl ?_
  refine E_getF (pc' := 4) X (host := "") (Or.inl (w_76 hw)) Via.refl hF0 d12_1 rfl (fun T X => ?_)
  refine E_iloadN (pc' := 5) X d12_4 rfl rfl ?_
  refine E_laload (v := (.long r)) (pc' := 6) X hA1 hj hv d12_5 rfl ?_
  exact E_retL X d12_6 (by decide) (by decide) ⟨rfl, rfl⟩
theorem d11_0 : decode method_2_code 0 = .ok (.iload_n 0, 1) := by decide +kernel
theorem d11_1 : decode method_2_code 1 = .ok (.iload_n 1, 1) := by decide +kernel
theorem d11_2 : decode method_2_code 2 = .ok (.if_icmp .ne 5, 3) := by decide +kernel
theorem d11_5 : decode method_2_code 5 = .ok (.lload_n 2, 1) := by decide +kernel
theorem d11_6 : decode method_2_code 6 = .ok (.lreturn, 1) := by decide +kernel
theorem d11_7 : decode method_2_code 7 = .ok (.lload 4, 2) := by decide +kernel
theorem d11_9 : decode method_2_code 9 = .ok (.lreturn, 1) := by decide +kernel
theorem ef_rm11 (m : MethodId) (x0 : Int32) (x1 : Int32) (x2 : Int64) (x3 : Int64) : entryFrame m #[(.int x0), (.int x1), (.long x2), (.long x3)] 6 = mkF m 0 #[.val (.int x0), .val (.int x1), .val (.long x2), .second, .val (.long x3), .second] [] := by first | (simp [entryFrame, mkF, argsToLocals, Value.category]; done) | (simp [entryFrame, mkF, argsToLocals, *]; done) | rfl
set_option maxRecDepth 65536 in
set_option maxHeartbeats 2000000 in
theorem rm11 (l : Launch) (Z : State) (a0 : Array Value) (hw : ∀ d ∈ tables_1, d.before a0 Z = true) (u1 : Int32) (u2 : Int32) (x : Int64) (y : Int64) (r : Int64) (h0 : Heap) (hE : Ext Z.heap h0) (hr : (if u1 = u2 then x else y) = r) :
    Con l Z (⟨"com/example/tidewire/tidewire/core/AccountRestoreBalancePinLaw", "expAvail", "(IIJJ)J"⟩ : MethodName) method_2_code 6 (some .long) ({ frames := 0, cells := 0, slots := 0, locals := 0 } : Room) #[(.int u1), (.int u2), (.long x), (.long y)] h0 (fun vv hh => vv = some (.long r) ∧ h0 = hh) := by
  refine Con.of (plainFor_of_name (by first | (simp [plainName, overriddenIn]; done) | decide +kernel)) hE ?_
  intro p e s m below T (X : Sd l Z "com/example/tidewire/tidewire/core/AccountRestoreBalancePinLaw" "expAvail" method_2_code 6 (some .long) ({ frames := 0, cells := 0, slots := 0, locals := 0 } : Room) p e s m #[(.int u1), (.int u2), (.long x), (.long y)] below T h0 0 0)
  refine End.frame (ef_rm11 m u1 u2 x y) ?_
  show End Z p e below s _ _ _ _ (mkF m 0 #[.val (.int u1), .val (.int u2), .val (.long x), .second, .val (.long y), .second] [])
  refine E_iloadN (pc' := 1) X d11_0 rfl rfl ?_
  refine E_iloadN (pc' := 2) X d11_1 rfl rfl ?_
  refine E_icmp (pcY := 7) (pcN := 5) X (ic_ne _ _) d11_2 (by decide) rfl rfl (fun hc2_0 => ?_) (fun hc2_0 => ?_)
  · skip
    refine E_lload (pc' := 9) X d11_7 rfl rfl ?_
    exact E_retL X d11_9 (by decide) (by decide) ⟨(by rw [← hr, if_neg hc2_0]), rfl⟩
  · skip
    replace hc2_0 := Decidable.not_not.mp hc2_0
    refine E_lloadN (pc' := 6) X d11_5 rfl rfl ?_
    exact E_retL X d11_6 (by decide) (by decide) ⟨(by rw [← hr, if_pos hc2_0]), rfl⟩
theorem d13_0 : decode method_3_code 0 = .ok (.iload_n 0, 1) := by decide +kernel
theorem d13_1 : decode method_3_code 1 = .ok (.iload_n 1, 1) := by decide +kernel
theorem d13_2 : decode method_3_code 2 = .ok (.if_icmp .ne 5, 3) := by decide +kernel
theorem d13_5 : decode method_3_code 5 = .ok (.lload_n 2, 1) := by decide +kernel
theorem d13_6 : decode method_3_code 6 = .ok (.lreturn, 1) := by decide +kernel
theorem d13_7 : decode method_3_code 7 = .ok (.lconst 0, 1) := by decide +kernel
theorem d13_8 : decode method_3_code 8 = .ok (.lreturn, 1) := by decide +kernel
theorem ef_rm13 (m : MethodId) (x0 : Int32) (x1 : Int32) (x2 : Int64) : entryFrame m #[(.int x0), (.int x1), (.long x2)] 4 = mkF m 0 #[.val (.int x0), .val (.int x1), .val (.long x2), .second] [] := by first | (simp [entryFrame, mkF, argsToLocals, Value.category]; done) | (simp [entryFrame, mkF, argsToLocals, *]; done) | rfl
set_option maxRecDepth 65536 in
set_option maxHeartbeats 2000000 in
theorem rm13 (l : Launch) (Z : State) (a0 : Array Value) (hw : ∀ d ∈ tables_1, d.before a0 Z = true) (u1 : Int32) (u2 : Int32) (x : Int64) (r : Int64) (h0 : Heap) (hE : Ext Z.heap h0) (hr : (if u1 = u2 then x else 0) = r) :
    Con l Z (⟨"com/example/tidewire/tidewire/core/AccountRestoreBalancePinLaw", "expLocked", "(IIJ)J"⟩ : MethodName) method_3_code 4 (some .long) ({ frames := 0, cells := 0, slots := 0, locals := 0 } : Room) #[(.int u1), (.int u2), (.long x)] h0 (fun vv hh => vv = some (.long r) ∧ h0 = hh) := by
  refine Con.of (plainFor_of_name (by first | (simp [plainName, overriddenIn]; done) | decide +kernel)) hE ?_
  intro p e s m below T (X : Sd l Z "com/example/tidewire/tidewire/core/AccountRestoreBalancePinLaw" "expLocked" method_3_code 4 (some .long) ({ frames := 0, cells := 0, slots := 0, locals := 0 } : Room) p e s m #[(.int u1), (.int u2), (.long x)] below T h0 0 0)
  refine End.frame (ef_rm13 m u1 u2 x) ?_
  show End Z p e below s _ _ _ _ (mkF m 0 #[.val (.int u1), .val (.int u2), .val (.long x), .second] [])
  refine E_iloadN (pc' := 1) X d13_0 rfl rfl ?_
  refine E_iloadN (pc' := 2) X d13_1 rfl rfl ?_
  refine E_icmp (pcY := 7) (pcN := 5) X (ic_ne _ _) d13_2 (by decide) rfl rfl (fun hc2_0 => ?_) (fun hc2_0 => ?_)
  · skip
    refine E_lconst (v := (0 : Int64)) (pc' := 8) X d13_7 rfl rfl ?_
    exact E_retL X d13_8 (by decide) (by decide) ⟨(by rw [← hr, if_neg hc2_0]), rfl⟩
  · skip
    replace hc2_0 := Decidable.not_not.mp hc2_0
    refine E_lloadN (pc' := 6) X d13_5 rfl rfl ?_
    exact E_retL X d13_6 (by decide) (by decide) ⟨(by rw [← hr, if_pos hc2_0]), rfl⟩
theorem d14_0 : decode jdk_38_method_8_code 0 = .ok (.aload_n 0, 1) := by decide +kernel
theorem d14_1 : decode jdk_38_method_8_code 1 = .ok (.getfield 48, 3) := by decide +kernel
theorem d14_4 : decode jdk_38_method_8_code 4 = .ok (.ireturn, 1) := by decide +kernel
theorem ef_rm14 (m : MethodId) (x0 : Addr) : entryFrame m #[(.ref x0)] 1 = mkF m 0 #[.val (.ref x0)] [] := by first | (simp [entryFrame, mkF, argsToLocals, Value.category]; done) | (simp [entryFrame, mkF, argsToLocals, *]; done) | rfl
set_option maxRecDepth 65536 in
set_option maxHeartbeats 2000000 in
theorem rm14 (l : Launch) (Z : State) (a0 : Array Value) (hw : ∀ d ∈ tables_1, d.before a0 Z = true) (a : Addr) (h0 : Heap) (hE : Ext Z.heap h0) (hF0 : Fld Z h0 a "java/util/ArrayList" "size" "I" (.int (0 : Int32))) :
    Con l Z (⟨"java/util/ArrayList", "size", "()I"⟩ : MethodName) jdk_38_method_8_code 1 (some .int) ({ frames := 0, cells := 0, slots := 0, locals := 0 } : Room) #[(.ref a)] h0 (fun vv hh => vv = some (.int (0 : Int32)) ∧ h0 = hh) := by
  refine Con.of (plainFor_of_name (by first | (simp [plainName, overriddenIn]; done) | decide +kernel)) hE ?_
  intro p e s m below T (X : Sd l Z "java/util/ArrayList" "size" jdk_38_method_8_code 1 (some .int) ({ frames := 0, cells := 0, slots := 0, locals := 0 } : Room) p e s m #[(.ref a)] below T h0 0 0)
  refine End.frame (ef_rm14 m a) ?_
  show End Z p e below s _ _ _ _ (mkF m 0 #[.val (.ref a)] [])
  refine E_aloadN (v := (.ref a)) (pc' := 1) X d14_0 rfl rfl rfl ?_
  refine E_getF (pc' := 4) X (host := "") (Or.inl (w_118 hw)) Via.refl hF0 d14_1 rfl (fun T X => ?_)
  exact E_retI X d14_4 (by decide) (by decide) ⟨rfl, rfl⟩
theorem pd_1 : parseMethodDescriptor "(Ljava/lang/String;[J)V" = some ⟨[(.object "java/lang/String"), (.array .long)], none⟩ := by decide +kernel
theorem pd_2 : parseMethodDescriptor "(Ljava/util/List;)V" = some ⟨[(.object "java/util/List")], none⟩ := by decide +kernel
theorem pd_3 : parseMethodDescriptor "(IJJ)V" = some ⟨[.int, .long, .long], none⟩ := by decide +kernel
theorem pd_4 : parseMethodDescriptor "(I)J" = some ⟨[.int], some .long⟩ := by decide +kernel
theorem pd_5 : parseMethodDescriptor "(IIJJ)J" = some ⟨[.int, .int, .long, .long], some .long⟩ := by decide +kernel
theorem pd_6 : parseMethodDescriptor "(IIJ)J" = some ⟨[.int, .int, .long], some .long⟩ := by decide +kernel
theorem pd_7 : parseMethodDescriptor "()I" = some ⟨[], some .int⟩ := by decide +kernel
theorem ef_rm0 (m : MethodId) (x0 : Int32) (x1 : Int64) (x2 : Int64) (x3 : Int64) (x4 : Int64) (x5 : Int64) : entryFrame m #[(.int x0), (.long x1), (.long x2), (.long x3), (.long x4), (.long x5)] 18 = mkF m 0 #[.val (.int x0), .val (.long x1), .second, .val (.long x2), .second, .val (.long x3), .second, .val (.long x4), .second, .val (.long x5), .second, .unset, .unset, .unset, .unset, .unset, .unset, .unset] [] := by first | (simp [entryFrame, mkF, argsToLocals, Value.category]; done) | (simp [entryFrame, mkF, argsToLocals, *]; done) | rfl
set_option maxRecDepth 65536 in
set_option maxHeartbeats 2000000 in
theorem rm0 (l : Launch) (Z : State) (a0 : Array Value) (hw : ∀ d ∈ tables_1, d.before a0 Z = true) (i0 : Int32) (i1 : Int64) (i2 : Int64) (i3 : Int64) (i4 : Int64) (i5 : Int64) (oD : Addr) (h0 : Heap) (hE : Ext Z.heap h0) (hS0 : Sta Z Z.heap "java/util/ArrayList" "DEFAULTCAPACITY_EMPTY_ELEMENTDATA" "[Ljava/lang/Object;" (.ref oD)) :
    Con l Z x code maxLocals ret room_1 #[(.int i0), (.long i1), (.long i2), (.long i3), (.long i4), (.long i5)] h0 (fun vv hh => vv = some (.int (1 : Int32))) := by
  refine Con.of (plainFor_of_name (by first | (simp [plainName, overriddenIn]; done) | decide +kernel)) hE ?_
  intro p e s m below T (X : Sd l Z "com/example/tidewire/tidewire/core/AccountRestoreBalancePinLaw" "law" code 18 (some .boolean) room_1 p e s m #[(.int i0), (.long i1), (.long i2), (.long i3), (.long i4), (.long i5)] below T h0 0 0)
  refine End.frame (ef_rm0 m i0 i1 i2 i3 i4 i5) ?_
  show End Z p e below s _ _ _ _ (mkF m 0 #[.val (.int i0), .val (.long i1), .second, .val (.long i2), .second, .val (.long i3), .second, .val (.long i4), .second, .val (.long i5), .second, .unset, .unset, .unset, .unset, .unset, .unset, .unset] [])
  refine E_iloadN (pc' := 1) X at_0 rfl rfl ?_
  refine E_ldcI (v := (2147483647 : Int32)) (pc' := 3) X (w_0 hw) at_1 rfl ?_
  refine E_iand (pc' := 4) X at_3 rfl ?_
  refine E_iconst (v := (3 : Int32)) (pc' := 5) X at_4 rfl rfl ?_
  refine E_irem (pc' := 6) X at_5 rfl (by decide) ?_
  obtain ⟨ass, q_ass⟩ : ∃ z : Int32, ((i0 &&& (2147483647 : Int32)) % (3 : Int32)) = z := ⟨_, rfl⟩
  refine E_eqI (z := ass) q_ass ?_
  refine E_istore (Ls' := #[.val (.int i0), .val (.long i1), .second, .val (.long i2), .second, .val (.long i3), .second, .val (.long i4), .second, .val (.long i5), .second, .val (.int ass), .unset, .unset, .unset, .unset, .unset, .unset]) (pc' := 8) X at_6 rfl rfl ?_
  refine E_iconst (v := (3 : Int32)) (pc' := 9) X at_8 rfl rfl ?_
  have le_o1 := X.le
  refine E_newAE (pc' := 11) X (aty := .long) (n := (3 : Int32)) (cap := 3) (vs := [(.long (0 : Int64)), (.long (0 : Int64)), (.long (0 : Int64))]) (cells' := 1) (slots' := 3) (ad := "[J") (by decide) (w_1 hw) at_9 rfl (by decide) (by decide) (by decide) rfl rfl rfl (by decide) (by decide) (fun T h_2 o1 g_5 X Ex_3 Aa_4 EaAa_4 => ?_)
  have fr_6 : Z.heap.size ≤ o1 := by rw [g_5]; exact le_o1
  refine E_dup (pc' := 12) X at_11 rfl rfl ?_
  refine E_iconst (v := (0 : Int32)) (pc' := 13) X at_12 rfl rfl ?_
  refine E_lload (pc' := 15) X at_13 rfl rfl ?_
  refine E_lastore (vs' := [(.long i3), (.long (0 : Int64)), (.long (0 : Int64))]) (pc' := 16) X Aa_4 (by decide) (Nat.le_of_ble_eq_true rfl) rfl fr_6 at_15 rfl (fun T h_8 X W_7 Aa_9 => ?_)
  refine E_dup (pc' := 17) X at_16 rfl rfl ?_
  refine E_iconst (v := (1 : Int32)) (pc' := 18) X at_17 rfl rfl ?_
  refine E_lload (pc' := 20) X at_18 rfl rfl ?_
  refine E_lastore (vs' := [(.long i3), (.long i4), (.long (0 : Int64))]) (pc' := 21) X Aa_9 (by decide) (Nat.le_of_ble_eq_true rfl) rfl fr_6 at_20 rfl (fun T h_11 X W_10 Aa_12 => ?_)
  refine E_dup (pc' := 22) X at_21 rfl rfl ?_
  refine E_iconst (v := (2 : Int32)) (pc' := 23) X at_22 rfl rfl ?_
  refine E_lload (pc' := 25) X at_23 rfl rfl ?_
  refine E_lastore (vs' := [(.long i3), (.long i4), (.long i5)]) (pc' := 26) X Aa_12 (by decide) (Nat.le_of_ble_eq_true rfl) rfl fr_6 at_25 rfl (fun T h_14 X W_13 Aa_15 => ?_)
  refine E_astore (Ls' := #[.val (.int i0), .val (.long i1), .second, .val (.long i2), .second, .val (.long i3), .second, .val (.long i4), .second, .val (.long i5), .second, .val (.int ass), .val (.ref o1), .unset, .unset, .unset, .unset, .unset]) (pc' := 28) X at_26 rfl rfl rfl ?_
  have E_22 : Exa Z h_14 o1 "[J" := (((EaAa_4.wr W_7).wr W_10).wr W_13)
  have le_o16 := X.le
  refine E_new (pc' := 31) X (cells' := 2) (slots' := 14) (w_2 hw) (w_3 hw) (w_4 hw) at_28 rfl rfl rfl (by decide) (by decide) (fun T h_17 o16 g_21 X Ex_18 Ea_19 D_20 => ?_)
  have fr_23 : Z.heap.size ≤ o16 := by rw [g_21]; exact le_o16
  have ne_24 : o1 ≠ o16 := Nat.ne_of_lt (by rw [g_21]; exact E_22.lt)
  refine E_dup (pc' := 32) X at_31 rfl rfl ?_
  refine E_ldcS (pc' := 34) X (n := 4) (cells' := 4) (slots' := 22) (w_5 hw) (own_sa hw) at_32 rfl (by decide) (by decide) rfl rfl (by decide) (by decide) (fun T h_26 sa25 X Ex_27 => ?_)
  refine E_aload (v := (.ref o1)) (pc' := 36) X at_34 rfl rfl rfl ?_
  have F_28 : Fld Z h_26 o16 "com/example/tidewire/tidewire/core/Account" "histories" "Ljava/util/Map;" .null := ((D_20 (Or.inr (w_36 hw)) (ty := (.object "java/util/Map")) (by decide)).ext Ex_27)
  have F_29 : Fld Z h_26 o16 "com/example/tidewire/tidewire/core/Account" "changedOrders" "Ljava/util/List;" .null := ((D_20 (Or.inr (w_62 hw)) (ty := (.object "java/util/List")) (by decide)).ext Ex_27)
  have F_30 : Fld Z h_26 o16 "com/example/tidewire/tidewire/core/Account" "id" "Ljava/lang/String;" .null := ((D_20 (Or.inr (w_64 hw)) (ty := (.object "java/lang/String")) (by decide)).ext Ex_27)
  have F_31 : Fld Z h_26 o16 "com/example/tidewire/tidewire/core/Account" "available" "[J" .null := ((D_20 (Or.inr (w_75 hw)) (ty := (.array .long)) (by decide)).ext Ex_27)
  have F_32 : Fld Z h_26 o16 "com/example/tidewire/tidewire/core/Account" "locked" "[J" .null := ((D_20 (Or.inr (w_77 hw)) (ty := (.array .long)) (by decide)).ext Ex_27)
  have F_33 : Fld Z h_26 o16 "com/example/tidewire/tidewire/core/Account" "availableBefore" "[J" .null := ((D_20 (Or.inr (w_79 hw)) (ty := (.array .long)) (by decide)).ext Ex_27)
  have F_34 : Fld Z h_26 o16 "com/example/tidewire/tidewire/core/Account" "lockedBefore" "[J" .null := ((D_20 (Or.inr (w_81 hw)) (ty := (.array .long)) (by decide)).ext Ex_27)
  have F_35 : Fld Z h_26 o16 "com/example/tidewire/tidewire/core/Account" "changedAccounts" "Ljava/util/List;" .null := ((D_20 (Or.inl (w_90 hw)) (ty := (.object "java/util/List")) (by decide)).ext Ex_27)
  have E_36 : Exa Z h_26 o16 "com/example/tidewire/tidewire/core/Account" := (Ea_19.ext Ex_27)
  have A_37 : Ar Z h_26 o1 .long [(.long i3), (.long i4), (.long i5)] := ((Aa_15.ext Ex_18).ext Ex_27)
  have E_38 : Exa Z h_26 o1 "[J" := ((E_22.ext Ex_18).ext Ex_27)
  have le_42 := X.le
  refine E_callI (a := o16) (pc' := 39) (W := 1) (cells' := 10) (slots' := 45) (argsL := [(.ref sa25), (.ref o1)]) (rest := [(.ref o16)]) X (rm1 l Z a0 hw o16 sa25 o1 oD i3 i4 i5 h_26 X.ext hS0 E_36 F_28 F_29 F_30 F_31 F_32 F_33 F_34 F_35 A_37 E_38 fr_23) (w_13 hw) (w_14 hw) (w_4 hw) (w_15 hw) rfl (by decide) rfl rfl pd_1 rfl rfl at_36 rfl (Nat.le_refl _) (by decide) (by decide) rfl rfl (by decide) (by decide) (fun v39 T h_40 X hQ41 => ?_)
  obtain ⟨u_43, w_44, rfl, Kc_45, nw_46, nw_47, E_48, F_49, F_50, F_51, A_52, A_53, P_54⟩ := hQ41
  have ne_55 : o1 ≠ u_43 := Nat.ne_of_lt (Nat.lt_of_lt_of_le E_38.lt nw_46)
  have ne_56 : o16 ≠ u_43 := Nat.ne_of_lt (Nat.lt_of_lt_of_le E_36.lt nw_46)
  have fr_57 : Z.heap.size ≤ u_43 := Nat.le_trans le_42 nw_46
  have ne_58 : o1 ≠ w_44 := Nat.ne_of_lt (Nat.lt_of_lt_of_le E_38.lt nw_47)
  have ne_59 : o16 ≠ w_44 := Nat.ne_of_lt (Nat.lt_of_lt_of_le E_36.lt nw_47)
  have fr_60 : Z.heap.size ≤ w_44 := Nat.le_trans le_42 nw_47
  show End Z p e below s _ _ _ _ (mkF m 39 #[.val (.int i0), .val (.long i1), .second, .val (.long i2), .second, .val (.long i3), .second, .val (.long i4), .second, .val (.long i5), .second, .val (.int ass), .val (.ref o1), .unset, .unset, .unset, .unset, .unset] [(.ref o16)])
  refine E_astore (Ls' := #[.val (.int i0), .val (.long i1), .second, .val (.long i2), .second, .val (.long i3), .second, .val (.long i4), .second, .val (.long i5), .second, .val (.int ass), .val (.ref o1), .val (.ref o16), .unset, .unset, .unset, .unset]) (pc' := 41) X at_39 rfl rfl rfl ?_
  have E_67 : Exa Z h_40 o1 "[J" := (E_38.keep Kc_45)
  have le_o61 := X.le
  refine E_new (pc' := 44) X (cells' := 11) (slots' := 48) (w_82 hw) (w_38 hw) (w_39 hw) at_41 rfl rfl rfl (by decide) (by decide) (fun T h_62 o61 g_66 X Ex_63 Ea_64 D_65 => ?_)
  have fr_68 : Z.heap.size ≤ o61 := by rw [g_66]; exact le_o61
  have ne_69 : o1 ≠ o61 := Nat.ne_of_lt (by rw [g_66]; exact E_67.lt)
  have ne_70 : o16 ≠ o61 := Nat.ne_of_lt (by rw [g_66]; exact E_48.lt)
  have ne_71 : u_43 ≠ o61 := Nat.ne_of_lt (by rw [g_66]; exact A_52.lt)
  have ne_72 : w_44 ≠ o61 := Nat.ne_of_lt (by rw [g_66]; exact A_53.lt)
  refine E_dup (pc' := 45) X at_44 rfl rfl ?_
  have F_73 : Fld Z h_62 o61 "java/util/AbstractList" "modCount" "I" (.int (0 : Int32)) := (D_65 (Or.inl (w_57 hw)) (ty := .int) (by decide))
  have F_74 : Fld Z h_62 o61 "java/util/ArrayList" "elementData" "[Ljava/lang/Object;" .null := (D_65 (Or.inl (w_60 hw)) (ty := (.array (.object "java/lang/Object"))) (by decide))
  have F_75 : Fld Z h_62 o61 "java/util/ArrayList" "size" "I" (.int (0 : Int32)) := (D_65 (Or.inl (w_119 hw)) (ty := .int) (by decide))
  refine E_callI (a := o61) (pc' := 48) (W := 1) (cells' := 11) (slots' := 48) (argsL := []) (rest := [(.ref o61)]) X (rm5 l Z a0 hw o61 oD h_62 X.ext hS0 Ea_64 F_73 F_74 F_75 fr_68) (w_83 hw) (w_41 hw) (w_39 hw) (w_42 hw) rfl (by decide) rfl rfl pd_0 rfl rfl at_45 rfl (Nat.le_refl _) (by decide) (by decide) rfl rfl (by decide) (by decide) (fun v76 T h_77 X hQ78 => ?_)
  obtain ⟨rfl, Kc_79, E_80, F_81⟩ := hQ78
  show End Z p e below s _ _ _ _ (mkF m 48 #[.val (.int i0), .val (.long i1), .second, .val (.long i2), .second, .val (.long i3), .second, .val (.long i4), .second, .val (.long i5), .second, .val (.int ass), .val (.ref o1), .val (.ref o16), .unset, .unset, .unset, .unset] [(.ref o61)])
  refine E_astore (Ls' := #[.val (.int i0), .val (.long i1), .second, .val (.long i2), .second, .val (.long i3), .second, .val (.long i4), .second, .val (.long i5), .second, .val (.int ass), .val (.ref o1), .val (.ref o16), .val (.ref o61), .unset, .unset, .unset]) (pc' := 50) X at_48 rfl rfl rfl ?_
  refine E_aload (v := (.ref o16)) (pc' := 52) X at_50 rfl rfl rfl ?_
  refine E_aload (v := (.ref o61)) (pc' := 54) X at_52 rfl rfl rfl ?_
  have F_82 : Fld Z h_77 o16 "com/example/tidewire/tidewire/core/Account" "changedAccounts" "Ljava/util/List;" .null := ((F_51.ext Ex_63).keep Kc_79 (ninS ne_70 nin0))
  have F_83 : Fld Z h_77 o16 "com/example/tidewire/tidewire/core/Account" "available" "[J" (.ref u_43) := ((F_49.ext Ex_63).keep Kc_79 (ninS ne_70 nin0))
  have F_84 : Fld Z h_77 o16 "com/example/tidewire/tidewire/core/Account" "locked" "[J" (.ref w_44) := ((F_50.ext Ex_63).keep Kc_79 (ninS ne_70 nin0))
  have E_85 : Exa Z h_77 o16 "com/example/tidewire/tidewire/core/Account" := ((E_48.ext Ex_63).keep Kc_79)
  refine E_callV (a := o16) (pc' := 57) (W := 0) (cells' := 11) (slots' := 48) (argsL := [(.ref o61)]) (rest := []) X (rm8 l Z a0 hw o16 o61 u_43 w_44 h_77 X.ext E_85 F_82 F_83 F_84 fr_23) E_85 (w_84 hw) (w_85 hw) (w_87 hw) (w_86 hw) (w_4 hw) (w_88 hw) rfl (by decide) rfl rfl pd_2 rfl rfl at_54 rfl (Nat.le_refl _) (by decide) (by decide) rfl rfl (by decide) (by decide) (fun v86 T h_87 X hQ88 => ?_)
  obtain ⟨rfl, Kc_89, E_90, F_91, F_92⟩ := hQ88
  show End Z p e below s _ _ _ _ (mkF m 57 #[.val (.int i0), .val (.long i1), .second, .val (.long i2), .second, .val (.long i3), .second, .val (.long i4), .second, .val (.long i5), .second, .val (.int ass), .val (.ref o1), .val (.ref o16), .val (.ref o61), .unset, .unset, .unset] [])
  rcases (by rw [← q_ass]; exact own_rem3 i0 : ass = (0 : Int32) ∨ ass = (1 : Int32) ∨ ass = (2 : Int32)) with rfl | rfl | rfl
  · skip
    refine E_aload (v := (.ref o16)) (pc' := 59) X at_57 rfl rfl rfl ?_
    refine E_iload (pc' := 61) X at_59 rfl rfl ?_
    refine E_lloadN (pc' := 62) X at_61 rfl rfl ?_
    refine E_lloadN (pc' := 63) X at_62 rfl rfl ?_
    have A_93 : Ar Z h_87 u_43 .long [(.long i3), (.long i4), (.long i5)] := (((A_52.ext Ex_63).keep Kc_79 (ninS ne_71 nin0)).keep Kc_89 (ninS (Ne.symm ne_56) nin0))
    have A_94 : Ar Z h_87 w_44 .long [(.long (0 : Int64)), (.long (0 : Int64)), (.long (0 : Int64))] := (((A_53.ext Ex_63).keep Kc_79 (ninS ne_72 nin0)).keep Kc_89 (ninS (Ne.symm ne_59) nin0))
    refine E_callV (a := o16) (pc' := 66) (W := 0) (cells' := 11) (slots' := 48) (argsL := [(.int (0 : Int32)), (.long i1), (.long i2)]) (rest := []) X (rm_rb0 l Z a0 hw o16 i1 i2 u_43 w_44 i3 i4 i5 h_87 X.ext F_91 F_92 A_93 A_94 P_54 fr_57 fr_60 E_90) E_90 (w_91 hw) (w_92 hw) (w_94 hw) (w_93 hw) (w_4 hw) (w_95 hw) rfl (by decide) rfl rfl pd_3 rfl rfl at_63 rfl (Nat.le_refl _) (by decide) (by decide) rfl rfl (by decide) (by decide) (fun v95 T h_96 X hQ97 => ?_)
    obtain ⟨rfl, Kc_98, A_99, A_100⟩ := hQ97
    show End Z p e below s _ _ _ _ (mkF m 66 #[.val (.int i0), .val (.long i1), .second, .val (.long i2), .second, .val (.long i3), .second, .val (.long i4), .second, .val (.long i5), .second, .val (.int (0 : Int32)), .val (.ref o1), .val (.ref o16), .val (.ref o61), .unset, .unset, .unset] [])
    refine E_aload (v := (.ref o16)) (pc' := 68) X at_66 rfl rfl rfl ?_
    refine E_iconst (v := (0 : Int32)) (pc' := 69) X at_68 rfl rfl ?_
    have F_101 : Fld Z h_96 o16 "com/example/tidewire/tidewire/core/Account" "available" "[J" (.ref u_43) := (F_91.keep Kc_98 (ninS ne_56 (ninS ne_59 nin0)))
    have E_105 : Exa Z h_96 o16 "com/example/tidewire/tidewire/core/Account" := (E_90.keep Kc_98)
    refine E_callV (a := o16) (pc' := 72) (W := 0) (cells' := 11) (slots' := 48) (argsL := [(.int (0 : Int32))]) (rest := []) X (rm10 l Z a0 hw o16 (0 : Int32) u_43 [(.long i1), (.long i4), (.long i5)] i1 h_96 X.ext F_101 A_99 (by decide) rfl) E_105 (w_96 hw) (w_97 hw) (w_99 hw) (w_98 hw) (w_4 hw) (w_100 hw) rfl (by decide) rfl rfl pd_4 rfl rfl at_69 rfl (Nat.le_refl _) (by decide) (by decide) rfl rfl (by decide) (by decide) (fun v102 T h_103 X hQ104 => ?_)
    obtain ⟨rfl, rfl⟩ := hQ104
    show End Z p e below s _ _ _ _ (mkF m 72 #[.val (.int i0), .val (.long i1), .second, .val (.long i2), .second, .val (.long i3), .second, .val (.long i4), .second, .val (.long i5), .second, .val (.int (0 : Int32)), .val (.ref o1), .val (.ref o16), .val (.ref o61), .unset, .unset, .unset] [(.long i1)])
    refine E_iload (pc' := 74) X at_72 rfl rfl ?_
    refine E_iconst (v := (0 : Int32)) (pc' := 75) X at_74 rfl rfl ?_
    refine E_lloadN (pc' := 76) X at_75 rfl rfl ?_
    refine E_lload (pc' := 78) X at_76 rfl rfl ?_
    refine E_callS (pc' := 81) (W := 2) (cells' := 11) (slots' := 48) (argsL := [(.int (0 : Int32)), (.int (0 : Int32)), (.long i1), (.long i3)]) (rest := [(.long i1)]) X (rm11 l Z a0 hw (0 : Int32) (0 : Int32) i1 i3 i1 h_96 X.ext (if_pos rfl)) (w_101 hw) (w_102 hw) (w_103 hw) (w_104 hw) (by decide) rfl rfl pd_5 rfl rfl at_78 rfl (Nat.le_refl _) (by decide) (by decide) rfl rfl (by decide) (by decide) (fun v107 T h_108 X hQ109 => ?_)
    obtain ⟨rfl, rfl⟩ := hQ109
    show End Z p e below s _ _ _ _ (mkF m 81 #[.val (.int i0), .val (.long i1), .second, .val (.long i2), .second, .val (.long i3), .second, .val (.long i4), .second, .val (.long i5), .second, .val (.int (0 : Int32)), .val (.ref o1), .val (.ref o16), .val (.ref o61), .unset, .unset, .unset] [(.long i1), (.long i1)])
    refine E_lcmp (pc' := 82) X at_81 rfl ?_
    refine E_if (pcY := 106) (pcN := 85) X (il_ne _ _) at_82 (by decide) rfl rfl (fun hc82_0 => absurd hc82_0 (fun q => q rfl)) (fun hc82_0 => ?_)
    refine E_aload (v := (.ref o16)) (pc' := 87) X at_85 rfl rfl rfl ?_
    refine E_iconst (v := (0 : Int32)) (pc' := 88) X at_87 rfl rfl ?_
    have F_111 : Fld Z h_96 o16 "com/example/tidewire/tidewire/core/Account" "locked" "[J" (.ref w_44) := (F_92.keep Kc_98 (ninS ne_56 (ninS ne_59 nin0)))
    refine E_callV (a := o16) (pc' := 91) (W := 0) (cells' := 11) (slots' := 48) (argsL := [(.int (0 : Int32))]) (rest := []) X (rm12 l Z a0 hw o16 (0 : Int32) w_44 [(.long i2), (.long (0 : Int64)), (.long (0 : Int64))] i2 h_96 X.ext F_111 A_100 (by decide) rfl) E_105 (w_105 hw) (w_106 hw) (w_108 hw) (w_107 hw) (w_4 hw) (w_109 hw) rfl (by decide) rfl rfl pd_4 rfl rfl at_88 rfl (Nat.le_refl _) (by decide) (by decide) rfl rfl (by decide) (by decide) (fun v112 T h_113 X hQ114 => ?_)
    obtain ⟨rfl, rfl⟩ := hQ114
    show End Z p e below s _ _ _ _ (mkF m 91 #[.val (.int i0), .val (.long i1), .second, .val (.long i2), .second, .val (.long i3), .second, .val (.long i4), .second, .val (.long i5), .second, .val (.int (0 : Int32)), .val (.ref o1), .val (.ref o16), .val (.ref o61), .unset, .unset, .unset] [(.long i2)])
    refine E_iload (pc' := 93) X at_91 rfl rfl ?_
    refine E_iconst (v := (0 : Int32)) (pc' := 94) X at_93 rfl rfl ?_
    refine E_lloadN (pc' := 95) X at_94 rfl rfl ?_
    refine E_callS (pc' := 98) (W := 2) (cells' := 11) (slots' := 48) (argsL := [(.int (0 : Int32)), (.int (0 : Int32)), (.long i2)]) (rest := [(.long i2)]) X (rm13 l Z a0 hw (0 : Int32) (0 : Int32) i2 i2 h_96 X.ext (if_pos rfl)) (w_110 hw) (w_111 hw) (w_103 hw) (w_112 hw) (by decide) rfl rfl pd_6 rfl rfl at_95 rfl (Nat.le_refl _) (by decide) (by decide) rfl rfl (by decide) (by decide) (fun v116 T h_117 X hQ118 => ?_)
    obtain ⟨rfl, rfl⟩ := hQ118
    show End Z p e below s _ _ _ _ (mkF m 98 #[.val (.int i0), .val (.long i1), .second, .val (.long i2), .second, .val (.long i3), .second, .val (.long i4), .second, .val (.long i5), .second, .val (.int (0 : Int32)), .val (.ref o1), .val (.ref o16), .val (.ref o61), .unset, .unset, .unset] [(.long i2), (.long i2)])
    refine E_lcmp (pc' := 99) X at_98 rfl ?_
    refine E_if (pcY := 106) (pcN := 102) X (il_ne _ _) at_99 (by decide) rfl rfl (fun hc99_0 => absurd hc99_0 (fun q => q rfl)) (fun hc99_0 => ?_)
    refine E_iconst (v := (1 : Int32)) (pc' := 103) X at_102 rfl rfl ?_
    refine E_goto (pc' := 107) X at_103 (by decide) rfl ?_
    refine E_istore (Ls' := #[.val (.int i0), .val (.long i1), .second, .val (.long i2), .second, .val (.long i3), .second, .val (.long i4), .second, .val (.long i5), .second, .val (.int (0 : Int32)), .val (.ref o1), .val (.ref o16), .val (.ref o61), .val (.int (1 : Int32)), .unset, .unset]) (pc' := 109) X at_107 rfl rfl ?_
    refine E_aload (v := (.ref o16)) (pc' := 111) X at_109 rfl rfl rfl ?_
    refine E_iconst (v := (1 : Int32)) (pc' := 112) X at_111 rfl rfl ?_
    refine E_callV (a := o16) (pc' := 115) (W := 0) (cells' := 11) (slots' := 48) (argsL := [(.int (1 : Int32))]) (rest := []) X (rm10 l Z a0 hw o16 (1 : Int32) u_43 [(.long i1), (.long i4), (.long i5)] i4 h_96 X.ext F_101 A_99 (by decide) rfl) E_105 (w_96 hw) (w_97 hw) (w_99 hw) (w_98 hw) (w_4 hw) (w_100 hw) rfl (by decide) rfl rfl pd_4 rfl rfl at_112 rfl (Nat.le_refl _) (by decide) (by decide) rfl rfl (by decide) (by decide) (fun v120 T h_121 X hQ122 => ?_)
    obtain ⟨rfl, rfl⟩ := hQ122
    show End Z p e below s _ _ _ _ (mkF m 115 #[.val (.int i0), .val (.long i1), .second, .val (.long i2), .second, .val (.long i3), .second, .val (.long i4), .second, .val (.long i5), .second, .val (.int (0 : Int32)), .val (.ref o1), .val (.ref o16), .val (.ref o61), .val (.int (1 : Int32)), .unset, .unset] [(.long i4)])
    refine E_iload (pc' := 117) X at_115 rfl rfl ?_
    refine E_iconst (v := (1 : Int32)) (pc' := 118) X at_117 rfl rfl ?_
    refine E_lloadN (pc' := 119) X at_118 rfl rfl ?_
    refine E_lload (pc' := 121) X at_119 rfl rfl ?_
    refine E_callS (pc' := 124) (W := 2) (cells' := 11) (slots' := 48) (argsL := [(.int (0 : Int32)), (.int (1 : Int32)), (.long i1), (.long i4)]) (rest := [(.long i4)]) X (rm11 l Z a0 hw (0 : Int32) (1 : Int32) i1 i4 i4 h_96 X.ext (if_neg (by decide))) (w_101 hw) (w_102 hw) (w_103 hw) (w_104 hw) (by decide) rfl rfl pd_5 rfl rfl at_121 rfl (Nat.le_refl _) (by decide) (by decide) rfl rfl (by decide) (by decide) (fun v124 T h_125 X hQ126 => ?_)
    obtain ⟨rfl, rfl⟩ := hQ126
    show End Z p e below s _ _ _ _ (mkF m 124 #[.val (.int i0), .val (.long i1), .second, .val (.long i2), .second, .val (.long i3), .second, .val (.long i4), .second, .val (.long i5), .second, .val (.int (0 : Int32)), .val (.ref o1), .val (.ref o16), .val (.ref o61), .val (.int (1 : Int32)), .unset, .unset] [(.long i4), (.long i4)])
    refine E_lcmp (pc' := 125) X at_124 rfl ?_
    refine E_if (pcY := 149) (pcN := 128) X (il_ne _ _) at_125 (by decide) rfl rfl (fun hc125_0 => absurd hc125_0 (fun q => q rfl)) (fun hc125_0 => ?_)
    refine E_aload (v := (.ref o16)) (pc' := 130) X at_128 rfl rfl rfl ?_
    refine E_iconst (v := (1 : Int32)) (pc' := 131) X at_130 rfl rfl ?_
    refine E_callV (a := o16) (pc' := 134) (W := 0) (cells' := 11) (slots' := 48) (argsL := [(.int (1 : Int32))]) (rest := []) X (rm12 l Z a0 hw o16 (1 : Int32) w_44 [(.long i2), (.long (0 : Int64)), (.long (0 : Int64))] (0 : Int64) h_96 X.ext F_111 A_100 (by decide) rfl) E_105 (w_105 hw) (w_106 hw) (w_108 hw) (w_107 hw) (w_4 hw) (w_109 hw) rfl (by decide) rfl rfl pd_4 rfl rfl at_131 rfl (Nat.le_refl _) (by decide) (by decide) rfl rfl (by decide) (by decide) (fun v128 T h_129 X hQ130 => ?_)
    obtain ⟨rfl, rfl⟩ := hQ130
    show End Z p e below s _ _ _ _ (mkF m 134 #[.val (.int i0), .val (.long i1), .second, .val (.long i2), .second, .val (.long i3), .second, .val (.long i4), .second, .val (.long i5), .second, .val (.int (0 : Int32)), .val (.ref o1), .val (.ref o16), .val (.ref o61), .val (.int (1 : Int32)), .unset, .unset] [(.long (0 : Int64))])
    refine E_iload (pc' := 136) X at_134 rfl rfl ?_
    refine E_iconst (v := (1 : Int32)) (pc' := 137) X at_136 rfl rfl ?_
    refine E_lloadN (pc' := 138) X at_137 rfl rfl ?_
    refine E_callS (pc' := 141) (W := 2) (cells' := 11) (slots' := 48) (argsL := [(.int (0 : Int32)), (.int (1 : Int32)), (.long i2)]) (rest := [(.long (0 : Int64))]) X (rm13 l Z a0 hw (0 : Int32) (1 : Int32) i2 (0 : Int64) h_96 X.ext (if_neg (by decide))) (w_110 hw) (w_111 hw) (w_103 hw) (w_112 hw) (by decide) rfl rfl pd_6 rfl rfl at_138 rfl (Nat.le_refl _) (by decide) (by decide) rfl rfl (by decide) (by decide) (fun v132 T h_133 X hQ134 => ?_)
    obtain ⟨rfl, rfl⟩ := hQ134
    show End Z p e below s _ _ _ _ (mkF m 141 #[.val (.int i0), .val (.long i1), .second, .val (.long i2), .second, .val (.long i3), .second, .val (.long i4), .second, .val (.long i5), .second, .val (.int (0 : Int32)), .val (.ref o1), .val (.ref o16), .val (.ref o61), .val (.int (1 : Int32)), .unset, .unset] [(.long (0 : Int64)), (.long (0 : Int64))])
    refine E_lcmp (pc' := 142) X at_141 rfl ?_
    refine E_if (pcY := 149) (pcN := 145) X (il_ne _ _) at_142 (by decide) rfl rfl (fun hc142_0 => absurd hc142_0 (by decide)) (fun hc142_0 => ?_)
    refine E_iconst (v := (1 : Int32)) (pc' := 146) X at_145 rfl rfl ?_
    refine E_goto (pc' := 150) X at_146 (by decide) rfl ?_
    refine E_istore (Ls' := #[.val (.int i0), .val (.long i1), .second, .val (.long i2), .second, .val (.long i3), .second, .val (.long i4), .second, .val (.long i5), .second, .val (.int (0 : Int32)), .val (.ref o1), .val (.ref o16), .val (.ref o61), .val (.int (1 : Int32)), .val (.int (1 : Int32)), .unset]) (pc' := 152) X at_150 rfl rfl ?_
    refine E_aload (v := (.ref o16)) (pc' := 154) X at_152 rfl rfl rfl ?_
    refine E_iconst (v := (2 : Int32)) (pc' := 155) X at_154 rfl rfl ?_
    refine E_callV (a := o16) (pc' := 158) (W := 0) (cells' := 11) (slots' := 48) (argsL := [(.int (2 : Int32))]) (rest := []) X (rm10 l Z a0 hw o16 (2 : Int32) u_43 [(.long i1), (.long i4), (.long i5)] i5 h_96 X.ext F_101 A_99 (by decide) rfl) E_105 (w_96 hw) (w_97 hw) (w_99 hw) (w_98 hw) (w_4 hw) (w_100 hw) rfl (by decide) rfl rfl pd_4 rfl rfl at_155 rfl (Nat.le_refl _) (by decide) (by decide) rfl rfl (by decide) (by decide) (fun v136 T h_137 X hQ138 => ?_)
    obtain ⟨rfl, rfl⟩ := hQ138
    show End Z p e below s _ _ _ _ (mkF m 158 #[.val (.int i0), .val (.long i1), .second, .val (.long i2), .second, .val (.long i3), .second, .val (.long i4), .second, .val (.long i5), .second, .val (.int (0 : Int32)), .val (.ref o1), .val (.ref o16), .val (.ref o61), .val (.int (1 : Int32)), .val (.int (1 : Int32)), .unset] [(.long i5)])
    refine E_iload (pc' := 160) X at_158 rfl rfl ?_
    refine E_iconst (v := (2 : Int32)) (pc' := 161) X at_160 rfl rfl ?_
    refine E_lloadN (pc' := 162) X at_161 rfl rfl ?_
    refine E_lload (pc' := 164) X at_162 rfl rfl ?_
    refine E_callS (pc' := 167) (W := 2) (cells' := 11) (slots' := 48) (argsL := [(.int (0 : Int32)), (.int (2 : Int32)), (.long i1), (.long i5)]) (rest := [(.long i5)]) X (rm11 l Z a0 hw (0 : Int32) (2 : Int32) i1 i5 i5 h_96 X.ext (if_neg (by decide))) (w_101 hw) (w_102 hw) (w_103 hw) (w_104 hw) (by decide) rfl rfl pd_5 rfl rfl at_164 rfl (Nat.le_refl _) (by decide) (by decide) rfl rfl (by decide) (by decide) (fun v140 T h_141 X hQ142 => ?_)
    obtain ⟨rfl, rfl⟩ := hQ142
    show End Z p e below s _ _ _ _ (mkF m 167 #[.val (.int i0), .val (.long i1), .second, .val (.long i2), .second, .val (.long i3), .second, .val (.long i4), .second, .val (.long i5), .second, .val (.int (0 : Int32)), .val (.ref o1), .val (.ref o16), .val (.ref o61), .val (.int (1 : Int32)), .val (.int (1 : Int32)), .unset] [(.long i5), (.long i5)])
    refine E_lcmp (pc' := 168) X at_167 rfl ?_
    refine E_if (pcY := 192) (pcN := 171) X (il_ne _ _) at_168 (by decide) rfl rfl (fun hc168_0 => absurd hc168_0 (fun q => q rfl)) (fun hc168_0 => ?_)
    refine E_aload (v := (.ref o16)) (pc' := 173) X at_171 rfl rfl rfl ?_
    refine E_iconst (v := (2 : Int32)) (pc' := 174) X at_173 rfl rfl ?_
    refine E_callV (a := o16) (pc' := 177) (W := 0) (cells' := 11) (slots' := 48) (argsL := [(.int (2 : Int32))]) (rest := []) X (rm12 l Z a0 hw o16 (2 : Int32) w_44 [(.long i2), (.long (0 : Int64)), (.long (0 : Int64))] (0 : Int64) h_96 X.ext F_111 A_100 (by decide) rfl) E_105 (w_105 hw) (w_106 hw) (w_108 hw) (w_107 hw) (w_4 hw) (w_109 hw) rfl (by decide) rfl rfl pd_4 rfl rfl at_174 rfl (Nat.le_refl _) (by decide) (by decide) rfl rfl (by decide) (by decide) (fun v144 T h_145 X hQ146 => ?_)
    obtain ⟨rfl, rfl⟩ := hQ146
    show End Z p e below s _ _ _ _ (mkF m 177 #[.val (.int i0), .val (.long i1), .second, .val (.long i2), .second, .val (.long i3), .second, .val (.long i4), .second, .val (.long i5), .second, .val (.int (0 : Int32)), .val (.ref o1), .val (.ref o16), .val (.ref o61), .val (.int (1 : Int32)), .val (.int (1 : Int32)), .unset] [(.long (0 : Int64))])
    refine E_iload (pc' := 179) X at_177 rfl rfl ?_
    refine E_iconst (v := (2 : Int32)) (pc' := 180) X at_179 rfl rfl ?_
    refine E_lloadN (pc' := 181) X at_180 rfl rfl ?_
    refine E_callS (pc' := 184) (W := 2) (cells' := 11) (slots' := 48) (argsL := [(.int (0 : Int32)), (.int (2 : Int32)), (.long i2)]) (rest := [(.long (0 : Int64))]) X (rm13 l Z a0 hw (0 : Int32) (2 : Int32) i2 (0 : Int64) h_96 X.ext (if_neg (by decide))) (w_110 hw) (w_111 hw) (w_103 hw) (w_112 hw) (by decide) rfl rfl pd_6 rfl rfl at_181 rfl (Nat.le_refl _) (by decide) (by decide) rfl rfl (by decide) (by decide) (fun v148 T h_149 X hQ150 => ?_)
    obtain ⟨rfl, rfl⟩ := hQ150
    show End Z p e below s _ _ _ _ (mkF m 184 #[.val (.int i0), .val (.long i1), .second, .val (.long i2), .second, .val (.long i3), .second, .val (.long i4), .second, .val (.long i5), .second, .val (.int (0 : Int32)), .val (.ref o1), .val (.ref o16), .val (.ref o61), .val (.int (1 : Int32)), .val (.int (1 : Int32)), .unset] [(.long (0 : Int64)), (.long (0 : Int64))])
    refine E_lcmp (pc' := 185) X at_184 rfl ?_
    refine E_if (pcY := 192) (pcN := 188) X (il_ne _ _) at_185 (by decide) rfl rfl (fun hc185_0 => absurd hc185_0 (by decide)) (fun hc185_0 => ?_)
    refine E_iconst (v := (1 : Int32)) (pc' := 189) X at_188 rfl rfl ?_
    refine E_goto (pc' := 193) X at_189 (by decide) rfl ?_
    refine E_istore (Ls' := #[.val (.int i0), .val (.long i1), .second, .val (.long i2), .second, .val (.long i3), .second, .val (.long i4), .second, .val (.long i5), .second, .val (.int (0 : Int32)), .val (.ref o1), .val (.ref o16), .val (.ref o61), .val (.int (1 : Int32)), .val (.int (1 : Int32)), .val (.int (1 : Int32))]) (pc' := 195) X at_193 rfl rfl ?_
    refine E_iload (pc' := 197) X at_195 rfl rfl ?_
    refine E_if (pcY := 222) (pcN := 200) X (i0_eq _) at_197 (by decide) rfl rfl (fun hc197_0 => absurd hc197_0 (by decide)) (fun hc197_0 => ?_)
    refine E_iload (pc' := 202) X at_200 rfl rfl ?_
    refine E_if (pcY := 222) (pcN := 205) X (i0_eq _) at_202 (by decide) rfl rfl (fun hc202_0 => absurd hc202_0 (by decide)) (fun hc202_0 => ?_)
    refine E_iload (pc' := 207) X at_205 rfl rfl ?_
    refine E_if (pcY := 222) (pcN := 210) X (i0_eq _) at_207 (by decide) rfl rfl (fun hc207_0 => absurd hc207_0 (by decide)) (fun hc207_0 => ?_)
    refine E_aload (v := (.ref o61)) (pc' := 212) X at_210 rfl rfl rfl ?_
    have F_152 : Fld Z h_96 o61 "java/util/ArrayList" "size" "I" (.int (0 : Int32)) := ((F_81.keep Kc_89 (ninS (Ne.symm ne_70) nin0)).keep Kc_98 (ninS (Ne.symm ne_71) (ninS (Ne.symm ne_72) nin0)))
    have E_156 : Exa Z h_96 o61 "java/util/ArrayList" := ((E_80.keep Kc_89).keep Kc_98)
    refine E_callV (a := o61) (pc' := 215) (W := 0) (cells' := 11) (slots' := 48) (argsL := []) (rest := []) X (rm14 l Z a0 hw o61 h_96 X.ext F_152) E_156 (w_113 hw) (w_114 hw) (w_116 hw) (w_115 hw) (w_39 hw) (w_117 hw) rfl (by decide) rfl rfl pd_7 rfl rfl at_212 rfl (Nat.le_refl _) (by decide) (by decide) rfl rfl (by decide) (by decide) (fun v153 T h_154 X hQ155 => ?_)
    obtain ⟨rfl, rfl⟩ := hQ155
    show End Z p e below s _ _ _ _ (mkF m 215 #[.val (.int i0), .val (.long i1), .second, .val (.long i2), .second, .val (.long i3), .second, .val (.long i4), .second, .val (.long i5), .second, .val (.int (0 : Int32)), .val (.ref o1), .val (.ref o16), .val (.ref o61), .val (.int (1 : Int32)), .val (.int (1 : Int32)), .val (.int (1 : Int32))] [(.int (0 : Int32))])
    refine E_if (pcY := 222) (pcN := 218) X (i0_ne _) at_215 (by decide) rfl rfl (fun hc215_0 => absurd hc215_0 (by decide)) (fun hc215_0 => ?_)
    refine E_iconst (v := (1 : Int32)) (pc' := 219) X at_218 rfl rfl ?_
    refine E_goto (pc' := 223) X at_219 (by decide) rfl ?_
    exact E_retZ (Or.inr rfl) X at_223 (by decide) (by decide) rfl
  · skip
    refine E_aload (v := (.ref o16)) (pc' := 59) X at_57 rfl rfl rfl ?_
    refine E_iload (pc' := 61) X at_59 rfl rfl ?_
    refine E_lloadN (pc' := 62) X at_61 rfl rfl ?_
    refine E_lloadN (pc' := 63) X at_62 rfl rfl ?_
    have A_158 : Ar Z h_87 u_43 .long [(.long i3), (.long i4), (.long i5)] := (((A_52.ext Ex_63).keep Kc_79 (ninS ne_71 nin0)).keep Kc_89 (ninS (Ne.symm ne_56) nin0))
    have A_159 : Ar Z h_87 w_44 .long [(.long (0 : Int64)), (.long (0 : Int64)), (.long (0 : Int64))] := (((A_53.ext Ex_63).keep Kc_79 (ninS ne_72 nin0)).keep Kc_89 (ninS (Ne.symm ne_59) nin0))
    refine E_callV (a := o16) (pc' := 66) (W := 0) (cells' := 11) (slots' := 48) (argsL := [(.int (1 : Int32)), (.long i1), (.long i2)]) (rest := []) X (rm_rb1 l Z a0 hw o16 i1 i2 u_43 w_44 i3 i4 i5 h_87 X.ext F_91 F_92 A_158 A_159 P_54 fr_57 fr_60 E_90) E_90 (w_91 hw) (w_92 hw) (w_94 hw) (w_93 hw) (w_4 hw) (w_95 hw) rfl (by decide) rfl rfl pd_3 rfl rfl at_63 rfl (Nat.le_refl _) (by decide) (by decide) rfl rfl (by decide) (by decide) (fun v160 T h_161 X hQ162 => ?_)
    obtain ⟨rfl, Kc_163, A_164, A_165⟩ := hQ162
    show End Z p e below s _ _ _ _ (mkF m 66 #[.val (.int i0), .val (.long i1), .second, .val (.long i2), .second, .val (.long i3), .second, .val (.long i4), .second, .val (.long i5), .second, .val (.int (1 : Int32)), .val (.ref o1), .val (.ref o16), .val (.ref o61), .unset, .unset, .unset] [])
    refine E_aload (v := (.ref o16)) (pc' := 68) X at_66 rfl rfl rfl ?_
    refine E_iconst (v := (0 : Int32)) (pc' := 69) X at_68 rfl rfl ?_
    have F_166 : Fld Z h_161 o16 "com/example/tidewire/tidewire/core/Account" "available" "[J" (.ref u_43) := (F_91.keep Kc_163 (ninS ne_56 (ninS ne_59 nin0)))
    have E_170 : Exa Z h_161 o16 "com/example/tidewire/tidewire/core/Account" := (E_90.keep Kc_163)
    refine E_callV (a := o16) (pc' := 72) (W := 0) (cells' := 11) (slots' := 48) (argsL := [(.int (0 : Int32))]) (rest := []) X (rm10 l Z a0 hw o16 (0 : Int32) u_43 [(.long i3), (.long i1), (.long i5)] i3 h_161 X.ext F_166 A_164 (by decide) rfl) E_170 (w_96 hw) (w_97 hw) (w_99 hw) (w_98 hw) (w_4 hw) (w_100 hw) rfl (by decide) rfl rfl pd_4 rfl rfl at_69 rfl (Nat.le_refl _) (by decide) (by decide) rfl rfl (by decide) (by decide) (fun v167 T h_168 X hQ169 => ?_)
    obtain ⟨rfl, rfl⟩ := hQ169
    show End Z p e below s _ _ _ _ (mkF m 72 #[.val (.int i0), .val (.long i1), .second, .val (.long i2), .second, .val (.long i3), .second, .val (.long i4), .second, .val (.long i5), .second, .val (.int (1 : Int32)), .val (.ref o1), .val (.ref o16), .val (.ref o61), .unset, .unset, .unset] [(.long i3)])
    refine E_iload (pc' := 74) X at_72 rfl rfl ?_
    refine E_iconst (v := (0 : Int32)) (pc' := 75) X at_74 rfl rfl ?_
    refine E_lloadN (pc' := 76) X at_75 rfl rfl ?_
    refine E_lload (pc' := 78) X at_76 rfl rfl ?_
    refine E_callS (pc' := 81) (W := 2) (cells' := 11) (slots' := 48) (argsL := [(.int (1 : Int32)), (.int (0 : Int32)), (.long i1), (.long i3)]) (rest := [(.long i3)]) X (rm11 l Z a0 hw (1 : Int32) (0 : Int32) i1 i3 i3 h_161 X.ext (if_neg (by decide))) (w_101 hw) (w_102 hw) (w_103 hw) (w_104 hw) (by decide) rfl rfl pd_5 rfl rfl at_78 rfl (Nat.le_refl _) (by decide) (by decide) rfl rfl (by decide) (by decide) (fun v172 T h_173 X hQ174 => ?_)
    obtain ⟨rfl, rfl⟩ := hQ174
    show End Z p e below s _ _ _ _ (mkF m 81 #[.val (.int i0), .val (.long i1), .second, .val (.long i2), .second, .val (.long i3), .second, .val (.long i4), .second, .val (.long i5), .second, .val (.int (1 : Int32)), .val (.ref o1), .val (.ref o16), .val (.ref o61), .unset, .unset, .unset] [(.long i3), (.long i3)])
    refine E_lcmp (pc' := 82) X at_81 rfl ?_
    refine E_if (pcY := 106) (pcN := 85) X (il_ne _ _) at_82 (by decide) rfl rfl (fun hc82_0 => absurd hc82_0 (fun q => q rfl)) (fun hc82_0 => ?_)
    refine E_aload (v := (.ref o16)) (pc' := 87) X at_85 rfl rfl rfl ?_
    refine E_iconst (v := (0 : Int32)) (pc' := 88) X at_87 rfl rfl ?_
    have F_176 : Fld Z h_161 o16 "com/example/tidewire/tidewire/core/Account" "locked" "[J" (.ref w_44) := (F_92.keep Kc_163 (ninS ne_56 (ninS ne_59 nin0)))
    refine E_callV (a := o16) (pc' := 91) (W := 0) (cells' := 11) (slots' := 48) (argsL := [(.int (0 : Int32))]) (rest := []) X (rm12 l Z a0 hw o16 (0 : Int32) w_44 [(.long (0 : Int64)), (.long i2), (.long (0 : Int64))] (0 : Int64) h_161 X.ext F_176 A_165 (by decide) rfl) E_170 (w_105 hw) (w_106 hw) (w_108 hw) (w_107 hw) (w_4 hw) (w_109 hw) rfl (by decide) rfl rfl pd_4 rfl rfl at_88 rfl (Nat.le_refl _) (by decide) (by decide) rfl rfl (by decide) (by decide) (fun v177 T h_178 X hQ179 => ?_)
    obtain ⟨rfl, rfl⟩ := hQ179
    show End Z p e below s _ _ _ _ (mkF m 91 #[.val (.int i0), .val (.long i1), .second, .val (.long i2), .second, .val (.long i3), .second, .val (.long i4), .second, .val (.long i5), .second, .val (.int (1 : Int32)), .val (.ref o1), .val (.ref o16), .val (.ref o61), .unset, .unset, .unset] [(.long (0 : Int64))])
    refine E_iload (pc' := 93) X at_91 rfl rfl ?_
    refine E_iconst (v := (0 : Int32)) (pc' := 94) X at_93 rfl rfl ?_
    refine E_lloadN (pc' := 95) X at_94 rfl rfl ?_
    refine E_callS (pc' := 98) (W := 2) (cells' := 11) (slots' := 48) (argsL := [(.int (1 : Int32)), (.int (0 : Int32)), (.long i2)]) (rest := [(.long (0 : Int64))]) X (rm13 l Z a0 hw (1 : Int32) (0 : Int32) i2 (0 : Int64) h_161 X.ext (if_neg (by decide))) (w_110 hw) (w_111 hw) (w_103 hw) (w_112 hw) (by decide) rfl rfl pd_6 rfl rfl at_95 rfl (Nat.le_refl _) (by decide) (by decide) rfl rfl (by decide) (by decide) (fun v181 T h_182 X hQ183 => ?_)
    obtain ⟨rfl, rfl⟩ := hQ183
    show End Z p e below s _ _ _ _ (mkF m 98 #[.val (.int i0), .val (.long i1), .second, .val (.long i2), .second, .val (.long i3), .second, .val (.long i4), .second, .val (.long i5), .second, .val (.int (1 : Int32)), .val (.ref o1), .val (.ref o16), .val (.ref o61), .unset, .unset, .unset] [(.long (0 : Int64)), (.long (0 : Int64))])
    refine E_lcmp (pc' := 99) X at_98 rfl ?_
    refine E_if (pcY := 106) (pcN := 102) X (il_ne _ _) at_99 (by decide) rfl rfl (fun hc99_0 => absurd hc99_0 (by decide)) (fun hc99_0 => ?_)
    refine E_iconst (v := (1 : Int32)) (pc' := 103) X at_102 rfl rfl ?_
    refine E_goto (pc' := 107) X at_103 (by decide) rfl ?_
    refine E_istore (Ls' := #[.val (.int i0), .val (.long i1), .second, .val (.long i2), .second, .val (.long i3), .second, .val (.long i4), .second, .val (.long i5), .second, .val (.int (1 : Int32)), .val (.ref o1), .val (.ref o16), .val (.ref o61), .val (.int (1 : Int32)), .unset, .unset]) (pc' := 109) X at_107 rfl rfl ?_
    refine E_aload (v := (.ref o16)) (pc' := 111) X at_109 rfl rfl rfl ?_
    refine E_iconst (v := (1 : Int32)) (pc' := 112) X at_111 rfl rfl ?_
    refine E_callV (a := o16) (pc' := 115) (W := 0) (cells' := 11) (slots' := 48) (argsL := [(.int (1 : Int32))]) (rest := []) X (rm10 l Z a0 hw o16 (1 : Int32) u_43 [(.long i3), (.long i1), (.long i5)] i1 h_161 X.ext F_166 A_164 (by decide) rfl) E_170 (w_96 hw) (w_97 hw) (w_99 hw) (w_98 hw) (w_4 hw) (w_100 hw) rfl (by decide) rfl rfl pd_4 rfl rfl at_112 rfl (Nat.le_refl _) (by decide) (by decide) rfl rfl (by decide) (by decide) (fun v185 T h_186 X hQ187 => ?_)
    obtain ⟨rfl, rfl⟩ := hQ187
    show End Z p e below s _ _ _ _ (mkF m 115 #[.val (.int i0), .val (.long i1), .second, .val (.long i2), .second, .val (.long i3), .second, .val (.long i4), .second, .val (.long i5), .second, .val (.int (1 : Int32)), .val (.ref o1), .val (.ref o16), .val (.ref o61), .val (.int (1 : Int32)), .unset, .unset] [(.long i1)])
    refine E_iload (pc' := 117) X at_115 rfl rfl ?_
    refine E_iconst (v := (1 : Int32)) (pc' := 118) X at_117 rfl rfl ?_
    refine E_lloadN (pc' := 119) X at_118 rfl rfl ?_
    refine E_lload (pc' := 121) X at_119 rfl rfl ?_
    refine E_callS (pc' := 124) (W := 2) (cells' := 11) (slots' := 48) (argsL := [(.int (1 : Int32)), (.int (1 : Int32)), (.long i1), (.long i4)]) (rest := [(.long i1)]) X (rm11 l Z a0 hw (1 : Int32) (1 : Int32) i1 i4 i1 h_161 X.ext (if_pos rfl)) (w_101 hw) (w_102 hw) (w_103 hw) (w_104 hw) (by decide) rfl rfl pd_5 rfl rfl at_121 rfl (Nat.le_refl _) (by decide) (by decide) rfl rfl (by decide) (by decide) (fun v189 T h_190 X hQ191 => ?_)
    obtain ⟨rfl, rfl⟩ := hQ191
    show End Z p e below s _ _ _ _ (mkF m 124 #[.val (.int i0), .val (.long i1), .second, .val (.long i2), .second, .val (.long i3), .second, .val (.long i4), .second, .val (.long i5), .second, .val (.int (1 : Int32)), .val (.ref o1), .val (.ref o16), .val (.ref o61), .val (.int (1 : Int32)), .unset, .unset] [(.long i1), (.long i1)])
    refine E_lcmp (pc' := 125) X at_124 rfl ?_
    refine E_if (pcY := 149) (pcN := 128) X (il_ne _ _) at_125 (by decide) rfl rfl (fun hc125_0 => absurd hc125_0 (fun q => q rfl)) (fun hc125_0 => ?_)
    refine E_aload (v := (.ref o16)) (pc' := 130) X at_128 rfl rfl rfl ?_
    refine E_iconst (v := (1 : Int32)) (pc' := 131) X at_130 rfl rfl ?_
    refine E_callV (a := o16) (pc' := 134) (W := 0) (cells' := 11) (slots' := 48) (argsL := [(.int (1 : Int32))]) (rest := []) X (rm12 l Z a0 hw o16 (1 : Int32) w_44 [(.long (0 : Int64)), (.long i2), (.long (0 : Int64))] i2 h_161 X.ext F_176 A_165 (by decide) rfl) E_170 (w_105 hw) (w_106 hw) (w_108 hw) (w_107 hw) (w_4 hw) (w_109 hw) rfl (by decide) rfl rfl pd_4 rfl rfl at_131 rfl (Nat.le_refl _) (by decide) (by decide) rfl rfl (by decide) (by decide) (fun v193 T h_194 X hQ195 => ?_)
    obtain ⟨rfl, rfl⟩ := hQ195
    show End Z p e below s _ _ _ _ (mkF m 134 #[.val (.int i0), .val (.long i1), .second, .val (.long i2), .second, .val (.long i3), .second, .val (.long i4), .second, .val (.long i5), .second, .val (.int (1 : Int32)), .val (.ref o1), .val (.ref o16), .val (.ref o61), .val (.int (1 : Int32)), .unset, .unset] [(.long i2)])
    refine E_iload (pc' := 136) X at_134 rfl rfl ?_
    refine E_iconst (v := (1 : Int32)) (pc' := 137) X at_136 rfl rfl ?_
    refine E_lloadN (pc' := 138) X at_137 rfl rfl ?_
    refine E_callS (pc' := 141) (W := 2) (cells' := 11) (slots' := 48) (argsL := [(.int (1 : Int32)), (.int (1 : Int32)), (.long i2)]) (rest := [(.long i2)]) X (rm13 l Z a0 hw (1 : Int32) (1 : Int32) i2 i2 h_161 X.ext (if_pos rfl)) (w_110 hw) (w_111 hw) (w_103 hw) (w_112 hw) (by decide) rfl rfl pd_6 rfl rfl at_138 rfl (Nat.le_refl _) (by decide) (by decide) rfl rfl (by decide) (by decide) (fun v197 T h_198 X hQ199 => ?_)
    obtain ⟨rfl, rfl⟩ := hQ199
    show End Z p e below s _ _ _ _ (mkF m 141 #[.val (.int i0), .val (.long i1), .second, .val (.long i2), .second, .val (.long i3), .second, .val (.long i4), .second, .val (.long i5), .second, .val (.int (1 : Int32)), .val (.ref o1), .val (.ref o16), .val (.ref o61), .val (.int (1 : Int32)), .unset, .unset] [(.long i2), (.long i2)])
    refine E_lcmp (pc' := 142) X at_141 rfl ?_
    refine E_if (pcY := 149) (pcN := 145) X (il_ne _ _) at_142 (by decide) rfl rfl (fun hc142_0 => absurd hc142_0 (fun q => q rfl)) (fun hc142_0 => ?_)
    refine E_iconst (v := (1 : Int32)) (pc' := 146) X at_145 rfl rfl ?_
    refine E_goto (pc' := 150) X at_146 (by decide) rfl ?_
    refine E_istore (Ls' := #[.val (.int i0), .val (.long i1), .second, .val (.long i2), .second, .val (.long i3), .second, .val (.long i4), .second, .val (.long i5), .second, .val (.int (1 : Int32)), .val (.ref o1), .val (.ref o16), .val (.ref o61), .val (.int (1 : Int32)), .val (.int (1 : Int32)), .unset]) (pc' := 152) X at_150 rfl rfl ?_
    refine E_aload (v := (.ref o16)) (pc' := 154) X at_152 rfl rfl rfl ?_
    refine E_iconst (v := (2 : Int32)) (pc' := 155) X at_154 rfl rfl ?_
    refine E_callV (a := o16) (pc' := 158) (W := 0) (cells' := 11) (slots' := 48) (argsL := [(.int (2 : Int32))]) (rest := []) X (rm10 l Z a0 hw o16 (2 : Int32) u_43 [(.long i3), (.long i1), (.long i5)] i5 h_161 X.ext F_166 A_164 (by decide) rfl) E_170 (w_96 hw) (w_97 hw) (w_99 hw) (w_98 hw) (w_4 hw) (w_100 hw) rfl (by decide) rfl rfl pd_4 rfl rfl at_155 rfl (Nat.le_refl _) (by decide) (by decide) rfl rfl (by decide) (by decide) (fun v201 T h_202 X hQ203 => ?_)
    obtain ⟨rfl, rfl⟩ := hQ203
    show End Z p e below s _ _ _ _ (mkF m 158 #[.val (.int i0), .val (.long i1), .second, .val (.long i2), .second, .val (.long i3), .second, .val (.long i4), .second, .val (.long i5), .second, .val (.int (1 : Int32)), .val (.ref o1), .val (.ref o16), .val (.ref o61), .val (.int (1 : Int32)), .val (.int (1 : Int32)), .unset] [(.long i5)])
    refine E_iload (pc' := 160) X at_158 rfl rfl ?_
    refine E_iconst (v := (2 : Int32)) (pc' := 161) X at_160 rfl rfl ?_
    refine E_lloadN (pc' := 162) X at_161 rfl rfl ?_
    refine E_lload (pc' := 164) X at_162 rfl rfl ?_
    refine E_callS (pc' := 167) (W := 2) (cells' := 11) (slots' := 48) (argsL := [(.int (1 : Int32)), (.int (2 : Int32)), (.long i1), (.long i5)]) (rest := [(.long i5)]) X (rm11 l Z a0 hw (1 : Int32) (2 : Int32) i1 i5 i5 h_161 X.ext (if_neg (by decide))) (w_101 hw) (w_102 hw) (w_103 hw) (w_104 hw) (by decide) rfl rfl pd_5 rfl rfl at_164 rfl (Nat.le_refl _) (by decide) (by decide) rfl rfl (by decide) (by decide) (fun v205 T h_206 X hQ207 => ?_)
    obtain ⟨rfl, rfl⟩ := hQ207
    show End Z p e below s _ _ _ _ (mkF m 167 #[.val (.int i0), .val (.long i1), .second, .val (.long i2), .second, .val (.long i3), .second, .val (.long i4), .second, .val (.long i5), .second, .val (.int (1 : Int32)), .val (.ref o1), .val (.ref o16), .val (.ref o61), .val (.int (1 : Int32)), .val (.int (1 : Int32)), .unset] [(.long i5), (.long i5)])
    refine E_lcmp (pc' := 168) X at_167 rfl ?_
    refine E_if (pcY := 192) (pcN := 171) X (il_ne _ _) at_168 (by decide) rfl rfl (fun hc168_0 => absurd hc168_0 (fun q => q rfl)) (fun hc168_0 => ?_)
    refine E_aload (v := (.ref o16)) (pc' := 173) X at_171 rfl rfl rfl ?_
    refine E_iconst (v := (2 : Int32)) (pc' := 174) X at_173 rfl rfl ?_
    refine E_callV (a := o16) (pc' := 177) (W := 0) (cells' := 11) (slots' := 48) (argsL := [(.int (2 : Int32))]) (rest := []) X (rm12 l Z a0 hw o16 (2 : Int32) w_44 [(.long (0 : Int64)), (.long i2), (.long (0 : Int64))] (0 : Int64) h_161 X.ext F_176 A_165 (by decide) rfl) E_170 (w_105 hw) (w_106 hw) (w_108 hw) (w_107 hw) (w_4 hw) (w_109 hw) rfl (by decide) rfl rfl pd_4 rfl rfl at_174 rfl (Nat.le_refl _) (by decide) (by decide) rfl rfl (by decide) (by decide) (fun v209 T h_210 X hQ211 => ?_)
    obtain ⟨rfl, rfl⟩ := hQ211
    show End Z p e below s _ _ _ _ (mkF m 177 #[.val (.int i0), .val (.long i1), .second, .val (.long i2), .second, .val (.long i3), .second, .val (.long i4), .second, .val (.long i5), .second, .val (.int (1 : Int32)), .val (.ref o1), .val (.ref o16), .val (.ref o61), .val (.int (1 : Int32)), .val (.int (1 : Int32)), .unset] [(.long (0 : Int64))])
    refine E_iload (pc' := 179) X at_177 rfl rfl ?_
    refine E_iconst (v := (2 : Int32)) (pc' := 180) X at_179 rfl rfl ?_
    refine E_lloadN (pc' := 181) X at_180 rfl rfl ?_
    refine E_callS (pc' := 184) (W := 2) (cells' := 11) (slots' := 48) (argsL := [(.int (1 : Int32)), (.int (2 : Int32)), (.long i2)]) (rest := [(.long (0 : Int64))]) X (rm13 l Z a0 hw (1 : Int32) (2 : Int32) i2 (0 : Int64) h_161 X.ext (if_neg (by decide))) (w_110 hw) (w_111 hw) (w_103 hw) (w_112 hw) (by decide) rfl rfl pd_6 rfl rfl at_181 rfl (Nat.le_refl _) (by decide) (by decide) rfl rfl (by decide) (by decide) (fun v213 T h_214 X hQ215 => ?_)
    obtain ⟨rfl, rfl⟩ := hQ215
    show End Z p e below s _ _ _ _ (mkF m 184 #[.val (.int i0), .val (.long i1), .second, .val (.long i2), .second, .val (.long i3), .second, .val (.long i4), .second, .val (.long i5), .second, .val (.int (1 : Int32)), .val (.ref o1), .val (.ref o16), .val (.ref o61), .val (.int (1 : Int32)), .val (.int (1 : Int32)), .unset] [(.long (0 : Int64)), (.long (0 : Int64))])
    refine E_lcmp (pc' := 185) X at_184 rfl ?_
    refine E_if (pcY := 192) (pcN := 188) X (il_ne _ _) at_185 (by decide) rfl rfl (fun hc185_0 => absurd hc185_0 (by decide)) (fun hc185_0 => ?_)
    refine E_iconst (v := (1 : Int32)) (pc' := 189) X at_188 rfl rfl ?_
    refine E_goto (pc' := 193) X at_189 (by decide) rfl ?_
    refine E_istore (Ls' := #[.val (.int i0), .val (.long i1), .second, .val (.long i2), .second, .val (.long i3), .second, .val (.long i4), .second, .val (.long i5), .second, .val (.int (1 : Int32)), .val (.ref o1), .val (.ref o16), .val (.ref o61), .val (.int (1 : Int32)), .val (.int (1 : Int32)), .val (.int (1 : Int32))]) (pc' := 195) X at_193 rfl rfl ?_
    refine E_iload (pc' := 197) X at_195 rfl rfl ?_
    refine E_if (pcY := 222) (pcN := 200) X (i0_eq _) at_197 (by decide) rfl rfl (fun hc197_0 => absurd hc197_0 (by decide)) (fun hc197_0 => ?_)
    refine E_iload (pc' := 202) X at_200 rfl rfl ?_
    refine E_if (pcY := 222) (pcN := 205) X (i0_eq _) at_202 (by decide) rfl rfl (fun hc202_0 => absurd hc202_0 (by decide)) (fun hc202_0 => ?_)
    refine E_iload (pc' := 207) X at_205 rfl rfl ?_
    refine E_if (pcY := 222) (pcN := 210) X (i0_eq _) at_207 (by decide) rfl rfl (fun hc207_0 => absurd hc207_0 (by decide)) (fun hc207_0 => ?_)
    refine E_aload (v := (.ref o61)) (pc' := 212) X at_210 rfl rfl rfl ?_
    have F_217 : Fld Z h_161 o61 "java/util/ArrayList" "size" "I" (.int (0 : Int32)) := ((F_81.keep Kc_89 (ninS (Ne.symm ne_70) nin0)).keep Kc_163 (ninS (Ne.symm ne_71) (ninS (Ne.symm ne_72) nin0)))
    have E_221 : Exa Z h_161 o61 "java/util/ArrayList" := ((E_80.keep Kc_89).keep Kc_163)
    refine E_callV (a := o61) (pc' := 215) (W := 0) (cells' := 11) (slots' := 48) (argsL := []) (rest := []) X (rm14 l Z a0 hw o61 h_161 X.ext F_217) E_221 (w_113 hw) (w_114 hw) (w_116 hw) (w_115 hw) (w_39 hw) (w_117 hw) rfl (by decide) rfl rfl pd_7 rfl rfl at_212 rfl (Nat.le_refl _) (by decide) (by decide) rfl rfl (by decide) (by decide) (fun v218 T h_219 X hQ220 => ?_)
    obtain ⟨rfl, rfl⟩ := hQ220
    show End Z p e below s _ _ _ _ (mkF m 215 #[.val (.int i0), .val (.long i1), .second, .val (.long i2), .second, .val (.long i3), .second, .val (.long i4), .second, .val (.long i5), .second, .val (.int (1 : Int32)), .val (.ref o1), .val (.ref o16), .val (.ref o61), .val (.int (1 : Int32)), .val (.int (1 : Int32)), .val (.int (1 : Int32))] [(.int (0 : Int32))])
    refine E_if (pcY := 222) (pcN := 218) X (i0_ne _) at_215 (by decide) rfl rfl (fun hc215_0 => absurd hc215_0 (by decide)) (fun hc215_0 => ?_)
    refine E_iconst (v := (1 : Int32)) (pc' := 219) X at_218 rfl rfl ?_
    refine E_goto (pc' := 223) X at_219 (by decide) rfl ?_
    exact E_retZ (Or.inr rfl) X at_223 (by decide) (by decide) rfl
  · skip
    refine E_aload (v := (.ref o16)) (pc' := 59) X at_57 rfl rfl rfl ?_
    refine E_iload (pc' := 61) X at_59 rfl rfl ?_
    refine E_lloadN (pc' := 62) X at_61 rfl rfl ?_
    refine E_lloadN (pc' := 63) X at_62 rfl rfl ?_
    have A_223 : Ar Z h_87 u_43 .long [(.long i3), (.long i4), (.long i5)] := (((A_52.ext Ex_63).keep Kc_79 (ninS ne_71 nin0)).keep Kc_89 (ninS (Ne.symm ne_56) nin0))
    have A_224 : Ar Z h_87 w_44 .long [(.long (0 : Int64)), (.long (0 : Int64)), (.long (0 : Int64))] := (((A_53.ext Ex_63).keep Kc_79 (ninS ne_72 nin0)).keep Kc_89 (ninS (Ne.symm ne_59) nin0))
    refine E_callV (a := o16) (pc' := 66) (W := 0) (cells' := 11) (slots' := 48) (argsL := [(.int (2 : Int32)), (.long i1), (.long i2)]) (rest := []) X (rm_rb2 l Z a0 hw o16 i1 i2 u_43 w_44 i3 i4 i5 h_87 X.ext F_91 F_92 A_223 A_224 P_54 fr_57 fr_60 E_90) E_90 (w_91 hw) (w_92 hw) (w_94 hw) (w_93 hw) (w_4 hw) (w_95 hw) rfl (by decide) rfl rfl pd_3 rfl rfl at_63 rfl (Nat.le_refl _) (by decide) (by decide) rfl rfl (by decide) (by decide) (fun v225 T h_226 X hQ227 => ?_)
    obtain ⟨rfl, Kc_228, A_229, A_230⟩ := hQ227
    show End Z p e below s _ _ _ _ (mkF m 66 #[.val (.int i0), .val (.long i1), .second, .val (.long i2), .second, .val (.long i3), .second, .val (.long i4), .second, .val (.long i5), .second, .val (.int (2 : Int32)), .val (.ref o1), .val (.ref o16), .val (.ref o61), .unset, .unset, .unset] [])
    refine E_aload (v := (.ref o16)) (pc' := 68) X at_66 rfl rfl rfl ?_
    refine E_iconst (v := (0 : Int32)) (pc' := 69) X at_68 rfl rfl ?_
    have F_231 : Fld Z h_226 o16 "com/example/tidewire/tidewire/core/Account" "available" "[J" (.ref u_43) := (F_91.keep Kc_228 (ninS ne_56 (ninS ne_59 nin0)))
    have E_235 : Exa Z h_226 o16 "com/example/tidewire/tidewire/core/Account" := (E_90.keep Kc_228)
    refine E_callV (a := o16) (pc' := 72) (W := 0) (cells' := 11) (slots' := 48) (argsL := [(.int (0 : Int32))]) (rest := []) X (rm10 l Z a0 hw o16 (0 : Int32) u_43 [(.long i3), (.long i4), (.long i1)] i3 h_226 X.ext F_231 A_229 (by decide) rfl) E_235 (w_96 hw) (w_97 hw) (w_99 hw) (w_98 hw) (w_4 hw) (w_100 hw) rfl (by decide) rfl rfl pd_4 rfl rfl at_69 rfl (Nat.le_refl _) (by decide) (by decide) rfl rfl (by decide) (by decide) (fun v232 T h_233 X hQ234 => ?_)
    obtain ⟨rfl, rfl⟩ := hQ234
    show End Z p e below s _ _ _ _ (mkF m 72 #[.val (.int i0), .val (.long i1), .second, .val (.long i2), .second, .val (.long i3), .second, .val (.long i4), .second, .val (.long i5), .second, .val (.int (2 : Int32)), .val (.ref o1), .val (.ref o16), .val (.ref o61), .unset, .unset, .unset] [(.long i3)])
    refine E_iload (pc' := 74) X at_72 rfl rfl ?_
    refine E_iconst (v := (0 : Int32)) (pc' := 75) X at_74 rfl rfl ?_
    refine E_lloadN (pc' := 76) X at_75 rfl rfl ?_
    refine E_lload (pc' := 78) X at_76 rfl rfl ?_
    refine E_callS (pc' := 81) (W := 2) (cells' := 11) (slots' := 48) (argsL := [(.int (2 : Int32)), (.int (0 : Int32)), (.long i1), (.long i3)]) (rest := [(.long i3)]) X (rm11 l Z a0 hw (2 : Int32) (0 : Int32) i1 i3 i3 h_226 X.ext (if_neg (by decide))) (w_101 hw) (w_102 hw) (w_103 hw) (w_104 hw) (by decide) rfl rfl pd_5 rfl rfl at_78 rfl (Nat.le_refl _) (by decide) (by decide) rfl rfl (by decide) (by decide) (fun v237 T h_238 X hQ239 => ?_)
    obtain ⟨rfl, rfl⟩ := hQ239
    show End Z p e below s _ _ _ _ (mkF m 81 #[.val (.int i0), .val (.long i1), .second, .val (.long i2), .second, .val (.long i3), .second, .val (.long i4), .second, .val (.long i5), .second, .val (.int (2 : Int32)), .val (.ref o1), .val (.ref o16), .val (.ref o61), .unset, .unset, .unset] [(.long i3), (.long i3)])
    refine E_lcmp (pc' := 82) X at_81 rfl ?_
    refine E_if (pcY := 106) (pcN := 85) X (il_ne _ _) at_82 (by decide) rfl rfl (fun hc82_0 => absurd hc82_0 (fun q => q rfl)) (fun hc82_0 => ?_)
    refine E_aload (v := (.ref o16)) (pc' := 87) X at_85 rfl rfl rfl ?_
    refine E_iconst (v := (0 : Int32)) (pc' := 88) X at_87 rfl rfl ?_
    have F_241 : Fld Z h_226 o16 "com/example/tidewire/tidewire/core/Account" "locked" "[J" (.ref w_44) := (F_92.keep Kc_228 (ninS ne_56 (ninS ne_59 nin0)))
    refine E_callV (a := o16) (pc' := 91) (W := 0) (cells' := 11) (slots' := 48) (argsL := [(.int (0 : Int32))]) (rest := []) X (rm12 l Z a0 hw o16 (0 : Int32) w_44 [(.long (0 : Int64)), (.long (0 : Int64)), (.long i2)] (0 : Int64) h_226 X.ext F_241 A_230 (by decide) rfl) E_235 (w_105 hw) (w_106 hw) (w_108 hw) (w_107 hw) (w_4 hw) (w_109 hw) rfl (by decide) rfl rfl pd_4 rfl rfl at_88 rfl (Nat.le_refl _) (by decide) (by decide) rfl rfl (by decide) (by decide) (fun v242 T h_243 X hQ244 => ?_)
    obtain ⟨rfl, rfl⟩ := hQ244
    show End Z p e below s _ _ _ _ (mkF m 91 #[.val (.int i0), .val (.long i1), .second, .val (.long i2), .second, .val (.long i3), .second, .val (.long i4), .second, .val (.long i5), .second, .val (.int (2 : Int32)), .val (.ref o1), .val (.ref o16), .val (.ref o61), .unset, .unset, .unset] [(.long (0 : Int64))])
    refine E_iload (pc' := 93) X at_91 rfl rfl ?_
    refine E_iconst (v := (0 : Int32)) (pc' := 94) X at_93 rfl rfl ?_
    refine E_lloadN (pc' := 95) X at_94 rfl rfl ?_
    refine E_callS (pc' := 98) (W := 2) (cells' := 11) (slots' := 48) (argsL := [(.int (2 : Int32)), (.int (0 : Int32)), (.long i2)]) (rest := [(.long (0 : Int64))]) X (rm13 l Z a0 hw (2 : Int32) (0 : Int32) i2 (0 : Int64) h_226 X.ext (if_neg (by decide))) (w_110 hw) (w_111 hw) (w_103 hw) (w_112 hw) (by decide) rfl rfl pd_6 rfl rfl at_95 rfl (Nat.le_refl _) (by decide) (by decide) rfl rfl (by decide) (by decide) (fun v246 T h_247 X hQ248 => ?_)
    obtain ⟨rfl, rfl⟩ := hQ248
    show End Z p e below s _ _ _ _ (mkF m 98 #[.val (.int i0), .val (.long i1), .second, .val (.long i2), .second, .val (.long i3), .second, .val (.long i4), .second, .val (.long i5), .second, .val (.int (2 : Int32)), .val (.ref o1), .val (.ref o16), .val (.ref o61), .unset, .unset, .unset] [(.long (0 : Int64)), (.long (0 : Int64))])
    refine E_lcmp (pc' := 99) X at_98 rfl ?_
    refine E_if (pcY := 106) (pcN := 102) X (il_ne _ _) at_99 (by decide) rfl rfl (fun hc99_0 => absurd hc99_0 (by decide)) (fun hc99_0 => ?_)
    refine E_iconst (v := (1 : Int32)) (pc' := 103) X at_102 rfl rfl ?_
    refine E_goto (pc' := 107) X at_103 (by decide) rfl ?_
    refine E_istore (Ls' := #[.val (.int i0), .val (.long i1), .second, .val (.long i2), .second, .val (.long i3), .second, .val (.long i4), .second, .val (.long i5), .second, .val (.int (2 : Int32)), .val (.ref o1), .val (.ref o16), .val (.ref o61), .val (.int (1 : Int32)), .unset, .unset]) (pc' := 109) X at_107 rfl rfl ?_
    refine E_aload (v := (.ref o16)) (pc' := 111) X at_109 rfl rfl rfl ?_
    refine E_iconst (v := (1 : Int32)) (pc' := 112) X at_111 rfl rfl ?_
    refine E_callV (a := o16) (pc' := 115) (W := 0) (cells' := 11) (slots' := 48) (argsL := [(.int (1 : Int32))]) (rest := []) X (rm10 l Z a0 hw o16 (1 : Int32) u_43 [(.long i3), (.long i4), (.long i1)] i4 h_226 X.ext F_231 A_229 (by decide) rfl) E_235 (w_96 hw) (w_97 hw) (w_99 hw) (w_98 hw) (w_4 hw) (w_100 hw) rfl (by decide) rfl rfl pd_4 rfl rfl at_112 rfl (Nat.le_refl _) (by decide) (by decide) rfl rfl (by decide) (by decide) (fun v250 T h_251 X hQ252 => ?_)
    obtain ⟨rfl, rfl⟩ := hQ252
    show End Z p e below s _ _ _ _ (mkF m 115 #[.val (.int i0), .val (.long i1), .second, .val (.long i2), .second, .val (.long i3), .second, .val (.long i4), .second, .val (.long i5), .second, .val (.int (2 : Int32)), .val (.ref o1), .val (.ref o16), .val (.ref o61), .val (.int (1 : Int32)), .unset, .unset] [(.long i4)])
    refine E_iload (pc' := 117) X at_115 rfl rfl ?_
    refine E_iconst (v := (1 : Int32)) (pc' := 118) X at_117 rfl rfl ?_
    refine E_lloadN (pc' := 119) X at_118 rfl rfl ?_
    refine E_lload (pc' := 121) X at_119 rfl rfl ?_
    refine E_callS (pc' := 124) (W := 2) (cells' := 11) (slots' := 48) (argsL := [(.int (2 : Int32)), (.int (1 : Int32)), (.long i1), (.long i4)]) (rest := [(.long i4)]) X (rm11 l Z a0 hw (2 : Int32) (1 : Int32) i1 i4 i4 h_226 X.ext (if_neg (by decide))) (w_101 hw) (w_102 hw) (w_103 hw) (w_104 hw) (by decide) rfl rfl pd_5 rfl rfl at_121 rfl (Nat.le_refl _) (by decide) (by decide) rfl rfl (by decide) (by decide) (fun v254 T h_255 X hQ256 => ?_)
    obtain ⟨rfl, rfl⟩ := hQ256
    show End Z p e below s _ _ _ _ (mkF m 124 #[.val (.int i0), .val (.long i1), .second, .val (.long i2), .second, .val (.long i3), .second, .val (.long i4), .second, .val (.long i5), .second, .val (.int (2 : Int32)), .val (.ref o1), .val (.ref o16), .val (.ref o61), .val (.int (1 : Int32)), .unset, .unset] [(.long i4), (.long i4)])
    refine E_lcmp (pc' := 125) X at_124 rfl ?_
    refine E_if (pcY := 149) (pcN := 128) X (il_ne _ _) at_125 (by decide) rfl rfl (fun hc125_0 => absurd hc125_0 (fun q => q rfl)) (fun hc125_0 => ?_)
    refine E_aload (v := (.ref o16)) (pc' := 130) X at_128 rfl rfl rfl ?_
    refine E_iconst (v := (1 : Int32)) (pc' := 131) X at_130 rfl rfl ?_
    refine E_callV (a := o16) (pc' := 134) (W := 0) (cells' := 11) (slots' := 48) (argsL := [(.int (1 : Int32))]) (rest := []) X (rm12 l Z a0 hw o16 (1 : Int32) w_44 [(.long (0 : Int64)), (.long (0 : Int64)), (.long i2)] (0 : Int64) h_226 X.ext F_241 A_230 (by decide) rfl) E_235 (w_105 hw) (w_106 hw) (w_108 hw) (w_107 hw) (w_4 hw) (w_109 hw) rfl (by decide) rfl rfl pd_4 rfl rfl at_131 rfl (Nat.le_refl _) (by decide) (by decide) rfl rfl (by decide) (by decide) (fun v258 T h_259 X hQ260 => ?_)
    obtain ⟨rfl, rfl⟩ := hQ260
    show End Z p e below s _ _ _ _ (mkF m 134 #[.val (.int i0), .val (.long i1), .second, .val (.long i2), .second, .val (.long i3), .second, .val (.long i4), .second, .val (.long i5), .second, .val (.int (2 : Int32)), .val (.ref o1), .val (.ref o16), .val (.ref o61), .val (.int (1 : Int32)), .unset, .unset] [(.long (0 : Int64))])
    refine E_iload (pc' := 136) X at_134 rfl rfl ?_
    refine E_iconst (v := (1 : Int32)) (pc' := 137) X at_136 rfl rfl ?_
    refine E_lloadN (pc' := 138) X at_137 rfl rfl ?_
    refine E_callS (pc' := 141) (W := 2) (cells' := 11) (slots' := 48) (argsL := [(.int (2 : Int32)), (.int (1 : Int32)), (.long i2)]) (rest := [(.long (0 : Int64))]) X (rm13 l Z a0 hw (2 : Int32) (1 : Int32) i2 (0 : Int64) h_226 X.ext (if_neg (by decide))) (w_110 hw) (w_111 hw) (w_103 hw) (w_112 hw) (by decide) rfl rfl pd_6 rfl rfl at_138 rfl (Nat.le_refl _) (by decide) (by decide) rfl rfl (by decide) (by decide) (fun v262 T h_263 X hQ264 => ?_)
    obtain ⟨rfl, rfl⟩ := hQ264
    show End Z p e below s _ _ _ _ (mkF m 141 #[.val (.int i0), .val (.long i1), .second, .val (.long i2), .second, .val (.long i3), .second, .val (.long i4), .second, .val (.long i5), .second, .val (.int (2 : Int32)), .val (.ref o1), .val (.ref o16), .val (.ref o61), .val (.int (1 : Int32)), .unset, .unset] [(.long (0 : Int64)), (.long (0 : Int64))])
    refine E_lcmp (pc' := 142) X at_141 rfl ?_
    refine E_if (pcY := 149) (pcN := 145) X (il_ne _ _) at_142 (by decide) rfl rfl (fun hc142_0 => absurd hc142_0 (by decide)) (fun hc142_0 => ?_)
    refine E_iconst (v := (1 : Int32)) (pc' := 146) X at_145 rfl rfl ?_
    refine E_goto (pc' := 150) X at_146 (by decide) rfl ?_
    refine E_istore (Ls' := #[.val (.int i0), .val (.long i1), .second, .val (.long i2), .second, .val (.long i3), .second, .val (.long i4), .second, .val (.long i5), .second, .val (.int (2 : Int32)), .val (.ref o1), .val (.ref o16), .val (.ref o61), .val (.int (1 : Int32)), .val (.int (1 : Int32)), .unset]) (pc' := 152) X at_150 rfl rfl ?_
    refine E_aload (v := (.ref o16)) (pc' := 154) X at_152 rfl rfl rfl ?_
    refine E_iconst (v := (2 : Int32)) (pc' := 155) X at_154 rfl rfl ?_
    refine E_callV (a := o16) (pc' := 158) (W := 0) (cells' := 11) (slots' := 48) (argsL := [(.int (2 : Int32))]) (rest := []) X (rm10 l Z a0 hw o16 (2 : Int32) u_43 [(.long i3), (.long i4), (.long i1)] i1 h_226 X.ext F_231 A_229 (by decide) rfl) E_235 (w_96 hw) (w_97 hw) (w_99 hw) (w_98 hw) (w_4 hw) (w_100 hw) rfl (by decide) rfl rfl pd_4 rfl rfl at_155 rfl (Nat.le_refl _) (by decide) (by decide) rfl rfl (by decide) (by decide) (fun v266 T h_267 X hQ268 => ?_)
    obtain ⟨rfl, rfl⟩ := hQ268
    show End Z p e below s _ _ _ _ (mkF m 158 #[.val (.int i0), .val (.long i1), .second, .val (.long i2), .second, .val (.long i3), .second, .val (.long i4), .second, .val (.long i5), .second, .val (.int (2 : Int32)), .val (.ref o1), .val (.ref o16), .val (.ref o61), .val (.int (1 : Int32)), .val (.int (1 : Int32)), .unset] [(.long i1)])
    refine E_iload (pc' := 160) X at_158 rfl rfl ?_
    refine E_iconst (v := (2 : Int32)) (pc' := 161) X at_160 rfl rfl ?_
    refine E_lloadN (pc' := 162) X at_161 rfl rfl ?_
    refine E_lload (pc' := 164) X at_162 rfl rfl ?_
    refine E_callS (pc' := 167) (W := 2) (cells' := 11) (slots' := 48) (argsL := [(.int (2 : Int32)), (.int (2 : Int32)), (.long i1), (.long i5)]) (rest := [(.long i1)]) X (rm11 l Z a0 hw (2 : Int32) (2 : Int32) i1 i5 i1 h_226 X.ext (if_pos rfl)) (w_101 hw) (w_102 hw) (w_103 hw) (w_104 hw) (by decide) rfl rfl pd_5 rfl rfl at_164 rfl (Nat.le_refl _) (by decide) (by decide) rfl rfl (by decide) (by decide) (fun v270 T h_271 X hQ272 => ?_)
    obtain ⟨rfl, rfl⟩ := hQ272
    show End Z p e below s _ _ _ _ (mkF m 167 #[.val (.int i0), .val (.long i1), .second, .val (.long i2), .second, .val (.long i3), .second, .val (.long i4), .second, .val (.long i5), .second, .val (.int (2 : Int32)), .val (.ref o1), .val (.ref o16), .val (.ref o61), .val (.int (1 : Int32)), .val (.int (1 : Int32)), .unset] [(.long i1), (.long i1)])
    refine E_lcmp (pc' := 168) X at_167 rfl ?_
    refine E_if (pcY := 192) (pcN := 171) X (il_ne _ _) at_168 (by decide) rfl rfl (fun hc168_0 => absurd hc168_0 (fun q => q rfl)) (fun hc168_0 => ?_)
    refine E_aload (v := (.ref o16)) (pc' := 173) X at_171 rfl rfl rfl ?_
    refine E_iconst (v := (2 : Int32)) (pc' := 174) X at_173 rfl rfl ?_
    refine E_callV (a := o16) (pc' := 177) (W := 0) (cells' := 11) (slots' := 48) (argsL := [(.int (2 : Int32))]) (rest := []) X (rm12 l Z a0 hw o16 (2 : Int32) w_44 [(.long (0 : Int64)), (.long (0 : Int64)), (.long i2)] i2 h_226 X.ext F_241 A_230 (by decide) rfl) E_235 (w_105 hw) (w_106 hw) (w_108 hw) (w_107 hw) (w_4 hw) (w_109 hw) rfl (by decide) rfl rfl pd_4 rfl rfl at_174 rfl (Nat.le_refl _) (by decide) (by decide) rfl rfl (by decide) (by decide) (fun v274 T h_275 X hQ276 => ?_)
    obtain ⟨rfl, rfl⟩ := hQ276
    show End Z p e below s _ _ _ _ (mkF m 177 #[.val (.int i0), .val (.long i1), .second, .val (.long i2), .second, .val (.long i3), .second, .val (.long i4), .second, .val (.long i5), .second, .val (.int (2 : Int32)), .val (.ref o1), .val (.ref o16), .val (.ref o61), .val (.int (1 : Int32)), .val (.int (1 : Int32)), .unset] [(.long i2)])
    refine E_iload (pc' := 179) X at_177 rfl rfl ?_
    refine E_iconst (v := (2 : Int32)) (pc' := 180) X at_179 rfl rfl ?_
    refine E_lloadN (pc' := 181) X at_180 rfl rfl ?_
    refine E_callS (pc' := 184) (W := 2) (cells' := 11) (slots' := 48) (argsL := [(.int (2 : Int32)), (.int (2 : Int32)), (.long i2)]) (rest := [(.long i2)]) X (rm13 l Z a0 hw (2 : Int32) (2 : Int32) i2 i2 h_226 X.ext (if_pos rfl)) (w_110 hw) (w_111 hw) (w_103 hw) (w_112 hw) (by decide) rfl rfl pd_6 rfl rfl at_181 rfl (Nat.le_refl _) (by decide) (by decide) rfl rfl (by decide) (by decide) (fun v278 T h_279 X hQ280 => ?_)
    obtain ⟨rfl, rfl⟩ := hQ280
    show End Z p e below s _ _ _ _ (mkF m 184 #[.val (.int i0), .val (.long i1), .second, .val (.long i2), .second, .val (.long i3), .second, .val (.long i4), .second, .val (.long i5), .second, .val (.int (2 : Int32)), .val (.ref o1), .val (.ref o16), .val (.ref o61), .val (.int (1 : Int32)), .val (.int (1 : Int32)), .unset] [(.long i2), (.long i2)])
    refine E_lcmp (pc' := 185) X at_184 rfl ?_
    refine E_if (pcY := 192) (pcN := 188) X (il_ne _ _) at_185 (by decide) rfl rfl (fun hc185_0 => absurd hc185_0 (fun q => q rfl)) (fun hc185_0 => ?_)
    refine E_iconst (v := (1 : Int32)) (pc' := 189) X at_188 rfl rfl ?_
    refine E_goto (pc' := 193) X at_189 (by decide) rfl ?_
    refine E_istore (Ls' := #[.val (.int i0), .val (.long i1), .second, .val (.long i2), .second, .val (.long i3), .second, .val (.long i4), .second, .val (.long i5), .second, .val (.int (2 : Int32)), .val (.ref o1), .val (.ref o16), .val (.ref o61), .val (.int (1 : Int32)), .val (.int (1 : Int32)), .val (.int (1 : Int32))]) (pc' := 195) X at_193 rfl rfl ?_
    refine E_iload (pc' := 197) X at_195 rfl rfl ?_
    refine E_if (pcY := 222) (pcN := 200) X (i0_eq _) at_197 (by decide) rfl rfl (fun hc197_0 => absurd hc197_0 (by decide)) (fun hc197_0 => ?_)
    refine E_iload (pc' := 202) X at_200 rfl rfl ?_
    refine E_if (pcY := 222) (pcN := 205) X (i0_eq _) at_202 (by decide) rfl rfl (fun hc202_0 => absurd hc202_0 (by decide)) (fun hc202_0 => ?_)
    refine E_iload (pc' := 207) X at_205 rfl rfl ?_
    refine E_if (pcY := 222) (pcN := 210) X (i0_eq _) at_207 (by decide) rfl rfl (fun hc207_0 => absurd hc207_0 (by decide)) (fun hc207_0 => ?_)
    refine E_aload (v := (.ref o61)) (pc' := 212) X at_210 rfl rfl rfl ?_
    have F_282 : Fld Z h_226 o61 "java/util/ArrayList" "size" "I" (.int (0 : Int32)) := ((F_81.keep Kc_89 (ninS (Ne.symm ne_70) nin0)).keep Kc_228 (ninS (Ne.symm ne_71) (ninS (Ne.symm ne_72) nin0)))
    have E_286 : Exa Z h_226 o61 "java/util/ArrayList" := ((E_80.keep Kc_89).keep Kc_228)
    refine E_callV (a := o61) (pc' := 215) (W := 0) (cells' := 11) (slots' := 48) (argsL := []) (rest := []) X (rm14 l Z a0 hw o61 h_226 X.ext F_282) E_286 (w_113 hw) (w_114 hw) (w_116 hw) (w_115 hw) (w_39 hw) (w_117 hw) rfl (by decide) rfl rfl pd_7 rfl rfl at_212 rfl (Nat.le_refl _) (by decide) (by decide) rfl rfl (by decide) (by decide) (fun v283 T h_284 X hQ285 => ?_)
    obtain ⟨rfl, rfl⟩ := hQ285
    show End Z p e below s _ _ _ _ (mkF m 215 #[.val (.int i0), .val (.long i1), .second, .val (.long i2), .second, .val (.long i3), .second, .val (.long i4), .second, .val (.long i5), .second, .val (.int (2 : Int32)), .val (.ref o1), .val (.ref o16), .val (.ref o61), .val (.int (1 : Int32)), .val (.int (1 : Int32)), .val (.int (1 : Int32))] [(.int (0 : Int32))])
    refine E_if (pcY := 222) (pcN := 218) X (i0_ne _) at_215 (by decide) rfl rfl (fun hc215_0 => absurd hc215_0 (by decide)) (fun hc215_0 => ?_)
    refine E_iconst (v := (1 : Int32)) (pc' := 219) X at_218 rfl rfl ?_
    refine E_goto (pc' := 223) X at_219 (by decide) rfl ?_
    exact E_retZ (Or.inr rfl) X at_223 (by decide) (by decide) rfl
set_option maxRecDepth 65536 in
set_option maxHeartbeats 2000000 in
theorem comes_1 {Post : Tables → Env → Array Value → State → Outcome → State → Prop} (hpost : ∀ tb e args s v u, (limb_1_1.after args s (.returned v) u = true ∧ limb_1_2.after args s (.returned v) u = true ∧ True) → ReturnedEndW s (.returned v) u (Jvm.fieldLocs frame_1_writes args s ++ Jvm.arrayLocs frame_1_arrays args s ++ Jvm.staticLocs frame_1_statics s) 32 1216 → Post tb e args s (.returned v) u) :
    ArmFor flags0 classFile x code maxLocals ret World_1 tables_1 room_1 Calls_1 rest_1 Pre_1 Post := by
  intro l hfl _ _ p e ha hc hk s m args below hf hA hF happ hP
  obtain ⟨hcalls, hrest, hpre⟩ := hP
  obtain ⟨-, -, -, hnamed, -, -, -, hat⟩ := (Spec.applies_iff hf).mp happ
  obtain ⟨hg, hn⟩ := and_e (Cond.before_iff.mp (show (Jvm.Cond.and given_1 narrow_1).before args s = true from hpre))
  obtain ⟨hcnt, hrst⟩ := and_e hg
  obtain ⟨hk0, hrst⟩ := and_e hrst
  obtain ⟨hk1, hrst⟩ := and_e hrst
  obtain ⟨hk2, hrst⟩ := and_e hrst
  obtain ⟨hk3, hrst⟩ := and_e hrst
  obtain ⟨hk4, hrst⟩ := and_e hrst
  have hk5 := hrst
  obtain ⟨w0, w1, w2, w3, w4, w5, rfl⟩ : ∃ w0 w1 w2 w3 w4 w5 : Value, args = #[w0, w1, w2, w3, w4, w5] := by
    have hs : args.size = 6 := by simpa [Cond.value, given_1] using hcnt
    obtain ⟨L⟩ := args
    match L, hs with
    | [w0, w1, w2, w3, w4, w5], _ => exact ⟨w0, w1, w2, w3, w4, w5, rfl⟩
  have hw := fun d (hd : d ∈ tables_1) => atoms_spec (ws := Jvm.Cond.code x code maxLocals ret :: tables_1) hat d (List.mem_cons_of_mem _ hd)
  obtain ⟨hsets, hown0⟩ := atoms_of _ (rest_1_c_eq ▸ (show rest_1_c.before _ s = true from hrest))
  have hr0 := Cond.before_iff.mp hown0
  have hfit : Fit s := fun {y c} hc i hi => by
    obtain ⟨ha, rfl⟩ := Array.getElem?_eq_some_iff.mp hc
    have q := List.all_eq_true.mp ((Array.all_eq_true_iff_forall_mem.mp hF) _ (Array.getElem_mem ha)) i (List.mem_range.mpr hi)
    simpa [Array.getElem?_eq_getElem hi] using q
  obtain ⟨i0, e0⟩ := is_v hk0
  obtain rfl : w0 = (.int i0) := Option.some.inj e0
  obtain ⟨i1, e1⟩ := isL_v hk1
  obtain rfl : w1 = (.long i1) := Option.some.inj e1
  obtain ⟨i2, e2⟩ := isL_v hk2
  obtain rfl : w2 = (.long i2) := Option.some.inj e2
  obtain ⟨i3, e3⟩ := isL_v hk3
  obtain rfl : w3 = (.long i3) := Option.some.inj e3
  obtain ⟨i4, e4⟩ := isL_v hk4
  obtain rfl : w4 = (.long i4) := Option.some.inj e4
  obtain ⟨i5, e5⟩ := isL_v hk5
  obtain rfl : w5 = (.long i5) := Option.some.inj e5
  obtain ⟨oD, evD, ED⟩ := own_exa (Cond.before_iff.mp (hsets _ (List.mem_of_getElem? (i := 7) rfl)))
  have SD := Sta.start evD (Or.inr ⟨(w_39 hw), hsets _ (List.mem_of_getElem? (i := 2) rfl)⟩)
  obtain ⟨n, o, h1, h2, h3, _, L, rfl, ⟨N, _, rfl⟩, hq⟩ := rm0 l s _ hw i0 i1 i2 i3 i4 i5 oD s.heap (Ext.refl _) SD tables_1 p e ha hc hk s m _ below hf ((Spec.applies_iff_loose hf).mp happ).1 ⟨rfl, State.Warmed39.refl s, rfl⟩ trivial
  refine ⟨n, _, h1, h2, h3, hpost _ _ _ _ _ _ ⟨Cond.after_iff.mpr rfl, Cond.after_iff.mpr (eq_i res_at (Term.int_eval (1)) rfl), trivial⟩ ⟨hq.1, hq.2.1, hq.2.2.1, (hq.2.2.2.sift fun y hy => Or.inr (N y hy)).mono (by decide) (by decide)⟩⟩
theorem main_1_1 : Claimed_1_1 := comes_1 fun _ _ _ _ _ _ h hF => ⟨h.1, hF⟩
theorem main_1_2 : Claimed_1_2 := comes_1 fun _ _ _ _ _ _ h hF => ⟨h.2.1, hF⟩
end Jvm.Pilot.@@N@@
namespace Jvm.Pilot.@@N@@
open Jvm Jvm.ClassFile Sem Op Lib Jvm.Free Jvm.Stand Jvm.Pilot.@@N@@.Jvm.D
/-! MADE BY PROGRAM (witnessworld.py) out of the Statement's table words and the real class files: 28 classes; the members and pool entries that the words name. The judged class is class 1, her method 3. -/
namespace start1
open Jvm.ClassFile
def u (s : String) : CpInfo := .utf8 (stringToUtf16 s)
/-- a pool by its gaps: so many unusable entries, then the entry; so many at the end -/
def gap : Nat → List CpInfo → List CpInfo
  | 0, r => r
  | n + 1, r => .unusable :: gap n r
def poolList (es : List (Nat × CpInfo)) (last : Nat) : List CpInfo := es.foldr (fun e r => gap e.1 (e.2 :: r)) (gap last [])
def pool (es : List (Nat × CpInfo)) (last : Nat) : Array CpInfo := ⟨poolList es last⟩
def fileOf (pool : Array CpInfo) (this : Nat) (attrs : Array Attribute := #[]) (ms : Array MethodInfo := #[]) (fl : Nat := 33) (sup : Nat := 0) (ifs : Array Nat := #[]) (fds : Array FieldInfo := #[]) : ClassFile where
  minorVersion := 0
  majorVersion := 65
  constantPool := pool
  accessFlags := fl
  thisClass := this
  superClass := sup
  interfaces := ifs
  fields := fds
  methods := ms
  attributes := attrs
def plain (name : String) (sup : Option ClassId) : Class where
  name := name
  kind := .ordinary
  loader := none
  accessFlags := 33
  super := sup
  interfaces := #[]
  cf := none
  fields := #[]
  methods := #[]
  instanceTypes := #[]
  staticTypes := #[]
  resolved := #[]
  callSites := []
  init := .initialized
  statics := none
  mirror := none

def pool0 : Array CpInfo := pool [(5, u "<init>"), (0, u "()V"), (1, .class_ 10), (1, u "java/lang/Object"), (85, u "clone"), (0, u "()Ljava/lang/Object;")] 26

def k0c0 : Code := { maxStack := 0, maxLocals := 1, code := object_method_1_code, exceptionTable := #[], attributes := #[] }
def k0m0 : Method := { name := "<init>", desc := "()V", sig := { parameters := [], returnType := none }, accessFlags := 1, code := some k0c0 }
def k0m1 : Method := { name := "clone", desc := "()Ljava/lang/Object;", sig := { parameters := [], returnType := some (.object "java/lang/Object") }, accessFlags := 260, code := none }
/-- java/lang/Object -/
def k0 : Class := { plain "java/lang/Object" none with
  accessFlags := 33
  interfaces := #[]
  cf := some (fileOf pool0 8 #[] #[{ accessFlags := 1, nameIndex := 5, descriptorIndex := 6, attributes := #[] }, { accessFlags := 260, nameIndex := 96, descriptorIndex := 97, attributes := #[] }] 33 0 #[] #[])
  fields := #[]
  methods := #[k0m0, k0m1]
  instanceTypes := #[]
  staticTypes := #[]
  resolved := Array.replicate 124 none
  statics := none }

def pool1 : Array CpInfo := pool [(2, .class_ 4), (0, .nameAndType 5 6), (0, u "java/lang/Object"), (0, u "<init>"), (0, u "()V"), (0, .integer 2147483647), (0, .class_ 9), (0, u "com/example/tidewire/tidewire/core/Account"), (0, .string 11), (0, u "A"), (0, .methodref 8 13), (0, .nameAndType 5 14), (0, u "(Ljava/lang/String;[J)V"), (0, .class_ 16), (0, u "java/util/ArrayList"), (0, .methodref 15 3), (0, .methodref 8 19), (0, .nameAndType 20 21), (0, u "logChangesIn"), (0, u "(Ljava/util/List;)V"), (0, .methodref 8 23), (0, .nameAndType 24 25), (0, u "restoreBalance"), (0, u "(IJJ)V"), (0, .methodref 8 27), (0, .nameAndType 28 29), (0, u "available"), (0, u "(I)J"), (0, .methodref 31 32), (0, .class_ 33), (0, .nameAndType 34 35), (0, u "com/example/tidewire/tidewire/core/AccountRestoreBalancePinLaw"), (0, u "expAvail"), (0, u "(IIJJ)J"), (0, .methodref 8 37), (0, .nameAndType 38 29), (0, u "locked"), (0, .methodref 31 40), (0, .nameAndType 41 42), (0, u "expLocked"), (0, u "(IIJ)J"), (0, .methodref 15 44), (0, .nameAndType 45 46), (0, u "size"), (0, u "()I"), (3, u "law"), (0, u "(IJJJJJ)Z")] 4

def k1m0 : Method := { name := "<init>", desc := "()V", sig := { parameters := [], returnType := none }, accessFlags := 1, code := none }
def k1c1 : Code := { maxStack := 2, maxLocals := 6, code := method_2_code, exceptionTable := #[], attributes := #[] }
def k1m1 : Method := { name := "expAvail", desc := "(IIJJ)J", sig := { parameters := [.int, .int, .long, .long], returnType := some .long }, accessFlags := 10, code := some k1c1 }
def k1c2 : Code := { maxStack := 2, maxLocals := 4, code := method_3_code, exceptionTable := #[], attributes := #[] }
def k1m2 : Method := { name := "expLocked", desc := "(IIJ)J", sig := { parameters := [.int, .int, .long], returnType := some .long }, accessFlags := 10, code := some k1c2 }
def k1c3 : Code := { maxStack := 8, maxLocals := 18, code := code, exceptionTable := #[], attributes := #[] }
def k1m3 : Method := { name := "law", desc := "(IJJJJJ)Z", sig := { parameters := [.int, .long, .long, .long, .long, .long], returnType := some .boolean }, accessFlags := 9, code := some k1c3 }
/-- com/example/tidewire/tidewire/core/AccountRestoreBalancePinLaw -/
def k1 : Class := { plain "com/example/tidewire/tidewire/core/AccountRestoreBalancePinLaw" (some 0) with
  accessFlags := 49
  interfaces := #[]
  cf := some (fileOf pool1 31 #[] #[{ accessFlags := 1, nameIndex := 5, descriptorIndex := 6, attributes := #[] }, { accessFlags := 10, nameIndex := 34, descriptorIndex := 35, attributes := #[] }, { accessFlags := 10, nameIndex := 41, descriptorIndex := 42, attributes := #[] }, { accessFlags := 9, nameIndex := 50, descriptorIndex := 51, attributes := #[] }] 49 2 #[] #[])
  fields := #[]
  methods := #[k1m0, k1m1, k1m2, k1m3]
  instanceTypes := #[]
  staticTypes := #[]
  resolved := Array.replicate 56 none
  statics := none }

def pool2 : Array CpInfo := pool [(1, .methodref 2 3), (0, .class_ 4), (0, .nameAndType 5 6), (0, u "java/lang/Object"), (0, u "<init>"), (0, u "()V"), (0, .class_ 8), (0, u "java/util/HashMap"), (0, .methodref 7 3), (0, .fieldref 11 12), (0, .class_ 13), (0, .nameAndType 14 15), (0, u "com/example/tidewire/tidewire/core/Account"), (0, u "histories"), (0, u "Ljava/util/Map;"), (0, .class_ 17), (0, u "java/util/ArrayList"), (0, .methodref 16 3), (0, .fieldref 11 20), (0, .nameAndType 21 22), (0, u "changedOrders"), (0, u "Ljava/util/List;"), (0, .fieldref 11 24), (0, .nameAndType 25 26), (0, u "id"), (0, u "Ljava/lang/String;"), (0, .methodref 28 29), (0, .class_ 30), (0, .nameAndType 31 32), (0, u "[J"), (0, u "clone"), (0, u "()Ljava/lang/Object;"), (0, .fieldref 11 34), (0, .nameAndType 35 30), (0, u "available"), (0, .fieldref 11 37), (0, .nameAndType 38 30), (0, u "locked"), (0, .fieldref 11 40), (0, .nameAndType 41 30), (0, u "availableBefore"), (0, .fieldref 11 43), (0, .nameAndType 44 30), (0, u "lockedBefore"), (0, .fieldref 11 46), (0, .nameAndType 47 22), (0, u "changedAccounts"), (5, u "changed"), (0, u "Z"), (82, .class_ 138), (0, u "com/example/tidewire/tidewire/core/Account$History"), (16, u "lastOpen"), (0, u "Lcom/example/tidewire/tidewire/core/Order;"), (5, u "firstOpen"), (34, u "(Ljava/lang/String;[J)V"), (2, u "logChangesIn"), (0, u "(Ljava/util/List;)V"), (1, u "(I)J"), (0, u "restoreBalance"), (0, u "(IJJ)V")] 47

def k2c0 : Code := { maxStack := 3, maxLocals := 3, code := prog_1_method_1_code, exceptionTable := #[], attributes := #[] }
def k2m0 : Method := { name := "<init>", desc := "(Ljava/lang/String;[J)V", sig := { parameters := [(.object "java/lang/String"), (.array .long)], returnType := none }, accessFlags := 0, code := some k2c0 }
def k2c1 : Code := { maxStack := 2, maxLocals := 2, code := prog_1_method_2_code, exceptionTable := #[], attributes := #[] }
def k2m1 : Method := { name := "logChangesIn", desc := "(Ljava/util/List;)V", sig := { parameters := [(.object "java/util/List")], returnType := none }, accessFlags := 0, code := some k2c1 }
def k2c2 : Code := { maxStack := 2, maxLocals := 2, code := prog_1_method_4_code, exceptionTable := #[], attributes := #[] }
def k2m2 : Method := { name := "available", desc := "(I)J", sig := { parameters := [.int], returnType := some .long }, accessFlags := 0, code := some k2c2 }
def k2c3 : Code := { maxStack := 2, maxLocals := 2, code := prog_1_method_5_code, exceptionTable := #[], attributes := #[] }
def k2m3 : Method := { name := "locked", desc := "(I)J", sig := { parameters := [.int], returnType := some .long }, accessFlags := 0, code := some k2c3 }
def k2c4 : Code := { maxStack := 4, maxLocals := 6, code := prog_1_method_6_code, exceptionTable := #[], attributes := #[] }
def k2m4 : Method := { name := "restoreBalance", desc := "(IJJ)V", sig := { parameters := [.int, .long, .long], returnType := none }, accessFlags := 0, code := some k2c4 }
/-- com/example/tidewire/tidewire/core/Account -/
def k2 : Class := { plain "com/example/tidewire/tidewire/core/Account" (some 0) with
  accessFlags := 48
  interfaces := #[]
  cf := some (fileOf pool2 11 #[.nestMembers #[137]] #[{ accessFlags := 0, nameIndex := 5, descriptorIndex := 197, attributes := #[] }, { accessFlags := 0, nameIndex := 200, descriptorIndex := 201, attributes := #[] }, { accessFlags := 0, nameIndex := 35, descriptorIndex := 203, attributes := #[] }, { accessFlags := 0, nameIndex := 38, descriptorIndex := 203, attributes := #[] }, { accessFlags := 0, nameIndex := 204, descriptorIndex := 205, attributes := #[] }] 48 2 #[] #[{ accessFlags := 18, nameIndex := 25, descriptorIndex := 26, attributes := #[] }, { accessFlags := 18, nameIndex := 35, descriptorIndex := 30, attributes := #[] }, { accessFlags := 18, nameIndex := 38, descriptorIndex := 30, attributes := #[] }, { accessFlags := 2, nameIndex := 162, descriptorIndex := 156, attributes := #[] }, { accessFlags := 2, nameIndex := 155, descriptorIndex := 156, attributes := #[] }, { accessFlags := 18, nameIndex := 14, descriptorIndex := 15, attributes := #[] }, { accessFlags := 2, nameIndex := 47, descriptorIndex := 22, attributes := #[] }, { accessFlags := 2, nameIndex := 53, descriptorIndex := 54, attributes := #[] }, { accessFlags := 18, nameIndex := 41, descriptorIndex := 30, attributes := #[] }, { accessFlags := 18, nameIndex := 44, descriptorIndex := 30, attributes := #[] }, { accessFlags := 18, nameIndex := 21, descriptorIndex := 22, attributes := #[] }])
  fields := #[{ name := "id", type := (.object "java/lang/String"), accessFlags := 18, slot := 0, constantValue := 0 }, { name := "available", type := (.array .long), accessFlags := 18, slot := 1, constantValue := 0 }, { name := "locked", type := (.array .long), accessFlags := 18, slot := 2, constantValue := 0 }, { name := "firstOpen", type := (.object "com/example/tidewire/tidewire/core/Order"), accessFlags := 2, slot := 3, constantValue := 0 }, { name := "lastOpen", type := (.object "com/example/tidewire/tidewire/core/Order"), accessFlags := 2, slot := 4, constantValue := 0 }, { name := "histories", type := (.object "java/util/Map"), accessFlags := 18, slot := 5, constantValue := 0 }, { name := "changedAccounts", type := (.object "java/util/List"), accessFlags := 2, slot := 6, constantValue := 0 }, { name := "changed", type := .boolean, accessFlags := 2, slot := 7, constantValue := 0 }, { name := "availableBefore", type := (.array .long), accessFlags := 18, slot := 8, constantValue := 0 }, { name := "lockedBefore", type := (.array .long), accessFlags := 18, slot := 9, constantValue := 0 }, { name := "changedOrders", type := (.object "java/util/List"), accessFlags := 18, slot := 10, constantValue := 0 }]
  methods := #[k2m0, k2m1, k2m2, k2m3, k2m4]
  instanceTypes := #[(.object "java/lang/String"), (.array .long), (.array .long), (.object "com/example/tidewire/tidewire/core/Order"), (.object "com/example/tidewire/tidewire/core/Order"), (.object "java/util/Map"), (.object "java/util/List"), .boolean, (.array .long), (.array .long), (.object "java/util/List")]
  staticTypes := #[]
  resolved := Array.replicate 253 none
  statics := none }

def pool3 : Array CpInfo := pool [(1, .class_ 2), (0, u "java/io/Serializable"), (0, .class_ 4), (0, u "java/lang/Object")] 2

/-- java/io/Serializable -/
def k3 : Class := { plain "java/io/Serializable" (some 0) with
  accessFlags := 1537
  interfaces := #[]
  cf := some (fileOf pool3 1 #[] #[] 1537 3 #[] #[])
  fields := #[]
  methods := #[]
  instanceTypes := #[]
  staticTypes := #[]
  resolved := Array.replicate 7 none
  statics := none }

def pool4 : Array CpInfo := pool [(1, .class_ 2), (0, u "java/lang/Comparable"), (0, .class_ 4), (0, u "java/lang/Object")] 7

/-- java/lang/Comparable -/
def k4 : Class := { plain "java/lang/Comparable" (some 0) with
  accessFlags := 1537
  interfaces := #[]
  cf := some (fileOf pool4 1 #[] #[] 1537 3 #[] #[])
  fields := #[]
  methods := #[]
  instanceTypes := #[]
  staticTypes := #[]
  resolved := Array.replicate 12 none
  statics := none }

def pool5 : Array CpInfo := pool [(2, .class_ 4), (1, u "java/lang/CharSequence"), (42, .class_ 48), (0, u "java/lang/CharSequence$1CodePointIterator"), (10, .class_ 60), (0, u "java/lang/CharSequence$1CharIterator"), (5, .class_ 67), (0, u "java/lang/Object")] 63

/-- java/lang/CharSequence -/
def k5 : Class := { plain "java/lang/CharSequence" (some 0) with
  accessFlags := 1537
  interfaces := #[]
  cf := some (fileOf pool5 2 #[.nestMembers #[47, 59]] #[] 1537 66 #[] #[])
  fields := #[]
  methods := #[]
  instanceTypes := #[]
  staticTypes := #[]
  resolved := Array.replicate 131 none
  statics := none }

def pool6 : Array CpInfo := pool [(1, .class_ 2), (0, u "java/lang/constant/Constable"), (0, .class_ 4), (0, u "java/lang/Object")] 6

/-- java/lang/constant/Constable -/
def k6 : Class := { plain "java/lang/constant/Constable" (some 0) with
  accessFlags := 1537
  interfaces := #[]
  cf := some (fileOf pool6 1 #[] #[] 1537 3 #[] #[])
  fields := #[]
  methods := #[]
  instanceTypes := #[]
  staticTypes := #[]
  resolved := Array.replicate 11 none
  statics := none }

def pool7 : Array CpInfo := pool [(1, .class_ 2), (0, u "java/lang/constant/ConstantDesc"), (0, .class_ 4), (0, u "java/lang/Object")] 32

/-- java/lang/constant/ConstantDesc -/
def k7 : Class := { plain "java/lang/constant/ConstantDesc" (some 0) with
  accessFlags := 1537
  interfaces := #[]
  cf := some (fileOf pool7 1 #[] #[] 1537 3 #[] #[])
  fields := #[]
  methods := #[]
  instanceTypes := #[]
  staticTypes := #[]
  resolved := Array.replicate 37 none
  statics := none }

def pool8 : Array CpInfo := pool [(2, .class_ 4), (1, u "java/lang/Object"), (0, u "<init>"), (0, u "()V"), (3, .class_ 12), (1, u "java/lang/String"), (0, u "value"), (0, u "[B"), (2, u "coder"), (0, u "B"), (2, u "hash"), (0, u "I"), (2, u "hashIsZero"), (0, u "Z"), (13, u "COMPACT_STRINGS"), (534, .class_ 576), (0, u "java/lang/CharSequence"), (22, u "CASE_INSENSITIVE_ORDER"), (0, u "Ljava/util/Comparator;"), (500, u "serialPersistentFields"), (0, u "[Ljava/io/ObjectStreamField;"), (0, .class_ 1104), (0, u "java/lang/String$CaseInsensitiveComparator"), (1, .class_ 1107), (0, u "java/io/Serializable"), (0, .class_ 1109), (0, u "java/lang/Comparable"), (0, .class_ 1111), (0, u "java/lang/constant/Constable"), (0, .class_ 1113), (0, u "java/lang/constant/ConstantDesc"), (2, u "serialVersionUID"), (0, u "J"), (3, u "REPL"), (0, u "C"), (2, u "LATIN1"), (1, u "UTF16")] 323

def k8m0 : Method := { name := "<init>", desc := "()V", sig := { parameters := [], returnType := none }, accessFlags := 1, code := none }
/-- java/lang/String -/
def k8 : Class := { plain "java/lang/String" (some 0) with
  accessFlags := 49
  interfaces := #[3, 4, 5, 6, 7]
  cf := some (fileOf pool8 10 #[.nestMembers #[1103]] #[{ accessFlags := 1, nameIndex := 5, descriptorIndex := 6, attributes := #[] }] 49 2 #[1106, 1108, 575, 1110, 1112] #[{ accessFlags := 18, nameIndex := 13, descriptorIndex := 14, attributes := #[] }, { accessFlags := 18, nameIndex := 17, descriptorIndex := 18, attributes := #[] }, { accessFlags := 2, nameIndex := 21, descriptorIndex := 22, attributes := #[] }, { accessFlags := 2, nameIndex := 25, descriptorIndex := 26, attributes := #[] }, { accessFlags := 26, nameIndex := 1116, descriptorIndex := 1117, attributes := #[] }, { accessFlags := 24, nameIndex := 40, descriptorIndex := 26, attributes := #[] }, { accessFlags := 26, nameIndex := 1101, descriptorIndex := 1102, attributes := #[] }, { accessFlags := 26, nameIndex := 1121, descriptorIndex := 1122, attributes := #[] }, { accessFlags := 25, nameIndex := 599, descriptorIndex := 600, attributes := #[] }, { accessFlags := 24, nameIndex := 1125, descriptorIndex := 18, attributes := #[] }, { accessFlags := 24, nameIndex := 1127, descriptorIndex := 18, attributes := #[] }])
  fields := #[{ name := "value", type := (.array .byte), accessFlags := 18, slot := 0, constantValue := 0 }, { name := "coder", type := .byte, accessFlags := 18, slot := 1, constantValue := 0 }, { name := "hash", type := .int, accessFlags := 2, slot := 2, constantValue := 0 }, { name := "hashIsZero", type := .boolean, accessFlags := 2, slot := 3, constantValue := 0 }, { name := "serialVersionUID", type := .long, accessFlags := 26, slot := 0, constantValue := 0 }, { name := "COMPACT_STRINGS", type := .boolean, accessFlags := 24, slot := 1, constantValue := 0 }, { name := "serialPersistentFields", type := (.array (.object "java/io/ObjectStreamField")), accessFlags := 26, slot := 2, constantValue := 0 }, { name := "REPL", type := .char, accessFlags := 26, slot := 3, constantValue := 0 }, { name := "CASE_INSENSITIVE_ORDER", type := (.object "java/util/Comparator"), accessFlags := 25, slot := 4, constantValue := 0 }, { name := "LATIN1", type := .byte, accessFlags := 24, slot := 5, constantValue := 0 }, { name := "UTF16", type := .byte, accessFlags := 24, slot := 6, constantValue := 0 }]
  methods := #[k8m0]
  instanceTypes := #[(.array .byte), .byte, .int, .boolean]
  staticTypes := #[.long, .boolean, (.array (.object "java/io/ObjectStreamField")), .char, (.object "java/util/Comparator"), .byte, .byte]
  resolved := Array.replicate 1451 none
  statics := none }

def pool9 : Array CpInfo := pool [(2, .class_ 4), (1, u "java/util/Map"), (31, .class_ 37), (0, u "java/util/Map$Entry"), (55, .class_ 94), (0, u "java/lang/Object")] 168

/-- java/util/Map -/
def k9 : Class := { plain "java/util/Map" (some 0) with
  accessFlags := 1537
  interfaces := #[]
  cf := some (fileOf pool9 2 #[.nestMembers #[36]] #[] 1537 93 #[] #[])
  fields := #[]
  methods := #[]
  instanceTypes := #[]
  staticTypes := #[]
  resolved := Array.replicate 263 none
  statics := none }

def pool10 : Array CpInfo := pool [(1, .methodref 2 3), (0, .class_ 4), (0, .nameAndType 5 6), (0, u "java/lang/Object"), (0, u "<init>"), (0, u "()V"), (1, .class_ 10), (1, u "java/util/AbstractMap"), (42, .class_ 54), (0, u "java/util/Map"), (9, u "keySet"), (0, u "Ljava/util/Set;"), (0, .class_ 67), (0, u "java/util/AbstractMap$1"), (5, u "values"), (0, u "Ljava/util/Collection;"), (0, .class_ 76), (0, u "java/util/AbstractMap$2"), (104, .class_ 182), (0, u "java/util/AbstractMap$ViewCollection"), (0, .class_ 184), (0, u "java/util/AbstractMap$SimpleImmutableEntry"), (0, .class_ 186), (0, u "java/util/AbstractMap$SimpleEntry"), (0, .class_ 188), (0, u "java/util/AbstractMap$2$1"), (0, .class_ 190), (0, u "java/util/AbstractMap$1$1")] 5

def k10c0 : Code := { maxStack := 1, maxLocals := 1, code := jdk_71_method_1_code, exceptionTable := #[], attributes := #[] }
def k10m0 : Method := { name := "<init>", desc := "()V", sig := { parameters := [], returnType := none }, accessFlags := 4, code := some k10c0 }
/-- java/util/AbstractMap -/
def k10 : Class := { plain "java/util/AbstractMap" (some 0) with
  accessFlags := 1057
  interfaces := #[9]
  cf := some (fileOf pool10 8 #[.nestMembers #[181, 183, 185, 75, 187, 66, 189]] #[{ accessFlags := 4, nameIndex := 5, descriptorIndex := 6, attributes := #[] }] 1057 2 #[53] #[{ accessFlags := 128, nameIndex := 64, descriptorIndex := 65, attributes := #[] }, { accessFlags := 128, nameIndex := 73, descriptorIndex := 74, attributes := #[] }])
  fields := #[{ name := "keySet", type := (.object "java/util/Set"), accessFlags := 128, slot := 0, constantValue := 0 }, { name := "values", type := (.object "java/util/Collection"), accessFlags := 128, slot := 1, constantValue := 0 }]
  methods := #[k10m0]
  instanceTypes := #[(.object "java/util/Set"), (.object "java/util/Collection")]
  staticTypes := #[]
  resolved := Array.replicate 196 none
  statics := none }

def pool11 : Array CpInfo := pool [(1, .class_ 2), (0, u "java/lang/Cloneable"), (0, .class_ 4), (0, u "java/lang/Object")] 2

/-- java/lang/Cloneable -/
def k11 : Class := { plain "java/lang/Cloneable" (some 0) with
  accessFlags := 1537
  interfaces := #[]
  cf := some (fileOf pool11 1 #[] #[] 1537 3 #[] #[])
  fields := #[]
  methods := #[]
  instanceTypes := #[]
  staticTypes := #[]
  resolved := Array.replicate 7 none
  statics := none }

def pool12 : Array CpInfo := pool [(40, .class_ 41), (0, u "java/util/HashMap"), (1, .methodref 44 45), (0, .class_ 46), (0, .nameAndType 47 48), (0, u "java/util/AbstractMap"), (0, u "<init>"), (0, u "()V"), (32, .fieldref 40 82), (0, .nameAndType 83 84), (0, u "loadFactor"), (0, u "F"), (5, u "threshold"), (0, u "I"), (0, .float 1061158912), (8, .class_ 103), (1, u "java/util/Map"), (0, u "size"), (2, u "table"), (0, u "[Ljava/util/HashMap$Node;"), (14, u "entrySet"), (39, .class_ 165), (1, u "java/util/HashMap$Node"), (14, .class_ 181), (0, u "java/util/HashMap$TreeNode"), (22, u "modCount"), (37, u "Ljava/util/Set;"), (0, .class_ 244), (0, u "java/util/HashMap$KeySet"), (18, .class_ 264), (0, u "java/util/HashMap$Values"), (3, .class_ 269), (0, u "java/util/HashMap$EntrySet"), (76, .class_ 348), (1, u "java/util/HashMap$UnsafeHolder"), (43, .class_ 393), (0, u "java/lang/Cloneable"), (0, .class_ 395), (0, u "java/io/Serializable"), (0, u "serialVersionUID"), (0, u "J"), (3, u "DEFAULT_INITIAL_CAPACITY"), (1, u "MAXIMUM_CAPACITY"), (0, u "DEFAULT_LOAD_FACTOR"), (0, u "TREEIFY_THRESHOLD"), (1, u "UNTREEIFY_THRESHOLD"), (1, u "MIN_TREEIFY_CAPACITY"), (186, .class_ 597), (0, u "java/util/HashMap$EntrySpliterator"), (0, .class_ 599), (0, u "java/util/HashMap$ValueSpliterator"), (0, .class_ 601), (0, u "java/util/HashMap$KeySpliterator"), (0, .class_ 603), (0, u "java/util/HashMap$HashMapSpliterator"), (0, .class_ 605), (0, u "java/util/HashMap$EntryIterator"), (0, .class_ 607), (0, u "java/util/HashMap$ValueIterator"), (0, .class_ 609), (0, u "java/util/HashMap$KeyIterator"), (0, .class_ 611), (0, u "java/util/HashMap$HashIterator")] 17

def k12c0 : Code := { maxStack := 2, maxLocals := 1, code := jdk_69_method_7_code, exceptionTable := #[], attributes := #[] }
def k12m0 : Method := { name := "<init>", desc := "()V", sig := { parameters := [], returnType := none }, accessFlags := 1, code := some k12c0 }
/-- java/util/HashMap -/
def k12 : Class := { plain "java/util/HashMap" (some 10) with
  accessFlags := 33
  interfaces := #[9, 11, 3]
  cf := some (fileOf pool12 40 #[.nestMembers #[180, 596, 598, 600, 602, 604, 606, 608, 610, 346, 268, 263, 243, 163]] #[{ accessFlags := 1, nameIndex := 47, descriptorIndex := 48, attributes := #[] }] 33 44 #[101, 392, 394] #[{ accessFlags := 26, nameIndex := 396, descriptorIndex := 397, attributes := #[] }, { accessFlags := 24, nameIndex := 401, descriptorIndex := 91, attributes := #[] }, { accessFlags := 24, nameIndex := 403, descriptorIndex := 91, attributes := #[] }, { accessFlags := 24, nameIndex := 404, descriptorIndex := 84, attributes := #[] }, { accessFlags := 24, nameIndex := 405, descriptorIndex := 91, attributes := #[] }, { accessFlags := 24, nameIndex := 407, descriptorIndex := 91, attributes := #[] }, { accessFlags := 24, nameIndex := 409, descriptorIndex := 91, attributes := #[] }, { accessFlags := 128, nameIndex := 107, descriptorIndex := 108, attributes := #[] }, { accessFlags := 128, nameIndex := 123, descriptorIndex := 242, attributes := #[] }, { accessFlags := 128, nameIndex := 104, descriptorIndex := 91, attributes := #[] }, { accessFlags := 128, nameIndex := 204, descriptorIndex := 91, attributes := #[] }, { accessFlags := 0, nameIndex := 90, descriptorIndex := 91, attributes := #[] }, { accessFlags := 16, nameIndex := 83, descriptorIndex := 84, attributes := #[] }])
  fields := #[{ name := "serialVersionUID", type := .long, accessFlags := 26, slot := 0, constantValue := 0 }, { name := "DEFAULT_INITIAL_CAPACITY", type := .int, accessFlags := 24, slot := 1, constantValue := 0 }, { name := "MAXIMUM_CAPACITY", type := .int, accessFlags := 24, slot := 2, constantValue := 0 }, { name := "DEFAULT_LOAD_FACTOR", type := .float, accessFlags := 24, slot := 3, constantValue := 0 }, { name := "TREEIFY_THRESHOLD", type := .int, accessFlags := 24, slot := 4, constantValue := 0 }, { name := "UNTREEIFY_THRESHOLD", type := .int, accessFlags := 24, slot := 5, constantValue := 0 }, { name := "MIN_TREEIFY_CAPACITY", type := .int, accessFlags := 24, slot := 6, constantValue := 0 }, { name := "table", type := (.array (.object "java/util/HashMap$Node")), accessFlags := 128, slot := 2, constantValue := 0 }, { name := "entrySet", type := (.object "java/util/Set"), accessFlags := 128, slot := 3, constantValue := 0 }, { name := "size", type := .int, accessFlags := 128, slot := 4, constantValue := 0 }, { name := "modCount", type := .int, accessFlags := 128, slot := 5, constantValue := 0 }, { name := "threshold", type := .int, accessFlags := 0, slot := 6, constantValue := 0 }, { name := "loadFactor", type := .float, accessFlags := 16, slot := 7, constantValue := 0 }]
  methods := #[k12m0]
  instanceTypes := #[(.object "java/util/Set"), (.object "java/util/Collection"), (.array (.object "java/util/HashMap$Node")), (.object "java/util/Set"), .int, .int, .int, .float]
  staticTypes := #[.long, .int, .int, .float, .int, .int, .int]
  resolved := Array.replicate 629 none
  statics := none }

def pool13 : Array CpInfo := pool [(8, .class_ 10), (1, u "java/lang/Iterable"), (24, .class_ 36), (0, u "java/lang/Object")] 25

/-- java/lang/Iterable -/
def k13 : Class := { plain "java/lang/Iterable" (some 0) with
  accessFlags := 1537
  interfaces := #[]
  cf := some (fileOf pool13 8 #[] #[] 1537 35 #[] #[])
  fields := #[]
  methods := #[]
  instanceTypes := #[]
  staticTypes := #[]
  resolved := Array.replicate 62 none
  statics := none }

def pool14 : Array CpInfo := pool [(10, .class_ 12), (1, u "java/util/Collection"), (47, .class_ 61), (0, u "java/lang/Object"), (0, .class_ 63), (0, u "java/lang/Iterable")] 51

/-- java/util/Collection -/
def k14 : Class := { plain "java/util/Collection" (some 0) with
  accessFlags := 1537
  interfaces := #[13]
  cf := some (fileOf pool14 10 #[] #[] 1537 60 #[62] #[])
  fields := #[]
  methods := #[]
  instanceTypes := #[]
  staticTypes := #[]
  resolved := Array.replicate 115 none
  statics := none }

def pool15 : Array CpInfo := pool [(1, .methodref 2 3), (0, .class_ 4), (0, .nameAndType 5 6), (0, u "java/lang/Object"), (0, u "<init>"), (0, u "()V"), (1, .class_ 10), (1, u "java/util/AbstractCollection"), (66, .class_ 78), (0, u "java/util/Collection")] 81

def k15c0 : Code := { maxStack := 1, maxLocals := 1, code := jdk_22_method_1_code, exceptionTable := #[], attributes := #[] }
def k15m0 : Method := { name := "<init>", desc := "()V", sig := { parameters := [], returnType := none }, accessFlags := 4, code := some k15c0 }
/-- java/util/AbstractCollection -/
def k15 : Class := { plain "java/util/AbstractCollection" (some 0) with
  accessFlags := 1057
  interfaces := #[14]
  cf := some (fileOf pool15 8 #[] #[{ accessFlags := 4, nameIndex := 5, descriptorIndex := 6, attributes := #[] }] 1057 2 #[77] #[])
  fields := #[]
  methods := #[k15m0]
  instanceTypes := #[]
  staticTypes := #[]
  resolved := Array.replicate 160 none
  statics := none }

def pool16 : Array CpInfo := pool [(8, .class_ 10), (1, u "java/util/SequencedCollection"), (15, .class_ 27), (0, u "java/lang/Object"), (0, .class_ 29), (0, u "java/util/Collection")] 27

/-- java/util/SequencedCollection -/
def k16 : Class := { plain "java/util/SequencedCollection" (some 0) with
  accessFlags := 1537
  interfaces := #[14]
  cf := some (fileOf pool16 8 #[] #[] 1537 26 #[28] #[])
  fields := #[]
  methods := #[]
  instanceTypes := #[]
  staticTypes := #[]
  resolved := Array.replicate 57 none
  statics := none }

def pool17 : Array CpInfo := pool [(8, .class_ 10), (1, u "java/util/List"), (92, .class_ 104), (0, u "java/lang/Object"), (15, .class_ 121), (0, u "java/util/SequencedCollection")] 129

/-- java/util/List -/
def k17 : Class := { plain "java/util/List" (some 0) with
  accessFlags := 1537
  interfaces := #[16]
  cf := some (fileOf pool17 8 #[] #[] 1537 103 #[120] #[])
  fields := #[]
  methods := #[]
  instanceTypes := #[]
  staticTypes := #[]
  resolved := Array.replicate 251 none
  statics := none }

def pool18 : Array CpInfo := pool [(1, .methodref 2 3), (0, .class_ 4), (0, .nameAndType 5 6), (0, u "java/util/AbstractCollection"), (0, u "<init>"), (0, u "()V"), (0, .fieldref 8 9), (0, .class_ 10), (0, .nameAndType 11 12), (0, u "java/util/AbstractList"), (0, u "modCount"), (0, u "I"), (64, .class_ 78), (0, u "java/util/AbstractList$Itr"), (3, .class_ 83), (0, u "java/util/AbstractList$ListItr"), (9, .class_ 94), (0, u "java/util/AbstractList$RandomAccessSubList"), (3, .class_ 99), (0, u "java/util/AbstractList$SubList"), (33, .class_ 134), (0, u "java/util/List"), (73, .class_ 209), (0, u "java/util/AbstractList$SubList$1"), (0, .class_ 211), (0, u "java/util/AbstractList$RandomAccessSpliterator")] 6

def k18c0 : Code := { maxStack := 2, maxLocals := 1, code := jdk_39_method_1_code, exceptionTable := #[], attributes := #[] }
def k18m0 : Method := { name := "<init>", desc := "()V", sig := { parameters := [], returnType := none }, accessFlags := 4, code := some k18c0 }
/-- java/util/AbstractList -/
def k18 : Class := { plain "java/util/AbstractList" (some 15) with
  accessFlags := 1057
  interfaces := #[17]
  cf := some (fileOf pool18 8 #[.nestMembers #[93, 98, 208, 210, 82, 77]] #[{ accessFlags := 4, nameIndex := 5, descriptorIndex := 6, attributes := #[] }] 1057 2 #[133] #[{ accessFlags := 132, nameIndex := 11, descriptorIndex := 12, attributes := #[] }])
  fields := #[{ name := "modCount", type := .int, accessFlags := 132, slot := 0, constantValue := 0 }]
  methods := #[k18m0]
  instanceTypes := #[.int]
  staticTypes := #[]
  resolved := Array.replicate 218 none
  statics := none }

def pool19 : Array CpInfo := pool [(1, .class_ 2), (0, u "java/util/RandomAccess"), (0, .class_ 4), (0, u "java/lang/Object")] 2

/-- java/util/RandomAccess -/
def k19 : Class := { plain "java/util/RandomAccess" (some 0) with
  accessFlags := 1537
  interfaces := #[]
  cf := some (fileOf pool19 1 #[] #[] 1537 3 #[] #[])
  fields := #[]
  methods := #[]
  instanceTypes := #[]
  staticTypes := #[]
  resolved := Array.replicate 7 none
  statics := none }

def pool20 : Array CpInfo := pool [(1, .methodref 2 3), (0, .class_ 4), (0, .nameAndType 5 6), (0, u "java/util/AbstractList"), (0, u "<init>"), (0, u "()V"), (2, .fieldref 10 11), (0, .class_ 12), (0, .nameAndType 13 14), (0, u "java/util/ArrayList"), (0, u "elementData"), (0, u "[Ljava/lang/Object;"), (2, u "EMPTY_ELEMENTDATA"), (21, .fieldref 10 40), (0, .nameAndType 41 14), (0, u "DEFAULTCAPACITY_EMPTY_ELEMENTDATA"), (6, .fieldref 10 49), (0, .nameAndType 50 51), (0, u "size"), (0, u "I"), (96, .class_ 149), (0, u "java/util/List"), (36, u "()I"), (75, .class_ 263), (0, u "java/util/ArrayList$ListItr"), (3, .class_ 268), (0, u "java/util/ArrayList$Itr"), (7, .class_ 277), (0, u "java/util/ArrayList$SubList"), (12, .class_ 291), (0, u "java/util/ArrayList$ArrayListSpliterator"), (37, .class_ 330), (0, u "java/util/RandomAccess"), (0, .class_ 332), (0, u "java/lang/Cloneable"), (0, .class_ 334), (0, u "java/io/Serializable"), (0, u "serialVersionUID"), (0, u "J"), (3, u "DEFAULT_CAPACITY"), (159, .class_ 501), (0, u "java/util/ArrayList$SubList$2"), (0, .class_ 503), (0, u "java/util/ArrayList$SubList$1")] 5

def k20c0 : Code := { maxStack := 2, maxLocals := 1, code := jdk_38_method_2_code, exceptionTable := #[], attributes := #[] }
def k20m0 : Method := { name := "<init>", desc := "()V", sig := { parameters := [], returnType := none }, accessFlags := 1, code := some k20c0 }
def k20c1 : Code := { maxStack := 1, maxLocals := 1, code := jdk_38_method_8_code, exceptionTable := #[], attributes := #[] }
def k20m1 : Method := { name := "size", desc := "()I", sig := { parameters := [], returnType := some .int }, accessFlags := 1, code := some k20c1 }
/-- java/util/ArrayList -/
def k20 : Class := { plain "java/util/ArrayList" (some 18) with
  accessFlags := 33
  interfaces := #[17, 19, 11, 3]
  cf := some (fileOf pool20 10 #[.nestMembers #[290, 276, 500, 502, 262, 267]] #[{ accessFlags := 1, nameIndex := 5, descriptorIndex := 6, attributes := #[] }, { accessFlags := 1, nameIndex := 50, descriptorIndex := 186, attributes := #[] }] 33 2 #[148, 329, 331, 333] #[{ accessFlags := 26, nameIndex := 335, descriptorIndex := 336, attributes := #[] }, { accessFlags := 26, nameIndex := 340, descriptorIndex := 51, attributes := #[] }, { accessFlags := 26, nameIndex := 17, descriptorIndex := 14, attributes := #[] }, { accessFlags := 26, nameIndex := 41, descriptorIndex := 14, attributes := #[] }, { accessFlags := 128, nameIndex := 13, descriptorIndex := 14, attributes := #[] }, { accessFlags := 2, nameIndex := 50, descriptorIndex := 51, attributes := #[] }])
  fields := #[{ name := "serialVersionUID", type := .long, accessFlags := 26, slot := 0, constantValue := 0 }, { name := "DEFAULT_CAPACITY", type := .int, accessFlags := 26, slot := 1, constantValue := 0 }, { name := "EMPTY_ELEMENTDATA", type := (.array (.object "java/lang/Object")), accessFlags := 26, slot := 2, constantValue := 0 }, { name := "DEFAULTCAPACITY_EMPTY_ELEMENTDATA", type := (.array (.object "java/lang/Object")), accessFlags := 26, slot := 3, constantValue := 0 }, { name := "elementData", type := (.array (.object "java/lang/Object")), accessFlags := 128, slot := 1, constantValue := 0 }, { name := "size", type := .int, accessFlags := 2, slot := 2, constantValue := 0 }]
  methods := #[k20m0, k20m1]
  instanceTypes := #[.int, (.array (.object "java/lang/Object")), .int]
  staticTypes := #[.long, .int, (.array (.object "java/lang/Object")), (.array (.object "java/lang/Object"))]
  resolved := Array.replicate 509 none
  statics := some 0 }

/-- the primitive byte -/
def k21 : Class := { plain "byte" none with kind := .primitive 'B', accessFlags := 0x411 }
/-- [B -/
def k22 : Class := { plain "[B" (some 0) with kind := .array 21 .byte, interfaces := #[11, 3], accessFlags := 1041 }

/-- the primitive int -/
def k23 : Class := { plain "int" none with kind := .primitive 'I', accessFlags := 0x411 }
/-- [I -/
def k24 : Class := { plain "[I" (some 0) with kind := .array 23 .int, interfaces := #[11, 3], accessFlags := 1041 }

/-- the primitive long -/
def k25 : Class := { plain "long" none with kind := .primitive 'J', accessFlags := 0x411 }
/-- [J -/
def k26 : Class := { plain "[J" (some 0) with kind := .array 25 .long, interfaces := #[11, 3], accessFlags := 1041 }

/-- [Ljava/lang/Object; -/
def k27 : Class := { plain "[Ljava/lang/Object;" (some 0) with kind := .array 0 (.object "java/lang/Object"), interfaces := #[11, 3], accessFlags := 1041 }

def heap : Heap := #[{ cls := 20, slots := #[.long 0, .int 0, .ref 1, .ref 2], vm := .statics 20 },
  { cls := 27, slots := #[], vm := .none },
  { cls := 27, slots := #[], vm := .none }]
def classes : Array Class := #[k0, k1, k2, k3, k4, k5, k6, k7, k8, k9, k10, k11, k12, k13, k14, k15, k16, k17, k18, k19, k20, k21, k22, k23, k24, k25, k26, k27]
def interned : List (Array UInt16 × Addr) := []
def slotsUsed : Nat := 4
def theMethod : MethodId := ⟨1, 3⟩
def args0 : Array Value := #[.int 3, .long 2, .long 1, .long 8, .long 9, .long 10]
def aboutOver (below : List Frame) : State where
  vm := { classes := classes, interned := interned.toArray }
  heap := heap
  slotsUsed := slotsUsed
  threads := #[{ frames := .invoking theMethod args0 :: below }]
def below0 : List Frame := [.native { method := ⟨0, 0⟩, args := #[] }]
def about1 : State := aboutOver below0
def p0 : Program := .bare "" "" ""
def e0 : Env := launch0.env 0 0 0
theorem w_frames : about1.frames = Frame.invoking theMethod args0 :: below0 := rfl
set_option maxRecDepth 65536 in
theorem w_args : argsFit about1.vm theMethod args0 = true := by decide +kernel
set_option maxRecDepth 65536 in
theorem w_heap : heapFits about1 = true := by decide +kernel
set_option maxRecDepth 65536 in
theorem w_runnable : about1.curStatus? = some .runnable := by decide +kernel
set_option maxRecDepth 65536 in
theorem w_alone : about1.alone = true := by decide +kernel
set_option maxRecDepth 65536 in
theorem w_named : about1.methodNamed? x = some theMethod := by decide +kernel
set_option maxRecDepth 65536 in
theorem w_hears : about1.hears theMethod below0 = true := by decide +kernel
set_option maxRecDepth 65536 in
theorem w_ripe : about1.ripe theMethod args0 below0 = true := by decide +kernel
theorem w_running : about1.status = .running := rfl
set_option maxRecDepth 65536 in
theorem w_room : about1.hasRoom e0.platform room_1 = true :=
  launch0.hasRoom_least _ room_1 (by decide +kernel) (by decide +kernel) (by decide +kernel) (by decide +kernel) (by decide +kernel) (by decide +kernel)
theorem allAtoms_all (ts : List Jvm.Cond) (a : Array Jvm.Value) (st : Jvm.State) : (allAtoms ts).before a st = ts.all (fun c => c.before a st) := by
  induction ts with
  | nil => rfl
  | cons c t ih =>
    show (Jvm.Cond.and c (allAtoms t)).before a st = _
    rw [Jvm.Cond.before_and, ih, List.all_cons]
def words1 : List Jvm.Cond := Jvm.Cond.code x code maxLocals ret :: tables_1
/-- a 'code' word, met by the world's own term for the bytes: nothing is compared byte by byte -/
theorem code_word {y : MethodName} {bytes : ByteArray} {mx : Nat} {rt : Option FieldType} {a : Array Value} {s : State} {m : MethodId} {meth : Method} {c : Code} (h1 : s.methodNamed? y = some m) (h2 : s.vm.method? m = some meth) (h3 : meth.code = some c) (h4 : c.code = bytes)
    (h5 : (c.maxLocals == mx && c.exceptionTable.isEmpty && decide (c.maxStack ≤ mostOperands) && decide (meth.sig.returnType = rt) && !meth.locks && decide (parseMethodDescriptor y.desc = some meth.sig)) = true) : (Jvm.Cond.code y bytes mx rt).before a s = true := by
  simp only [Bool.and_eq_true, beq_iff_eq, Bool.not_eq_true', decide_eq_true_eq] at h5
  obtain ⟨⟨⟨⟨⟨g1, g2⟩, g3⟩, g4⟩, g5⟩, g6⟩ := h5
  simp [Cond.before, Cond.holds, Cond.value, h1, h2, h3, h4, g1, g2, g3, g4, g5, g6]
def isCode : Jvm.Cond → Bool
  | .code _ _ _ _ => true
  | _ => false
theorem all_split {L : List Jvm.Cond} {P : Jvm.Cond → Bool} (h1 : L.all (fun c => isCode c || P c) = true) (h2 : ∀ c ∈ L.filter isCode, P c = true) : L.all P = true := by
  refine List.all_eq_true.mpr fun c hc => ?_
  have h := List.all_eq_true.mp h1 c hc
  rcases Bool.eq_false_or_eq_true (isCode c) with hi | hi
  · exact h2 c (List.mem_filter.mpr ⟨hc, hi⟩)
  · simpa [hi] using h
set_option maxRecDepth 65536 in
theorem w_c0 : (Jvm.Cond.code x code maxLocals ret).before args0 about1 = true := code_word (m := ⟨1, 3⟩) (meth := k1m3) (c := k1c3) (by decide +kernel) rfl rfl rfl (by decide +kernel)
set_option maxRecDepth 65536 in
theorem w_c1 : (Jvm.Cond.code ({ cls := "com/example/tidewire/tidewire/core/Account", name := "<init>", desc := "(Ljava/lang/String;[J)V" } : Jvm.MethodName) prog_1_method_1_code (3 : Nat) (Option.none : Option Jvm.ClassFile.FieldType)).before args0 about1 = true := code_word (m := ⟨2, 0⟩) (meth := k2m0) (c := k2c0) (by decide +kernel) rfl rfl rfl (by decide +kernel)
set_option maxRecDepth 65536 in
theorem w_c2 : (Jvm.Cond.code ({ cls := "java/lang/Object", name := "<init>", desc := "()V" } : Jvm.MethodName) object_method_1_code (1 : Nat) (Option.none : Option Jvm.ClassFile.FieldType)).before args0 about1 = true := code_word (m := ⟨0, 0⟩) (meth := k0m0) (c := k0c0) (by decide +kernel) rfl rfl rfl (by decide +kernel)
set_option maxRecDepth 65536 in
theorem w_c3 : (Jvm.Cond.code ({ cls := "java/util/HashMap", name := "<init>", desc := "()V" } : Jvm.MethodName) jdk_69_method_7_code (1 : Nat) (Option.none : Option Jvm.ClassFile.FieldType)).before args0 about1 = true := code_word (m := ⟨12, 0⟩) (meth := k12m0) (c := k12c0) (by decide +kernel) rfl rfl rfl (by decide +kernel)
set_option maxRecDepth 65536 in
theorem w_c4 : (Jvm.Cond.code ({ cls := "java/util/AbstractMap", name := "<init>", desc := "()V" } : Jvm.MethodName) jdk_71_method_1_code (1 : Nat) (Option.none : Option Jvm.ClassFile.FieldType)).before args0 about1 = true := code_word (m := ⟨10, 0⟩) (meth := k10m0) (c := k10c0) (by decide +kernel) rfl rfl rfl (by decide +kernel)
set_option maxRecDepth 65536 in
theorem w_c5 : (Jvm.Cond.code ({ cls := "java/util/ArrayList", name := "<init>", desc := "()V" } : Jvm.MethodName) jdk_38_method_2_code (1 : Nat) (Option.none : Option Jvm.ClassFile.FieldType)).before args0 about1 = true := code_word (m := ⟨20, 0⟩) (meth := k20m0) (c := k20c0) (by decide +kernel) rfl rfl rfl (by decide +kernel)
set_option maxRecDepth 65536 in
theorem w_c6 : (Jvm.Cond.code ({ cls := "java/util/AbstractList", name := "<init>", desc := "()V" } : Jvm.MethodName) jdk_39_method_1_code (1 : Nat) (Option.none : Option Jvm.ClassFile.FieldType)).before args0 about1 = true := code_word (m := ⟨18, 0⟩) (meth := k18m0) (c := k18c0) (by decide +kernel) rfl rfl rfl (by decide +kernel)
set_option maxRecDepth 65536 in
theorem w_c7 : (Jvm.Cond.code ({ cls := "java/util/AbstractCollection", name := "<init>", desc := "()V" } : Jvm.MethodName) jdk_22_method_1_code (1 : Nat) (Option.none : Option Jvm.ClassFile.FieldType)).before args0 about1 = true := code_word (m := ⟨15, 0⟩) (meth := k15m0) (c := k15c0) (by decide +kernel) rfl rfl rfl (by decide +kernel)
set_option maxRecDepth 65536 in
theorem w_c8 : (Jvm.Cond.code ({ cls := "com/example/tidewire/tidewire/core/Account", name := "logChangesIn", desc := "(Ljava/util/List;)V" } : Jvm.MethodName) prog_1_method_2_code (2 : Nat) (Option.none : Option Jvm.ClassFile.FieldType)).before args0 about1 = true := code_word (m := ⟨2, 1⟩) (meth := k2m1) (c := k2c1) (by decide +kernel) rfl rfl rfl (by decide +kernel)
set_option maxRecDepth 65536 in
theorem w_c9 : (Jvm.Cond.code ({ cls := "com/example/tidewire/tidewire/core/Account", name := "restoreBalance", desc := "(IJJ)V" } : Jvm.MethodName) prog_1_method_6_code (6 : Nat) (Option.none : Option Jvm.ClassFile.FieldType)).before args0 about1 = true := code_word (m := ⟨2, 4⟩) (meth := k2m4) (c := k2c4) (by decide +kernel) rfl rfl rfl (by decide +kernel)
set_option maxRecDepth 65536 in
theorem w_c10 : (Jvm.Cond.code ({ cls := "com/example/tidewire/tidewire/core/Account", name := "available", desc := "(I)J" } : Jvm.MethodName) prog_1_method_4_code (2 : Nat) (Option.some Jvm.ClassFile.FieldType.long)).before args0 about1 = true := code_word (m := ⟨2, 2⟩) (meth := k2m2) (c := k2c2) (by decide +kernel) rfl rfl rfl (by decide +kernel)
set_option maxRecDepth 65536 in
theorem w_c11 : (Jvm.Cond.code ({ cls := "com/example/tidewire/tidewire/core/AccountRestoreBalancePinLaw", name := "expAvail", desc := "(IIJJ)J" } : Jvm.MethodName) method_2_code (6 : Nat) (Option.some Jvm.ClassFile.FieldType.long)).before args0 about1 = true := code_word (m := ⟨1, 1⟩) (meth := k1m1) (c := k1c1) (by decide +kernel) rfl rfl rfl (by decide +kernel)
set_option maxRecDepth 65536 in
theorem w_c12 : (Jvm.Cond.code ({ cls := "com/example/tidewire/tidewire/core/Account", name := "locked", desc := "(I)J" } : Jvm.MethodName) prog_1_method_5_code (2 : Nat) (Option.some Jvm.ClassFile.FieldType.long)).before args0 about1 = true := code_word (m := ⟨2, 3⟩) (meth := k2m3) (c := k2c3) (by decide +kernel) rfl rfl rfl (by decide +kernel)
set_option maxRecDepth 65536 in
theorem w_c13 : (Jvm.Cond.code ({ cls := "com/example/tidewire/tidewire/core/AccountRestoreBalancePinLaw", name := "expLocked", desc := "(IIJ)J" } : Jvm.MethodName) method_3_code (4 : Nat) (Option.some Jvm.ClassFile.FieldType.long)).before args0 about1 = true := code_word (m := ⟨1, 2⟩) (meth := k1m2) (c := k1c2) (by decide +kernel) rfl rfl rfl (by decide +kernel)
set_option maxRecDepth 65536 in
theorem w_c14 : (Jvm.Cond.code ({ cls := "java/util/ArrayList", name := "size", desc := "()I" } : Jvm.MethodName) jdk_38_method_8_code (1 : Nat) (Option.some Jvm.ClassFile.FieldType.int)).before args0 about1 = true := code_word (m := ⟨20, 1⟩) (meth := k20m1) (c := k20c1) (by decide +kernel) rfl rfl rfl (by decide +kernel)
def codes1 : List Jvm.Cond := [Jvm.Cond.code x code maxLocals ret, Jvm.Cond.code ({ cls := "com/example/tidewire/tidewire/core/Account", name := "<init>", desc := "(Ljava/lang/String;[J)V" } : Jvm.MethodName) prog_1_method_1_code (3 : Nat) (Option.none : Option Jvm.ClassFile.FieldType), Jvm.Cond.code ({ cls := "java/lang/Object", name := "<init>", desc := "()V" } : Jvm.MethodName) object_method_1_code (1 : Nat) (Option.none : Option Jvm.ClassFile.FieldType), Jvm.Cond.code ({ cls := "java/util/HashMap", name := "<init>", desc := "()V" } : Jvm.MethodName) jdk_69_method_7_code (1 : Nat) (Option.none : Option Jvm.ClassFile.FieldType), Jvm.Cond.code ({ cls := "java/util/AbstractMap", name := "<init>", desc := "()V" } : Jvm.MethodName) jdk_71_method_1_code (1 : Nat) (Option.none : Option Jvm.ClassFile.FieldType), Jvm.Cond.code ({ cls := "java/util/ArrayList", name := "<init>", desc := "()V" } : Jvm.MethodName) jdk_38_method_2_code (1 : Nat) (Option.none : Option Jvm.ClassFile.FieldType), Jvm.Cond.code ({ cls := "java/util/AbstractList", name := "<init>", desc := "()V" } : Jvm.MethodName) jdk_39_method_1_code (1 : Nat) (Option.none : Option Jvm.ClassFile.FieldType), Jvm.Cond.code ({ cls := "java/util/AbstractCollection", name := "<init>", desc := "()V" } : Jvm.MethodName) jdk_22_method_1_code (1 : Nat) (Option.none : Option Jvm.ClassFile.FieldType), Jvm.Cond.code ({ cls := "com/example/tidewire/tidewire/core/Account", name := "logChangesIn", desc := "(Ljava/util/List;)V" } : Jvm.MethodName) prog_1_method_2_code (2 : Nat) (Option.none : Option Jvm.ClassFile.FieldType), Jvm.Cond.code ({ cls := "com/example/tidewire/tidewire/core/Account", name := "restoreBalance", desc := "(IJJ)V" } : Jvm.MethodName) prog_1_method_6_code (6 : Nat) (Option.none : Option Jvm.ClassFile.FieldType), Jvm.Cond.code ({ cls := "com/example/tidewire/tidewire/core/Account", name := "available", desc := "(I)J" } : Jvm.MethodName) prog_1_method_4_code (2 : Nat) (Option.some Jvm.ClassFile.FieldType.long), Jvm.Cond.code ({ cls := "com/example/tidewire/tidewire/core/AccountRestoreBalancePinLaw", name := "expAvail", desc := "(IIJJ)J" } : Jvm.MethodName) method_2_code (6 : Nat) (Option.some Jvm.ClassFile.FieldType.long), Jvm.Cond.code ({ cls := "com/example/tidewire/tidewire/core/Account", name := "locked", desc := "(I)J" } : Jvm.MethodName) prog_1_method_5_code (2 : Nat) (Option.some Jvm.ClassFile.FieldType.long), Jvm.Cond.code ({ cls := "com/example/tidewire/tidewire/core/AccountRestoreBalancePinLaw", name := "expLocked", desc := "(IIJ)J" } : Jvm.MethodName) method_3_code (4 : Nat) (Option.some Jvm.ClassFile.FieldType.long), Jvm.Cond.code ({ cls := "java/util/ArrayList", name := "size", desc := "()I" } : Jvm.MethodName) jdk_38_method_8_code (1 : Nat) (Option.some Jvm.ClassFile.FieldType.int)]
set_option maxRecDepth 65536 in
theorem codes_eq : words1.filter isCode = codes1 := rfl
theorem w_codes : ∀ c ∈ words1.filter isCode, c.before args0 about1 = true := by
  rw [codes_eq]
  intro c hc
  simp only [codes1, List.mem_cons, List.not_mem_nil, or_false] at hc
  rcases hc with rfl | rfl | rfl | rfl | rfl | rfl | rfl | rfl | rfl | rfl | rfl | rfl | rfl | rfl | rfl
  · exact w_c0
  · exact w_c1
  · exact w_c2
  · exact w_c3
  · exact w_c4
  · exact w_c5
  · exact w_c6
  · exact w_c7
  · exact w_c8
  · exact w_c9
  · exact w_c10
  · exact w_c11
  · exact w_c12
  · exact w_c13
  · exact w_c14
set_option maxRecDepth 65536 in
theorem w_t1 : (words1.take 24).all (fun c => isCode c || c.before args0 about1) = true := by decide +kernel
set_option maxRecDepth 65536 in
theorem w_t2 : ((words1.drop 24).take 24).all (fun c => isCode c || c.before args0 about1) = true := by decide +kernel
set_option maxRecDepth 65536 in
theorem w_t3 : (((words1.drop 24).drop 24).take 24).all (fun c => isCode c || c.before args0 about1) = true := by decide +kernel
set_option maxRecDepth 65536 in
theorem w_t4 : ((((words1.drop 24).drop 24).drop 24).take 24).all (fun c => isCode c || c.before args0 about1) = true := by decide +kernel
set_option maxRecDepth 65536 in
theorem w_t5 : (((((words1.drop 24).drop 24).drop 24).drop 24).take 24).all (fun c => isCode c || c.before args0 about1) = true := by decide +kernel
set_option maxRecDepth 65536 in
theorem w_t6 : (((((words1.drop 24).drop 24).drop 24).drop 24).drop 24).all (fun c => isCode c || c.before args0 about1) = true := by decide +kernel
theorem w_tables : (allAtoms (Jvm.Cond.code x code maxLocals ret :: tables_1)).before args0 about1 = true := by
  rw [allAtoms_all]
  show words1.all (fun c => c.before args0 about1) = true
  refine all_split ?_ w_codes
  rw [← List.take_append_drop 24 words1, List.all_append, w_t1, ← List.take_append_drop 24 (words1.drop 24), List.all_append, w_t2, ← List.take_append_drop 24 ((words1.drop 24).drop 24), List.all_append, w_t3, ← List.take_append_drop 24 (((words1.drop 24).drop 24).drop 24), List.all_append, w_t4, ← List.take_append_drop 24 ((((words1.drop 24).drop 24).drop 24).drop 24), List.all_append, w_t5, w_t6]
  rfl
set_option maxRecDepth 65536 in
theorem w_rest : rest_1_c.before args0 about1 = true := by decide +kernel
set_option maxRecDepth 65536 in
theorem w_case : (Jvm.Cond.and given_1 narrow_1).before args0 about1 = true := by decide +kernel
theorem w_applies : (headSpec (Jvm.Cond.code x code maxLocals ret :: tables_1) room_1).applies x e0.platform about1 = true :=
  (Spec.applies_iff w_frames).mpr ⟨w_running, w_runnable, w_alone, w_named, w_hears, w_ripe, w_room, w_tables⟩
theorem atStart : AtStart classFile x code maxLocals ret World_1 tables_1 room_1 Calls_1 rest_1 Pre_1 launch0 p0 e0 about1 theMethod args0 below0 :=
  ⟨lists_1, trivial, launch0.admits_env _ _ _, launch0.least_env, fairChoices_fair.cas, fairChoices_fair.clock, w_frames, w_args, w_heap, w_applies, trivial, w_rest, w_case⟩
end start1
theorem witness_1 : WitnessClaimed_1 := ⟨start1.p0, start1.e0, start1.about1, start1.theMethod, start1.args0, start1.below0, start1.atStart⟩
end Jvm.Pilot.@@N@@
