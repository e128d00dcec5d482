import JvmDerived
import JvmDerived.Pilot.@@N@@Statement
import JvmDerived.Pilot.@@N@@Code
set_option linter.unusedVariables false
set_option linter.unusedSimpArgs false
namespace Jvm.RoadKit
open Sem ClassFile Op Lib Jvm.Stand Jvm.Free Jvm.LawKit
section Own
/-- the walk comes to its end from here: it returns, what it returns and the heap are as Q says, nothing old is written -/
def End (Z : State) (p : Program) (e : Env) (below : List Frame) (s : State) (Q : Option Value → Heap → Prop) (kc ks : Nat) (T : State) (g : JFrame) : Prop :=
  ∃ s₂ o, Steps p.tables e below (T.setTop g) s₂ ∧ s₂.status = .running ∧ Ended s₂ below o ∧ ∃ v L, o = .returned v ∧ (Fr Z.heap.size L ∧ Ext Z.heap s₂.heap ∧ Q v s₂.heap) ∧ FrameEnd s o s₂ L kc ks
/-- where the walk stands, with all that is fixed in a body -/
def Sd (l : Launch) (Z : State) (own nm : String) (bytes : ByteArray) (ml : Nat) (ret : Option FieldType) (R : Room) (p : Program) (e : Env) (s : State) (m : MethodId) (args : Array Value) (below : List Frame) (T : State) (h : Heap) (cells slots : Nat) : Prop :=
  ∃ (meth : Method) (c : Code) (locs : List Loc), Stand p l e R s m args below meth c T locs cells slots ∧ Fr Z.heap.size locs ∧ T.heap = h ∧ Ext Z.heap h ∧ p.tables.exec = Jvm.exec ∧ c.code = bytes ∧ c.maxLocals = ml ∧ s.vm.findClass own = some m.cls ∧ meth.name = nm ∧ meth.sig.returnType = ret ∧ meth.locks = false ∧ Z.Warmed39 s.vm
/-- a contract: called with these arguments over the heap h0 the body returns, as Q says -/
def Con (l : Launch) (Z : State) (y : MethodName) (bytes : ByteArray) (ml : Nat) (ret : Option FieldType) (rm : Room) (as : Array Value) (h0 : Heap) (Q : Option Value → Heap → Prop) : Prop :=
  ∀ ws : List Jvm.Cond, MetFree l y (head1 (Jvm.Cond.code y bytes ml ret :: ws) rm) (fun a U => a = as ∧ Z.Warmed39 U.vm ∧ U.heap = h0) (fun _ _ _ _ _ => True) (fun _ U o U' => ∃ v L, o = .returned v ∧ (Fr Z.heap.size L ∧ Ext Z.heap U'.heap ∧ Q v U'.heap) ∧ FrameEnd U o U' L rm.cells rm.slots)
theorem Ext.refl (h : Heap) : Ext h h := ⟨Nat.le_refl _, fun _ _ q => q⟩
theorem Ext.trans {h h' h'' : Heap} (E : Ext h h') (E' : Ext h' h'') : Ext h h'' := ⟨Nat.le_trans E.1 E'.1, fun a c q => E'.2 a c (E.2 a c q)⟩
theorem Ext.keep {h0 h h' : Heap} {ws : List Addr} (E : Ext h0 h) (K : Keep h h' ws) (q : ∀ x ∈ ws, h0.size ≤ x) : Ext h0 h' := ⟨Nat.le_trans E.1 K.1, fun x c r => K.2.1 x c (E.2 x c r) fun z => absurd (Array.getElem?_eq_some_iff.mp r).1 (Nat.not_lt.mpr (q x z))⟩
theorem Ext.wr {h0 h h' : Heap} {a : Addr} {sl : Nat} {v : Value} (E : Ext h0 h) (W : Wr h h' a sl v) (q : h0.size ≤ a) : Ext h0 h' := E.keep (Keep.of_wr W) (allS q all0)
theorem Keep.of_ext {h h' : Heap} (E : Ext h h') (ws : List Addr) : Keep h h' ws := (Keep.refl h ws).ext E
theorem Keep.ext0 {h h' : Heap} (K : Keep h h' []) : Ext h h' := ⟨K.1, fun x c q => K.2.1 x c q nin0⟩
theorem Keep.sub {h h' : Heap} {ws ws' : List Addr} (K : Keep h h' ws) (q : ∀ x ∈ ws, x ∈ ws') : Keep h h' ws' := ⟨K.1, fun x c r n => K.2.1 x c r fun z => n (q x z), K.2.2⟩
theorem Con.of {l : Launch} {Z : State} {y : MethodName} {bytes : ByteArray} {ml : Nat} {ret : Option FieldType} {rm : Room} {as : Array Value} {h0 : Heap} {Q : Option Value → Heap → Prop} (pn : plainFor y = true) (hE : Ext Z.heap h0)
    (body : ∀ (p : Program) (e : Env) (s : State) (m : MethodId) (below : List Frame) (T : State), Sd l Z y.cls y.name bytes ml ret rm p e s m as below T h0 0 0 → End Z p e below s Q rm.cells rm.slots T (entryFrame m as ml)) : Con l Z y bytes ml ret rm as h0 Q := by
  intro ws
  refine MetFree.of_bodySF pn hisR ?_
  intro p e s m args below meth c s₁ Bd hml hP hK
  obtain ⟨rfl, hZ, hh⟩ := hP
  have X : Stand p l e rm s m args below meth c s₁ [] 0 0 := Stand.of_body Bd
  have e0 : s₁.heap = h0 := by rw [← hh, Bd.state]; rfl
  exact body p e s m below s₁ ⟨meth, c, [], X, Fr.nil _, e0, hE, Bd.exec, Bd.bytes, hml, findClass_of_methodNamed Bd.named, (name_of_methodNamed Bd.named Bd.method).1, Bd.returns, Bd.notSynchronized, hZ⟩
variable {l : Launch} {Z : State} {own nm : String} {bytes : ByteArray} {ml : Nat} {ret : Option FieldType} {R : Room} {p : Program} {e : Env} {s : State} {m : MethodId} {args : Array Value} {below : List Frame} {T : State} {h : Heap} {cells slots : Nat} {Q : Option Value → Heap → Prop} {kc ks : Nat} {pc pc' : Nat} {Ls : Array Slot} {st : List Value} {a0 : Array Value}
theorem End.go {T' : State} {g g' : JFrame} (k : End Z p e below s Q kc ks T' g') (stp : ∀ target, Steps p.tables e below (T'.setTop g') target → Steps p.tables e below (T.setTop g) target) : End Z p e below s Q kc ks T g := by
  obtain ⟨s2, o, h1, h2⟩ := k
  exact ⟨s2, o, stp _ h1, h2⟩
theorem End.frame {g g' : JFrame} (q : g = g') (k : End Z p e below s Q kc ks T g') : End Z p e below s Q kc ks T g := q ▸ k
theorem End.of {Q' : Option Value → Heap → Prop} {g : JFrame} (k : End Z p e below s Q kc ks T g) (q : ∀ v h, Q v h → Q' v h) : End Z p e below s Q' kc ks T g := by
  obtain ⟨s2, o, h1, h2, h3, v, L, h4, ⟨h5, h6, h7⟩, h8⟩ := k
  exact ⟨s2, o, h1, h2, h3, v, L, h4, ⟨h5, h6, q _ _ h7⟩, h8⟩
theorem Con.imp {y : MethodName} {rm : Room} {as : Array Value} {h0 : Heap} {Q' : Option Value → Heap → Prop} (C : Con l Z y bytes ml ret rm as h0 Q) (q : ∀ v h, Q v h → Q' v h) : Con l Z y bytes ml ret rm as h0 Q' := by
  intro ws p e ha hc hk s m args below hf happ hP hK
  obtain ⟨n, o, h1, h2, h3, v, L, h4, ⟨h5, h6, h7⟩, h8⟩ := C ws p e ha hc hk s m args below hf happ hP hK
  exact ⟨n, o, h1, h2, h3, v, L, h4, ⟨h5, h6, q _ _ h7⟩, h8⟩
theorem Sd.ext (X : Sd l Z own nm bytes ml ret R p e s m args below T h cells slots) : Ext Z.heap h := by obtain ⟨meth, c, locs, X, N, e0, E, -⟩ := X; exact E
theorem Sd.le (X : Sd l Z own nm bytes ml ret R p e s m args below T h cells slots) : Z.heap.size ≤ h.size := X.ext.1
theorem Sd.more (X : Sd l Z own nm bytes ml ret R p e s m args below T h cells slots) {cells' slots' : Nat} (h1 : cells ≤ cells') (h2 : slots ≤ slots') : Sd l Z own nm bytes ml ret R p e s m args below T h cells' slots' := by
  obtain ⟨meth, c, locs, X, r⟩ := X; exact ⟨meth, c, locs, X.more h1 h2, r⟩
/-! returns -/
theorem E_ret0 (X : Sd l Z own nm bytes ml none R p e s m args below T h cells slots) (hd : decode bytes pc = .ok (.return_, 1)) (h1 : cells ≤ kc) (h2 : slots ≤ ks) (hq : Q none h) : End Z p e below s Q kc ks T (mkF m pc Ls []) := by
  obtain ⟨meth, c, locs, X, N, e0, E, hx, hb, hml, hown, hnm, hret, hlk, hZ⟩ := X
  subst hb
  obtain ⟨fs, hr, hrun, hended, hW, hsame⟩ := X.leave (v := none) (fun _ => rfl)
  exact ⟨_, _, X.returnOut hx hret hd hr, hrun, hended, _, _, rfl, ⟨N, by show Ext Z.heap T.heap; rw [e0]; exact E, by show Q none T.heap; rw [e0]; exact hq⟩, ⟨_, rfl⟩, hW, hsame.mono h1 h2⟩
theorem E_retW {t : FieldType} {w : Value} {i : Instr} (hn : narrow t w = w) (hi : (i = .ireturn ∧ (t = .int ∨ t = .boolean ∨ t = .byte ∨ t = .char ∨ t = .short) ∧ ∃ z, w = .int z) ∨ (i = .lreturn ∧ t = .long ∧ ∃ z, w = .long z) ∨ (i = .dreturn ∧ t = .double ∧ ∃ z, w = .double z) ∨ (i = .freturn ∧ t = .float ∧ ∃ z, w = .float z) ∨ (i = .areturn ∧ t.isReference = true ∧ w.isRef = true))
    (X : Sd l Z own nm bytes ml (some t) R p e s m args below T h cells slots) (hd : decode bytes pc = .ok (i, 1)) (h1 : cells ≤ kc) (h2 : slots ≤ ks) (hq : Q (some w) h) : End Z p e below s Q kc ks T (mkF m pc Ls (w :: st)) := by
  obtain ⟨meth, c, locs, X, N, e0, E, hx, hb, hml, hown, hnm, hret, hlk, hZ⟩ := X
  subst hb
  obtain ⟨fs, hr, hrun, hended, hW, hsame⟩ := X.leave (v := some w) (fun h => by rw [hret] at h; cases h)
  exact ⟨_, _, retOut X hx hret hn hi hd hr, hrun, hended, _, _, rfl, ⟨N, by show Ext Z.heap T.heap; rw [e0]; exact E, by show Q (some w) T.heap; rw [e0]; exact hq⟩, ⟨_, rfl⟩, hW, hsame.mono h1 h2⟩
theorem E_retI {z : Int32} (X : Sd l Z own nm bytes ml (some .int) R p e s m args below T h cells slots) (hd : decode bytes pc = .ok (.ireturn, 1)) (h1 : cells ≤ kc) (h2 : slots ≤ ks) (hq : Q (some (.int z)) h) : End Z p e below s Q kc ks T (mkF m pc Ls (.int z :: st)) :=
  E_retW (t := .int) rfl (Or.inl ⟨rfl, Or.inl rfl, z, rfl⟩) X hd h1 h2 hq
theorem E_retL {z : Int64} (X : Sd l Z own nm bytes ml (some .long) R p e s m args below T h cells slots) (hd : decode bytes pc = .ok (.lreturn, 1)) (h1 : cells ≤ kc) (h2 : slots ≤ ks) (hq : Q (some (.long z)) h) : End Z p e below s Q kc ks T (mkF m pc Ls (.long z :: st)) :=
  E_retW (t := .long) rfl (Or.inr (Or.inl ⟨rfl, rfl, z, rfl⟩)) X hd h1 h2 hq
theorem E_retA {t : FieldType} {w : Value} (X : Sd l Z own nm bytes ml (some t) R p e s m args below T h cells slots) (hd : decode bytes pc = .ok (.areturn, 1)) (ht : t.isReference = true) (hw : w.isRef = true) (h1 : cells ≤ kc) (h2 : slots ≤ ks) (hq : Q (some w) h) : End Z p e below s Q kc ks T (mkF m pc Ls (w :: st)) :=
  E_retW (by rcases ref_cases hw with rfl | ⟨a, rfl⟩ <;> (cases t <;> first | rfl | (simp [FieldType.isReference] at ht))) (Or.inr (Or.inr (Or.inr (Or.inr ⟨rfl, ht, hw⟩)))) X hd h1 h2 hq
theorem E_retZ {z : Int32} (hz : z = 0 ∨ z = 1) (X : Sd l Z own nm bytes ml (some .boolean) R p e s m args below T h cells slots) (hd : decode bytes pc = .ok (.ireturn, 1)) (h1 : cells ≤ kc) (h2 : slots ≤ ks) (hq : Q (some (.int z)) h) : End Z p e below s Q kc ks T (mkF m pc Ls (.int z :: st)) :=
  E_retW (t := .boolean) (by rcases hz with rfl | rfl <;> rfl) (Or.inl ⟨rfl, Or.inr (Or.inl rfl), z, rfl⟩) X hd h1 h2 hq
theorem E_iloadN (X : Sd l Z own nm bytes ml ret R p e s m args below T h cells slots) {i : Fin 4} {v : Int32} (hd : decode bytes pc = .ok (.iload_n i, 1)) (hp : pc + 1 = pc') (hl : Ls[i.val]? = some (.val (.int v))) (k : End Z p e below s Q kc ks T (mkF m pc' Ls (.int v :: st))) : End Z p e below s Q kc ks T (mkF m pc Ls st) := by
  subst hp; obtain ⟨meth, c, locs, X, -, -, -, hx, hb, -⟩ := X; subst hb
  exact k.go fun _ => XS.iloadN X.here hx (g := mkF m pc Ls st) rfl hd hl
theorem E_iload (X : Sd l Z own nm bytes ml ret R p e s m args below T h cells slots) {i : Nat} {v : Int32} (hd : decode bytes pc = .ok (.iload i, 2)) (hp : pc + 2 = pc') (hl : Ls[i]? = some (.val (.int v))) (k : End Z p e below s Q kc ks T (mkF m pc' Ls (.int v :: st))) : End Z p e below s Q kc ks T (mkF m pc Ls st) := by
  subst hp; obtain ⟨meth, c, locs, X, -, -, -, hx, hb, -⟩ := X; subst hb
  exact k.go fun _ => XS.iload X.here hx (g := mkF m pc Ls st) rfl hd hl
theorem E_istoreN (X : Sd l Z own nm bytes ml ret R p e s m args below T h cells slots) {i : Fin 4} {v : Int32} {Ls' : Array Slot} (hd : decode bytes pc = .ok (.istore_n i, 1)) (hp : pc + 1 = pc') (hl : storeLocals Ls i.val (.int v) = some Ls') (k : End Z p e below s Q kc ks T (mkF m pc' Ls' st)) : End Z p e below s Q kc ks T (mkF m pc Ls (.int v :: st)) := by
  subst hp; obtain ⟨meth, c, locs, X, -, -, -, hx, hb, -⟩ := X; subst hb
  exact k.go fun _ => XS.istoreN X.here hx (g := mkF m pc Ls (.int v :: st)) rfl hd rfl hl
theorem E_istore (X : Sd l Z own nm bytes ml ret R p e s m args below T h cells slots) {i : Nat} {v : Int32} {Ls' : Array Slot} (hd : decode bytes pc = .ok (.istore i, 2)) (hp : pc + 2 = pc') (hl : storeLocals Ls i (.int v) = some Ls') (k : End Z p e below s Q kc ks T (mkF m pc' Ls' st)) : End Z p e below s Q kc ks T (mkF m pc Ls (.int v :: st)) := by
  subst hp; obtain ⟨meth, c, locs, X, -, -, -, hx, hb, -⟩ := X; subst hb
  exact k.go fun _ => XS.istore X.here hx (g := mkF m pc Ls (.int v :: st)) rfl hd rfl hl
theorem E_lloadN (X : Sd l Z own nm bytes ml ret R p e s m args below T h cells slots) {i : Fin 4} {v : Int64} (hd : decode bytes pc = .ok (.lload_n i, 1)) (hp : pc + 1 = pc') (hl : Ls[i.val]? = some (.val (.long v))) (k : End Z p e below s Q kc ks T (mkF m pc' Ls (.long v :: st))) : End Z p e below s Q kc ks T (mkF m pc Ls st) := by
  subst hp; obtain ⟨meth, c, locs, X, -, -, -, hx, hb, -⟩ := X; subst hb
  exact k.go fun _ => XS.lloadN X.here hx (g := mkF m pc Ls st) rfl hd hl
theorem E_lload (X : Sd l Z own nm bytes ml ret R p e s m args below T h cells slots) {i : Nat} {v : Int64} (hd : decode bytes pc = .ok (.lload i, 2)) (hp : pc + 2 = pc') (hl : Ls[i]? = some (.val (.long v))) (k : End Z p e below s Q kc ks T (mkF m pc' Ls (.long v :: st))) : End Z p e below s Q kc ks T (mkF m pc Ls st) := by
  subst hp; obtain ⟨meth, c, locs, X, -, -, -, hx, hb, -⟩ := X; subst hb
  exact k.go fun _ => XS.lload X.here hx (g := mkF m pc Ls st) rfl hd hl
theorem E_lstoreN (X : Sd l Z own nm bytes ml ret R p e s m args below T h cells slots) {i : Fin 4} {v : Int64} {Ls' : Array Slot} (hd : decode bytes pc = .ok (.lstore_n i, 1)) (hp : pc + 1 = pc') (hl : storeLocals Ls i.val (.long v) = some Ls') (k : End Z p e below s Q kc ks T (mkF m pc' Ls' st)) : End Z p e below s Q kc ks T (mkF m pc Ls (.long v :: st)) := by
  subst hp; obtain ⟨meth, c, locs, X, -, -, -, hx, hb, -⟩ := X; subst hb
  exact k.go fun _ => XS.lstoreN X.here hx (g := mkF m pc Ls (.long v :: st)) rfl hd rfl hl
theorem E_lstore (X : Sd l Z own nm bytes ml ret R p e s m args below T h cells slots) {i : Nat} {v : Int64} {Ls' : Array Slot} (hd : decode bytes pc = .ok (.lstore i, 2)) (hp : pc + 2 = pc') (hl : storeLocals Ls i (.long v) = some Ls') (k : End Z p e below s Q kc ks T (mkF m pc' Ls' st)) : End Z p e below s Q kc ks T (mkF m pc Ls (.long v :: st)) := by
  subst hp; obtain ⟨meth, c, locs, X, -, -, -, hx, hb, -⟩ := X; subst hb
  exact k.go fun _ => XS.lstore X.here hx (g := mkF m pc Ls (.long v :: st)) rfl hd rfl hl
theorem E_aloadN (X : Sd l Z own nm bytes ml ret R p e s m args below T h cells slots) {i : Fin 4} {v : Value} (hd : decode bytes pc = .ok (.aload_n i, 1)) (hp : pc + 1 = pc') (hl : Ls[i.val]? = some (.val v)) (hv : v.isRef = true) (k : End Z p e below s Q kc ks T (mkF m pc' Ls (v :: st))) : End Z p e below s Q kc ks T (mkF m pc Ls st) := by
  subst hp; obtain ⟨meth, c, locs, X, -, -, -, hx, hb, -⟩ := X; subst hb
  exact k.go fun _ => XS.aloadN X.here hx (g := mkF m pc Ls st) rfl hd hl hv
theorem E_aload (X : Sd l Z own nm bytes ml ret R p e s m args below T h cells slots) {i : Nat} {v : Value} (hd : decode bytes pc = .ok (.aload i, 2)) (hp : pc + 2 = pc') (hl : Ls[i]? = some (.val v)) (hv : v.isRef = true) (k : End Z p e below s Q kc ks T (mkF m pc' Ls (v :: st))) : End Z p e below s Q kc ks T (mkF m pc Ls st) := by
  subst hp; obtain ⟨meth, c, locs, X, -, -, -, hx, hb, -⟩ := X; subst hb
  exact k.go fun _ => XS.aload X.here hx (g := mkF m pc Ls st) rfl hd hl hv
theorem E_astoreN (X : Sd l Z own nm bytes ml ret R p e s m args below T h cells slots) {i : Fin 4} {v : Value} {Ls' : Array Slot} (hd : decode bytes pc = .ok (.astore_n i, 1)) (hp : pc + 1 = pc') (hv : v.isRef = true) (hl : storeLocals Ls i.val v = some Ls') (k : End Z p e below s Q kc ks T (mkF m pc' Ls' st)) : End Z p e below s Q kc ks T (mkF m pc Ls (v :: st)) := by
  subst hp; obtain ⟨meth, c, locs, X, -, -, -, hx, hb, -⟩ := X; subst hb
  exact k.go fun _ => XS.astoreN X.here hx (g := mkF m pc Ls (v :: st)) rfl hd rfl hv hl
theorem E_astore (X : Sd l Z own nm bytes ml ret R p e s m args below T h cells slots) {i : Nat} {v : Value} {Ls' : Array Slot} (hd : decode bytes pc = .ok (.astore i, 2)) (hp : pc + 2 = pc') (hv : v.isRef = true) (hl : storeLocals Ls i v = some Ls') (k : End Z p e below s Q kc ks T (mkF m pc' Ls' st)) : End Z p e below s Q kc ks T (mkF m pc Ls (v :: st)) := by
  subst hp; obtain ⟨meth, c, locs, X, -, -, -, hx, hb, -⟩ := X; subst hb
  exact k.go fun _ => XS.astore X.here hx (g := mkF m pc Ls (v :: st)) rfl hd rfl hv hl
theorem E_iconst (X : Sd l Z own nm bytes ml ret R p e s m args below T h cells slots) {i : Int} {v : Int32} (hd : decode bytes pc = .ok (.iconst i, 1)) (hp : pc + 1 = pc') (hv : Int32.ofInt i = v) (k : End Z p e below s Q kc ks T (mkF m pc' Ls (.int v :: st))) : End Z p e below s Q kc ks T (mkF m pc Ls st) := by
  subst hp; obtain ⟨meth, c, locs, X, -, -, -, hx, hb, -⟩ := X; subst hb
  exact k.go fun _ => by subst hv; exact XS.iconst X.here hx (g := mkF m pc Ls st) rfl hd
theorem E_bipush (X : Sd l Z own nm bytes ml ret R p e s m args below T h cells slots) {i : Int} {v : Int32} (hd : decode bytes pc = .ok (.bipush i, 2)) (hp : pc + 2 = pc') (hv : (Int8.ofInt i).toInt32 = v) (k : End Z p e below s Q kc ks T (mkF m pc' Ls (.int v :: st))) : End Z p e below s Q kc ks T (mkF m pc Ls st) := by
  subst hp; obtain ⟨meth, c, locs, X, -, -, -, hx, hb, -⟩ := X; subst hb
  exact k.go fun _ => by subst hv; exact XS.bipush X.here hx (g := mkF m pc Ls st) rfl hd
theorem E_sipush (X : Sd l Z own nm bytes ml ret R p e s m args below T h cells slots) {i : Int} {v : Int32} (hd : decode bytes pc = .ok (.sipush i, 3)) (hp : pc + 3 = pc') (hv : (Int16.ofInt i).toInt32 = v) (k : End Z p e below s Q kc ks T (mkF m pc' Ls (.int v :: st))) : End Z p e below s Q kc ks T (mkF m pc Ls st) := by
  subst hp; obtain ⟨meth, c, locs, X, -, -, -, hx, hb, -⟩ := X; subst hb
  exact k.go fun _ => by subst hv; exact XS.sipush X.here hx (g := mkF m pc Ls st) rfl hd
theorem E_lconst (X : Sd l Z own nm bytes ml ret R p e s m args below T h cells slots) {i : Fin 2} {v : Int64} (hd : decode bytes pc = .ok (.lconst i, 1)) (hp : pc + 1 = pc') (hv : Int64.ofNat i = v) (k : End Z p e below s Q kc ks T (mkF m pc' Ls (.long v :: st))) : End Z p e below s Q kc ks T (mkF m pc Ls st) := by
  subst hp; obtain ⟨meth, c, locs, X, -, -, -, hx, hb, -⟩ := X; subst hb
  exact k.go fun _ => by subst hv; exact XS.lconst X.here hx (g := mkF m pc Ls st) rfl hd
theorem E_null (X : Sd l Z own nm bytes ml ret R p e s m args below T h cells slots)  (hd : decode bytes pc = .ok (.aconst_null, 1)) (hp : pc + 1 = pc') (k : End Z p e below s Q kc ks T (mkF m pc' Ls (.null :: st))) : End Z p e below s Q kc ks T (mkF m pc Ls st) := by
  subst hp; obtain ⟨meth, c, locs, X, -, -, -, hx, hb, -⟩ := X; subst hb
  exact k.go fun _ => XS.aconstNull X.here hx (g := mkF m pc Ls st) rfl hd
theorem E_iadd (X : Sd l Z own nm bytes ml ret R p e s m args below T h cells slots) {x y : Int32} (hd : decode bytes pc = .ok (.iadd, 1)) (hp : pc + 1 = pc') (k : End Z p e below s Q kc ks T (mkF m pc' Ls (.int (x + y) :: st))) : End Z p e below s Q kc ks T (mkF m pc Ls (.int y :: .int x :: st)) := by
  subst hp; obtain ⟨meth, c, locs, X, -, -, -, hx, hb, -⟩ := X; subst hb
  exact k.go fun _ => XS.iadd X.here hx (g := mkF m pc Ls (.int y :: .int x :: st)) rfl hd rfl
theorem E_isub (X : Sd l Z own nm bytes ml ret R p e s m args below T h cells slots) {x y : Int32} (hd : decode bytes pc = .ok (.isub, 1)) (hp : pc + 1 = pc') (k : End Z p e below s Q kc ks T (mkF m pc' Ls (.int (x - y) :: st))) : End Z p e below s Q kc ks T (mkF m pc Ls (.int y :: .int x :: st)) := by
  subst hp; obtain ⟨meth, c, locs, X, -, -, -, hx, hb, -⟩ := X; subst hb
  exact k.go fun _ => XS.isub X.here hx (g := mkF m pc Ls (.int y :: .int x :: st)) rfl hd rfl
theorem E_imul (X : Sd l Z own nm bytes ml ret R p e s m args below T h cells slots) {x y : Int32} (hd : decode bytes pc = .ok (.imul, 1)) (hp : pc + 1 = pc') (k : End Z p e below s Q kc ks T (mkF m pc' Ls (.int (x * y) :: st))) : End Z p e below s Q kc ks T (mkF m pc Ls (.int y :: .int x :: st)) := by
  subst hp; obtain ⟨meth, c, locs, X, -, -, -, hx, hb, -⟩ := X; subst hb
  exact k.go fun _ => XS.imul X.here hx (g := mkF m pc Ls (.int y :: .int x :: st)) rfl hd rfl
theorem E_iand (X : Sd l Z own nm bytes ml ret R p e s m args below T h cells slots) {x y : Int32} (hd : decode bytes pc = .ok (.iand, 1)) (hp : pc + 1 = pc') (k : End Z p e below s Q kc ks T (mkF m pc' Ls (.int (x &&& y) :: st))) : End Z p e below s Q kc ks T (mkF m pc Ls (.int y :: .int x :: st)) := by
  subst hp; obtain ⟨meth, c, locs, X, -, -, -, hx, hb, -⟩ := X; subst hb
  exact k.go fun _ => XS.iand X.here hx (g := mkF m pc Ls (.int y :: .int x :: st)) rfl hd rfl
theorem E_ior (X : Sd l Z own nm bytes ml ret R p e s m args below T h cells slots) {x y : Int32} (hd : decode bytes pc = .ok (.ior, 1)) (hp : pc + 1 = pc') (k : End Z p e below s Q kc ks T (mkF m pc' Ls (.int (x ||| y) :: st))) : End Z p e below s Q kc ks T (mkF m pc Ls (.int y :: .int x :: st)) := by
  subst hp; obtain ⟨meth, c, locs, X, -, -, -, hx, hb, -⟩ := X; subst hb
  exact k.go fun _ => XS.ior X.here hx (g := mkF m pc Ls (.int y :: .int x :: st)) rfl hd rfl
theorem E_ixor (X : Sd l Z own nm bytes ml ret R p e s m args below T h cells slots) {x y : Int32} (hd : decode bytes pc = .ok (.ixor, 1)) (hp : pc + 1 = pc') (k : End Z p e below s Q kc ks T (mkF m pc' Ls (.int (x ^^^ y) :: st))) : End Z p e below s Q kc ks T (mkF m pc Ls (.int y :: .int x :: st)) := by
  subst hp; obtain ⟨meth, c, locs, X, -, -, -, hx, hb, -⟩ := X; subst hb
  exact k.go fun _ => XS.ixor X.here hx (g := mkF m pc Ls (.int y :: .int x :: st)) rfl hd rfl
theorem E_idiv (X : Sd l Z own nm bytes ml ret R p e s m args below T h cells slots) {x y : Int32} (hd : decode bytes pc = .ok (.idiv, 1)) (hp : pc + 1 = pc') (hy : y ≠ 0) (k : End Z p e below s Q kc ks T (mkF m pc' Ls (.int (x / y) :: st))) : End Z p e below s Q kc ks T (mkF m pc Ls (.int y :: .int x :: st)) := by
  subst hp; obtain ⟨meth, c, locs, X, -, -, -, hx, hb, -⟩ := X; subst hb
  exact k.go fun _ => XS.idiv X.here hx (g := mkF m pc Ls (.int y :: .int x :: st)) rfl hd rfl hy
theorem E_ineg (X : Sd l Z own nm bytes ml ret R p e s m args below T h cells slots) {x : Int32} (hd : decode bytes pc = .ok (.ineg, 1)) (hp : pc + 1 = pc') (k : End Z p e below s Q kc ks T (mkF m pc' Ls (.int (-x) :: st))) : End Z p e below s Q kc ks T (mkF m pc Ls (.int x :: st)) := by
  subst hp; obtain ⟨meth, c, locs, X, -, -, -, hx, hb, -⟩ := X; subst hb
  exact k.go fun _ => XS.ineg X.here hx (g := mkF m pc Ls (.int x :: st)) rfl hd rfl
theorem E_ladd (X : Sd l Z own nm bytes ml ret R p e s m args below T h cells slots) {x y : Int64} (hd : decode bytes pc = .ok (.ladd, 1)) (hp : pc + 1 = pc') (k : End Z p e below s Q kc ks T (mkF m pc' Ls (.long (x + y) :: st))) : End Z p e below s Q kc ks T (mkF m pc Ls (.long y :: .long x :: st)) := by
  subst hp; obtain ⟨meth, c, locs, X, -, -, -, hx, hb, -⟩ := X; subst hb
  exact k.go fun _ => XS.ladd X.here hx (g := mkF m pc Ls (.long y :: .long x :: st)) rfl hd rfl
theorem E_lsub (X : Sd l Z own nm bytes ml ret R p e s m args below T h cells slots) {x y : Int64} (hd : decode bytes pc = .ok (.lsub, 1)) (hp : pc + 1 = pc') (k : End Z p e below s Q kc ks T (mkF m pc' Ls (.long (x - y) :: st))) : End Z p e below s Q kc ks T (mkF m pc Ls (.long y :: .long x :: st)) := by
  subst hp; obtain ⟨meth, c, locs, X, -, -, -, hx, hb, -⟩ := X; subst hb
  exact k.go fun _ => XS.lsub X.here hx (g := mkF m pc Ls (.long y :: .long x :: st)) rfl hd rfl
theorem E_lmul (X : Sd l Z own nm bytes ml ret R p e s m args below T h cells slots) {x y : Int64} (hd : decode bytes pc = .ok (.lmul, 1)) (hp : pc + 1 = pc') (k : End Z p e below s Q kc ks T (mkF m pc' Ls (.long (x * y) :: st))) : End Z p e below s Q kc ks T (mkF m pc Ls (.long y :: .long x :: st)) := by
  subst hp; obtain ⟨meth, c, locs, X, -, -, -, hx, hb, -⟩ := X; subst hb
  exact k.go fun _ => XS.lmul X.here hx (g := mkF m pc Ls (.long y :: .long x :: st)) rfl hd rfl
theorem E_land (X : Sd l Z own nm bytes ml ret R p e s m args below T h cells slots) {x y : Int64} (hd : decode bytes pc = .ok (.land, 1)) (hp : pc + 1 = pc') (k : End Z p e below s Q kc ks T (mkF m pc' Ls (.long (x &&& y) :: st))) : End Z p e below s Q kc ks T (mkF m pc Ls (.long y :: .long x :: st)) := by
  subst hp; obtain ⟨meth, c, locs, X, -, -, -, hx, hb, -⟩ := X; subst hb
  exact k.go fun _ => XS.land X.here hx (g := mkF m pc Ls (.long y :: .long x :: st)) rfl hd rfl
theorem E_lor (X : Sd l Z own nm bytes ml ret R p e s m args below T h cells slots) {x y : Int64} (hd : decode bytes pc = .ok (.lor, 1)) (hp : pc + 1 = pc') (k : End Z p e below s Q kc ks T (mkF m pc' Ls (.long (x ||| y) :: st))) : End Z p e below s Q kc ks T (mkF m pc Ls (.long y :: .long x :: st)) := by
  subst hp; obtain ⟨meth, c, locs, X, -, -, -, hx, hb, -⟩ := X; subst hb
  exact k.go fun _ => XS.lor X.here hx (g := mkF m pc Ls (.long y :: .long x :: st)) rfl hd rfl
theorem E_lxor (X : Sd l Z own nm bytes ml ret R p e s m args below T h cells slots) {x y : Int64} (hd : decode bytes pc = .ok (.lxor, 1)) (hp : pc + 1 = pc') (k : End Z p e below s Q kc ks T (mkF m pc' Ls (.long (x ^^^ y) :: st))) : End Z p e below s Q kc ks T (mkF m pc Ls (.long y :: .long x :: st)) := by
  subst hp; obtain ⟨meth, c, locs, X, -, -, -, hx, hb, -⟩ := X; subst hb
  exact k.go fun _ => XS.lxor X.here hx (g := mkF m pc Ls (.long y :: .long x :: st)) rfl hd rfl
theorem E_ldiv (X : Sd l Z own nm bytes ml ret R p e s m args below T h cells slots) {x y : Int64} (hd : decode bytes pc = .ok (.ldiv, 1)) (hp : pc + 1 = pc') (hy : y ≠ 0) (k : End Z p e below s Q kc ks T (mkF m pc' Ls (.long (x / y) :: st))) : End Z p e below s Q kc ks T (mkF m pc Ls (.long y :: .long x :: st)) := by
  subst hp; obtain ⟨meth, c, locs, X, -, -, -, hx, hb, -⟩ := X; subst hb
  exact k.go fun _ => XS.ldiv X.here hx (g := mkF m pc Ls (.long y :: .long x :: st)) rfl hd rfl hy
theorem E_lneg (X : Sd l Z own nm bytes ml ret R p e s m args below T h cells slots) {x : Int64} (hd : decode bytes pc = .ok (.lneg, 1)) (hp : pc + 1 = pc') (k : End Z p e below s Q kc ks T (mkF m pc' Ls (.long (-x) :: st))) : End Z p e below s Q kc ks T (mkF m pc Ls (.long x :: st)) := by
  subst hp; obtain ⟨meth, c, locs, X, -, -, -, hx, hb, -⟩ := X; subst hb
  exact k.go fun _ => XS.lneg X.here hx (g := mkF m pc Ls (.long x :: st)) rfl hd rfl
theorem E_irem (X : Sd l Z own nm bytes ml ret R p e s m args below T h cells slots) {x y : Int32} (hd : decode bytes pc = .ok (.irem, 1)) (hp : pc + 1 = pc') (hy : y ≠ 0) (k : End Z p e below s Q kc ks T (mkF m pc' Ls (.int (x % y) :: st))) : End Z p e below s Q kc ks T (mkF m pc Ls (.int y :: .int x :: st)) := by
  subst hp; obtain ⟨meth, c, locs, X, -, -, -, hx, hb, -⟩ := X; subst hb
  exact k.go fun _ => iremM X hx (g := mkF m pc Ls (.int y :: .int x :: st)) rfl hd rfl hy
theorem E_lrem (X : Sd l Z own nm bytes ml ret R p e s m args below T h cells slots) {x y : Int64} (hd : decode bytes pc = .ok (.lrem, 1)) (hp : pc + 1 = pc') (hy : y ≠ 0) (k : End Z p e below s Q kc ks T (mkF m pc' Ls (.long (x % y) :: st))) : End Z p e below s Q kc ks T (mkF m pc Ls (.long y :: .long x :: st)) := by
  subst hp; obtain ⟨meth, c, locs, X, -, -, -, hx, hb, -⟩ := X; subst hb
  exact k.go fun _ => fun hr => XS.lrem X.here hx (g := mkF m pc Ls (.long y :: .long x :: st)) rfl hd rfl hy (by rw [lrem_mod x y]; exact hr)
theorem E_ishl (X : Sd l Z own nm bytes ml ret R p e s m args below T h cells slots) {x y : Int32} (hd : decode bytes pc = .ok (.ishl, 1)) (hp : pc + 1 = pc') (k : End Z p e below s Q kc ks T (mkF m pc' Ls (.int (x <<< (y &&& 31)) :: st))) : End Z p e below s Q kc ks T (mkF m pc Ls (.int y :: .int x :: st)) := by
  subst hp; obtain ⟨meth, c, locs, X, -, -, -, hx, hb, -⟩ := X; subst hb
  exact k.go fun _ => XS.ishl X.here hx (g := mkF m pc Ls (.int y :: .int x :: st)) rfl hd rfl
theorem E_ishr (X : Sd l Z own nm bytes ml ret R p e s m args below T h cells slots) {x y : Int32} (hd : decode bytes pc = .ok (.ishr, 1)) (hp : pc + 1 = pc') (k : End Z p e below s Q kc ks T (mkF m pc' Ls (.int (x >>> (y &&& 31)) :: st))) : End Z p e below s Q kc ks T (mkF m pc Ls (.int y :: .int x :: st)) := by
  subst hp; obtain ⟨meth, c, locs, X, -, -, -, hx, hb, -⟩ := X; subst hb
  exact k.go fun _ => XS.ishr X.here hx (g := mkF m pc Ls (.int y :: .int x :: st)) rfl hd rfl
theorem E_iushr (X : Sd l Z own nm bytes ml ret R p e s m args below T h cells slots) {x y : Int32} (hd : decode bytes pc = .ok (.iushr, 1)) (hp : pc + 1 = pc') (k : End Z p e below s Q kc ks T (mkF m pc' Ls (.int ((x.toUInt32 >>> (y &&& 31).toUInt32).toInt32) :: st))) : End Z p e below s Q kc ks T (mkF m pc Ls (.int y :: .int x :: st)) := by
  subst hp; obtain ⟨meth, c, locs, X, -, -, -, hx, hb, -⟩ := X; subst hb
  exact k.go fun _ => XS.iushr X.here hx (g := mkF m pc Ls (.int y :: .int x :: st)) rfl hd rfl
theorem E_lshl (X : Sd l Z own nm bytes ml ret R p e s m args below T h cells slots) {x : Int64} {y : Int32} (hd : decode bytes pc = .ok (.lshl, 1)) (hp : pc + 1 = pc') (k : End Z p e below s Q kc ks T (mkF m pc' Ls (.long (x <<< (y &&& 0x3f).toInt64) :: st))) : End Z p e below s Q kc ks T (mkF m pc Ls (.int y :: .long x :: st)) := by
  subst hp; obtain ⟨meth, c, locs, X, -, -, -, hx, hb, -⟩ := X; subst hb
  exact k.go fun _ => XS.lshl X.here hx (g := mkF m pc Ls (.int y :: .long x :: st)) rfl hd rfl
theorem E_lshr (X : Sd l Z own nm bytes ml ret R p e s m args below T h cells slots) {x : Int64} {y : Int32} (hd : decode bytes pc = .ok (.lshr, 1)) (hp : pc + 1 = pc') (k : End Z p e below s Q kc ks T (mkF m pc' Ls (.long (x >>> (y &&& 0x3f).toInt64) :: st))) : End Z p e below s Q kc ks T (mkF m pc Ls (.int y :: .long x :: st)) := by
  subst hp; obtain ⟨meth, c, locs, X, -, -, -, hx, hb, -⟩ := X; subst hb
  exact k.go fun _ => XS.lshr X.here hx (g := mkF m pc Ls (.int y :: .long x :: st)) rfl hd rfl
theorem E_lushr (X : Sd l Z own nm bytes ml ret R p e s m args below T h cells slots) {x : Int64} {y : Int32} (hd : decode bytes pc = .ok (.lushr, 1)) (hp : pc + 1 = pc') (k : End Z p e below s Q kc ks T (mkF m pc' Ls (.long ((x.toUInt64 >>> (y &&& 0x3f).toInt64.toUInt64).toInt64) :: st))) : End Z p e below s Q kc ks T (mkF m pc Ls (.int y :: .long x :: st)) := by
  subst hp; obtain ⟨meth, c, locs, X, -, -, -, hx, hb, -⟩ := X; subst hb
  exact k.go fun _ => XS.lushr X.here hx (g := mkF m pc Ls (.int y :: .long x :: st)) rfl hd rfl
theorem E_i2l (X : Sd l Z own nm bytes ml ret R p e s m args below T h cells slots) {x : Int32} (hd : decode bytes pc = .ok (.i2l, 1)) (hp : pc + 1 = pc') (k : End Z p e below s Q kc ks T (mkF m pc' Ls (.long (x.toInt64) :: st))) : End Z p e below s Q kc ks T (mkF m pc Ls (.int x :: st)) := by
  subst hp; obtain ⟨meth, c, locs, X, -, -, -, hx, hb, -⟩ := X; subst hb
  exact k.go fun _ => XS.i2l X.here hx (g := mkF m pc Ls (.int x :: st)) rfl hd rfl
theorem E_l2i (X : Sd l Z own nm bytes ml ret R p e s m args below T h cells slots) {x : Int64} (hd : decode bytes pc = .ok (.l2i, 1)) (hp : pc + 1 = pc') (k : End Z p e below s Q kc ks T (mkF m pc' Ls (.int (x.toInt32) :: st))) : End Z p e below s Q kc ks T (mkF m pc Ls (.long x :: st)) := by
  subst hp; obtain ⟨meth, c, locs, X, -, -, -, hx, hb, -⟩ := X; subst hb
  exact k.go fun _ => XS.l2i X.here hx (g := mkF m pc Ls (.long x :: st)) rfl hd rfl
theorem E_i2b (X : Sd l Z own nm bytes ml ret R p e s m args below T h cells slots) {x : Int32} (hd : decode bytes pc = .ok (.i2b, 1)) (hp : pc + 1 = pc') (k : End Z p e below s Q kc ks T (mkF m pc' Ls (.int (x.toInt8.toInt32) :: st))) : End Z p e below s Q kc ks T (mkF m pc Ls (.int x :: st)) := by
  subst hp; obtain ⟨meth, c, locs, X, -, -, -, hx, hb, -⟩ := X; subst hb
  exact k.go fun _ => XS.i2b X.here hx (g := mkF m pc Ls (.int x :: st)) rfl hd rfl
theorem E_i2c (X : Sd l Z own nm bytes ml ret R p e s m args below T h cells slots) {x : Int32} (hd : decode bytes pc = .ok (.i2c, 1)) (hp : pc + 1 = pc') (k : End Z p e below s Q kc ks T (mkF m pc' Ls (.int (x.toUInt32.toUInt16.toUInt32.toInt32) :: st))) : End Z p e below s Q kc ks T (mkF m pc Ls (.int x :: st)) := by
  subst hp; obtain ⟨meth, c, locs, X, -, -, -, hx, hb, -⟩ := X; subst hb
  exact k.go fun _ => XS.i2c X.here hx (g := mkF m pc Ls (.int x :: st)) rfl hd rfl
theorem E_i2s (X : Sd l Z own nm bytes ml ret R p e s m args below T h cells slots) {x : Int32} (hd : decode bytes pc = .ok (.i2s, 1)) (hp : pc + 1 = pc') (k : End Z p e below s Q kc ks T (mkF m pc' Ls (.int (x.toInt16.toInt32) :: st))) : End Z p e below s Q kc ks T (mkF m pc Ls (.int x :: st)) := by
  subst hp; obtain ⟨meth, c, locs, X, -, -, -, hx, hb, -⟩ := X; subst hb
  exact k.go fun _ => XS.i2s X.here hx (g := mkF m pc Ls (.int x :: st)) rfl hd rfl
theorem E_lcmp (X : Sd l Z own nm bytes ml ret R p e s m args below T h cells slots) {x y : Int64} (hd : decode bytes pc = .ok (.lcmp, 1)) (hp : pc + 1 = pc') (k : End Z p e below s Q kc ks T (mkF m pc' Ls (.int (lcmpW x y) :: st))) : End Z p e below s Q kc ks T (mkF m pc Ls (.long y :: .long x :: st)) := by
  subst hp; obtain ⟨meth, c, locs, X, -, -, -, hx, hb, -⟩ := X; subst hb
  exact k.go fun _ => XS.lcmp X.here hx (g := mkF m pc Ls (.long y :: .long x :: st)) rfl hd rfl
theorem E_iinc (X : Sd l Z own nm bytes ml ret R p e s m args below T h cells slots) {i : Nat} {cst : Int} {x z : Int32} {Ls' : Array Slot} (hd : decode bytes pc = .ok (.iinc i cst, 3)) (hp : pc + 3 = pc') (hl : Ls[i]? = some (.val (.int x))) (hz : x + Int32.ofInt cst = z) (hl' : storeLocals Ls i (.int z) = some Ls') (k : End Z p e below s Q kc ks T (mkF m pc' Ls' st)) : End Z p e below s Q kc ks T (mkF m pc Ls st) := by
  subst hp; obtain ⟨meth, c, locs, X, -, -, -, hx, hb, -⟩ := X; subst hb
  exact k.go fun _ => by subst hz; exact XS.iinc X.here hx (g := mkF m pc Ls st) rfl hd hl hl'
theorem E_dup (X : Sd l Z own nm bytes ml ret R p e s m args below T h cells slots) {v : Value} (hd : decode bytes pc = .ok (.dup, 1)) (hp : pc + 1 = pc') (hc : v.category = 1) (k : End Z p e below s Q kc ks T (mkF m pc' Ls (v :: v :: st))) : End Z p e below s Q kc ks T (mkF m pc Ls (v :: st)) := by
  subst hp; obtain ⟨meth, c, locs, X, -, -, -, hx, hb, -⟩ := X; subst hb
  exact k.go fun _ => XS.dup X.here hx (g := mkF m pc Ls (v :: st)) rfl hd rfl hc
theorem E_pop (X : Sd l Z own nm bytes ml ret R p e s m args below T h cells slots) {v : Value} (hd : decode bytes pc = .ok (.pop, 1)) (hp : pc + 1 = pc') (hc : v.category = 1) (k : End Z p e below s Q kc ks T (mkF m pc' Ls st)) : End Z p e below s Q kc ks T (mkF m pc Ls (v :: st)) := by
  subst hp; obtain ⟨meth, c, locs, X, -, -, -, hx, hb, -⟩ := X; subst hb
  exact k.go fun _ => XS.pop X.here hx (g := mkF m pc Ls (v :: st)) rfl hd rfl hc
theorem E_dup_x1 (X : Sd l Z own nm bytes ml ret R p e s m args below T h cells slots) {v w : Value} (hd : decode bytes pc = .ok (.dup_x1, 1)) (hp : pc + 1 = pc') (hc : v.category = 1) (hc' : w.category = 1) (k : End Z p e below s Q kc ks T (mkF m pc' Ls (v :: w :: v :: st))) : End Z p e below s Q kc ks T (mkF m pc Ls (v :: w :: st)) := by
  subst hp; obtain ⟨meth, c, locs, X, -, -, -, hx, hb, -⟩ := X; subst hb
  exact k.go fun _ => XS.dupX1 X.here hx (g := mkF m pc Ls (v :: w :: st)) rfl hd rfl hc hc'
theorem E_dup2 (X : Sd l Z own nm bytes ml ret R p e s m args below T h cells slots) {v w : Value} (hd : decode bytes pc = .ok (.dup2, 1)) (hp : pc + 1 = pc') (hc : v.category = 1) (hc' : w.category = 1) (k : End Z p e below s Q kc ks T (mkF m pc' Ls (v :: w :: v :: w :: st))) : End Z p e below s Q kc ks T (mkF m pc Ls (v :: w :: st)) := by
  subst hp; obtain ⟨meth, c, locs, X, -, -, -, hx, hb, -⟩ := X; subst hb
  exact k.go fun _ => XT.dup2 X.here hx (g := mkF m pc Ls (v :: w :: st)) rfl hd rfl hc hc'
theorem E_dup2L (X : Sd l Z own nm bytes ml ret R p e s m args below T h cells slots) {x : Int64} (hd : decode bytes pc = .ok (.dup2, 1)) (hp : pc + 1 = pc') (k : End Z p e below s Q kc ks T (mkF m pc' Ls (.long x :: .long x :: st))) : End Z p e below s Q kc ks T (mkF m pc Ls (.long x :: st)) := by
  subst hp; obtain ⟨meth, c, locs, X, -, -, -, hx, hb, -⟩ := X; subst hb
  exact k.go fun _ => XT.dup2L X.here hx (g := mkF m pc Ls (.long x :: st)) rfl hd rfl
theorem E_goto (X : Sd l Z own nm bytes ml ret R p e s m args below T h cells slots) {o : Int} (hd : decode bytes pc = .ok (.goto o, 3)) (ho : 0 ≤ (pc : Int) + o) (hp : ((pc : Int) + o).toNat = pc') (k : End Z p e below s Q kc ks T (mkF m pc' Ls st)) : End Z p e below s Q kc ks T (mkF m pc Ls st) := by
  obtain ⟨meth, c, locs, X, -, -, -, hx, hb, -⟩ := X; subst hb
  exact k.go fun _ => XS.goto X.here hx (g := mkF m pc Ls st) rfl rfl hd ho hp
theorem E_if (X : Sd l Z own nm bytes ml ret R p e s m args below T h cells slots) {cd : ClassFile.Cond} {o : Int} {x : Int32} {P : Prop} [Decidable P] (hP : ifCond.holds cd x = decide P) (hd : decode bytes pc = .ok (.ifCond cd o, 3)) {pcY pcN : Nat} (ho : 0 ≤ (pc : Int) + o) (hY : ((pc : Int) + o).toNat = pcY) (hN : pc + 3 = pcN)
    (kY : P → End Z p e below s Q kc ks T (mkF m pcY Ls st)) (kN : ¬ P → End Z p e below s Q kc ks T (mkF m pcN Ls st)) : End Z p e below s Q kc ks T (mkF m pc Ls (.int x :: st)) := by
  obtain ⟨meth, c, locs, X, -, -, -, hx, hb, -⟩ := X; subst hb hN
  by_cases q : P
  · exact (kY q).go fun _ => XS.ifYes X.here hx (g := mkF m pc Ls (.int x :: st)) rfl rfl hd rfl (by rw [hP]; simp [q]) ho hY
  · exact (kN q).go fun _ => XS.ifNo X.here hx (g := mkF m pc Ls (.int x :: st)) rfl hd rfl (by rw [hP]; simp [q])
theorem E_icmp (X : Sd l Z own nm bytes ml ret R p e s m args below T h cells slots) {cd : ClassFile.Cond} {o : Int} {x y : Int32} {P : Prop} [Decidable P] (hP : if_icmp.holds cd x y = decide P) (hd : decode bytes pc = .ok (.if_icmp cd o, 3)) {pcY pcN : Nat} (ho : 0 ≤ (pc : Int) + o) (hY : ((pc : Int) + o).toNat = pcY) (hN : pc + 3 = pcN)
    (kY : P → End Z p e below s Q kc ks T (mkF m pcY Ls st)) (kN : ¬ P → End Z p e below s Q kc ks T (mkF m pcN Ls st)) : End Z p e below s Q kc ks T (mkF m pc Ls (.int y :: .int x :: st)) := by
  obtain ⟨meth, c, locs, X, -, -, -, hx, hb, -⟩ := X; subst hb hN
  by_cases q : P
  · exact (kY q).go fun _ => XS.icmpYes X.here hx (g := mkF m pc Ls (.int y :: .int x :: st)) rfl rfl hd rfl (by rw [hP]; simp [q]) ho hY
  · exact (kN q).go fun _ => XS.icmpNo X.here hx (g := mkF m pc Ls (.int y :: .int x :: st)) rfl hd rfl (by rw [hP]; simp [q])
theorem ic_lt (x y : Int32) : if_icmp.holds .lt x y = decide (x < y) := by
  by_cases q : x < y
  · rw [(tlt q).1]; simp [q]
  · rw [(flt q).1]; simp [q]
theorem ic_ge (x y : Int32) : if_icmp.holds .ge x y = decide (¬ x < y) := by
  by_cases q : x < y
  · rw [(tlt q).2.1]; simp [q]
  · rw [(flt q).2.1]; simp [q]
theorem ic_gt (x y : Int32) : if_icmp.holds .gt x y = decide (y < x) := by
  by_cases q : y < x
  · rw [(tlt q).2.2.1]; simp [q]
  · rw [(flt q).2.2.1]; simp [q]
theorem ic_le (x y : Int32) : if_icmp.holds .le x y = decide (¬ y < x) := by
  by_cases q : y < x
  · rw [(tlt q).2.2.2]; simp [q]
  · rw [(flt q).2.2.2]; simp [q]
theorem ic_eq (x y : Int32) : if_icmp.holds .eq x y = decide (x = y) := by
  by_cases q : x = y
  · rw [(teq q).1]; simp [q]
  · rw [(feq q).1]; simp [q]
theorem ic_ne (x y : Int32) : if_icmp.holds .ne x y = decide (¬ x = y) := by
  by_cases q : x = y
  · rw [(teq q).2]; simp [q]
  · rw [(feq q).2]; simp [q]
theorem i0_lt (x : Int32) : ifCond.holds .lt x = decide (x < 0) := (if0 _ _).trans (ic_lt _ _)
theorem i0_ge (x : Int32) : ifCond.holds .ge x = decide (¬ x < 0) := (if0 _ _).trans (ic_ge _ _)
theorem i0_gt (x : Int32) : ifCond.holds .gt x = decide (0 < x) := (if0 _ _).trans (ic_gt _ _)
theorem i0_le (x : Int32) : ifCond.holds .le x = decide (¬ 0 < x) := (if0 _ _).trans (ic_le _ _)
theorem i0_eq (x : Int32) : ifCond.holds .eq x = decide (x = 0) := (if0 _ _).trans (ic_eq _ _)
theorem i0_ne (x : Int32) : ifCond.holds .ne x = decide (¬ x = 0) := (if0 _ _).trans (ic_ne _ _)
theorem il_lt (x y : Int64) : ifCond.holds .lt (lcmpW x y) = decide (x < y) := (i0_lt _).trans (by simp only [lw_lt])
theorem il_ge (x y : Int64) : ifCond.holds .ge (lcmpW x y) = decide (¬ x < y) := (i0_ge _).trans (by simp only [lw_lt])
theorem il_gt (x y : Int64) : ifCond.holds .gt (lcmpW x y) = decide (y < x) := (i0_gt _).trans (by simp only [lw_gt])
theorem il_le (x y : Int64) : ifCond.holds .le (lcmpW x y) = decide (¬ y < x) := (i0_le _).trans (by simp only [lw_gt])
theorem il_eq (x y : Int64) : ifCond.holds .eq (lcmpW x y) = decide (x = y) := (i0_eq _).trans (by simp only [lw_eq])
theorem il_ne (x y : Int64) : ifCond.holds .ne (lcmpW x y) = decide (¬ x = y) := (i0_ne _).trans (by simp only [lw_eq])
theorem E_acmp (X : Sd l Z own nm bytes ml ret R p e s m args below T h cells slots) {cd : ACond} {o : Int} {x y : Value} {pcE pcU : Nat} (hd : decode bytes pc = .ok (.if_acmp cd o, 3)) (hx1 : x.isRef = true) (hy1 : y.isRef = true) (ho : 0 ≤ (pc : Int) + o) (hE : pcE = if acV cd true = true then ((pc : Int) + o).toNat else pc + 3) (hU : pcU = if acV cd false = true then ((pc : Int) + o).toNat else pc + 3)
    (kE : x = y → End Z p e below s Q kc ks T (mkF m pcE Ls st)) (kU : ¬ x = y → End Z p e below s Q kc ks T (mkF m pcU Ls st)) : End Z p e below s Q kc ks T (mkF m pc Ls (y :: x :: st)) := by
  obtain ⟨meth, c, locs, X, -, -, -, hx, hb, -⟩ := X; subst hb
  by_cases q : x = y
  · exact (kE q).go fun _ => Jvm.RoadKit.acmp (g := mkF m pc Ls (y :: x :: st)) X hx rfl hx1 hy1 (same := true) rfl hd rfl (decide_eq_true q) ho hE
  · exact (kU q).go fun _ => Jvm.RoadKit.acmp (g := mkF m pc Ls (y :: x :: st)) X hx rfl hx1 hy1 (same := false) rfl hd rfl (decide_eq_false q) ho hU
theorem E_ifnullY (X : Sd l Z own nm bytes ml ret R p e s m args below T h cells slots) {o : Int} (hd : decode bytes pc = .ok (.ifnull o, 3)) (ho : 0 ≤ (pc : Int) + o) (hp : ((pc : Int) + o).toNat = pc') (k : End Z p e below s Q kc ks T (mkF m pc' Ls st)) : End Z p e below s Q kc ks T (mkF m pc Ls (.null :: st)) := by
  obtain ⟨meth, c, locs, X, -, -, -, hx, hb, -⟩ := X; subst hb
  exact k.go fun _ => XS.ifnullYes X.here hx (g := mkF m pc Ls (.null :: st)) rfl rfl hd rfl ho hp
theorem E_ifnullN (X : Sd l Z own nm bytes ml ret R p e s m args below T h cells slots) {o : Int} {b : Addr} (hd : decode bytes pc = .ok (.ifnull o, 3)) (hp : pc + 3 = pc') (k : End Z p e below s Q kc ks T (mkF m pc' Ls st)) : End Z p e below s Q kc ks T (mkF m pc Ls (.ref b :: st)) := by
  subst hp; obtain ⟨meth, c, locs, X, -, -, -, hx, hb, -⟩ := X; subst hb
  exact k.go fun _ => XS.ifnullNo X.here hx (g := mkF m pc Ls (.ref b :: st)) rfl hd rfl
theorem E_ifnonnullY (X : Sd l Z own nm bytes ml ret R p e s m args below T h cells slots) {o : Int} {b : Addr} (hd : decode bytes pc = .ok (.ifnonnull o, 3)) (ho : 0 ≤ (pc : Int) + o) (hp : ((pc : Int) + o).toNat = pc') (k : End Z p e below s Q kc ks T (mkF m pc' Ls st)) : End Z p e below s Q kc ks T (mkF m pc Ls (.ref b :: st)) := by
  obtain ⟨meth, c, locs, X, -, -, -, hx, hb, -⟩ := X; subst hb
  exact k.go fun _ => XS.ifnonnullYes X.here hx (g := mkF m pc Ls (.ref b :: st)) rfl rfl hd rfl ho hp
theorem E_ifnonnullN (X : Sd l Z own nm bytes ml ret R p e s m args below T h cells slots) {o : Int} (hd : decode bytes pc = .ok (.ifnonnull o, 3)) (hp : pc + 3 = pc') (k : End Z p e below s Q kc ks T (mkF m pc' Ls st)) : End Z p e below s Q kc ks T (mkF m pc Ls (.null :: st)) := by
  subst hp; obtain ⟨meth, c, locs, X, -, -, -, hx, hb, -⟩ := X; subst hb
  exact k.go fun _ => XS.ifnonnullNo X.here hx (g := mkF m pc Ls (.null :: st)) rfl hd rfl
/-! constants -/
theorem E_ldcI (X : Sd l Z own nm bytes ml ret R p e s m args below T h cells slots) {i : Nat} {v : Int32} (w : (Jvm.Cond.constant own i v).before a0 Z = true) (hd : decode bytes pc = .ok (.ldc i, 2)) (hp : pc + 2 = pc') (k : End Z p e below s Q kc ks T (mkF m pc' Ls (.int v :: st))) : End Z p e below s Q kc ks T (mkF m pc Ls st) := by
  subst hp; obtain ⟨meth, c, locs, X, N, e0, E, hx, hb, hml, hown, hnm, hret, hlk, hZ⟩ := X; subst hb
  exact k.go (X.ldcInt hx hown (mvT hZ w) (g := mkF m pc Ls st) rfl hd)
theorem E_ldcJ (X : Sd l Z own nm bytes ml ret R p e s m args below T h cells slots) {i : Nat} {v : Int64} (w : (Jvm.Cond.constantLong own i v).before a0 Z = true) (hd : decode bytes pc = .ok (.ldc2_w i, 3)) (hp : pc + 3 = pc') (k : End Z p e below s Q kc ks T (mkF m pc' Ls (.long v :: st))) : End Z p e below s Q kc ks T (mkF m pc Ls st) := by
  subst hp; obtain ⟨meth, c, locs, X, N, e0, E, hx, hb, hml, hown, hnm, hret, hlk, hZ⟩ := X; subst hb
  exact k.go (X.ldc2Long hx hown (mvT hZ w) (g := mkF m pc Ls st) rfl hd)
/-! fields, statics -/
theorem E_getF (X : Sd l Z own nm bytes ml ret R p e s m args below T h cells slots) {R0 O n d host : String} {i : Nat} {a : Addr} {v : Value} (w : (Jvm.Cond.fieldLink own i R0 n d).before a0 Z = true ∨ (Jvm.Cond.fieldLinkNest own i R0 n d host).before a0 Z = true) (via : Via Z R0 O n d) (F : Fld Z h a O n d v) (hd : decode bytes pc = .ok (.getfield i, 3)) (hp : pc + 3 = pc')
    (k : ∀ T', Sd l Z own nm bytes ml ret R p e s m args below T' h cells slots → End Z p e below s Q kc ks T' (mkF m pc' Ls (v :: st))) : End Z p e below s Q kc ks T (mkF m pc Ls (.ref a :: st)) := by
  subst hp; obtain ⟨meth, c, locs, X, N, e0, E, hx, hb, hml, hown, r⟩ := X; subst hb
  obtain ⟨T', X', e', stp⟩ := getF X hx r.2.2.2 hown w via e0 F (g := mkF m pc Ls (.ref a :: st)) rfl rfl hd
  exact (k T' ⟨meth, c, locs, X', N, e', E, hx, rfl, hml, hown, r⟩).go stp
theorem E_putF (X : Sd l Z own nm bytes ml ret R p e s m args below T h cells slots) {R0 O n d host C : String} {i kk : Nat} {ty : FieldType} {a : Addr} {v old : Value} (w : (Jvm.Cond.fieldLink own i R0 n d).before a0 Z = true ∨ (Jvm.Cond.fieldLinkNest own i R0 n d host).before a0 Z = true) (via : Via Z R0 O n d) (F : Fld Z h a O n d old) (E1 : Exa Z h a C)
    (L : (Jvm.Cond.lays C O n d).before a0 Z = true ∨ ((Jvm.Cond.laysFinal C O n d).before a0 Z = true ∧ own = O ∧ nm = "<init>")) (wi : (Jvm.Cond.instantiable C kk).before a0 Z = true) (hty : parseFieldDescriptor d = some ty) (hn : narrow ty v = v) (hf : fits ty v = true) (ha : Z.heap.size ≤ a) (hd : decode bytes pc = .ok (.putfield i, 3)) (hp : pc + 3 = pc')
    (k : ∀ T' h', Sd l Z own nm bytes ml ret R p e s m args below T' h' cells slots → Wr h h' a (slotOf Z O n d) v → End Z p e below s Q kc ks T' (mkF m pc' Ls st)) : End Z p e below s Q kc ks T (mkF m pc Ls (v :: .ref a :: st)) := by
  subst hp; obtain ⟨meth, c, locs, X, N, e0, E, hx, hb, hml, hown, hnm, r⟩ := X; subst hb
  obtain ⟨T', h', X', e', W, stp⟩ := putF X hx r.2.2 hown w via e0 F E1 (L.imp id fun q => ⟨q.1, q.2.1, hnm.trans q.2.2⟩) wi hty hn hf (g := mkF m pc Ls (v :: .ref a :: st)) rfl rfl hd
  exact (k T' h' ⟨meth, c, _, X', Fr.snoc X' N ha, e', E.wr W ha, hx, rfl, hml, hown, hnm, r⟩ W).go stp
theorem E_getS (X : Sd l Z own nm bytes ml ret R p e s m args below T h cells slots) {R0 O n d host : String} {i : Nat} {v : Value} (w : (Jvm.Cond.fieldLink own i R0 n d).before a0 Z = true ∨ (Jvm.Cond.fieldLinkNest own i R0 n d host).before a0 Z = true) (via : Via Z R0 O n d) (F : Sta Z Z.heap O n d v) (hd : decode bytes pc = .ok (.getstatic i, 3)) (hp : pc + 3 = pc')
    (k : ∀ T', Sd l Z own nm bytes ml ret R p e s m args below T' h cells slots → End Z p e below s Q kc ks T' (mkF m pc' Ls (v :: st))) : End Z p e below s Q kc ks T (mkF m pc Ls st) := by
  subst hp; obtain ⟨meth, c, locs, X, N, e0, E, hx, hb, hml, hown, r⟩ := X; subst hb
  obtain ⟨T', X', e', stp⟩ := getS2 X hx r.2.2.2 hown w via e0 (F.ext E) (g := mkF m pc Ls st) rfl hd
  exact (k T' ⟨meth, c, locs, X', N, e', E, hx, rfl, hml, hown, r⟩).go stp
/-! new objects -/
theorem E_new (X : Sd l Z own nm bytes ml ret R p e s m args below T h cells slots) {C : String} {i n : Nat} {cells' slots' : Nat} (w : (Jvm.Cond.classLink own i C).before a0 Z = true) (wi : (Jvm.Cond.instantiable C n).before a0 Z = true) (wz : (Jvm.Cond.initialized C).before a0 Z = true) (hd : decode bytes pc = .ok (.new i, 3)) (hp : pc + 3 = pc') (hcc : cells + 1 = cells') (hss : slots + n = slots') (hc : cells' ≤ R.cells) (hl : slots' ≤ R.slots)
    (k : ∀ T' h' a, a = h.size → Sd l Z own nm bytes ml ret R p e s m args below T' h' cells' slots' → Ext h h' → Exa Z h' a C → (∀ {O n d : String} {ty : FieldType}, Laid Z a0 C O n d → parseFieldDescriptor d = some ty → Fld Z h' a O n d (defaultValue ty)) → End Z p e below s Q kc ks T' (mkF m pc' Ls (.ref a :: st))) : End Z p e below s Q kc ks T (mkF m pc Ls st) := by
  subst hp hcc hss; obtain ⟨meth, c, locs, X, N, e0, E, hx, hb, hml, hown, r⟩ := X; subst hb
  obtain ⟨T', h', X', e', E2, A2, D2, -, stp⟩ := newO X hx r.2.2.2 hown w wi wz e0 (g := mkF m pc Ls st) rfl hd hc hl
  exact (k T' h' h.size rfl ⟨meth, c, locs, X', N, e', E.trans E2, hx, rfl, hml, hown, r⟩ E2 A2 (fun q1 q2 => D2 q1 q2)).go stp
theorem E_initO (X : Sd l Z own nm bytes ml ret R p e s m args below T h cells slots) {i : Nat} {a : Addr} (w1 : (Jvm.Cond.methodLink own i Lib.objectInit).before a0 Z = true) (w2 : (Jvm.Cond.instanceMethod Lib.objectInit).before a0 Z = true) (w3 : (Jvm.Cond.code Lib.objectInit ⟨#[0xb1]⟩ 1 none).before a0 Z = true) (hsz : Ls.size = ml) (hd : decode bytes pc = .ok (.invokespecial i, 3)) (hp : pc + 3 = pc') (hf : 1 ≤ R.frames) {W : Nat} (hW : (st.map fun v => v.category).sum ≤ W) (hl : W + 12 ≤ R.locals)
    (k : ∀ T', Sd l Z own nm bytes ml ret R p e s m args below T' h cells slots → End Z p e below s Q kc ks T' (mkF m pc' Ls st)) : End Z p e below s Q kc ks T (mkF m pc Ls (.ref a :: st)) := by
  subst hp; obtain ⟨meth, c, locs, X, N, e0, E, hx, hb, hml, hown, r⟩ := X; subst hb
  obtain ⟨T', X', e', stp⟩ := initO X hx r.2.2.2 hown w1 w2 w3 e0 (g := mkF m pc Ls (.ref a :: st)) rfl (hsz.trans hml.symm) rfl hd hf (W := W) (by show 2 * 0 + _ ≤ _; omega) hl
  exact (k T' ⟨meth, c, locs, X', N, e', E, hx, rfl, hml, hown, r⟩).go stp
/-! calls by a contract -/
theorem E_callS (X : Sd l Z own nm bytes ml ret R p e s m args below T h cells slots) {i : Nat} {y : MethodName} {bytes' : ByteArray} {ml' : Nat} {ret' : Option FieldType} {rm : Room} {Qc : Option Value → Heap → Prop} {as : Array Value} {ps : List FieldType} {rr : Option FieldType} {argsL rest : List Value} {W : Nat} {cells' slots' : Nat} (C : Con l Z y bytes' ml' ret' rm as h Qc)
    (w1 : (Jvm.Cond.methodLink own i y).before a0 Z = true) (w2 : (Jvm.Cond.static y).before a0 Z = true) (w3 : (Jvm.Cond.initialized y.cls).before a0 Z = true) (w4 : (Jvm.Cond.code y bytes' ml' ret').before a0 Z = true) (hy : y.cls ≠ "java/lang/invoke/MethodHandle" ∧ y.cls ≠ "java/lang/invoke/VarHandle") (hsz : Ls.size = ml) (has : argsL.toArray = as) (hpd : parseMethodDescriptor y.desc = some ⟨ps, rr⟩) (hlen : argsL.length = ps.length) (hst : st = argsL.reverse ++ rest)
    (hd : decode bytes pc = .ok (.invokestatic i, 3)) (hp : pc + 3 = pc') (hW : (rest.map fun v => v.category).sum ≤ W) (hf : rm.frames + 1 ≤ R.frames) (hl : W + (ml' + 11) + rm.locals ≤ R.locals) (hcc : cells + rm.cells = cells') (hss : slots + rm.slots = slots') (hc : cells' ≤ R.cells) (hs : slots' ≤ R.slots)
    (k : ∀ v T' h', Sd l Z own nm bytes ml ret R p e s m args below T' h' cells' slots' → Qc v h' → End Z p e below s Q kc ks T' (mkF m pc' Ls (v.toList ++ rest))) : End Z p e below s Q kc ks T (mkF m pc Ls st) := by
  subst hp hst hcc hss; obtain ⟨meth, c, locs, X, N, e0, E, hx, hb, hml, hown, r⟩ := X; subst hb
  obtain ⟨v, _, ⟨T', L', k', n'⟩, -, X', ⟨Lc, hQ, l1, l2, l3⟩, stp⟩ := Jvm.LawKit.callS X hx (y := y) hown (mvT r.2.2.2 w1) (mvT r.2.2.2 w2) (mvT r.2.2.2 w3) (mvT r.2.2.2 w4) hy (backOf (W := W) (Q := fun v h L => Fr Z.heap.size L ∧ Ext Z.heap h ∧ Qc v h) (C []) r.2.2.2 w4 w3 hf hl) (g := mkF m pc Ls (argsL.reverse ++ rest)) rfl (hsz.trans hml.symm) (argsL := argsL) (rest := rest) (lenOf hpd hlen) rfl (by show 2 * 0 + _ ≤ _; omega) hd (fun _ _ => ⟨has, e0, hc, hs⟩)
  dsimp only [Pt.U, Pt.locs, Pt.cells, Pt.slots] at X' l1 l2 l3 stp hQ
  subst l1 l2 l3
  exact (k v T' T'.heap ⟨meth, c, _, X', Fr.app N hQ.1, rfl, hQ.2.1, hx, rfl, hml, hown, r⟩ hQ.2.2).go stp
theorem E_callI (X : Sd l Z own nm bytes ml ret R p e s m args below T h cells slots) {i : Nat} {y : MethodName} {bytes' : ByteArray} {ml' : Nat} {rm : Room} {Qc : Option Value → Heap → Prop} {a : Addr} {as : Array Value} {ps : List FieldType} {rr : Option FieldType} {argsL rest : List Value} {W : Nat} {cells' slots' : Nat} (C : Con l Z y bytes' ml' none rm as h Qc)
    (w1 : (Jvm.Cond.methodLink own i y).before a0 Z = true) (w2 : (Jvm.Cond.instanceMethod y).before a0 Z = true) (w3 : (Jvm.Cond.initialized y.cls).before a0 Z = true) (w4 : (Jvm.Cond.code y bytes' ml' none).before a0 Z = true) (hy1 : y.name = "<init>") (hy : y.cls ≠ "java/lang/invoke/MethodHandle" ∧ y.cls ≠ "java/lang/invoke/VarHandle") (hsz : Ls.size = ml) (has : (.ref a :: argsL).toArray = as) (hpd : parseMethodDescriptor y.desc = some ⟨ps, rr⟩) (hlen : argsL.length = ps.length) (hst : st = argsL.reverse ++ .ref a :: rest)
    (hd : decode bytes pc = .ok (.invokespecial i, 3)) (hp : pc + 3 = pc') (hW : (rest.map fun v => v.category).sum ≤ W) (hf : rm.frames + 1 ≤ R.frames) (hl : W + (ml' + 11) + rm.locals ≤ R.locals) (hcc : cells + rm.cells = cells') (hss : slots + rm.slots = slots') (hc : cells' ≤ R.cells) (hs : slots' ≤ R.slots)
    (k : ∀ v T' h', Sd l Z own nm bytes ml ret R p e s m args below T' h' cells' slots' → Qc v h' → End Z p e below s Q kc ks T' (mkF m pc' Ls (v.toList ++ rest))) : End Z p e below s Q kc ks T (mkF m pc Ls st) := by
  subst hp hst hcc hss; obtain ⟨meth, c, locs, X, N, e0, E, hx, hb, hml, hown, r⟩ := X; subst hb
  obtain ⟨v, _, ⟨T', L', k', n'⟩, -, X', ⟨Lc, hQ, l1, l2, l3⟩, stp⟩ := X.specialBack hx (y := y) hy1 hown (mvT r.2.2.2 w1) (mvT r.2.2.2 w2) (mvT r.2.2.2 w4) hy (backOf (W := W) (Q := fun v h L => Fr Z.heap.size L ∧ Ext Z.heap h ∧ Qc v h) (C []) r.2.2.2 w4 w3 hf hl) (g := mkF m pc Ls (argsL.reverse ++ .ref a :: rest)) rfl (hsz.trans hml.symm) (Steps.refl _) (a := a) (argsL := argsL) (rest := rest) (lenOf hpd hlen) rfl (by show 2 * 0 + _ ≤ _; omega) hd (fun _ _ => ⟨has, e0, hc, hs⟩)
  dsimp only [Pt.U, Pt.locs, Pt.cells, Pt.slots] at X' l1 l2 l3 stp hQ
  subst l1 l2 l3
  exact (k v T' T'.heap ⟨meth, c, _, X', Fr.app N hQ.1, rfl, hQ.2.1, hx, rfl, hml, hown, r⟩ hQ.2.2).go fun _ q => stp.trans q
theorem E_callV (X : Sd l Z own nm bytes ml ret R p e s m args below T h cells slots) {i : Nat} {y : MethodName} {K : String} {bytes' : ByteArray} {ml' : Nat} {ret' : Option FieldType} {rm : Room} {Qc : Option Value → Heap → Prop} {a : Addr} {as : Array Value} {ps : List FieldType} {rr : Option FieldType} {argsL rest : List Value} {W : Nat} {cells' slots' : Nat} (C : Con l Z y bytes' ml' ret' rm as h Qc) (E1 : Exa Z h a K)
    (w1 : (Jvm.Cond.methodLink own i y).before a0 Z = true) (wd : (Jvm.Cond.declares y).before a0 Z = true) (ws : (Jvm.Cond.selects K y y).before a0 Z = true) (w2 : (Jvm.Cond.instanceMethod y).before a0 Z = true) (w3 : (Jvm.Cond.initialized y.cls).before a0 Z = true) (w4 : (Jvm.Cond.code y bytes' ml' ret').before a0 Z = true) (hK : K = y.cls) (hy : y.cls ≠ "java/lang/invoke/MethodHandle" ∧ y.cls ≠ "java/lang/invoke/VarHandle") (hsz : Ls.size = ml) (has : (.ref a :: argsL).toArray = as) (hpd : parseMethodDescriptor y.desc = some ⟨ps, rr⟩) (hlen : argsL.length = ps.length) (hst : st = argsL.reverse ++ .ref a :: rest)
    (hd : decode bytes pc = .ok (.invokevirtual i, 3)) (hp : pc + 3 = pc') (hW : (rest.map fun v => v.category).sum ≤ W) (hf : rm.frames + 1 ≤ R.frames) (hl : W + (ml' + 11) + rm.locals ≤ R.locals) (hcc : cells + rm.cells = cells') (hss : slots + rm.slots = slots') (hc : cells' ≤ R.cells) (hs : slots' ≤ R.slots)
    (k : ∀ v T' h', Sd l Z own nm bytes ml ret R p e s m args below T' h' cells' slots' → Qc v h' → End Z p e below s Q kc ks T' (mkF m pc' Ls (v.toList ++ rest))) : End Z p e below s Q kc ks T (mkF m pc Ls st) := by
  subst hp hst hcc hss; obtain ⟨meth, c, locs, X, N, e0, E, hx, hb, hml, hown, r⟩ := X; subst hb
  subst hK
  obtain ⟨cq, kq, qa, qb, qc⟩ := isOf r.2.2.2 e0 E1
  obtain ⟨v, _, ⟨T', L', k', n'⟩, -, X', ⟨Lc, hQ, l1, l2, l3⟩, stp⟩ := X.virtualBack hx (y := y) (z := y) hown (mvT r.2.2.2 w1) (mvT r.2.2.2 wd) (notFace_of_selects (args := #[]) (mvT r.2.2.2 ws)) (mvT r.2.2.2 ws) (mvT r.2.2.2 w2) hy (backOf (W := W) (Q := fun v h L => Fr Z.heap.size L ∧ Ext Z.heap h ∧ Qc v h) (C []) r.2.2.2 w4 w3 hf hl) qa qc (g := mkF m pc Ls (argsL.reverse ++ .ref a :: rest)) rfl (hsz.trans hml.symm) (Steps.refl _) (argsL := argsL) (rest := rest) (lenOf hpd hlen) rfl (by show 2 * 0 + _ ≤ _; omega) hd (fun _ _ => ⟨has, e0, hc, hs⟩)
  dsimp only [Pt.U, Pt.locs, Pt.cells, Pt.slots] at X' l1 l2 l3 stp hQ
  subst l1 l2 l3
  exact (k v T' T'.heap ⟨meth, c, _, X', Fr.app N hQ.1, rfl, hQ.2.1, hx, rfl, hml, hown, r⟩ hQ.2.2).go fun _ q => stp.trans q
/-! arrays by their list of values -/
def Ar (Z : State) (h : Heap) (a : Addr) (ty : FieldType) (vs : List Value) : Prop := ∃ c : Cell, Arr Z h a c ty ∧ c.slots = vs.toArray
section ArFacts
variable {h' : Heap} {a b : Addr} {ty : FieldType} {vs : List Value} {ws : List Addr} {v : Value} {sl : Nat}
theorem Ar.lt (F : Ar Z h a ty vs) : a < h.size := by obtain ⟨c, A, -⟩ := F; exact A.lt
theorem Ar.ext (F : Ar Z h a ty vs) (E : Ext h h') : Ar Z h' a ty vs := by obtain ⟨c, A, r⟩ := F; exact ⟨c, A.ext E, r⟩
theorem Ar.other (F : Ar Z h b ty vs) (W : Wr h h' a sl v) (q : b ≠ a) : Ar Z h' b ty vs := by obtain ⟨c, A, r⟩ := F; exact ⟨c, A.other W q, r⟩
theorem Ar.keep (F : Ar Z h a ty vs) (K : Keep h h' ws) (q : a ∉ ws) : Ar Z h' a ty vs := by obtain ⟨c, A, r⟩ := F; exact ⟨c, ⟨K.2.1 a c A.1 q, A.2⟩, r⟩
theorem Ar.set (F : Ar Z h a ty vs) (W : Wr h h' a sl v) : Ar Z h' a ty (vs.set sl v) := by
  obtain ⟨c, A, r⟩ := F
  exact ⟨_, A.same W, by simp [Cell.setSlot, r]⟩
theorem Ar.ne_exa {C : String} {k : Nat} (F : Ar Z h b ty vs) (E : Exa Z h a C) (wi : (Jvm.Cond.instantiable C k).before a0 Z = true) : a ≠ b := by obtain ⟨c, A, r⟩ := F; exact ne_arr E wi A
theorem Ar.ne {vs' : List Value} (F : Ar Z h a ty vs) (G : Ar Z h b ty vs') (q : vs ≠ vs') : a ≠ b := fun e => by
  subst e; obtain ⟨c, A, r⟩ := F; obtain ⟨c', A', r'⟩ := G
  cases A.1.symm.trans A'.1
  exact q (by simpa using congrArg Array.toList (r.symm.trans r'))
theorem Ar.at {c : Cell} {j : Int32} (r : c.slots = vs.toArray) (hj : ¬ j < 0) (hv : vs[j.toNatClampNeg]? = some v) : ¬ (j < 0 ∨ c.slots.size ≤ j.toNatClampNeg) ∧ c.slots[j.toNatClampNeg]? = some v := by
  refine ⟨fun q => ?_, by rw [r]; simpa using hv⟩
  rcases q with q | q
  · exact hj q
  · rw [r] at q
    have := (List.getElem?_eq_some_iff.mp hv).1
    simp at q; omega
theorem Ar.inb {c : Cell} {j : Int32} (r : c.slots = vs.toArray) (hj : ¬ j < 0) (hl : j.toNatClampNeg < vs.length) : ¬ (j < 0 ∨ c.slots.size ≤ j.toNatClampNeg) := (Ar.at r hj (List.getElem?_eq_getElem hl)).1
end ArFacts
theorem E_newA (X : Sd l Z own nm bytes ml ret R p e s m args below T h cells slots) {aty : ArrayType} {n : Int32} {cap : Nat} {vs : List Value} {cells' slots' : Nat} (w : (Jvm.Cond.arrayClass (newarray.typeOf aty)).before a0 Z = true) (hd : decode bytes pc = .ok (.newarray aty, 2)) (hp : pc + 2 = pc') (hn : ¬ n < 0) (hcap : n.toNatClampNeg ≤ cap) (hb8 : cap * 8 ≤ 536870912) (hvs : List.replicate n.toNatClampNeg (defaultValue (newarray.typeOf aty)) = vs) (hcc : cells + 1 = cells') (hss : slots + cap = slots') (hc : cells' ≤ R.cells) (hl : slots' ≤ R.slots)
    (k : ∀ T' h' a, a = h.size → Sd l Z own nm bytes ml ret R p e s m args below T' h' cells' slots' → Ext h h' → Ar Z h' a (newarray.typeOf aty) vs → End Z p e below s Q kc ks T' (mkF m pc' Ls (.ref a :: st))) : End Z p e below s Q kc ks T (mkF m pc Ls (.int n :: st)) := by
  subst hp hcc hss hvs; obtain ⟨meth, c, locs, X, N, e0, E, hx, hb, hml, hown, r⟩ := X; subst hb
  obtain ⟨T', h', cA, X', e', E2, A2, stp⟩ := newP X hx r.2.2.2 w e0 (g := mkF m pc Ls (.int n :: st)) rfl hd rfl hn hcap hb8 hc hl
  exact (k T' h' h.size rfl ⟨meth, c, locs, X', N, e', E.trans E2, hx, rfl, hml, hown, r⟩ E2 ⟨_, A2, by simp [newA]⟩).go stp
theorem E_newAE (X : Sd l Z own nm bytes ml ret R p e s m args below T h cells slots) {aty : ArrayType} {n : Int32} {cap : Nat} {vs : List Value} {cells' slots' : Nat} {ad : String} (had : "[" ++ (newarray.typeOf aty).toString = ad) (w : (Jvm.Cond.arrayClass (newarray.typeOf aty)).before a0 Z = true) (hd : decode bytes pc = .ok (.newarray aty, 2)) (hp : pc + 2 = pc') (hn : ¬ n < 0) (hcap : n.toNatClampNeg ≤ cap) (hb8 : cap * 8 ≤ 536870912) (hvs : List.replicate n.toNatClampNeg (defaultValue (newarray.typeOf aty)) = vs) (hcc : cells + 1 = cells') (hss : slots + cap = slots') (hc : cells' ≤ R.cells) (hl : slots' ≤ R.slots)
    (k : ∀ T' h' a, a = h.size → Sd l Z own nm bytes ml ret R p e s m args below T' h' cells' slots' → Ext h h' → Ar Z h' a (newarray.typeOf aty) vs → Exa Z h' a ad → End Z p e below s Q kc ks T' (mkF m pc' Ls (.ref a :: st))) : End Z p e below s Q kc ks T (mkF m pc Ls (.int n :: st)) := by
  subst hp hcc hss hvs; obtain ⟨meth, c, locs, X, N, e0, E, hx, hb, hml, hown, r⟩ := X; subst hb
  obtain ⟨T', h', cA, X', e', E2, A2, A3, stp⟩ := newPE X hx r.2.2.2 w e0 (g := mkF m pc Ls (.int n :: st)) rfl hd rfl hn hcap hb8 hc hl had
  exact (k T' h' h.size rfl ⟨meth, c, locs, X', N, e', E.trans E2, hx, rfl, hml, hown, r⟩ E2 ⟨_, A2, by simp [newA]⟩ A3).go stp
theorem E_alen (X : Sd l Z own nm bytes ml ret R p e s m args below T h cells slots) {a : Addr} {ty : FieldType} {vs : List Value} {n : Int32} (F : Ar Z h a ty vs) (hn : vs.length.toInt32 = n) (hd : decode bytes pc = .ok (.arraylength, 1)) (hp : pc + 1 = pc') (k : End Z p e below s Q kc ks T (mkF m pc' Ls (.int n :: st))) : End Z p e below s Q kc ks T (mkF m pc Ls (.ref a :: st)) := by
  subst hp hn; obtain ⟨meth, c, locs, X, N, e0, E, hx, hb, hml, hown, r⟩ := X; subst hb
  obtain ⟨cl, A, q⟩ := F
  have q2 : cl.slots.size = vs.length := by rw [q]; simp
  rw [← q2] at k
  exact k.go fun t => X.arraylength hx (by rw [e0]; exact A.1) (State.isArrayOf_alike r.2.2.2.alike A.2.1) (g := mkF m pc Ls (.ref a :: st)) rfl rfl hd t
theorem E_iaload (X : Sd l Z own nm bytes ml ret R p e s m args below T h cells slots) {a : Addr} {vs : List Value} {j : Int32} {v : Value} (F : Ar Z h a .int vs) (hj : ¬ j < 0) (hv : vs[j.toNatClampNeg]? = some v) (hd : decode bytes pc = .ok (.iaload, 1)) (hp : pc + 1 = pc') (k : End Z p e below s Q kc ks T (mkF m pc' Ls (v :: st))) : End Z p e below s Q kc ks T (mkF m pc Ls (.int j :: .ref a :: st)) := by
  subst hp; obtain ⟨meth, c, locs, X, N, e0, E, hx, hb, hml, hown, r⟩ := X; subst hb
  obtain ⟨cl, A, q⟩ := F
  obtain ⟨i1, i2⟩ := Ar.at q hj hv
  exact k.go fun t => X.iaload hx (by rw [e0]; exact A.1) (State.isArrayOf_alike r.2.2.2.alike A.2.1) A.2.2 i1 i2 (g := mkF m pc Ls (.int j :: .ref a :: st)) rfl rfl hd t
theorem E_laload (X : Sd l Z own nm bytes ml ret R p e s m args below T h cells slots) {a : Addr} {vs : List Value} {j : Int32} {v : Value} (F : Ar Z h a .long vs) (hj : ¬ j < 0) (hv : vs[j.toNatClampNeg]? = some v) (hd : decode bytes pc = .ok (.laload, 1)) (hp : pc + 1 = pc') (k : End Z p e below s Q kc ks T (mkF m pc' Ls (v :: st))) : End Z p e below s Q kc ks T (mkF m pc Ls (.int j :: .ref a :: st)) := by
  subst hp; obtain ⟨meth, c, locs, X, N, e0, E, hx, hb, hml, hown, r⟩ := X; subst hb
  obtain ⟨cl, A, q⟩ := F
  obtain ⟨i1, i2⟩ := Ar.at q hj hv
  exact k.go fun t => X.laload hx (by rw [e0]; exact A.1) (State.isArrayOf_alike r.2.2.2.alike A.2.1) A.2.2 i1 i2 (g := mkF m pc Ls (.int j :: .ref a :: st)) rfl rfl hd t
theorem E_caload (X : Sd l Z own nm bytes ml ret R p e s m args below T h cells slots) {a : Addr} {vs : List Value} {j : Int32} {v : Value} (F : Ar Z h a .char vs) (hj : ¬ j < 0) (hv : vs[j.toNatClampNeg]? = some v) (hd : decode bytes pc = .ok (.caload, 1)) (hp : pc + 1 = pc') (k : End Z p e below s Q kc ks T (mkF m pc' Ls (v :: st))) : End Z p e below s Q kc ks T (mkF m pc Ls (.int j :: .ref a :: st)) := by
  subst hp; obtain ⟨meth, c, locs, X, N, e0, E, hx, hb, hml, hown, r⟩ := X; subst hb
  obtain ⟨cl, A, q⟩ := F
  obtain ⟨i1, i2⟩ := Ar.at q hj hv
  exact k.go fun t => X.caload hx (by rw [e0]; exact A.1) (State.isArrayOf_alike r.2.2.2.alike A.2.1) A.2.2 i1 i2 (g := mkF m pc Ls (.int j :: .ref a :: st)) rfl rfl hd t
theorem E_baload (X : Sd l Z own nm bytes ml ret R p e s m args below T h cells slots) {a : Addr} {vs : List Value} {j : Int32} {v : Value} (F : Ar Z h a .byte vs) (hj : ¬ j < 0) (hv : vs[j.toNatClampNeg]? = some v) (hd : decode bytes pc = .ok (.baload, 1)) (hp : pc + 1 = pc') (k : End Z p e below s Q kc ks T (mkF m pc' Ls (v :: st))) : End Z p e below s Q kc ks T (mkF m pc Ls (.int j :: .ref a :: st)) := by
  subst hp; obtain ⟨meth, c, locs, X, N, e0, E, hx, hb, hml, hown, r⟩ := X; subst hb
  obtain ⟨cl, A, q⟩ := F
  obtain ⟨i1, i2⟩ := Ar.at q hj hv
  exact k.go fun t => X.baloadBytes hx (by rw [e0]; exact A.1) (State.isArrayOf_alike r.2.2.2.alike A.2.1) A.2.2 i1 i2 (g := mkF m pc Ls (.int j :: .ref a :: st)) rfl rfl hd t
theorem E_baload_Z (X : Sd l Z own nm bytes ml ret R p e s m args below T h cells slots) {a : Addr} {vs : List Value} {j : Int32} {v : Value} (F : Ar Z h a .boolean vs) (hj : ¬ j < 0) (hv : vs[j.toNatClampNeg]? = some v) (hd : decode bytes pc = .ok (.baload, 1)) (hp : pc + 1 = pc') (k : End Z p e below s Q kc ks T (mkF m pc' Ls (v :: st))) : End Z p e below s Q kc ks T (mkF m pc Ls (.int j :: .ref a :: st)) := by
  subst hp; obtain ⟨meth, c, locs, X, N, e0, E, hx, hb, hml, hown, r⟩ := X; subst hb
  obtain ⟨cl, A, q⟩ := F
  obtain ⟨i1, i2⟩ := Ar.at q hj hv
  exact k.go fun t => X.baloadBooleans hx (by rw [e0]; exact A.1) (State.isArrayOf_alike r.2.2.2.alike A.2.1) A.2.2 i1 i2 (g := mkF m pc Ls (.int j :: .ref a :: st)) rfl rfl hd t
theorem E_aaload (X : Sd l Z own nm bytes ml ret R p e s m args below T h cells slots) {a : Addr} {vs : List Value} {j : Int32} {v : Value} {ty : FieldType} (F : Ar Z h a ty vs) (hty : ty.isReference = true) (hj : ¬ j < 0) (hv : vs[j.toNatClampNeg]? = some v) (hd : decode bytes pc = .ok (.aaload, 1)) (hp : pc + 1 = pc') (k : End Z p e below s Q kc ks T (mkF m pc' Ls (v :: st))) : End Z p e below s Q kc ks T (mkF m pc Ls (.int j :: .ref a :: st)) := by
  subst hp; obtain ⟨meth, c, locs, X, N, e0, E, hx, hb, hml, hown, r⟩ := X; subst hb
  obtain ⟨cl, A, q⟩ := F
  obtain ⟨i1, i2⟩ := Ar.at q hj hv
  exact k.go fun t => X.aaload hx (by rw [e0]; exact A.1) (State.isArrayOf_alike r.2.2.2.alike A.2.1) hty A.2.2 i1 i2 (g := mkF m pc Ls (.int j :: .ref a :: st)) rfl rfl hd t
theorem E_iastore (X : Sd l Z own nm bytes ml ret R p e s m args below T h cells slots) {a : Addr} {vs vs' : List Value} {j : Int32} {x : Int32} (F : Ar Z h a .int vs) (hj : ¬ j < 0) (hl : j.toNatClampNeg < vs.length) (hvs : vs.set j.toNatClampNeg (.int x) = vs') (ha : Z.heap.size ≤ a) (hd : decode bytes pc = .ok (.iastore, 1)) (hp : pc + 1 = pc')
    (k : ∀ T' h', Sd l Z own nm bytes ml ret R p e s m args below T' h' cells slots → Wr h h' a j.toNatClampNeg (.int x) → Ar Z h' a .int vs' → End Z p e below s Q kc ks T' (mkF m pc' Ls st)) : End Z p e below s Q kc ks T (mkF m pc Ls (.int x :: .int j :: .ref a :: st)) := by
  subst hp hvs; obtain ⟨meth, c, locs, X, N, e0, E, hx, hb, hml, hown, r⟩ := X; subst hb
  have F0 := F
  obtain ⟨cl, A, q⟩ := F
  obtain ⟨T', h', X', e', W, stp⟩ := stI X hx r.2.2.2 e0 A (Ar.inb q hj hl) (g := mkF m pc Ls (.int x :: .int j :: .ref a :: st)) rfl rfl hd
  exact (k T' h' ⟨meth, c, _, X', Fr.snoc X' N ha, e', E.wr W ha, hx, rfl, hml, hown, r⟩ W (F0.set W)).go stp
theorem E_lastore (X : Sd l Z own nm bytes ml ret R p e s m args below T h cells slots) {a : Addr} {vs vs' : List Value} {j : Int32} {x : Int64} (F : Ar Z h a .long vs) (hj : ¬ j < 0) (hl : j.toNatClampNeg < vs.length) (hvs : vs.set j.toNatClampNeg (.long x) = vs') (ha : Z.heap.size ≤ a) (hd : decode bytes pc = .ok (.lastore, 1)) (hp : pc + 1 = pc')
    (k : ∀ T' h', Sd l Z own nm bytes ml ret R p e s m args below T' h' cells slots → Wr h h' a j.toNatClampNeg (.long x) → Ar Z h' a .long vs' → End Z p e below s Q kc ks T' (mkF m pc' Ls st)) : End Z p e below s Q kc ks T (mkF m pc Ls (.long x :: .int j :: .ref a :: st)) := by
  subst hp hvs; obtain ⟨meth, c, locs, X, N, e0, E, hx, hb, hml, hown, r⟩ := X; subst hb
  have F0 := F
  obtain ⟨cl, A, q⟩ := F
  obtain ⟨T', h', X', e', W, stp⟩ := stJ X hx r.2.2.2 e0 A (Ar.inb q hj hl) (g := mkF m pc Ls (.long x :: .int j :: .ref a :: st)) rfl rfl hd
  exact (k T' h' ⟨meth, c, _, X', Fr.snoc X' N ha, e', E.wr W ha, hx, rfl, hml, hown, r⟩ W (F0.set W)).go stp
theorem E_castore (X : Sd l Z own nm bytes ml ret R p e s m args below T h cells slots) {a : Addr} {vs vs' : List Value} {j : Int32} {x : Int32} (F : Ar Z h a .char vs) (hj : ¬ j < 0) (hl : j.toNatClampNeg < vs.length) (hvs : vs.set j.toNatClampNeg (.int (nar .char x)) = vs') (ha : Z.heap.size ≤ a) (hd : decode bytes pc = .ok (.castore, 1)) (hp : pc + 1 = pc')
    (k : ∀ T' h', Sd l Z own nm bytes ml ret R p e s m args below T' h' cells slots → Wr h h' a j.toNatClampNeg (.int (nar .char x)) → Ar Z h' a .char vs' → End Z p e below s Q kc ks T' (mkF m pc' Ls st)) : End Z p e below s Q kc ks T (mkF m pc Ls (.int x :: .int j :: .ref a :: st)) := by
  subst hp hvs; obtain ⟨meth, c, locs, X, N, e0, E, hx, hb, hml, hown, r⟩ := X; subst hb
  have F0 := F
  obtain ⟨cl, A, q⟩ := F
  obtain ⟨T', h', X', e', W, stp⟩ := stC X hx r.2.2.2 e0 A (Ar.inb q hj hl) (g := mkF m pc Ls (.int x :: .int j :: .ref a :: st)) rfl rfl hd
  exact (k T' h' ⟨meth, c, _, X', Fr.snoc X' N ha, e', E.wr W ha, hx, rfl, hml, hown, r⟩ W (F0.set W)).go stp
theorem E_bastore (X : Sd l Z own nm bytes ml ret R p e s m args below T h cells slots) {a : Addr} {vs vs' : List Value} {j : Int32} {x : Int32} (F : Ar Z h a .byte vs) (hj : ¬ j < 0) (hl : j.toNatClampNeg < vs.length) (hvs : vs.set j.toNatClampNeg (.int (nar .byte x)) = vs') (ha : Z.heap.size ≤ a) (hd : decode bytes pc = .ok (.bastore, 1)) (hp : pc + 1 = pc')
    (k : ∀ T' h', Sd l Z own nm bytes ml ret R p e s m args below T' h' cells slots → Wr h h' a j.toNatClampNeg (.int (nar .byte x)) → Ar Z h' a .byte vs' → End Z p e below s Q kc ks T' (mkF m pc' Ls st)) : End Z p e below s Q kc ks T (mkF m pc Ls (.int x :: .int j :: .ref a :: st)) := by
  subst hp hvs; obtain ⟨meth, c, locs, X, N, e0, E, hx, hb, hml, hown, r⟩ := X; subst hb
  have F0 := F
  obtain ⟨cl, A, q⟩ := F
  obtain ⟨T', h', X', e', W, stp⟩ := stB X hx r.2.2.2 e0 A (Ar.inb q hj hl) (g := mkF m pc Ls (.int x :: .int j :: .ref a :: st)) rfl rfl hd
  exact (k T' h' ⟨meth, c, _, X', Fr.snoc X' N ha, e', E.wr W ha, hx, rfl, hml, hown, r⟩ W (F0.set W)).go stp
theorem E_bastore_Z (X : Sd l Z own nm bytes ml ret R p e s m args below T h cells slots) {a : Addr} {vs vs' : List Value} {j : Int32} {x : Int32} (F : Ar Z h a .boolean vs) (hj : ¬ j < 0) (hl : j.toNatClampNeg < vs.length) (hvs : vs.set j.toNatClampNeg (.int (nar .boolean x)) = vs') (ha : Z.heap.size ≤ a) (hd : decode bytes pc = .ok (.bastore, 1)) (hp : pc + 1 = pc')
    (k : ∀ T' h', Sd l Z own nm bytes ml ret R p e s m args below T' h' cells slots → Wr h h' a j.toNatClampNeg (.int (nar .boolean x)) → Ar Z h' a .boolean vs' → End Z p e below s Q kc ks T' (mkF m pc' Ls st)) : End Z p e below s Q kc ks T (mkF m pc Ls (.int x :: .int j :: .ref a :: st)) := by
  subst hp hvs; obtain ⟨meth, c, locs, X, N, e0, E, hx, hb, hml, hown, r⟩ := X; subst hb
  have F0 := F
  obtain ⟨cl, A, q⟩ := F
  obtain ⟨T', h', X', e', W, stp⟩ := stZ X hx r.2.2.2 e0 A (Ar.inb q hj hl) (g := mkF m pc Ls (.int x :: .int j :: .ref a :: st)) rfl rfl hd
  exact (k T' h' ⟨meth, c, _, X', Fr.snoc X' N ha, e', E.wr W ha, hx, rfl, hml, hown, r⟩ W (F0.set W)).go stp
theorem E_clone (X : Sd l Z own nm bytes ml ret R p e s m args below T h cells slots) {ad : String} {i cap W : Nat} {a : Addr} {ty : FieldType} {vs : List Value} {cells' slots' : Nat} (w1 : (Jvm.Cond.methodLink own i ⟨ad, "clone", "()Ljava/lang/Object;"⟩).before a0 Z = true) (w2 : (Jvm.Cond.sameMethod ad "java/lang/Object" "clone" "()Ljava/lang/Object;").before a0 Z = true) (w3 : (Jvm.Cond.native ⟨"java/lang/Object", "clone", "()Ljava/lang/Object;"⟩).before a0 Z = true)
    (w4 : (Jvm.Cond.instanceMethod ⟨"java/lang/Object", "clone", "()Ljava/lang/Object;"⟩).before a0 Z = true) (w5 : (Jvm.Cond.selects ad ⟨ad, "clone", "()Ljava/lang/Object;"⟩ ⟨"java/lang/Object", "clone", "()Ljava/lang/Object;"⟩).before a0 Z = true) (w6 : (Jvm.Cond.castable ad "java/lang/Cloneable").before a0 Z = true) (F : Ar Z h a ty vs) (E1 : Exa Z h a ad) (hfit : ∀ v ∈ vs, fits ty v = true) (hsz : Ls.size = ml) (hd : decode bytes pc = .ok (.invokevirtual i, 3)) (hp : pc + 3 = pc')
    (hf : 1 ≤ R.frames) (hW : (st.map fun v => v.category).sum ≤ W) (hl : W + 14 ≤ R.locals) (hcap : vs.length ≤ cap) (hcc : cells + 1 = cells') (hss : slots + cap = slots') (hc : cells' ≤ R.cells) (hsl : slots' ≤ R.slots)
    (k : ∀ T' h' b, b = h.size → Sd l Z own nm bytes ml ret R p e s m args below T' h' cells' slots' → Ext h h' → Ar Z h' b ty vs → Exa Z h' b ad → End Z p e below s Q kc ks T' (mkF m pc' Ls (.ref b :: st))) : End Z p e below s Q kc ks T (mkF m pc Ls (.ref a :: st)) := by
  subst hp hcc hss; obtain ⟨meth, c, locs, X, N, e0, E, hx, hb, hml, hown, r⟩ := X; subst hb
  obtain ⟨cl, A, q⟩ := F
  have FC : FitC Z cl := fitC_of A fun i hi v hv => hfit v (by rw [q] at hv; exact List.mem_of_getElem? (by simpa using hv))
  obtain ⟨T', h', X', e', E2, A2, A3, stp⟩ := cloneA X hx r.2.2.2 hown w1 w2 w3 w4 w5 w6 e0 A E1 FC (g := mkF m pc Ls (.ref a :: st)) rfl (hsz.trans hml.symm) rfl hd hf (W := W) (cap := cap) (by show 2 * 0 + _ ≤ _; omega) hl (by rw [q]; simpa using hcap) hc hsl
  exact (k T' h' h.size rfl ⟨meth, c, locs, X', N, e', E.trans E2, hx, rfl, hml, hown, r⟩ E2 ⟨_, A2, q⟩ A3).go stp
theorem E_cast (X : Sd l Z own nm bytes ml ret R p e s m args below T h cells slots) {K : String} {i : Nat} {a : Addr} (w : (Jvm.Cond.classLink own i K).before a0 Z = true) (F : Ins Z h a K true) (hd : decode bytes pc = .ok (.checkcast i, 3)) (hp : pc + 3 = pc')
    (k : ∀ T', Sd l Z own nm bytes ml ret R p e s m args below T' h cells slots → End Z p e below s Q kc ks T' (mkF m pc' Ls (.ref a :: st))) : End Z p e below s Q kc ks T (mkF m pc Ls (.ref a :: st)) := by
  subst hp; obtain ⟨meth, c, locs, X, N, e0, E, hx, hb, hml, hown, r⟩ := X; subst hb
  obtain ⟨T', X', e', stp⟩ := castY X hx r.2.2.2 hown w e0 F (g := mkF m pc Ls (.ref a :: st)) rfl rfl hd
  exact (k T' ⟨meth, c, locs, X', N, e', E, hx, rfl, hml, hown, r⟩).go stp
theorem E_instY (X : Sd l Z own nm bytes ml ret R p e s m args below T h cells slots) {K : String} {i : Nat} {a : Addr} (w : (Jvm.Cond.classLink own i K).before a0 Z = true) (F : Ins Z h a K true) (hd : decode bytes pc = .ok (.instanceof i, 3)) (hp : pc + 3 = pc')
    (k : ∀ T', Sd l Z own nm bytes ml ret R p e s m args below T' h cells slots → End Z p e below s Q kc ks T' (mkF m pc' Ls (.int 1 :: st))) : End Z p e below s Q kc ks T (mkF m pc Ls (.ref a :: st)) := by
  subst hp; obtain ⟨meth, c, locs, X, N, e0, E, hx, hb, hml, hown, r⟩ := X; subst hb
  obtain ⟨T', X', e', stp⟩ := instY X hx r.2.2.2 hown w e0 F (g := mkF m pc Ls (.ref a :: st)) rfl rfl hd
  exact (k T' ⟨meth, c, locs, X', N, e', E, hx, rfl, hml, hown, r⟩).go stp
theorem isref_cat {v : Value} (h : v.isRef = true) : v.category = 1 := by rcases ref_cases h with rfl | ⟨a, rfl⟩ <;> rfl
theorem own_irr (x : Int32) : ¬ x < x := by rw [Int32.lt_iff_toInt_lt]; omega
theorem own_irrL (x : Int64) : ¬ x < x := by rw [Int64.lt_iff_toInt_lt]; omega
theorem E_callP (X : Sd l Z own nm bytes ml ret R p e s m args below T h cells slots) {i : Nat} {y : MethodName} {K : String} {bytes' : ByteArray} {ml' : Nat} {ret' : Option FieldType} {rm : Room} {Qc : Option Value → Heap → Prop} {a : Addr} {as : Array Value} {ps : List FieldType} {rr : Option FieldType} {argsL rest : List Value} {W : Nat} {cells' slots' : Nat} (C : Con l Z y bytes' ml' ret' rm as h Qc) (E1 : Exa Z h a K)
    (w1 : (Jvm.Cond.methodLink own i y).before a0 Z = true) (w2 : (Jvm.Cond.instanceMethod y).before a0 Z = true) (ws : (Jvm.Cond.selects y.cls y y).before a0 Z = true) (wp : (Jvm.Cond.privateMethod y).before a0 Z = true) (w3 : (Jvm.Cond.initialized y.cls).before a0 Z = true) (w4 : (Jvm.Cond.code y bytes' ml' ret').before a0 Z = true) (hy : y.cls ≠ "java/lang/invoke/MethodHandle" ∧ y.cls ≠ "java/lang/invoke/VarHandle") (hsz : Ls.size = ml) (has : (.ref a :: argsL).toArray = as) (hpd : parseMethodDescriptor y.desc = some ⟨ps, rr⟩) (hlen : argsL.length = ps.length) (hst : st = argsL.reverse ++ .ref a :: rest)
    (hd : decode bytes pc = .ok (.invokevirtual i, 3)) (hp : pc + 3 = pc') (hW : (rest.map fun v => v.category).sum ≤ W) (hf : rm.frames + 1 ≤ R.frames) (hl : W + (ml' + 11) + rm.locals ≤ R.locals) (hcc : cells + rm.cells = cells') (hss : slots + rm.slots = slots') (hc : cells' ≤ R.cells) (hs : slots' ≤ R.slots)
    (k : ∀ v T' h', Sd l Z own nm bytes ml ret R p e s m args below T' h' cells' slots' → Qc v h' → End Z p e below s Q kc ks T' (mkF m pc' Ls (v.toList ++ rest))) : End Z p e below s Q kc ks T (mkF m pc Ls st) := by
  subst hp hst hcc hss; obtain ⟨meth, c, locs, X, N, e0, E, hx, hb, hml, hown, r⟩ := X; subst hb
  obtain ⟨cq, q1, q2⟩ := E1.cell
  obtain ⟨v, _, ⟨T', L', k', n'⟩, -, X', ⟨Lc, hQ, l1, l2, l3⟩, stp⟩ := X.privateBack hx (y := y) hown (mvT r.2.2.2 w1) (mvT r.2.2.2 w2) (mvT r.2.2.2 ws) (Cond.privateMethod_at (mvP r.2.2.2 wp (args := #[]))) (mvT r.2.2.2 w4) hy (backOf (W := W) (Q := fun v h L => Fr Z.heap.size L ∧ Ext Z.heap h ∧ Qc v h) (C []) r.2.2.2 w4 w3 hf hl) (g := mkF m pc Ls (argsL.reverse ++ .ref a :: rest)) rfl (hsz.trans hml.symm) (Steps.refl _) (a := a) (by rw [e0]; exact q1) q2 (argsL := argsL) (rest := rest) (lenOf hpd hlen) rfl (by show 2 * 0 + _ ≤ _; omega) hd (fun _ _ => ⟨has, e0, hc, hs⟩)
  dsimp only [Pt.U, Pt.locs, Pt.cells, Pt.slots] at X' l1 l2 l3 stp hQ
  subst l1 l2 l3
  exact (k v T' T'.heap ⟨meth, c, _, X', Fr.app N hQ.1, rfl, hQ.2.1, hx, rfl, hml, hown, r⟩ hQ.2.2).go fun _ q => stp.trans q
theorem E_callU (X : Sd l Z own nm bytes ml ret R p e s m args below T h cells slots) {i : Nat} {x y : MethodName} {K : String} {bytes' : ByteArray} {ml' : Nat} {ret' : Option FieldType} {rm : Room} {Qc : Option Value → Heap → Prop} {a : Addr} {as : Array Value} {ps : List FieldType} {rr : Option FieldType} {argsL rest : List Value} {W : Nat} {cells' slots' : Nat} (C : Con l Z y bytes' ml' ret' rm as h Qc) (E1 : Exa Z h a K)
    (w1 : (Jvm.Cond.methodLink own i x).before a0 Z = true) (wm : (Jvm.Cond.sameMethod x.cls y.cls x.name x.desc).before a0 Z = true) (wd : (Jvm.Cond.declares ⟨y.cls, x.name, x.desc⟩).before a0 Z = true) (ws : (Jvm.Cond.selects K x y).before a0 Z = true) (w2 : (Jvm.Cond.instanceMethod y).before a0 Z = true) (w3 : (Jvm.Cond.initialized y.cls).before a0 Z = true) (w4 : (Jvm.Cond.code y bytes' ml' ret').before a0 Z = true) (hy : y.cls ≠ "java/lang/invoke/MethodHandle" ∧ y.cls ≠ "java/lang/invoke/VarHandle") (hsz : Ls.size = ml) (has : (.ref a :: argsL).toArray = as) (hpd : parseMethodDescriptor x.desc = some ⟨ps, rr⟩) (hlen : argsL.length = ps.length) (hst : st = argsL.reverse ++ .ref a :: rest)
    (hd : decode bytes pc = .ok (.invokevirtual i, 3)) (hp : pc + 3 = pc') (hW : (rest.map fun v => v.category).sum ≤ W) (hf : rm.frames + 1 ≤ R.frames) (hl : W + (ml' + 11) + rm.locals ≤ R.locals) (hcc : cells + rm.cells = cells') (hss : slots + rm.slots = slots') (hc : cells' ≤ R.cells) (hs : slots' ≤ R.slots)
    (k : ∀ v T' h', Sd l Z own nm bytes ml ret R p e s m args below T' h' cells' slots' → Qc v h' → End Z p e below s Q kc ks T' (mkF m pc' Ls (v.toList ++ rest))) : End Z p e below s Q kc ks T (mkF m pc Ls st) := by
  subst hp hst hcc hss; obtain ⟨meth, c, locs, X, N, e0, E, hx, hb, hml, hown, r⟩ := X; subst hb
  obtain ⟨cq, kq, qa, qb, qc⟩ := isOf r.2.2.2 e0 E1
  obtain ⟨v, _, ⟨T', L', k', n'⟩, -, X', ⟨Lc, hQ, l1, l2, l3⟩, stp⟩ := X.virtualBackUp hx (x := x) (y := y) (owner := y.cls) hown (mvT r.2.2.2 w1) (mvT r.2.2.2 wm) (mvT r.2.2.2 wd) hy (mvT r.2.2.2 ws) (mvT r.2.2.2 w2) (backOf (W := W) (Q := fun v h L => Fr Z.heap.size L ∧ Ext Z.heap h ∧ Qc v h) (C []) r.2.2.2 w4 w3 hf hl) qa qc (g := mkF m pc Ls (argsL.reverse ++ .ref a :: rest)) rfl (hsz.trans hml.symm) (Steps.refl _) (argsL := argsL) (rest := rest) (lenOf hpd hlen) rfl (by show 2 * 0 + _ ≤ _; omega) hd (fun _ _ => ⟨has, e0, hc, hs⟩)
  dsimp only [Pt.U, Pt.locs, Pt.cells, Pt.slots] at X' l1 l2 l3 stp hQ
  subst l1 l2 l3
  exact (k v T' T'.heap ⟨meth, c, _, X', Fr.app N hQ.1, rfl, hQ.2.1, hx, rfl, hml, hown, r⟩ hQ.2.2).go fun _ q => stp.trans q
theorem E_eqI {x z : Int32} (q : x = z) (k : End Z p e below s Q kc ks T (mkF m pc Ls (.int z :: st))) : End Z p e below s Q kc ks T (mkF m pc Ls (.int x :: st)) := by subst q; exact k
theorem E_eqJ {x z : Int64} (q : x = z) (k : End Z p e below s Q kc ks T (mkF m pc Ls (.long z :: st))) : End Z p e below s Q kc ks T (mkF m pc Ls (.long x :: st)) := by subst q; exact k
theorem E_eqV {x z : Value} (q : x = z) (k : End Z p e below s Q kc ks T (mkF m pc Ls (z :: st))) : End Z p e below s Q kc ks T (mkF m pc Ls (x :: st)) := by subst q; exact k
/-! from the case's words -/
theorem own_eq {first : State} {o : Option Outcome} {idx : List Nat} {a b : Term} (h : (Jvm.Cond.eq a b).value args first o s idx = some true) : ∃ v, a.eval args first o idx s = some v ∧ b.eval args first o idx s = some v := by
  simp only [Cond.value] at h
  split at h <;> simp_all
theorem own_exa {t : Term} {K : String} (h : (Jvm.Cond.exactly t K).value args s none s [] = some true) : ∃ a, t.eval args s none [] s = some (.ref a) ∧ Exa s s.heap a K := by
  obtain ⟨a, c, cell, k, e1, r⟩ := Cond.exactly_spec (Cond.before_iff.mpr h)
  exact ⟨a, e1, Exa.start e1 h⟩
theorem own_eqi {t u : Term} {v : Value} (h : (Jvm.Cond.eq t u).value args s none s [] = some true) (hu : u.eval args s none [] s = some v) : t.eval args s none [] s = some v := by
  obtain ⟨w, h1, h2⟩ := own_eq h
  rw [h1, ← h2, hu]
theorem own_fld {t : Term} {C n d : String} {v : Value} {a : Addr} (ev : t.eval args s none [] s = some (.ref a)) (h : (Term.field t C n d).eval args s none [] s = some v) : Fld s s.heap a C n d v :=
  Fld.start (by simpa [Term.eval, ev] using h)
theorem own_arr {t : Term} {ty : FieldType} {a : Addr} (ev : t.eval args s none [] s = some (.ref a)) (h : (Jvm.Cond.arrayOf t ty).value args s none s [] = some true) : ∃ c, Arr s s.heap a c ty ∧ s.arrayAt? a = some c := by
  obtain ⟨c, A⟩ := Arr.start ev h
  exact ⟨c, A, A.fin (Vm.Alike.refl _)⟩
theorem own_len {t : Term} {a : Addr} {c : Cell} {n : Int32} (ev : t.eval args s none [] s = some (.ref a)) (hc : s.arrayAt? a = some c) (h : (Term.length t).eval args s none [] s = some (.int n)) : c.slots.size = n.toNatClampNeg := by
  simp only [Term.eval, ev, hc, Option.bind_eq_bind, Option.bind_some] at h
  split at h
  · rename_i q
    have h := Value.int.inj (Option.some.inj h)
    rw [← h]
    have h2 := len_toInt q
    show _ = (Int32.toInt _).toNat
    rw [h2]; rfl
  · cases h
theorem own_el {t : Term} {a : Addr} {c : Cell} {k : Int32} {v : Value} (ev : t.eval args s none [] s = some (.ref a)) (hc : s.arrayAt? a = some c) (h : (Term.elem t (.int k)).eval args s none [] s = some v) : c.slots[k.toNatClampNeg]? = some v := by
  simp only [Term.eval, ev, hc, Option.bind_eq_bind, Option.bind_some] at h
  split at h
  · cases h
  · exact h
theorem own_ar {a : Addr} {c : Cell} {ty : FieldType} {vs : List Value} (A : Arr Z h a c ty) (hs : c.slots.size = vs.length) (H : HasL c 0 vs) : Ar Z h a ty vs := by
  refine ⟨c, A, ?_⟩
  apply Array.ext'
  apply List.ext_getElem?
  intro i
  by_cases hi : i < vs.length
  · have := HasL.at (dv := .null) vs 0 H i hi
    rw [Nat.zero_add] at this
    simp only [List.getElem?_toArray, Array.getElem?_toList] at *
    rw [this, List.getD_eq_getElem?_getD, List.getElem?_eq_getElem hi]; rfl
  · rw [List.getElem?_eq_none (by simpa [hs] using Nat.le_of_not_lt hi), List.getElem?_eq_none (by simpa using Nat.le_of_not_lt hi)]
theorem E_ldcF (X : Sd l Z own nm bytes ml ret R p e s m args below T h cells slots) {i : Nat} {b : UInt32} (w : (Jvm.Cond.constantFloat own i b).before a0 Z = true) (hd : decode bytes pc = .ok (.ldc i, 2)) (hp : pc + 2 = pc') (k : End Z p e below s Q kc ks T (mkF m pc' Ls (.float b :: st))) : End Z p e below s Q kc ks T (mkF m pc Ls st) := by
  subst hp; obtain ⟨meth, c, locs, X, N, e0, E, hx, hb, hml, hown, hnm, hret, hlk, hZ⟩ := X; subst hb
  obtain ⟨kk, cf, hk, hcf, hc⟩ := Cond.constantFloat_spec hown (mvT (args := args) hZ w)
  exact k.go (X.ldcFloat hx hk hcf hc (g := mkF m pc Ls st) rfl hd)
/-! arrays of references, with what they take -/
def ArR (Z : State) (h : Heap) (a : Addr) (ty : FieldType) (C : String) (vs : List Value) : Prop := ∃ c : Cell, Arr Z h a c ty ∧ c.slots = vs.toArray ∧ (Ovr Z c.cls C ∨ ∃ t, OvrA Z c.cls t C)
section ArRFacts
variable {h' : Heap} {a b y : Addr} {ty : FieldType} {C : String} {vs : List Value} {ws : List Addr} {v : Value} {sl : Nat}
theorem ArR.ar (F : ArR Z h a ty C vs) : Ar Z h a ty vs := by obtain ⟨c, A, r, -⟩ := F; exact ⟨c, A, r⟩
theorem ArR.lt (F : ArR Z h a ty C vs) : a < h.size := F.ar.lt
theorem ArR.ext (F : ArR Z h a ty C vs) (E : Ext h h') : ArR Z h' a ty C vs := by obtain ⟨c, A, r⟩ := F; exact ⟨c, A.ext E, r⟩
theorem ArR.other (F : ArR Z h b ty C vs) (W : Wr h h' a sl v) (q : b ≠ a) : ArR Z h' b ty C vs := by obtain ⟨c, A, r⟩ := F; exact ⟨c, A.other W q, r⟩
theorem ArR.keep (F : ArR Z h a ty C vs) (K : Keep h h' ws) (q : a ∉ ws) : ArR Z h' a ty C vs := by obtain ⟨c, A, r⟩ := F; exact ⟨c, ⟨K.2.1 a c A.1 q, A.2⟩, r⟩
theorem ArR.set (F : ArR Z h a ty C vs) (W : Wr h h' a sl v) : ArR Z h' a ty C (vs.set sl v) := by
  obtain ⟨c, A, r, O⟩ := F
  exact ⟨_, A.same W, by simp [Cell.setSlot, r], O⟩
theorem ArR.sto (F : ArR Z h a ty C vs) (I : Ins Z h y C true) : Sto Z h a (.ref y) := by
  obtain ⟨c, A, -, O | ⟨t, O⟩⟩ := F
  · exact Sto.of A O I
  · exact Sto.ofVA A rfl O I
end ArRFacts
theorem E_newRA (X : Sd l Z own nm bytes ml ret R p e s m args below T h cells slots) {C : String} {ty : FieldType} {i cap : Nat} {n : Int32} {vs : List Value} {cells' slots' : Nat} (hC : (FieldType.array ty).toString = C) (w1 : (Jvm.Cond.classLink own i C).before a0 Z = true) (w2 : (Jvm.Cond.arrayOver (.array ty)).before a0 Z = true) (hd : decode bytes pc = .ok (.anewarray i, 3)) (hp : pc + 3 = pc') (hn : ¬ n < 0) (hcap : n.toNatClampNeg ≤ cap) (hb8 : cap * 8 ≤ 536870912) (hvs : List.replicate n.toNatClampNeg Value.null = vs) (hcc : cells + 1 = cells') (hss : slots + cap = slots') (hc : cells' ≤ R.cells) (hl : slots' ≤ R.slots)
    (k : ∀ T' h' a, a = h.size → Sd l Z own nm bytes ml ret R p e s m args below T' h' cells' slots' → Ext h h' → ArR Z h' a (.array ty) C vs → End Z p e below s Q kc ks T' (mkF m pc' Ls (.ref a :: st))) : End Z p e below s Q kc ks T (mkF m pc Ls (.int n :: st)) := by
  subst hp hcc hss hvs; obtain ⟨meth, c, locs, X, N, e0, E, hx, hb, hml, hown, r⟩ := X; subst hb
  obtain ⟨T', h', cA, X', e', E2, A2, -, O2, stp⟩ := newRA X hx r.2.2.2 hown hC w1 w2 e0 (g := mkF m pc Ls (.int n :: st)) rfl hd rfl hn hcap hb8 hc hl rfl
  exact (k T' h' h.size rfl ⟨meth, c, locs, X', N, e', E.trans E2, hx, rfl, hml, hown, r⟩ E2 ⟨_, A2, by simp [newA, defaultValue], Or.inr ⟨_, O2⟩⟩).go stp
theorem E_newR (X : Sd l Z own nm bytes ml ret R p e s m args below T h cells slots) {C : String} {i cap : Nat} {n : Int32} {vs : List Value} {cells' slots' : Nat} (w1 : (Jvm.Cond.classLink own i C).before a0 Z = true) (w2 : (Jvm.Cond.arrayOver (.object C)).before a0 Z = true) (hd : decode bytes pc = .ok (.anewarray i, 3)) (hp : pc + 3 = pc') (hn : ¬ n < 0) (hcap : n.toNatClampNeg ≤ cap) (hb8 : cap * 8 ≤ 536870912) (hvs : List.replicate n.toNatClampNeg Value.null = vs) (hcc : cells + 1 = cells') (hss : slots + cap = slots') (hc : cells' ≤ R.cells) (hl : slots' ≤ R.slots)
    (k : ∀ T' h' a, a = h.size → Sd l Z own nm bytes ml ret R p e s m args below T' h' cells' slots' → Ext h h' → ArR Z h' a (.object C) C vs → End Z p e below s Q kc ks T' (mkF m pc' Ls (.ref a :: st))) : End Z p e below s Q kc ks T (mkF m pc Ls (.int n :: st)) := by
  subst hp hcc hss hvs; obtain ⟨meth, c, locs, X, N, e0, E, hx, hb, hml, hown, r⟩ := X; subst hb
  obtain ⟨T', h', cA, X', e', E2, A2, O2, stp⟩ := newR X hx r.2.2.2 hown w1 w2 e0 (g := mkF m pc Ls (.int n :: st)) rfl hd rfl hn hcap hb8 hc hl
  exact (k T' h' h.size rfl ⟨meth, c, locs, X', N, e', E.trans E2, hx, rfl, hml, hown, r⟩ E2 ⟨_, A2, by simp [newA, defaultValue], Or.inl O2⟩).go stp
theorem E_aastore (X : Sd l Z own nm bytes ml ret R p e s m args below T h cells slots) {a y : Addr} {ty : FieldType} {C : String} {vs vs' : List Value} {j : Int32} (F : ArR Z h a ty C vs) (I : Ins Z h y C true) (hty : ty.isReference = true) (hj : ¬ j < 0) (hl : j.toNatClampNeg < vs.length) (hvs : vs.set j.toNatClampNeg (.ref y) = vs') (ha : Z.heap.size ≤ a) (hd : decode bytes pc = .ok (.aastore, 1)) (hp : pc + 1 = pc')
    (k : ∀ T' h', Sd l Z own nm bytes ml ret R p e s m args below T' h' cells slots → Wr h h' a j.toNatClampNeg (.ref y) → ArR Z h' a ty C vs' → End Z p e below s Q kc ks T' (mkF m pc' Ls st)) : End Z p e below s Q kc ks T (mkF m pc Ls (.ref y :: .int j :: .ref a :: st)) := by
  subst hp hvs; obtain ⟨meth, c, locs, X, N, e0, E, hx, hb, hml, hown, r⟩ := X; subst hb
  have F0 := F
  have S := F.sto I
  obtain ⟨cl, A, q, -⟩ := F
  obtain ⟨T', h', X', e', W, stp⟩ := stR X hx r.2.2.2 e0 A (Ar.inb q hj hl) hty S (g := mkF m pc Ls (.ref y :: .int j :: .ref a :: st)) rfl rfl hd
  exact (k T' h' ⟨meth, c, _, X', Fr.snoc X' N ha, e', E.wr W ha, hx, rfl, hml, hown, r⟩ W (F0.set W)).go stp
theorem E_ldcwI (X : Sd l Z own nm bytes ml ret R p e s m args below T h cells slots) {i : Nat} {v : Int32} (w : (Jvm.Cond.constant own i v).before a0 Z = true) (hd : decode bytes pc = .ok (.ldc_w i, 3)) (hp : pc + 3 = pc') (k : End Z p e below s Q kc ks T (mkF m pc' Ls (.int v :: st))) : End Z p e below s Q kc ks T (mkF m pc Ls st) := by
  subst hp; obtain ⟨meth, c, locs, X, N, e0, E, hx, hb, hml, hown, hnm, hret, hlk, hZ⟩ := X; subst hb
  exact k.go (X.ldcwInt hx hown (mvT hZ w) (g := mkF m pc Ls st) rfl hd)
theorem Ar.arv {a : Addr} {ty : FieldType} {vs : List Value} {z : Int32} (dv : Value) (F : Ar Z h a ty vs) (hf : ∀ v ∈ vs, fits ty v = true) (hn : vs.length = z.toNatClampNeg) (hz : ¬ z < 0) : ∃ k, Arv Z h a k ty z vs dv := by
  obtain ⟨c, A, r⟩ := F
  have hs : c.slots.size = vs.length := by rw [r]; simp
  refine ⟨c.cls, c, A, rfl, by rw [hs]; exact hn, hz, fun i hi => ?_, fun i hi => ?_⟩
  · rw [hs] at hi
    rw [r, List.getD_eq_getElem?_getD]; simp [hi]
  · rw [hs] at hi
    rw [List.getD_eq_getElem?_getD, List.getElem?_eq_getElem hi]
    exact hf _ (List.getElem_mem hi)
theorem Ar.of_arv {a : Addr} {ty : FieldType} {vs : List Value} {z : Int32} {dv : Value} {k : ClassId} (F : Arv Z h a k ty z vs dv) (hn : vs.length = z.toNatClampNeg) : Ar Z h a ty vs := by
  obtain ⟨c, A, -, hs, -, H, -⟩ := F
  refine ⟨c, A, ?_⟩
  apply Array.ext'
  apply List.ext_getElem?
  intro i
  by_cases hi : i < vs.length
  · have := H i (by omega)
    rw [Array.getElem?_toList, this, List.getD_eq_getElem?_getD, List.getElem?_eq_getElem hi]
    simp [hi]
  · rw [List.getElem?_eq_none (by rw [Array.length_toList]; omega), List.getElem?_eq_none (by simpa using Nat.le_of_not_lt hi)]
theorem E_acopy (X : Sd l Z own nm bytes ml ret R p e s m args below T h cells slots) {i W : Nat} {a b : Addr} {ty : FieldType} {vs vd vd2 : List Value} {sp dp nn z z' : Int32} (w1 : (Jvm.Cond.methodLink own i Jvm.Stand.acN).before a0 Z = true) (w2 : (Jvm.Cond.native Jvm.Stand.acN).before a0 Z = true) (w3 : (Jvm.Cond.static Jvm.Stand.acN).before a0 Z = true) (w4 : (Jvm.Cond.initialized "java/lang/System").before a0 Z = true)
    (A : Ar Z h a ty vs) (B : Ar Z h b ty vd) (hty : refKind ty = false) (fa : ∀ v ∈ vs, fits ty v = true) (fb : ∀ v ∈ vd, fits ty v = true) (za : vs.length = z.toNatClampNeg) (hz : ¬ z < 0) (zb : vd.length = z'.toNatClampNeg) (hz' : ¬ z' < 0) (h1 : ¬ sp < 0) (h2 : ¬ dp < 0) (h3 : ¬ nn < 0) (h4 : sp.toNatClampNeg + nn.toNatClampNeg ≤ vs.length) (h5 : dp.toNatClampNeg + nn.toNatClampNeg ≤ vd.length)
    (hvd : vd.take dp.toNatClampNeg ++ ((List.range nn.toNatClampNeg).map fun i => vs.getD (sp.toNatClampNeg + i) .null) ++ vd.drop (dp.toNatClampNeg + nn.toNatClampNeg) = vd2) (hb0 : Z.heap.size ≤ b) (hsz : Ls.size = ml) (hd : decode bytes pc = .ok (.invokestatic i, 3)) (hp : pc + 3 = pc') (hf : 1 ≤ R.frames) (hW : (st.map fun v => v.category).sum ≤ W) (hlo : W + (nativeFrameWords "java/lang/System" "arraycopy" 5 + 11) ≤ R.locals)
    (k : ∀ T' h', Sd l Z own nm bytes ml ret R p e s m args below T' h' cells slots → Keep h h' [b] → Ar Z h' b ty vd2 → End Z p e below s Q kc ks T' (mkF m pc' Ls st)) : End Z p e below s Q kc ks T (mkF m pc Ls (.int nn :: .int dp :: .ref b :: .int sp :: .ref a :: st)) := by
  subst hp hvd; obtain ⟨meth, c, locs, X, N, e0, E, hx, hb, hml, hown, r⟩ := X; subst hb
  obtain ⟨k1, A1⟩ := A.arv .null fa za hz
  obtain ⟨k2, B1⟩ := B.arv .null fb zb hz'
  obtain ⟨T', h', L, X', e', N', K, B2, stp⟩ := cpA X hx r.2.2.2 hown w1 w2 w3 w4 e0 A1 B1 (Or.inl ⟨rfl, hty⟩) h1 h2 h3 (by rw [← za]; exact h4) (by rw [← zb]; exact h5) rfl h5 N hb0 (g := mkF m pc Ls (.int nn :: .int dp :: .ref b :: .int sp :: .ref a :: st)) rfl (hsz.trans hml.symm) rfl hd hf (W := W) (by show 2 * 0 + _ ≤ _; omega) hlo
  refine (k T' h' ⟨meth, c, _, X', N', e', E.keep K (allS hb0 all0), hx, rfl, hml, hown, r⟩ K (Ar.of_arv B2 ?_)).go stp
  simp; omega
end Own
end Jvm.RoadKit
namespace Jvm.Pilot.@@N@@
open Jvm Jvm.ClassFile Sem Op Lib Jvm.Free Jvm.Stand Jvm.LawKit Jvm.RoadKit Bundle Jvm.Pilot.@@N@@.Jvm.D
theorem w_0 {a0 : Array Value} {Z : State} (hw : ∀ d ∈ tables_1, d.before a0 Z = true) : (Jvm.Cond.constant "com/example/flowmote/flowmote/BytesWriteLongPinLaw" (7 : Nat) (2147483647 : Int32)).before a0 Z = true := hw _ (List.mem_of_getElem? (i := 0) rfl)
theorem w_1 {a0 : Array Value} {Z : State} (hw : ∀ d ∈ tables_1, d.before a0 Z = true) : (Jvm.Cond.arrayClass Jvm.ClassFile.FieldType.byte).before a0 Z = true := hw _ (List.mem_of_getElem? (i := 1) rfl)
theorem w_2 {a0 : Array Value} {Z : State} (hw : ∀ d ∈ tables_1, d.before a0 Z = true) : (Jvm.Cond.methodLink "com/example/flowmote/flowmote/BytesWriteLongPinLaw" (8 : Nat) ({ cls := "com/example/flowmote/flowmote/BytesWriteLongPinLaw", name := "fillAll", desc := "([BB)V" } : Jvm.MethodName)).before a0 Z = true := hw _ (List.mem_of_getElem? (i := 2) rfl)
theorem w_3 {a0 : Array Value} {Z : State} (hw : ∀ d ∈ tables_1, d.before a0 Z = true) : (Jvm.Cond.static ({ cls := "com/example/flowmote/flowmote/BytesWriteLongPinLaw", name := "fillAll", desc := "([BB)V" } : Jvm.MethodName)).before a0 Z = true := hw _ (List.mem_of_getElem? (i := 3) rfl)
theorem w_4 {a0 : Array Value} {Z : State} (hw : ∀ d ∈ tables_1, d.before a0 Z = true) : (Jvm.Cond.initialized "com/example/flowmote/flowmote/BytesWriteLongPinLaw").before a0 Z = true := hw _ (List.mem_of_getElem? (i := 4) rfl)
theorem w_5 {a0 : Array Value} {Z : State} (hw : ∀ d ∈ tables_1, d.before a0 Z = true) : (Jvm.Cond.code ({ cls := "com/example/flowmote/flowmote/BytesWriteLongPinLaw", name := "fillAll", desc := "([BB)V" } : Jvm.MethodName) method_2_code (2 : Nat) (Option.none : Option Jvm.ClassFile.FieldType)).before a0 Z = true := hw _ (List.mem_of_getElem? (i := 5) rfl)
theorem w_6 {a0 : Array Value} {Z : State} (hw : ∀ d ∈ tables_1, d.before a0 Z = true) : (Jvm.Cond.methodLink "com/example/flowmote/flowmote/BytesWriteLongPinLaw" (14 : Nat) ({ cls := "com/example/flowmote/flowmote/Bytes", name := "writeLong", desc := "([BIJ)V" } : Jvm.MethodName)).before a0 Z = true := hw _ (List.mem_of_getElem? (i := 6) rfl)
theorem w_7 {a0 : Array Value} {Z : State} (hw : ∀ d ∈ tables_1, d.before a0 Z = true) : (Jvm.Cond.static ({ cls := "com/example/flowmote/flowmote/Bytes", name := "writeLong", desc := "([BIJ)V" } : Jvm.MethodName)).before a0 Z = true := hw _ (List.mem_of_getElem? (i := 7) rfl)
theorem w_8 {a0 : Array Value} {Z : State} (hw : ∀ d ∈ tables_1, d.before a0 Z = true) : (Jvm.Cond.initialized "com/example/flowmote/flowmote/Bytes").before a0 Z = true := hw _ (List.mem_of_getElem? (i := 8) rfl)
theorem w_9 {a0 : Array Value} {Z : State} (hw : ∀ d ∈ tables_1, d.before a0 Z = true) : (Jvm.Cond.code ({ cls := "com/example/flowmote/flowmote/Bytes", name := "writeLong", desc := "([BIJ)V" } : Jvm.MethodName) prog_6_method_6_code (5 : Nat) (Option.none : Option Jvm.ClassFile.FieldType)).before a0 Z = true := hw _ (List.mem_of_getElem? (i := 9) rfl)
theorem w_10 {a0 : Array Value} {Z : State} (hw : ∀ d ∈ tables_1, d.before a0 Z = true) : (Jvm.Cond.methodLink "com/example/flowmote/flowmote/BytesWriteLongPinLaw" (20 : Nat) ({ cls := "com/example/flowmote/flowmote/BytesWriteLongPinLaw", name := "same", desc := "([B[B)Z" } : Jvm.MethodName)).before a0 Z = true := hw _ (List.mem_of_getElem? (i := 10) rfl)
theorem w_11 {a0 : Array Value} {Z : State} (hw : ∀ d ∈ tables_1, d.before a0 Z = true) : (Jvm.Cond.static ({ cls := "com/example/flowmote/flowmote/BytesWriteLongPinLaw", name := "same", desc := "([B[B)Z" } : Jvm.MethodName)).before a0 Z = true := hw _ (List.mem_of_getElem? (i := 11) rfl)
theorem w_12 {a0 : Array Value} {Z : State} (hw : ∀ d ∈ tables_1, d.before a0 Z = true) : (Jvm.Cond.code ({ cls := "com/example/flowmote/flowmote/BytesWriteLongPinLaw", name := "same", desc := "([B[B)Z" } : Jvm.MethodName) method_3_code (2 : Nat) (Option.some Jvm.ClassFile.FieldType.boolean)).before a0 Z = true := hw _ (List.mem_of_getElem? (i := 12) rfl)
theorem own_rem3 (x : Int32) : (x &&& (2147483647 : Int32)) % (3 : Int32) = (0 : Int32) ∨ (x &&& (2147483647 : Int32)) % (3 : Int32) = (1 : Int32) ∨ (x &&& (2147483647 : Int32)) % (3 : Int32) = (2 : Int32) := by
  have h := (c_and x 2147483647 (by decide)).1
  have h2 := (c_irem (x &&& (2147483647 : Int32)) (3 : Int32) 3 rfl).1 h
  generalize (x &&& (2147483647 : Int32)) % (3 : Int32) = z at h2 ⊢
  generalize (x &&& (2147483647 : Int32)).toInt = y at h2
  simp only [← Int32.toInt_inj]
  have q0 : (0 : Int32).toInt = 0 := rfl
  have q1 : (1 : Int32).toInt = 1 := rfl
  have q2 : (2 : Int32).toInt = 2 := rfl
  omega
def ownB (v : Int64) (k : Int32) : Int32 := ((v.toUInt64 >>> (k &&& 0x3f).toInt64.toUInt64).toInt64).toInt32.toInt8.toInt32
theorem ownB_0 (v : Int64) : v.toInt32.toInt8.toInt32 = ownB v (0 : Int32) := by
  unfold ownB
  have h : (v.toUInt64 >>> ((0 : Int32) &&& 0x3f).toInt64.toUInt64).toInt64 = v := by
    have e : ((0 : Int32) &&& 0x3f).toInt64.toUInt64 = 0 := by decide
    rw [e]; simp
  rw [h]
theorem d1_0 : decode method_2_code 0 = .ok (.aload_n 0, 1) := by decide +kernel
theorem d1_1 : decode method_2_code 1 = .ok (.iconst 0, 1) := by decide +kernel
theorem d1_2 : decode method_2_code 2 = .ok (.iload_n 1, 1) := by decide +kernel
theorem d1_3 : decode method_2_code 3 = .ok (.bastore, 1) := by decide +kernel
theorem d1_4 : decode method_2_code 4 = .ok (.aload_n 0, 1) := by decide +kernel
theorem d1_5 : decode method_2_code 5 = .ok (.iconst 1, 1) := by decide +kernel
theorem d1_6 : decode method_2_code 6 = .ok (.iload_n 1, 1) := by decide +kernel
theorem d1_7 : decode method_2_code 7 = .ok (.bastore, 1) := by decide +kernel
theorem d1_8 : decode method_2_code 8 = .ok (.aload_n 0, 1) := by decide +kernel
theorem d1_9 : decode method_2_code 9 = .ok (.iconst 2, 1) := by decide +kernel
theorem d1_10 : decode method_2_code 10 = .ok (.iload_n 1, 1) := by decide +kernel
theorem d1_11 : decode method_2_code 11 = .ok (.bastore, 1) := by decide +kernel
theorem d1_12 : decode method_2_code 12 = .ok (.aload_n 0, 1) := by decide +kernel
theorem d1_13 : decode method_2_code 13 = .ok (.iconst 3, 1) := by decide +kernel
theorem d1_14 : decode method_2_code 14 = .ok (.iload_n 1, 1) := by decide +kernel
theorem d1_15 : decode method_2_code 15 = .ok (.bastore, 1) := by decide +kernel
theorem d1_16 : decode method_2_code 16 = .ok (.aload_n 0, 1) := by decide +kernel
theorem d1_17 : decode method_2_code 17 = .ok (.iconst 4, 1) := by decide +kernel
theorem d1_18 : decode method_2_code 18 = .ok (.iload_n 1, 1) := by decide +kernel
theorem d1_19 : decode method_2_code 19 = .ok (.bastore, 1) := by decide +kernel
theorem d1_20 : decode method_2_code 20 = .ok (.aload_n 0, 1) := by decide +kernel
theorem d1_21 : decode method_2_code 21 = .ok (.iconst 5, 1) := by decide +kernel
theorem d1_22 : decode method_2_code 22 = .ok (.iload_n 1, 1) := by decide +kernel
theorem d1_23 : decode method_2_code 23 = .ok (.bastore, 1) := by decide +kernel
theorem d1_24 : decode method_2_code 24 = .ok (.aload_n 0, 1) := by decide +kernel
theorem d1_25 : decode method_2_code 25 = .ok (.bipush 6, 2) := by decide +kernel
theorem d1_27 : decode method_2_code 27 = .ok (.iload_n 1, 1) := by decide +kernel
theorem d1_28 : decode method_2_code 28 = .ok (.bastore, 1) := by decide +kernel
theorem d1_29 : decode method_2_code 29 = .ok (.aload_n 0, 1) := by decide +kernel
theorem d1_30 : decode method_2_code 30 = .ok (.bipush 7, 2) := by decide +kernel
theorem d1_32 : decode method_2_code 32 = .ok (.iload_n 1, 1) := by decide +kernel
theorem d1_33 : decode method_2_code 33 = .ok (.bastore, 1) := by decide +kernel
theorem d1_34 : decode method_2_code 34 = .ok (.aload_n 0, 1) := by decide +kernel
theorem d1_35 : decode method_2_code 35 = .ok (.bipush 8, 2) := by decide +kernel
theorem d1_37 : decode method_2_code 37 = .ok (.iload_n 1, 1) := by decide +kernel
theorem d1_38 : decode method_2_code 38 = .ok (.bastore, 1) := by decide +kernel
theorem d1_39 : decode method_2_code 39 = .ok (.aload_n 0, 1) := by decide +kernel
theorem d1_40 : decode method_2_code 40 = .ok (.bipush 9, 2) := by decide +kernel
theorem d1_42 : decode method_2_code 42 = .ok (.iload_n 1, 1) := by decide +kernel
theorem d1_43 : decode method_2_code 43 = .ok (.bastore, 1) := by decide +kernel
theorem d1_44 : decode method_2_code 44 = .ok (.return_, 1) := by decide +kernel
theorem ef_rm1 (m : MethodId) (x0 : Addr) (x1 : Int32) : entryFrame m #[(.ref x0), (.int x1)] 2 = mkF m 0 #[.val (.ref x0), .val (.int x1)] [] := by first | (simp [entryFrame, mkF, argsToLocals, Value.category]; done) | (simp [entryFrame, mkF, argsToLocals, *]; done) | rfl
set_option maxRecDepth 65536 in
set_option maxHeartbeats 2000000 in
theorem rm1 (l : Launch) (Z : State) (a0 : Array Value) (hw : ∀ d ∈ tables_1, d.before a0 Z = true) (a : Addr) (f : Int32) (h0 : Heap) (hE : Ext Z.heap h0) (hA0 : Ar Z h0 a .byte [(.int (0 : Int32)), (.int (0 : Int32)), (.int (0 : Int32)), (.int (0 : Int32)), (.int (0 : Int32)), (.int (0 : Int32)), (.int (0 : Int32)), (.int (0 : Int32)), (.int (0 : Int32)), (.int (0 : Int32))]) (hfr1 : Z.heap.size ≤ a) :
    Con l Z (⟨"com/example/flowmote/flowmote/BytesWriteLongPinLaw", "fillAll", "([BB)V"⟩ : MethodName) method_2_code 2 none ({ frames := 0, cells := 0, slots := 0, locals := 0 } : Room) #[(.ref a), (.int f)] h0 (fun vv hh => vv = none ∧ Keep h0 hh [a] ∧ Ar Z hh a .byte [(.int (nar .byte f)), (.int (nar .byte f)), (.int (nar .byte f)), (.int (nar .byte f)), (.int (nar .byte f)), (.int (nar .byte f)), (.int (nar .byte f)), (.int (nar .byte f)), (.int (nar .byte f)), (.int (nar .byte f))]) := by
  refine Con.of (plainFor_of_name (by first | (simp [plainName, overriddenIn]; done) | decide +kernel)) hE ?_
  intro p e s m below T (X : Sd l Z "com/example/flowmote/flowmote/BytesWriteLongPinLaw" "fillAll" method_2_code 2 none ({ frames := 0, cells := 0, slots := 0, locals := 0 } : Room) p e s m #[(.ref a), (.int f)] below T h0 0 0)
  refine End.frame (ef_rm1 m a f) ?_
  have K_0 : Keep h0 h0 [a] := Keep.refl _ _
  show End Z p e below s _ _ _ _ (mkF m 0 #[.val (.ref a), .val (.int f)] [])
  refine E_aloadN (v := (.ref a)) (pc' := 1) X d1_0 rfl rfl rfl ?_
  refine E_iconst (v := (0 : Int32)) (pc' := 2) X d1_1 rfl rfl ?_
  refine E_iloadN (pc' := 3) X d1_2 rfl rfl ?_
  refine E_bastore (vs' := [(.int (nar .byte f)), (.int (0 : Int32)), (.int (0 : Int32)), (.int (0 : Int32)), (.int (0 : Int32)), (.int (0 : Int32)), (.int (0 : Int32)), (.int (0 : Int32)), (.int (0 : Int32)), (.int (0 : Int32))]) (pc' := 4) X hA0 (by decide) (Nat.le_of_ble_eq_true rfl) rfl hfr1 d1_3 rfl (fun T h_2 X W_1 Aa_3 => ?_)
  have K_4 : Keep h0 h_2 [a] := K_0.wr W_1 (Or.inl (List.mem_of_getElem? (i := 0) rfl))
  refine E_aloadN (v := (.ref a)) (pc' := 5) X d1_4 rfl rfl rfl ?_
  refine E_iconst (v := (1 : Int32)) (pc' := 6) X d1_5 rfl rfl ?_
  refine E_iloadN (pc' := 7) X d1_6 rfl rfl ?_
  refine E_bastore (vs' := [(.int (nar .byte f)), (.int (nar .byte f)), (.int (0 : Int32)), (.int (0 : Int32)), (.int (0 : Int32)), (.int (0 : Int32)), (.int (0 : Int32)), (.int (0 : Int32)), (.int (0 : Int32)), (.int (0 : Int32))]) (pc' := 8) X Aa_3 (by decide) (Nat.le_of_ble_eq_true rfl) rfl hfr1 d1_7 rfl (fun T h_6 X W_5 Aa_7 => ?_)
  have K_8 : Keep h0 h_6 [a] := K_4.wr W_5 (Or.inl (List.mem_of_getElem? (i := 0) rfl))
  refine E_aloadN (v := (.ref a)) (pc' := 9) X d1_8 rfl rfl rfl ?_
  refine E_iconst (v := (2 : Int32)) (pc' := 10) X d1_9 rfl rfl ?_
  refine E_iloadN (pc' := 11) X d1_10 rfl rfl ?_
  refine E_bastore (vs' := [(.int (nar .byte f)), (.int (nar .byte f)), (.int (nar .byte f)), (.int (0 : Int32)), (.int (0 : Int32)), (.int (0 : Int32)), (.int (0 : Int32)), (.int (0 : Int32)), (.int (0 : Int32)), (.int (0 : Int32))]) (pc' := 12) X Aa_7 (by decide) (Nat.le_of_ble_eq_true rfl) rfl hfr1 d1_11 rfl (fun T h_10 X W_9 Aa_11 => ?_)
  have K_12 : Keep h0 h_10 [a] := K_8.wr W_9 (Or.inl (List.mem_of_getElem? (i := 0) rfl))
  refine E_aloadN (v := (.ref a)) (pc' := 13) X d1_12 rfl rfl rfl ?_
  refine E_iconst (v := (3 : Int32)) (pc' := 14) X d1_13 rfl rfl ?_
  refine E_iloadN (pc' := 15) X d1_14 rfl rfl ?_
  refine E_bastore (vs' := [(.int (nar .byte f)), (.int (nar .byte f)), (.int (nar .byte f)), (.int (nar .byte f)), (.int (0 : Int32)), (.int (0 : Int32)), (.int (0 : Int32)), (.int (0 : Int32)), (.int (0 : Int32)), (.int (0 : Int32))]) (pc' := 16) X Aa_11 (by decide) (Nat.le_of_ble_eq_true rfl) rfl hfr1 d1_15 rfl (fun T h_14 X W_13 Aa_15 => ?_)
  have K_16 : Keep h0 h_14 [a] := K_12.wr W_13 (Or.inl (List.mem_of_getElem? (i := 0) rfl))
  refine E_aloadN (v := (.ref a)) (pc' := 17) X d1_16 rfl rfl rfl ?_
  refine E_iconst (v := (4 : Int32)) (pc' := 18) X d1_17 rfl rfl ?_
  refine E_iloadN (pc' := 19) X d1_18 rfl rfl ?_
  refine E_bastore (vs' := [(.int (nar .byte f)), (.int (nar .byte f)), (.int (nar .byte f)), (.int (nar .byte f)), (.int (nar .byte f)), (.int (0 : Int32)), (.int (0 : Int32)), (.int (0 : Int32)), (.int (0 : Int32)), (.int (0 : Int32))]) (pc' := 20) X Aa_15 (by decide) (Nat.le_of_ble_eq_true rfl) rfl hfr1 d1_19 rfl (fun T h_18 X W_17 Aa_19 => ?_)
  have K_20 : Keep h0 h_18 [a] := K_16.wr W_17 (Or.inl (List.mem_of_getElem? (i := 0) rfl))
  refine E_aloadN (v := (.ref a)) (pc' := 21) X d1_20 rfl rfl rfl ?_
  refine E_iconst (v := (5 : Int32)) (pc' := 22) X d1_21 rfl rfl ?_
  refine E_iloadN (pc' := 23) X d1_22 rfl rfl ?_
  refine E_bastore (vs' := [(.int (nar .byte f)), (.int (nar .byte f)), (.int (nar .byte f)), (.int (nar .byte f)), (.int (nar .byte f)), (.int (nar .byte f)), (.int (0 : Int32)), (.int (0 : Int32)), (.int (0 : Int32)), (.int (0 : Int32))]) (pc' := 24) X Aa_19 (by decide) (Nat.le_of_ble_eq_true rfl) rfl hfr1 d1_23 rfl (fun T h_22 X W_21 Aa_23 => ?_)
  have K_24 : Keep h0 h_22 [a] := K_20.wr W_21 (Or.inl (List.mem_of_getElem? (i := 0) rfl))
  refine E_aloadN (v := (.ref a)) (pc' := 25) X d1_24 rfl rfl rfl ?_
  refine E_bipush (v := (6 : Int32)) (pc' := 27) X d1_25 rfl rfl ?_
  refine E_iloadN (pc' := 28) X d1_27 rfl rfl ?_
  refine E_bastore (vs' := [(.int (nar .byte f)), (.int (nar .byte f)), (.int (nar .byte f)), (.int (nar .byte f)), (.int (nar .byte f)), (.int (nar .byte f)), (.int (nar .byte f)), (.int (0 : Int32)), (.int (0 : Int32)), (.int (0 : Int32))]) (pc' := 29) X Aa_23 (by decide) (Nat.le_of_ble_eq_true rfl) rfl hfr1 d1_28 rfl (fun T h_26 X W_25 Aa_27 => ?_)
  have K_28 : Keep h0 h_26 [a] := K_24.wr W_25 (Or.inl (List.mem_of_getElem? (i := 0) rfl))
  refine E_aloadN (v := (.ref a)) (pc' := 30) X d1_29 rfl rfl rfl ?_
  refine E_bipush (v := (7 : Int32)) (pc' := 32) X d1_30 rfl rfl ?_
  refine E_iloadN (pc' := 33) X d1_32 rfl rfl ?_
  refine E_bastore (vs' := [(.int (nar .byte f)), (.int (nar .byte f)), (.int (nar .byte f)), (.int (nar .byte f)), (.int (nar .byte f)), (.int (nar .byte f)), (.int (nar .byte f)), (.int (nar .byte f)), (.int (0 : Int32)), (.int (0 : Int32))]) (pc' := 34) X Aa_27 (by decide) (Nat.le_of_ble_eq_true rfl) rfl hfr1 d1_33 rfl (fun T h_30 X W_29 Aa_31 => ?_)
  have K_32 : Keep h0 h_30 [a] := K_28.wr W_29 (Or.inl (List.mem_of_getElem? (i := 0) rfl))
  refine E_aloadN (v := (.ref a)) (pc' := 35) X d1_34 rfl rfl rfl ?_
  refine E_bipush (v := (8 : Int32)) (pc' := 37) X d1_35 rfl rfl ?_
  refine E_iloadN (pc' := 38) X d1_37 rfl rfl ?_
  refine E_bastore (vs' := [(.int (nar .byte f)), (.int (nar .byte f)), (.int (nar .byte f)), (.int (nar .byte f)), (.int (nar .byte f)), (.int (nar .byte f)), (.int (nar .byte f)), (.int (nar .byte f)), (.int (nar .byte f)), (.int (0 : Int32))]) (pc' := 39) X Aa_31 (by decide) (Nat.le_of_ble_eq_true rfl) rfl hfr1 d1_38 rfl (fun T h_34 X W_33 Aa_35 => ?_)
  have K_36 : Keep h0 h_34 [a] := K_32.wr W_33 (Or.inl (List.mem_of_getElem? (i := 0) rfl))
  refine E_aloadN (v := (.ref a)) (pc' := 40) X d1_39 rfl rfl rfl ?_
  refine E_bipush (v := (9 : Int32)) (pc' := 42) X d1_40 rfl rfl ?_
  refine E_iloadN (pc' := 43) X d1_42 rfl rfl ?_
  refine E_bastore (vs' := [(.int (nar .byte f)), (.int (nar .byte f)), (.int (nar .byte f)), (.int (nar .byte f)), (.int (nar .byte f)), (.int (nar .byte f)), (.int (nar .byte f)), (.int (nar .byte f)), (.int (nar .byte f)), (.int (nar .byte f))]) (pc' := 44) X Aa_35 (by decide) (Nat.le_of_ble_eq_true rfl) rfl hfr1 d1_43 rfl (fun T h_38 X W_37 Aa_39 => ?_)
  have K_40 : Keep h0 h_38 [a] := K_36.wr W_37 (Or.inl (List.mem_of_getElem? (i := 0) rfl))
  exact E_ret0 X d1_44 (by decide) (by decide) ⟨rfl, K_40, Aa_39⟩
theorem d2_0 : decode prog_6_method_6_code 0 = .ok (.iconst 0, 1) := by decide +kernel
theorem d2_1 : decode prog_6_method_6_code 1 = .ok (.istore 4, 2) := by decide +kernel
theorem d2_3 : decode prog_6_method_6_code 3 = .ok (.iload 4, 2) := by decide +kernel
theorem d2_5 : decode prog_6_method_6_code 5 = .ok (.bipush 8, 2) := by decide +kernel
theorem d2_7 : decode prog_6_method_6_code 7 = .ok (.if_icmp .ge 27, 3) := by decide +kernel
theorem d2_10 : decode prog_6_method_6_code 10 = .ok (.aload_n 0, 1) := by decide +kernel
theorem d2_11 : decode prog_6_method_6_code 11 = .ok (.iload_n 1, 1) := by decide +kernel
theorem d2_12 : decode prog_6_method_6_code 12 = .ok (.iload 4, 2) := by decide +kernel
theorem d2_14 : decode prog_6_method_6_code 14 = .ok (.iadd, 1) := by decide +kernel
theorem d2_15 : decode prog_6_method_6_code 15 = .ok (.lload_n 2, 1) := by decide +kernel
theorem d2_16 : decode prog_6_method_6_code 16 = .ok (.bipush 7, 2) := by decide +kernel
theorem d2_18 : decode prog_6_method_6_code 18 = .ok (.iload 4, 2) := by decide +kernel
theorem d2_20 : decode prog_6_method_6_code 20 = .ok (.isub, 1) := by decide +kernel
theorem d2_21 : decode prog_6_method_6_code 21 = .ok (.bipush 8, 2) := by decide +kernel
theorem d2_23 : decode prog_6_method_6_code 23 = .ok (.imul, 1) := by decide +kernel
theorem d2_24 : decode prog_6_method_6_code 24 = .ok (.lushr, 1) := by decide +kernel
theorem d2_25 : decode prog_6_method_6_code 25 = .ok (.l2i, 1) := by decide +kernel
theorem d2_26 : decode prog_6_method_6_code 26 = .ok (.i2b, 1) := by decide +kernel
theorem d2_27 : decode prog_6_method_6_code 27 = .ok (.bastore, 1) := by decide +kernel
theorem d2_28 : decode prog_6_method_6_code 28 = .ok (.iinc 4 1, 3) := by decide +kernel
theorem d2_31 : decode prog_6_method_6_code 31 = .ok (.goto (-28), 3) := by decide +kernel
theorem d2_34 : decode prog_6_method_6_code 34 = .ok (.return_, 1) := by decide +kernel
theorem ef_rm_w0 (m : MethodId) (x0 : Addr) (x1 : Int32) (x2 : Int64) : entryFrame m #[(.ref x0), (.int x1), (.long x2)] 5 = mkF m 0 #[.val (.ref x0), .val (.int x1), .val (.long x2), .second, .unset] [] := by first | (simp [entryFrame, mkF, argsToLocals, Value.category]; done) | (simp [entryFrame, mkF, argsToLocals, *]; done) | rfl
set_option maxRecDepth 65536 in
set_option maxHeartbeats 2000000 in
theorem rm_w0 (l : Launch) (Z : State) (a0 : Array Value) (hw : ∀ d ∈ tables_1, d.before a0 Z = true) (a : Addr) (v : Int64) (p0 : Int32) (p1 : Int32) (p2 : Int32) (p3 : Int32) (p4 : Int32) (p5 : Int32) (p6 : Int32) (p7 : Int32) (p8 : Int32) (p9 : Int32) (h0 : Heap) (hE : Ext Z.heap h0) (hA0 : Ar Z h0 a .byte [(.int p0), (.int p1), (.int p2), (.int p3), (.int p4), (.int p5), (.int p6), (.int p7), (.int p8), (.int p9)]) (hfr1 : Z.heap.size ≤ a) :
    Con l Z (⟨"com/example/flowmote/flowmote/Bytes", "writeLong", "([BIJ)V"⟩ : MethodName) prog_6_method_6_code 5 none ({ frames := 0, cells := 0, slots := 0, locals := 0 } : Room) #[(.ref a), (.int (0 : Int32)), (.long v)] h0 (fun vv hh => vv = none ∧ Keep h0 hh [a] ∧ Ar Z hh a .byte [(.int (nar .byte (ownB v (56 : Int32)))), (.int (nar .byte (ownB v (48 : Int32)))), (.int (nar .byte (ownB v (40 : Int32)))), (.int (nar .byte (ownB v (32 : Int32)))), (.int (nar .byte (ownB v (24 : Int32)))), (.int (nar .byte (ownB v (16 : Int32)))), (.int (nar .byte (ownB v (8 : Int32)))), (.int (nar .byte (ownB v (0 : Int32)))), (.int p8), (.int p9)]) := by
  refine Con.of (plainFor_of_name (by first | (simp [plainName, overriddenIn]; done) | decide +kernel)) hE ?_
  intro p e s m below T (X : Sd l Z "com/example/flowmote/flowmote/Bytes" "writeLong" prog_6_method_6_code 5 none ({ frames := 0, cells := 0, slots := 0, locals := 0 } : Room) p e s m #[(.ref a), (.int (0 : Int32)), (.long v)] below T h0 0 0)
  refine End.frame (ef_rm_w0 m a (0 : Int32) v) ?_
  have K_0 : Keep h0 h0 [a] := Keep.refl _ _
  show End Z p e below s _ _ _ _ (mkF m 0 #[.val (.ref a), .val (.int (0 : Int32)), .val (.long v), .second, .unset] [])
  refine E_iconst (v := (0 : Int32)) (pc' := 1) X d2_0 rfl rfl ?_
  refine E_istore (Ls' := #[.val (.ref a), .val (.int (0 : Int32)), .val (.long v), .second, .val (.int (0 : Int32))]) (pc' := 3) X d2_1 rfl rfl ?_
  refine E_iload (pc' := 5) X d2_3 rfl rfl ?_
  refine E_bipush (v := (8 : Int32)) (pc' := 7) X d2_5 rfl rfl ?_
  refine E_icmp (pcY := 34) (pcN := 10) X (ic_ge _ _) d2_7 (by decide) rfl rfl (fun hc7_0 => absurd hc7_0 (by decide)) (fun hc7_0 => ?_)
  refine E_aloadN (v := (.ref a)) (pc' := 11) X d2_10 rfl rfl rfl ?_
  refine E_iloadN (pc' := 12) X d2_11 rfl rfl ?_
  refine E_iload (pc' := 14) X d2_12 rfl rfl ?_
  refine E_iadd (pc' := 15) X d2_14 rfl ?_
  refine E_eqI (z := (0 : Int32)) (by decide) ?_
  refine E_lloadN (pc' := 16) X d2_15 rfl rfl ?_
  refine E_bipush (v := (7 : Int32)) (pc' := 18) X d2_16 rfl rfl ?_
  refine E_iload (pc' := 20) X d2_18 rfl rfl ?_
  refine E_isub (pc' := 21) X d2_20 rfl ?_
  refine E_eqI (z := (7 : Int32)) (by decide) ?_
  refine E_bipush (v := (8 : Int32)) (pc' := 23) X d2_21 rfl rfl ?_
  refine E_imul (pc' := 24) X d2_23 rfl ?_
  refine E_eqI (z := (56 : Int32)) (by decide) ?_
  refine E_lushr (pc' := 25) X d2_24 rfl ?_
  refine E_l2i (pc' := 26) X d2_25 rfl ?_
  refine E_i2b (pc' := 27) X d2_26 rfl ?_
  refine E_eqI (z := (ownB v (56 : Int32))) rfl ?_
  refine E_bastore (vs' := [(.int (nar .byte (ownB v (56 : Int32)))), (.int p1), (.int p2), (.int p3), (.int p4), (.int p5), (.int p6), (.int p7), (.int p8), (.int p9)]) (pc' := 28) X hA0 (by decide) (Nat.le_of_ble_eq_true rfl) rfl hfr1 d2_27 rfl (fun T h_2 X W_1 Aa_3 => ?_)
  have K_4 : Keep h0 h_2 [a] := K_0.wr W_1 (Or.inl (List.mem_of_getElem? (i := 0) rfl))
  refine E_iinc (x := (0 : Int32)) (z := (1 : Int32)) (Ls' := #[.val (.ref a), .val (.int (0 : Int32)), .val (.long v), .second, .val (.int (1 : Int32))]) (pc' := 31) X d2_28 rfl rfl rfl rfl ?_
  refine E_goto (pc' := 3) X d2_31 (by decide) rfl ?_
  refine E_iload (pc' := 5) X d2_3 rfl rfl ?_
  refine E_bipush (v := (8 : Int32)) (pc' := 7) X d2_5 rfl rfl ?_
  refine E_icmp (pcY := 34) (pcN := 10) X (ic_ge _ _) d2_7 (by decide) rfl rfl (fun hc7_1 => absurd hc7_1 (by decide)) (fun hc7_1 => ?_)
  refine E_aloadN (v := (.ref a)) (pc' := 11) X d2_10 rfl rfl rfl ?_
  refine E_iloadN (pc' := 12) X d2_11 rfl rfl ?_
  refine E_iload (pc' := 14) X d2_12 rfl rfl ?_
  refine E_iadd (pc' := 15) X d2_14 rfl ?_
  refine E_eqI (z := (1 : Int32)) (by decide) ?_
  refine E_lloadN (pc' := 16) X d2_15 rfl rfl ?_
  refine E_bipush (v := (7 : Int32)) (pc' := 18) X d2_16 rfl rfl ?_
  refine E_iload (pc' := 20) X d2_18 rfl rfl ?_
  refine E_isub (pc' := 21) X d2_20 rfl ?_
  refine E_eqI (z := (6 : Int32)) (by decide) ?_
  refine E_bipush (v := (8 : Int32)) (pc' := 23) X d2_21 rfl rfl ?_
  refine E_imul (pc' := 24) X d2_23 rfl ?_
  refine E_eqI (z := (48 : Int32)) (by decide) ?_
  refine E_lushr (pc' := 25) X d2_24 rfl ?_
  refine E_l2i (pc' := 26) X d2_25 rfl ?_
  refine E_i2b (pc' := 27) X d2_26 rfl ?_
  refine E_eqI (z := (ownB v (48 : Int32))) rfl ?_
  refine E_bastore (vs' := [(.int (nar .byte (ownB v (56 : Int32)))), (.int (nar .byte (ownB v (48 : Int32)))), (.int p2), (.int p3), (.int p4), (.int p5), (.int p6), (.int p7), (.int p8), (.int p9)]) (pc' := 28) X Aa_3 (by decide) (Nat.le_of_ble_eq_true rfl) rfl hfr1 d2_27 rfl (fun T h_6 X W_5 Aa_7 => ?_)
  have K_8 : Keep h0 h_6 [a] := K_4.wr W_5 (Or.inl (List.mem_of_getElem? (i := 0) rfl))
  refine E_iinc (x := (1 : Int32)) (z := (2 : Int32)) (Ls' := #[.val (.ref a), .val (.int (0 : Int32)), .val (.long v), .second, .val (.int (2 : Int32))]) (pc' := 31) X d2_28 rfl rfl rfl rfl ?_
  refine E_goto (pc' := 3) X d2_31 (by decide) rfl ?_
  refine E_iload (pc' := 5) X d2_3 rfl rfl ?_
  refine E_bipush (v := (8 : Int32)) (pc' := 7) X d2_5 rfl rfl ?_
  refine E_icmp (pcY := 34) (pcN := 10) X (ic_ge _ _) d2_7 (by decide) rfl rfl (fun hc7_2 => absurd hc7_2 (by decide)) (fun hc7_2 => ?_)
  refine E_aloadN (v := (.ref a)) (pc' := 11) X d2_10 rfl rfl rfl ?_
  refine E_iloadN (pc' := 12) X d2_11 rfl rfl ?_
  refine E_iload (pc' := 14) X d2_12 rfl rfl ?_
  refine E_iadd (pc' := 15) X d2_14 rfl ?_
  refine E_eqI (z := (2 : Int32)) (by decide) ?_
  refine E_lloadN (pc' := 16) X d2_15 rfl rfl ?_
  refine E_bipush (v := (7 : Int32)) (pc' := 18) X d2_16 rfl rfl ?_
  refine E_iload (pc' := 20) X d2_18 rfl rfl ?_
  refine E_isub (pc' := 21) X d2_20 rfl ?_
  refine E_eqI (z := (5 : Int32)) (by decide) ?_
  refine E_bipush (v := (8 : Int32)) (pc' := 23) X d2_21 rfl rfl ?_
  refine E_imul (pc' := 24) X d2_23 rfl ?_
  refine E_eqI (z := (40 : Int32)) (by decide) ?_
  refine E_lushr (pc' := 25) X d2_24 rfl ?_
  refine E_l2i (pc' := 26) X d2_25 rfl ?_
  refine E_i2b (pc' := 27) X d2_26 rfl ?_
  refine E_eqI (z := (ownB v (40 : Int32))) rfl ?_
  refine E_bastore (vs' := [(.int (nar .byte (ownB v (56 : Int32)))), (.int (nar .byte (ownB v (48 : Int32)))), (.int (nar .byte (ownB v (40 : Int32)))), (.int p3), (.int p4), (.int p5), (.int p6), (.int p7), (.int p8), (.int p9)]) (pc' := 28) X Aa_7 (by decide) (Nat.le_of_ble_eq_true rfl) rfl hfr1 d2_27 rfl (fun T h_10 X W_9 Aa_11 => ?_)
  have K_12 : Keep h0 h_10 [a] := K_8.wr W_9 (Or.inl (List.mem_of_getElem? (i := 0) rfl))
  refine E_iinc (x := (2 : Int32)) (z := (3 : Int32)) (Ls' := #[.val (.ref a), .val (.int (0 : Int32)), .val (.long v), .second, .val (.int (3 : Int32))]) (pc' := 31) X d2_28 rfl rfl rfl rfl ?_
  refine E_goto (pc' := 3) X d2_31 (by decide) rfl ?_
  refine E_iload (pc' := 5) X d2_3 rfl rfl ?_
  refine E_bipush (v := (8 : Int32)) (pc' := 7) X d2_5 rfl rfl ?_
  refine E_icmp (pcY := 34) (pcN := 10) X (ic_ge _ _) d2_7 (by decide) rfl rfl (fun hc7_3 => absurd hc7_3 (by decide)) (fun hc7_3 => ?_)
  refine E_aloadN (v := (.ref a)) (pc' := 11) X d2_10 rfl rfl rfl ?_
  refine E_iloadN (pc' := 12) X d2_11 rfl rfl ?_
  refine E_iload (pc' := 14) X d2_12 rfl rfl ?_
  refine E_iadd (pc' := 15) X d2_14 rfl ?_
  refine E_eqI (z := (3 : Int32)) (by decide) ?_
  refine E_lloadN (pc' := 16) X d2_15 rfl rfl ?_
  refine E_bipush (v := (7 : Int32)) (pc' := 18) X d2_16 rfl rfl ?_
  refine E_iload (pc' := 20) X d2_18 rfl rfl ?_
  refine E_isub (pc' := 21) X d2_20 rfl ?_
  refine E_eqI (z := (4 : Int32)) (by decide) ?_
  refine E_bipush (v := (8 : Int32)) (pc' := 23) X d2_21 rfl rfl ?_
  refine E_imul (pc' := 24) X d2_23 rfl ?_
  refine E_eqI (z := (32 : Int32)) (by decide) ?_
  refine E_lushr (pc' := 25) X d2_24 rfl ?_
  refine E_l2i (pc' := 26) X d2_25 rfl ?_
  refine E_i2b (pc' := 27) X d2_26 rfl ?_
  refine E_eqI (z := (ownB v (32 : Int32))) rfl ?_
  refine E_bastore (vs' := [(.int (nar .byte (ownB v (56 : Int32)))), (.int (nar .byte (ownB v (48 : Int32)))), (.int (nar .byte (ownB v (40 : Int32)))), (.int (nar .byte (ownB v (32 : Int32)))), (.int p4), (.int p5), (.int p6), (.int p7), (.int p8), (.int p9)]) (pc' := 28) X Aa_11 (by decide) (Nat.le_of_ble_eq_true rfl) rfl hfr1 d2_27 rfl (fun T h_14 X W_13 Aa_15 => ?_)
  have K_16 : Keep h0 h_14 [a] := K_12.wr W_13 (Or.inl (List.mem_of_getElem? (i := 0) rfl))
  refine E_iinc (x := (3 : Int32)) (z := (4 : Int32)) (Ls' := #[.val (.ref a), .val (.int (0 : Int32)), .val (.long v), .second, .val (.int (4 : Int32))]) (pc' := 31) X d2_28 rfl rfl rfl rfl ?_
  refine E_goto (pc' := 3) X d2_31 (by decide) rfl ?_
  refine E_iload (pc' := 5) X d2_3 rfl rfl ?_
  refine E_bipush (v := (8 : Int32)) (pc' := 7) X d2_5 rfl rfl ?_
  refine E_icmp (pcY := 34) (pcN := 10) X (ic_ge _ _) d2_7 (by decide) rfl rfl (fun hc7_4 => absurd hc7_4 (by decide)) (fun hc7_4 => ?_)
  refine E_aloadN (v := (.ref a)) (pc' := 11) X d2_10 rfl rfl rfl ?_
  refine E_iloadN (pc' := 12) X d2_11 rfl rfl ?_
  refine E_iload (pc' := 14) X d2_12 rfl rfl ?_
  refine E_iadd (pc' := 15) X d2_14 rfl ?_
  refine E_eqI (z := (4 : Int32)) (by decide) ?_
  refine E_lloadN (pc' := 16) X d2_15 rfl rfl ?_
  refine E_bipush (v := (7 : Int32)) (pc' := 18) X d2_16 rfl rfl ?_
  refine E_iload (pc' := 20) X d2_18 rfl rfl ?_
  refine E_isub (pc' := 21) X d2_20 rfl ?_
  refine E_eqI (z := (3 : Int32)) (by decide) ?_
  refine E_bipush (v := (8 : Int32)) (pc' := 23) X d2_21 rfl rfl ?_
  refine E_imul (pc' := 24) X d2_23 rfl ?_
  refine E_eqI (z := (24 : Int32)) (by decide) ?_
  refine E_lushr (pc' := 25) X d2_24 rfl ?_
  refine E_l2i (pc' := 26) X d2_25 rfl ?_
  refine E_i2b (pc' := 27) X d2_26 rfl ?_
  refine E_eqI (z := (ownB v (24 : Int32))) rfl ?_
  refine E_bastore (vs' := [(.int (nar .byte (ownB v (56 : Int32)))), (.int (nar .byte (ownB v (48 : Int32)))), (.int (nar .byte (ownB v (40 : Int32)))), (.int (nar .byte (ownB v (32 : Int32)))), (.int (nar .byte (ownB v (24 : Int32)))), (.int p5), (.int p6), (.int p7), (.int p8), (.int p9)]) (pc' := 28) X Aa_15 (by decide) (Nat.le_of_ble_eq_true rfl) rfl hfr1 d2_27 rfl (fun T h_18 X W_17 Aa_19 => ?_)
  have K_20 : Keep h0 h_18 [a] := K_16.wr W_17 (Or.inl (List.mem_of_getElem? (i := 0) rfl))
  refine E_iinc (x := (4 : Int32)) (z := (5 : Int32)) (Ls' := #[.val (.ref a), .val (.int (0 : Int32)), .val (.long v), .second, .val (.int (5 : Int32))]) (pc' := 31) X d2_28 rfl rfl rfl rfl ?_
  refine E_goto (pc' := 3) X d2_31 (by decide) rfl ?_
  refine E_iload (pc' := 5) X d2_3 rfl rfl ?_
  refine E_bipush (v := (8 : Int32)) (pc' := 7) X d2_5 rfl rfl ?_
  refine E_icmp (pcY := 34) (pcN := 10) X (ic_ge _ _) d2_7 (by decide) rfl rfl (fun hc7_5 => absurd hc7_5 (by decide)) (fun hc7_5 => ?_)
  refine E_aloadN (v := (.ref a)) (pc' := 11) X d2_10 rfl rfl rfl ?_
  refine E_iloadN (pc' := 12) X d2_11 rfl rfl ?_
  refine E_iload (pc' := 14) X d2_12 rfl rfl ?_
  refine E_iadd (pc' := 15) X d2_14 rfl ?_
  refine E_eqI (z := (5 : Int32)) (by decide) ?_
  refine E_lloadN (pc' := 16) X d2_15 rfl rfl ?_
  refine E_bipush (v := (7 : Int32)) (pc' := 18) X d2_16 rfl rfl ?_
  refine E_iload (pc' := 20) X d2_18 rfl rfl ?_
  refine E_isub (pc' := 21) X d2_20 rfl ?_
  refine E_eqI (z := (2 : Int32)) (by decide) ?_
  refine E_bipush (v := (8 : Int32)) (pc' := 23) X d2_21 rfl rfl ?_
  refine E_imul (pc' := 24) X d2_23 rfl ?_
  refine E_eqI (z := (16 : Int32)) (by decide) ?_
  refine E_lushr (pc' := 25) X d2_24 rfl ?_
  refine E_l2i (pc' := 26) X d2_25 rfl ?_
  refine E_i2b (pc' := 27) X d2_26 rfl ?_
  refine E_eqI (z := (ownB v (16 : Int32))) rfl ?_
  refine E_bastore (vs' := [(.int (nar .byte (ownB v (56 : Int32)))), (.int (nar .byte (ownB v (48 : Int32)))), (.int (nar .byte (ownB v (40 : Int32)))), (.int (nar .byte (ownB v (32 : Int32)))), (.int (nar .byte (ownB v (24 : Int32)))), (.int (nar .byte (ownB v (16 : Int32)))), (.int p6), (.int p7), (.int p8), (.int p9)]) (pc' := 28) X Aa_19 (by decide) (Nat.le_of_ble_eq_true rfl) rfl hfr1 d2_27 rfl (fun T h_22 X W_21 Aa_23 => ?_)
  have K_24 : Keep h0 h_22 [a] := K_20.wr W_21 (Or.inl (List.mem_of_getElem? (i := 0) rfl))
  refine E_iinc (x := (5 : Int32)) (z := (6 : Int32)) (Ls' := #[.val (.ref a), .val (.int (0 : Int32)), .val (.long v), .second, .val (.int (6 : Int32))]) (pc' := 31) X d2_28 rfl rfl rfl rfl ?_
  refine E_goto (pc' := 3) X d2_31 (by decide) rfl ?_
  refine E_iload (pc' := 5) X d2_3 rfl rfl ?_
  refine E_bipush (v := (8 : Int32)) (pc' := 7) X d2_5 rfl rfl ?_
  refine E_icmp (pcY := 34) (pcN := 10) X (ic_ge _ _) d2_7 (by decide) rfl rfl (fun hc7_6 => absurd hc7_6 (by decide)) (fun hc7_6 => ?_)
  refine E_aloadN (v := (.ref a)) (pc' := 11) X d2_10 rfl rfl rfl ?_
  refine E_iloadN (pc' := 12) X d2_11 rfl rfl ?_
  refine E_iload (pc' := 14) X d2_12 rfl rfl ?_
  refine E_iadd (pc' := 15) X d2_14 rfl ?_
  refine E_eqI (z := (6 : Int32)) (by decide) ?_
  refine E_lloadN (pc' := 16) X d2_15 rfl rfl ?_
  refine E_bipush (v := (7 : Int32)) (pc' := 18) X d2_16 rfl rfl ?_
  refine E_iload (pc' := 20) X d2_18 rfl rfl ?_
  refine E_isub (pc' := 21) X d2_20 rfl ?_
  refine E_eqI (z := (1 : Int32)) (by decide) ?_
  refine E_bipush (v := (8 : Int32)) (pc' := 23) X d2_21 rfl rfl ?_
  refine E_imul (pc' := 24) X d2_23 rfl ?_
  refine E_eqI (z := (8 : Int32)) (by decide) ?_
  refine E_lushr (pc' := 25) X d2_24 rfl ?_
  refine E_l2i (pc' := 26) X d2_25 rfl ?_
  refine E_i2b (pc' := 27) X d2_26 rfl ?_
  refine E_eqI (z := (ownB v (8 : Int32))) rfl ?_
  refine E_bastore (vs' := [(.int (nar .byte (ownB v (56 : Int32)))), (.int (nar .byte (ownB v (48 : Int32)))), (.int (nar .byte (ownB v (40 : Int32)))), (.int (nar .byte (ownB v (32 : Int32)))), (.int (nar .byte (ownB v (24 : Int32)))), (.int (nar .byte (ownB v (16 : Int32)))), (.int (nar .byte (ownB v (8 : Int32)))), (.int p7), (.int p8), (.int p9)]) (pc' := 28) X Aa_23 (by decide) (Nat.le_of_ble_eq_true rfl) rfl hfr1 d2_27 rfl (fun T h_26 X W_25 Aa_27 => ?_)
  have K_28 : Keep h0 h_26 [a] := K_24.wr W_25 (Or.inl (List.mem_of_getElem? (i := 0) rfl))
  refine E_iinc (x := (6 : Int32)) (z := (7 : Int32)) (Ls' := #[.val (.ref a), .val (.int (0 : Int32)), .val (.long v), .second, .val (.int (7 : Int32))]) (pc' := 31) X d2_28 rfl rfl rfl rfl ?_
  refine E_goto (pc' := 3) X d2_31 (by decide) rfl ?_
  refine E_iload (pc' := 5) X d2_3 rfl rfl ?_
  refine E_bipush (v := (8 : Int32)) (pc' := 7) X d2_5 rfl rfl ?_
  refine E_icmp (pcY := 34) (pcN := 10) X (ic_ge _ _) d2_7 (by decide) rfl rfl (fun hc7_7 => absurd hc7_7 (by decide)) (fun hc7_7 => ?_)
  refine E_aloadN (v := (.ref a)) (pc' := 11) X d2_10 rfl rfl rfl ?_
  refine E_iloadN (pc' := 12) X d2_11 rfl rfl ?_
  refine E_iload (pc' := 14) X d2_12 rfl rfl ?_
  refine E_iadd (pc' := 15) X d2_14 rfl ?_
  refine E_eqI (z := (7 : Int32)) (by decide) ?_
  refine E_lloadN (pc' := 16) X d2_15 rfl rfl ?_
  refine E_bipush (v := (7 : Int32)) (pc' := 18) X d2_16 rfl rfl ?_
  refine E_iload (pc' := 20) X d2_18 rfl rfl ?_
  refine E_isub (pc' := 21) X d2_20 rfl ?_
  refine E_eqI (z := (0 : Int32)) (by decide) ?_
  refine E_bipush (v := (8 : Int32)) (pc' := 23) X d2_21 rfl rfl ?_
  refine E_imul (pc' := 24) X d2_23 rfl ?_
  refine E_eqI (z := (0 : Int32)) (by decide) ?_
  refine E_lushr (pc' := 25) X d2_24 rfl ?_
  refine E_l2i (pc' := 26) X d2_25 rfl ?_
  refine E_i2b (pc' := 27) X d2_26 rfl ?_
  refine E_eqI (z := (ownB v (0 : Int32))) rfl ?_
  refine E_bastore (vs' := [(.int (nar .byte (ownB v (56 : Int32)))), (.int (nar .byte (ownB v (48 : Int32)))), (.int (nar .byte (ownB v (40 : Int32)))), (.int (nar .byte (ownB v (32 : Int32)))), (.int (nar .byte (ownB v (24 : Int32)))), (.int (nar .byte (ownB v (16 : Int32)))), (.int (nar .byte (ownB v (8 : Int32)))), (.int (nar .byte (ownB v (0 : Int32)))), (.int p8), (.int p9)]) (pc' := 28) X Aa_27 (by decide) (Nat.le_of_ble_eq_true rfl) rfl hfr1 d2_27 rfl (fun T h_30 X W_29 Aa_31 => ?_)
  have K_32 : Keep h0 h_30 [a] := K_28.wr W_29 (Or.inl (List.mem_of_getElem? (i := 0) rfl))
  refine E_iinc (x := (7 : Int32)) (z := (8 : Int32)) (Ls' := #[.val (.ref a), .val (.int (0 : Int32)), .val (.long v), .second, .val (.int (8 : Int32))]) (pc' := 31) X d2_28 rfl rfl rfl rfl ?_
  refine E_goto (pc' := 3) X d2_31 (by decide) rfl ?_
  refine E_iload (pc' := 5) X d2_3 rfl rfl ?_
  refine E_bipush (v := (8 : Int32)) (pc' := 7) X d2_5 rfl rfl ?_
  refine E_icmp (pcY := 34) (pcN := 10) X (ic_ge _ _) d2_7 (by decide) rfl rfl (fun hc7_8 => ?_) (fun hc7_8 => absurd (by decide) hc7_8)
  exact E_ret0 X d2_34 (by decide) (by decide) ⟨rfl, K_32, Aa_31⟩
theorem ef_rm_w1 (m : MethodId) (x0 : Addr) (x1 : Int32) (x2 : Int64) : entryFrame m #[(.ref x0), (.int x1), (.long x2)] 5 = mkF m 0 #[.val (.ref x0), .val (.int x1), .val (.long x2), .second, .unset] [] := by first | (simp [entryFrame, mkF, argsToLocals, Value.category]; done) | (simp [entryFrame, mkF, argsToLocals, *]; done) | rfl
set_option maxRecDepth 65536 in
set_option maxHeartbeats 2000000 in
theorem rm_w1 (l : Launch) (Z : State) (a0 : Array Value) (hw : ∀ d ∈ tables_1, d.before a0 Z = true) (a : Addr) (v : Int64) (p0 : Int32) (p1 : Int32) (p2 : Int32) (p3 : Int32) (p4 : Int32) (p5 : Int32) (p6 : Int32) (p7 : Int32) (p8 : Int32) (p9 : Int32) (h0 : Heap) (hE : Ext Z.heap h0) (hA0 : Ar Z h0 a .byte [(.int p0), (.int p1), (.int p2), (.int p3), (.int p4), (.int p5), (.int p6), (.int p7), (.int p8), (.int p9)]) (hfr1 : Z.heap.size ≤ a) :
    Con l Z (⟨"com/example/flowmote/flowmote/Bytes", "writeLong", "([BIJ)V"⟩ : MethodName) prog_6_method_6_code 5 none ({ frames := 0, cells := 0, slots := 0, locals := 0 } : Room) #[(.ref a), (.int (1 : Int32)), (.long v)] h0 (fun vv hh => vv = none ∧ Keep h0 hh [a] ∧ Ar Z hh a .byte [(.int p0), (.int (nar .byte (ownB v (56 : Int32)))), (.int (nar .byte (ownB v (48 : Int32)))), (.int (nar .byte (ownB v (40 : Int32)))), (.int (nar .byte (ownB v (32 : Int32)))), (.int (nar .byte (ownB v (24 : Int32)))), (.int (nar .byte (ownB v (16 : Int32)))), (.int (nar .byte (ownB v (8 : Int32)))), (.int (nar .byte (ownB v (0 : Int32)))), (.int p9)]) := by
  refine Con.of (plainFor_of_name (by first | (simp [plainName, overriddenIn]; done) | decide +kernel)) hE ?_
  intro p e s m below T (X : Sd l Z "com/example/flowmote/flowmote/Bytes" "writeLong" prog_6_method_6_code 5 none ({ frames := 0, cells := 0, slots := 0, locals := 0 } : Room) p e s m #[(.ref a), (.int (1 : Int32)), (.long v)] below T h0 0 0)
  refine End.frame (ef_rm_w1 m a (1 : Int32) v) ?_
  have K_0 : Keep h0 h0 [a] := Keep.refl _ _
  show End Z p e below s _ _ _ _ (mkF m 0 #[.val (.ref a), .val (.int (1 : Int32)), .val (.long v), .second, .unset] [])
  refine E_iconst (v := (0 : Int32)) (pc' := 1) X d2_0 rfl rfl ?_
  refine E_istore (Ls' := #[.val (.ref a), .val (.int (1 : Int32)), .val (.long v), .second, .val (.int (0 : Int32))]) (pc' := 3) X d2_1 rfl rfl ?_
  refine E_iload (pc' := 5) X d2_3 rfl rfl ?_
  refine E_bipush (v := (8 : Int32)) (pc' := 7) X d2_5 rfl rfl ?_
  refine E_icmp (pcY := 34) (pcN := 10) X (ic_ge _ _) d2_7 (by decide) rfl rfl (fun hc7_0 => absurd hc7_0 (by decide)) (fun hc7_0 => ?_)
  refine E_aloadN (v := (.ref a)) (pc' := 11) X d2_10 rfl rfl rfl ?_
  refine E_iloadN (pc' := 12) X d2_11 rfl rfl ?_
  refine E_iload (pc' := 14) X d2_12 rfl rfl ?_
  refine E_iadd (pc' := 15) X d2_14 rfl ?_
  refine E_eqI (z := (1 : Int32)) (by decide) ?_
  refine E_lloadN (pc' := 16) X d2_15 rfl rfl ?_
  refine E_bipush (v := (7 : Int32)) (pc' := 18) X d2_16 rfl rfl ?_
  refine E_iload (pc' := 20) X d2_18 rfl rfl ?_
  refine E_isub (pc' := 21) X d2_20 rfl ?_
  refine E_eqI (z := (7 : Int32)) (by decide) ?_
  refine E_bipush (v := (8 : Int32)) (pc' := 23) X d2_21 rfl rfl ?_
  refine E_imul (pc' := 24) X d2_23 rfl ?_
  refine E_eqI (z := (56 : Int32)) (by decide) ?_
  refine E_lushr (pc' := 25) X d2_24 rfl ?_
  refine E_l2i (pc' := 26) X d2_25 rfl ?_
  refine E_i2b (pc' := 27) X d2_26 rfl ?_
  refine E_eqI (z := (ownB v (56 : Int32))) rfl ?_
  refine E_bastore (vs' := [(.int p0), (.int (nar .byte (ownB v (56 : Int32)))), (.int p2), (.int p3), (.int p4), (.int p5), (.int p6), (.int p7), (.int p8), (.int p9)]) (pc' := 28) X hA0 (by decide) (Nat.le_of_ble_eq_true rfl) rfl hfr1 d2_27 rfl (fun T h_2 X W_1 Aa_3 => ?_)
  have K_4 : Keep h0 h_2 [a] := K_0.wr W_1 (Or.inl (List.mem_of_getElem? (i := 0) rfl))
  refine E_iinc (x := (0 : Int32)) (z := (1 : Int32)) (Ls' := #[.val (.ref a), .val (.int (1 : Int32)), .val (.long v), .second, .val (.int (1 : Int32))]) (pc' := 31) X d2_28 rfl rfl rfl rfl ?_
  refine E_goto (pc' := 3) X d2_31 (by decide) rfl ?_
  refine E_iload (pc' := 5) X d2_3 rfl rfl ?_
  refine E_bipush (v := (8 : Int32)) (pc' := 7) X d2_5 rfl rfl ?_
  refine E_icmp (pcY := 34) (pcN := 10) X (ic_ge _ _) d2_7 (by decide) rfl rfl (fun hc7_1 => absurd hc7_1 (by decide)) (fun hc7_1 => ?_)
  refine E_aloadN (v := (.ref a)) (pc' := 11) X d2_10 rfl rfl rfl ?_
  refine E_iloadN (pc' := 12) X d2_11 rfl rfl ?_
  refine E_iload (pc' := 14) X d2_12 rfl rfl ?_
  refine E_iadd (pc' := 15) X d2_14 rfl ?_
  refine E_eqI (z := (2 : Int32)) (by decide) ?_
  refine E_lloadN (pc' := 16) X d2_15 rfl rfl ?_
  refine E_bipush (v := (7 : Int32)) (pc' := 18) X d2_16 rfl rfl ?_
  refine E_iload (pc' := 20) X d2_18 rfl rfl ?_
  refine E_isub (pc' := 21) X d2_20 rfl ?_
  refine E_eqI (z := (6 : Int32)) (by decide) ?_
  refine E_bipush (v := (8 : Int32)) (pc' := 23) X d2_21 rfl rfl ?_
  refine E_imul (pc' := 24) X d2_23 rfl ?_
  refine E_eqI (z := (48 : Int32)) (by decide) ?_
  refine E_lushr (pc' := 25) X d2_24 rfl ?_
  refine E_l2i (pc' := 26) X d2_25 rfl ?_
  refine E_i2b (pc' := 27) X d2_26 rfl ?_
  refine E_eqI (z := (ownB v (48 : Int32))) rfl ?_
  refine E_bastore (vs' := [(.int p0), (.int (nar .byte (ownB v (56 : Int32)))), (.int (nar .byte (ownB v (48 : Int32)))), (.int p3), (.int p4), (.int p5), (.int p6), (.int p7), (.int p8), (.int p9)]) (pc' := 28) X Aa_3 (by decide) (Nat.le_of_ble_eq_true rfl) rfl hfr1 d2_27 rfl (fun T h_6 X W_5 Aa_7 => ?_)
  have K_8 : Keep h0 h_6 [a] := K_4.wr W_5 (Or.inl (List.mem_of_getElem? (i := 0) rfl))
  refine E_iinc (x := (1 : Int32)) (z := (2 : Int32)) (Ls' := #[.val (.ref a), .val (.int (1 : Int32)), .val (.long v), .second, .val (.int (2 : Int32))]) (pc' := 31) X d2_28 rfl rfl rfl rfl ?_
  refine E_goto (pc' := 3) X d2_31 (by decide) rfl ?_
  refine E_iload (pc' := 5) X d2_3 rfl rfl ?_
  refine E_bipush (v := (8 : Int32)) (pc' := 7) X d2_5 rfl rfl ?_
  refine E_icmp (pcY := 34) (pcN := 10) X (ic_ge _ _) d2_7 (by decide) rfl rfl (fun hc7_2 => absurd hc7_2 (by decide)) (fun hc7_2 => ?_)
  refine E_aloadN (v := (.ref a)) (pc' := 11) X d2_10 rfl rfl rfl ?_
  refine E_iloadN (pc' := 12) X d2_11 rfl rfl ?_
  refine E_iload (pc' := 14) X d2_12 rfl rfl ?_
  refine E_iadd (pc' := 15) X d2_14 rfl ?_
  refine E_eqI (z := (3 : Int32)) (by decide) ?_
  refine E_lloadN (pc' := 16) X d2_15 rfl rfl ?_
  refine E_bipush (v := (7 : Int32)) (pc' := 18) X d2_16 rfl rfl ?_
  refine E_iload (pc' := 20) X d2_18 rfl rfl ?_
  refine E_isub (pc' := 21) X d2_20 rfl ?_
  refine E_eqI (z := (5 : Int32)) (by decide) ?_
  refine E_bipush (v := (8 : Int32)) (pc' := 23) X d2_21 rfl rfl ?_
  refine E_imul (pc' := 24) X d2_23 rfl ?_
  refine E_eqI (z := (40 : Int32)) (by decide) ?_
  refine E_lushr (pc' := 25) X d2_24 rfl ?_
  refine E_l2i (pc' := 26) X d2_25 rfl ?_
  refine E_i2b (pc' := 27) X d2_26 rfl ?_
  refine E_eqI (z := (ownB v (40 : Int32))) rfl ?_
  refine E_bastore (vs' := [(.int p0), (.int (nar .byte (ownB v (56 : Int32)))), (.int (nar .byte (ownB v (48 : Int32)))), (.int (nar .byte (ownB v (40 : Int32)))), (.int p4), (.int p5), (.int p6), (.int p7), (.int p8), (.int p9)]) (pc' := 28) X Aa_7 (by decide) (Nat.le_of_ble_eq_true rfl) rfl hfr1 d2_27 rfl (fun T h_10 X W_9 Aa_11 => ?_)
  have K_12 : Keep h0 h_10 [a] := K_8.wr W_9 (Or.inl (List.mem_of_getElem? (i := 0) rfl))
  refine E_iinc (x := (2 : Int32)) (z := (3 : Int32)) (Ls' := #[.val (.ref a), .val (.int (1 : Int32)), .val (.long v), .second, .val (.int (3 : Int32))]) (pc' := 31) X d2_28 rfl rfl rfl rfl ?_
  refine E_goto (pc' := 3) X d2_31 (by decide) rfl ?_
  refine E_iload (pc' := 5) X d2_3 rfl rfl ?_
  refine E_bipush (v := (8 : Int32)) (pc' := 7) X d2_5 rfl rfl ?_
  refine E_icmp (pcY := 34) (pcN := 10) X (ic_ge _ _) d2_7 (by decide) rfl rfl (fun hc7_3 => absurd hc7_3 (by decide)) (fun hc7_3 => ?_)
  refine E_aloadN (v := (.ref a)) (pc' := 11) X d2_10 rfl rfl rfl ?_
  refine E_iloadN (pc' := 12) X d2_11 rfl rfl ?_
  refine E_iload (pc' := 14) X d2_12 rfl rfl ?_
  refine E_iadd (pc' := 15) X d2_14 rfl ?_
  refine E_eqI (z := (4 : Int32)) (by decide) ?_
  refine E_lloadN (pc' := 16) X d2_15 rfl rfl ?_
  refine E_bipush (v := (7 : Int32)) (pc' := 18) X d2_16 rfl rfl ?_
  refine E_iload (pc' := 20) X d2_18 rfl rfl ?_
  refine E_isub (pc' := 21) X d2_20 rfl ?_
  refine E_eqI (z := (4 : Int32)) (by decide) ?_
  refine E_bipush (v := (8 : Int32)) (pc' := 23) X d2_21 rfl rfl ?_
  refine E_imul (pc' := 24) X d2_23 rfl ?_
  refine E_eqI (z := (32 : Int32)) (by decide) ?_
  refine E_lushr (pc' := 25) X d2_24 rfl ?_
  refine E_l2i (pc' := 26) X d2_25 rfl ?_
  refine E_i2b (pc' := 27) X d2_26 rfl ?_
  refine E_eqI (z := (ownB v (32 : Int32))) rfl ?_
  refine E_bastore (vs' := [(.int p0), (.int (nar .byte (ownB v (56 : Int32)))), (.int (nar .byte (ownB v (48 : Int32)))), (.int (nar .byte (ownB v (40 : Int32)))), (.int (nar .byte (ownB v (32 : Int32)))), (.int p5), (.int p6), (.int p7), (.int p8), (.int p9)]) (pc' := 28) X Aa_11 (by decide) (Nat.le_of_ble_eq_true rfl) rfl hfr1 d2_27 rfl (fun T h_14 X W_13 Aa_15 => ?_)
  have K_16 : Keep h0 h_14 [a] := K_12.wr W_13 (Or.inl (List.mem_of_getElem? (i := 0) rfl))
  refine E_iinc (x := (3 : Int32)) (z := (4 : Int32)) (Ls' := #[.val (.ref a), .val (.int (1 : Int32)), .val (.long v), .second, .val (.int (4 : Int32))]) (pc' := 31) X d2_28 rfl rfl rfl rfl ?_
  refine E_goto (pc' := 3) X d2_31 (by decide) rfl ?_
  refine E_iload (pc' := 5) X d2_3 rfl rfl ?_
  refine E_bipush (v := (8 : Int32)) (pc' := 7) X d2_5 rfl rfl ?_
  refine E_icmp (pcY := 34) (pcN := 10) X (ic_ge _ _) d2_7 (by decide) rfl rfl (fun hc7_4 => absurd hc7_4 (by decide)) (fun hc7_4 => ?_)
  refine E_aloadN (v := (.ref a)) (pc' := 11) X d2_10 rfl rfl rfl ?_
  refine E_iloadN (pc' := 12) X d2_11 rfl rfl ?_
  refine E_iload (pc' := 14) X d2_12 rfl rfl ?_
  refine E_iadd (pc' := 15) X d2_14 rfl ?_
  refine E_eqI (z := (5 : Int32)) (by decide) ?_
  refine E_lloadN (pc' := 16) X d2_15 rfl rfl ?_
  refine E_bipush (v := (7 : Int32)) (pc' := 18) X d2_16 rfl rfl ?_
  refine E_iload (pc' := 20) X d2_18 rfl rfl ?_
  refine E_isub (pc' := 21) X d2_20 rfl ?_
  refine E_eqI (z := (3 : Int32)) (by decide) ?_
  refine E_bipush (v := (8 : Int32)) (pc' := 23) X d2_21 rfl rfl ?_
  refine E_imul (pc' := 24) X d2_23 rfl ?_
  refine E_eqI (z := (24 : Int32)) (by decide) ?_
  refine E_lushr (pc' := 25) X d2_24 rfl ?_
  refine E_l2i (pc' := 26) X d2_25 rfl ?_
  refine E_i2b (pc' := 27) X d2_26 rfl ?_
  refine E_eqI (z := (ownB v (24 : Int32))) rfl ?_
  refine E_bastore (vs' := [(.int p0), (.int (nar .byte (ownB v (56 : Int32)))), (.int (nar .byte (ownB v (48 : Int32)))), (.int (nar .byte (ownB v (40 : Int32)))), (.int (nar .byte (ownB v (32 : Int32)))), (.int (nar .byte (ownB v (24 : Int32)))), (.int p6), (.int p7), (.int p8), (.int p9)]) (pc' := 28) X Aa_15 (by decide) (Nat.le_of_ble_eq_true rfl) rfl hfr1 d2_27 rfl (fun T h_18 X W_17 Aa_19 => ?_)
  have K_20 : Keep h0 h_18 [a] := K_16.wr W_17 (Or.inl (List.mem_of_getElem? (i := 0) rfl))
  refine E_iinc (x := (4 : Int32)) (z := (5 : Int32)) (Ls' := #[.val (.ref a), .val (.int (1 : Int32)), .val (.long v), .second, .val (.int (5 : Int32))]) (pc' := 31) X d2_28 rfl rfl rfl rfl ?_
  refine E_goto (pc' := 3) X d2_31 (by decide) rfl ?_
  refine E_iload (pc' := 5) X d2_3 rfl rfl ?_
  refine E_bipush (v := (8 : Int32)) (pc' := 7) X d2_5 rfl rfl ?_
  refine E_icmp (pcY := 34) (pcN := 10) X (ic_ge _ _) d2_7 (by decide) rfl rfl (fun hc7_5 => absurd hc7_5 (by decide)) (fun hc7_5 => ?_)
  refine E_aloadN (v := (.ref a)) (pc' := 11) X d2_10 rfl rfl rfl ?_
  refine E_iloadN (pc' := 12) X d2_11 rfl rfl ?_
  refine E_iload (pc' := 14) X d2_12 rfl rfl ?_
  refine E_iadd (pc' := 15) X d2_14 rfl ?_
  refine E_eqI (z := (6 : Int32)) (by decide) ?_
  refine E_lloadN (pc' := 16) X d2_15 rfl rfl ?_
  refine E_bipush (v := (7 : Int32)) (pc' := 18) X d2_16 rfl rfl ?_
  refine E_iload (pc' := 20) X d2_18 rfl rfl ?_
  refine E_isub (pc' := 21) X d2_20 rfl ?_
  refine E_eqI (z := (2 : Int32)) (by decide) ?_
  refine E_bipush (v := (8 : Int32)) (pc' := 23) X d2_21 rfl rfl ?_
  refine E_imul (pc' := 24) X d2_23 rfl ?_
  refine E_eqI (z := (16 : Int32)) (by decide) ?_
  refine E_lushr (pc' := 25) X d2_24 rfl ?_
  refine E_l2i (pc' := 26) X d2_25 rfl ?_
  refine E_i2b (pc' := 27) X d2_26 rfl ?_
  refine E_eqI (z := (ownB v (16 : Int32))) rfl ?_
  refine E_bastore (vs' := [(.int p0), (.int (nar .byte (ownB v (56 : Int32)))), (.int (nar .byte (ownB v (48 : Int32)))), (.int (nar .byte (ownB v (40 : Int32)))), (.int (nar .byte (ownB v (32 : Int32)))), (.int (nar .byte (ownB v (24 : Int32)))), (.int (nar .byte (ownB v (16 : Int32)))), (.int p7), (.int p8), (.int p9)]) (pc' := 28) X Aa_19 (by decide) (Nat.le_of_ble_eq_true rfl) rfl hfr1 d2_27 rfl (fun T h_22 X W_21 Aa_23 => ?_)
  have K_24 : Keep h0 h_22 [a] := K_20.wr W_21 (Or.inl (List.mem_of_getElem? (i := 0) rfl))
  refine E_iinc (x := (5 : Int32)) (z := (6 : Int32)) (Ls' := #[.val (.ref a), .val (.int (1 : Int32)), .val (.long v), .second, .val (.int (6 : Int32))]) (pc' := 31) X d2_28 rfl rfl rfl rfl ?_
  refine E_goto (pc' := 3) X d2_31 (by decide) rfl ?_
  refine E_iload (pc' := 5) X d2_3 rfl rfl ?_
  refine E_bipush (v := (8 : Int32)) (pc' := 7) X d2_5 rfl rfl ?_
  refine E_icmp (pcY := 34) (pcN := 10) X (ic_ge _ _) d2_7 (by decide) rfl rfl (fun hc7_6 => absurd hc7_6 (by decide)) (fun hc7_6 => ?_)
  refine E_aloadN (v := (.ref a)) (pc' := 11) X d2_10 rfl rfl rfl ?_
  refine E_iloadN (pc' := 12) X d2_11 rfl rfl ?_
  refine E_iload (pc' := 14) X d2_12 rfl rfl ?_
  refine E_iadd (pc' := 15) X d2_14 rfl ?_
  refine E_eqI (z := (7 : Int32)) (by decide) ?_
  refine E_lloadN (pc' := 16) X d2_15 rfl rfl ?_
  refine E_bipush (v := (7 : Int32)) (pc' := 18) X d2_16 rfl rfl ?_
  refine E_iload (pc' := 20) X d2_18 rfl rfl ?_
  refine E_isub (pc' := 21) X d2_20 rfl ?_
  refine E_eqI (z := (1 : Int32)) (by decide) ?_
  refine E_bipush (v := (8 : Int32)) (pc' := 23) X d2_21 rfl rfl ?_
  refine E_imul (pc' := 24) X d2_23 rfl ?_
  refine E_eqI (z := (8 : Int32)) (by decide) ?_
  refine E_lushr (pc' := 25) X d2_24 rfl ?_
  refine E_l2i (pc' := 26) X d2_25 rfl ?_
  refine E_i2b (pc' := 27) X d2_26 rfl ?_
  refine E_eqI (z := (ownB v (8 : Int32))) rfl ?_
  refine E_bastore (vs' := [(.int p0), (.int (nar .byte (ownB v (56 : Int32)))), (.int (nar .byte (ownB v (48 : Int32)))), (.int (nar .byte (ownB v (40 : Int32)))), (.int (nar .byte (ownB v (32 : Int32)))), (.int (nar .byte (ownB v (24 : Int32)))), (.int (nar .byte (ownB v (16 : Int32)))), (.int (nar .byte (ownB v (8 : Int32)))), (.int p8), (.int p9)]) (pc' := 28) X Aa_23 (by decide) (Nat.le_of_ble_eq_true rfl) rfl hfr1 d2_27 rfl (fun T h_26 X W_25 Aa_27 => ?_)
  have K_28 : Keep h0 h_26 [a] := K_24.wr W_25 (Or.inl (List.mem_of_getElem? (i := 0) rfl))
  refine E_iinc (x := (6 : Int32)) (z := (7 : Int32)) (Ls' := #[.val (.ref a), .val (.int (1 : Int32)), .val (.long v), .second, .val (.int (7 : Int32))]) (pc' := 31) X d2_28 rfl rfl rfl rfl ?_
  refine E_goto (pc' := 3) X d2_31 (by decide) rfl ?_
  refine E_iload (pc' := 5) X d2_3 rfl rfl ?_
  refine E_bipush (v := (8 : Int32)) (pc' := 7) X d2_5 rfl rfl ?_
  refine E_icmp (pcY := 34) (pcN := 10) X (ic_ge _ _) d2_7 (by decide) rfl rfl (fun hc7_7 => absurd hc7_7 (by decide)) (fun hc7_7 => ?_)
  refine E_aloadN (v := (.ref a)) (pc' := 11) X d2_10 rfl rfl rfl ?_
  refine E_iloadN (pc' := 12) X d2_11 rfl rfl ?_
  refine E_iload (pc' := 14) X d2_12 rfl rfl ?_
  refine E_iadd (pc' := 15) X d2_14 rfl ?_
  refine E_eqI (z := (8 : Int32)) (by decide) ?_
  refine E_lloadN (pc' := 16) X d2_15 rfl rfl ?_
  refine E_bipush (v := (7 : Int32)) (pc' := 18) X d2_16 rfl rfl ?_
  refine E_iload (pc' := 20) X d2_18 rfl rfl ?_
  refine E_isub (pc' := 21) X d2_20 rfl ?_
  refine E_eqI (z := (0 : Int32)) (by decide) ?_
  refine E_bipush (v := (8 : Int32)) (pc' := 23) X d2_21 rfl rfl ?_
  refine E_imul (pc' := 24) X d2_23 rfl ?_
  refine E_eqI (z := (0 : Int32)) (by decide) ?_
  refine E_lushr (pc' := 25) X d2_24 rfl ?_
  refine E_l2i (pc' := 26) X d2_25 rfl ?_
  refine E_i2b (pc' := 27) X d2_26 rfl ?_
  refine E_eqI (z := (ownB v (0 : Int32))) rfl ?_
  refine E_bastore (vs' := [(.int p0), (.int (nar .byte (ownB v (56 : Int32)))), (.int (nar .byte (ownB v (48 : Int32)))), (.int (nar .byte (ownB v (40 : Int32)))), (.int (nar .byte (ownB v (32 : Int32)))), (.int (nar .byte (ownB v (24 : Int32)))), (.int (nar .byte (ownB v (16 : Int32)))), (.int (nar .byte (ownB v (8 : Int32)))), (.int (nar .byte (ownB v (0 : Int32)))), (.int p9)]) (pc' := 28) X Aa_27 (by decide) (Nat.le_of_ble_eq_true rfl) rfl hfr1 d2_27 rfl (fun T h_30 X W_29 Aa_31 => ?_)
  have K_32 : Keep h0 h_30 [a] := K_28.wr W_29 (Or.inl (List.mem_of_getElem? (i := 0) rfl))
  refine E_iinc (x := (7 : Int32)) (z := (8 : Int32)) (Ls' := #[.val (.ref a), .val (.int (1 : Int32)), .val (.long v), .second, .val (.int (8 : Int32))]) (pc' := 31) X d2_28 rfl rfl rfl rfl ?_
  refine E_goto (pc' := 3) X d2_31 (by decide) rfl ?_
  refine E_iload (pc' := 5) X d2_3 rfl rfl ?_
  refine E_bipush (v := (8 : Int32)) (pc' := 7) X d2_5 rfl rfl ?_
  refine E_icmp (pcY := 34) (pcN := 10) X (ic_ge _ _) d2_7 (by decide) rfl rfl (fun hc7_8 => ?_) (fun hc7_8 => absurd (by decide) hc7_8)
  exact E_ret0 X d2_34 (by decide) (by decide) ⟨rfl, K_32, Aa_31⟩
theorem ef_rm_w2 (m : MethodId) (x0 : Addr) (x1 : Int32) (x2 : Int64) : entryFrame m #[(.ref x0), (.int x1), (.long x2)] 5 = mkF m 0 #[.val (.ref x0), .val (.int x1), .val (.long x2), .second, .unset] [] := by first | (simp [entryFrame, mkF, argsToLocals, Value.category]; done) | (simp [entryFrame, mkF, argsToLocals, *]; done) | rfl
set_option maxRecDepth 65536 in
set_option maxHeartbeats 2000000 in
theorem rm_w2 (l : Launch) (Z : State) (a0 : Array Value) (hw : ∀ d ∈ tables_1, d.before a0 Z = true) (a : Addr) (v : Int64) (p0 : Int32) (p1 : Int32) (p2 : Int32) (p3 : Int32) (p4 : Int32) (p5 : Int32) (p6 : Int32) (p7 : Int32) (p8 : Int32) (p9 : Int32) (h0 : Heap) (hE : Ext Z.heap h0) (hA0 : Ar Z h0 a .byte [(.int p0), (.int p1), (.int p2), (.int p3), (.int p4), (.int p5), (.int p6), (.int p7), (.int p8), (.int p9)]) (hfr1 : Z.heap.size ≤ a) :
    Con l Z (⟨"com/example/flowmote/flowmote/Bytes", "writeLong", "([BIJ)V"⟩ : MethodName) prog_6_method_6_code 5 none ({ frames := 0, cells := 0, slots := 0, locals := 0 } : Room) #[(.ref a), (.int (2 : Int32)), (.long v)] h0 (fun vv hh => vv = none ∧ Keep h0 hh [a] ∧ Ar Z hh a .byte [(.int p0), (.int p1), (.int (nar .byte (ownB v (56 : Int32)))), (.int (nar .byte (ownB v (48 : Int32)))), (.int (nar .byte (ownB v (40 : Int32)))), (.int (nar .byte (ownB v (32 : Int32)))), (.int (nar .byte (ownB v (24 : Int32)))), (.int (nar .byte (ownB v (16 : Int32)))), (.int (nar .byte (ownB v (8 : Int32)))), (.int (nar .byte (ownB v (0 : Int32))))]) := by
  refine Con.of (plainFor_of_name (by first | (simp [plainName, overriddenIn]; done) | decide +kernel)) hE ?_
  intro p e s m below T (X : Sd l Z "com/example/flowmote/flowmote/Bytes" "writeLong" prog_6_method_6_code 5 none ({ frames := 0, cells := 0, slots := 0, locals := 0 } : Room) p e s m #[(.ref a), (.int (2 : Int32)), (.long v)] below T h0 0 0)
  refine End.frame (ef_rm_w2 m a (2 : Int32) v) ?_
  have K_0 : Keep h0 h0 [a] := Keep.refl _ _
  show End Z p e below s _ _ _ _ (mkF m 0 #[.val (.ref a), .val (.int (2 : Int32)), .val (.long v), .second, .unset] [])
  refine E_iconst (v := (0 : Int32)) (pc' := 1) X d2_0 rfl rfl ?_
  refine E_istore (Ls' := #[.val (.ref a), .val (.int (2 : Int32)), .val (.long v), .second, .val (.int (0 : Int32))]) (pc' := 3) X d2_1 rfl rfl ?_
  refine E_iload (pc' := 5) X d2_3 rfl rfl ?_
  refine E_bipush (v := (8 : Int32)) (pc' := 7) X d2_5 rfl rfl ?_
  refine E_icmp (pcY := 34) (pcN := 10) X (ic_ge _ _) d2_7 (by decide) rfl rfl (fun hc7_0 => absurd hc7_0 (by decide)) (fun hc7_0 => ?_)
  refine E_aloadN (v := (.ref a)) (pc' := 11) X d2_10 rfl rfl rfl ?_
  refine E_iloadN (pc' := 12) X d2_11 rfl rfl ?_
  refine E_iload (pc' := 14) X d2_12 rfl rfl ?_
  refine E_iadd (pc' := 15) X d2_14 rfl ?_
  refine E_eqI (z := (2 : Int32)) (by decide) ?_
  refine E_lloadN (pc' := 16) X d2_15 rfl rfl ?_
  refine E_bipush (v := (7 : Int32)) (pc' := 18) X d2_16 rfl rfl ?_
  refine E_iload (pc' := 20) X d2_18 rfl rfl ?_
  refine E_isub (pc' := 21) X d2_20 rfl ?_
  refine E_eqI (z := (7 : Int32)) (by decide) ?_
  refine E_bipush (v := (8 : Int32)) (pc' := 23) X d2_21 rfl rfl ?_
  refine E_imul (pc' := 24) X d2_23 rfl ?_
  refine E_eqI (z := (56 : Int32)) (by decide) ?_
  refine E_lushr (pc' := 25) X d2_24 rfl ?_
  refine E_l2i (pc' := 26) X d2_25 rfl ?_
  refine E_i2b (pc' := 27) X d2_26 rfl ?_
  refine E_eqI (z := (ownB v (56 : Int32))) rfl ?_
  refine E_bastore (vs' := [(.int p0), (.int p1), (.int (nar .byte (ownB v (56 : Int32)))), (.int p3), (.int p4), (.int p5), (.int p6), (.int p7), (.int p8), (.int p9)]) (pc' := 28) X hA0 (by decide) (Nat.le_of_ble_eq_true rfl) rfl hfr1 d2_27 rfl (fun T h_2 X W_1 Aa_3 => ?_)
  have K_4 : Keep h0 h_2 [a] := K_0.wr W_1 (Or.inl (List.mem_of_getElem? (i := 0) rfl))
  refine E_iinc (x := (0 : Int32)) (z := (1 : Int32)) (Ls' := #[.val (.ref a), .val (.int (2 : Int32)), .val (.long v), .second, .val (.int (1 : Int32))]) (pc' := 31) X d2_28 rfl rfl rfl rfl ?_
  refine E_goto (pc' := 3) X d2_31 (by decide) rfl ?_
  refine E_iload (pc' := 5) X d2_3 rfl rfl ?_
  refine E_bipush (v := (8 : Int32)) (pc' := 7) X d2_5 rfl rfl ?_
  refine E_icmp (pcY := 34) (pcN := 10) X (ic_ge _ _) d2_7 (by decide) rfl rfl (fun hc7_1 => absurd hc7_1 (by decide)) (fun hc7_1 => ?_)
  refine E_aloadN (v := (.ref a)) (pc' := 11) X d2_10 rfl rfl rfl ?_
  refine E_iloadN (pc' := 12) X d2_11 rfl rfl ?_
  refine E_iload (pc' := 14) X d2_12 rfl rfl ?_
  refine E_iadd (pc' := 15) X d2_14 rfl ?_
  refine E_eqI (z := (3 : Int32)) (by decide) ?_
  refine E_lloadN (pc' := 16) X d2_15 rfl rfl ?_
  refine E_bipush (v := (7 : Int32)) (pc' := 18) X d2_16 rfl rfl ?_
  refine E_iload (pc' := 20) X d2_18 rfl rfl ?_
  refine E_isub (pc' := 21) X d2_20 rfl ?_
  refine E_eqI (z := (6 : Int32)) (by decide) ?_
  refine E_bipush (v := (8 : Int32)) (pc' := 23) X d2_21 rfl rfl ?_
  refine E_imul (pc' := 24) X d2_23 rfl ?_
  refine E_eqI (z := (48 : Int32)) (by decide) ?_
  refine E_lushr (pc' := 25) X d2_24 rfl ?_
  refine E_l2i (pc' := 26) X d2_25 rfl ?_
  refine E_i2b (pc' := 27) X d2_26 rfl ?_
  refine E_eqI (z := (ownB v (48 : Int32))) rfl ?_
  refine E_bastore (vs' := [(.int p0), (.int p1), (.int (nar .byte (ownB v (56 : Int32)))), (.int (nar .byte (ownB v (48 : Int32)))), (.int p4), (.int p5), (.int p6), (.int p7), (.int p8), (.int p9)]) (pc' := 28) X Aa_3 (by decide) (Nat.le_of_ble_eq_true rfl) rfl hfr1 d2_27 rfl (fun T h_6 X W_5 Aa_7 => ?_)
  have K_8 : Keep h0 h_6 [a] := K_4.wr W_5 (Or.inl (List.mem_of_getElem? (i := 0) rfl))
  refine E_iinc (x := (1 : Int32)) (z := (2 : Int32)) (Ls' := #[.val (.ref a), .val (.int (2 : Int32)), .val (.long v), .second, .val (.int (2 : Int32))]) (pc' := 31) X d2_28 rfl rfl rfl rfl ?_
  refine E_goto (pc' := 3) X d2_31 (by decide) rfl ?_
  refine E_iload (pc' := 5) X d2_3 rfl rfl ?_
  refine E_bipush (v := (8 : Int32)) (pc' := 7) X d2_5 rfl rfl ?_
  refine E_icmp (pcY := 34) (pcN := 10) X (ic_ge _ _) d2_7 (by decide) rfl rfl (fun hc7_2 => absurd hc7_2 (by decide)) (fun hc7_2 => ?_)
  refine E_aloadN (v := (.ref a)) (pc' := 11) X d2_10 rfl rfl rfl ?_
  refine E_iloadN (pc' := 12) X d2_11 rfl rfl ?_
  refine E_iload (pc' := 14) X d2_12 rfl rfl ?_
  refine E_iadd (pc' := 15) X d2_14 rfl ?_
  refine E_eqI (z := (4 : Int32)) (by decide) ?_
  refine E_lloadN (pc' := 16) X d2_15 rfl rfl ?_
  refine E_bipush (v := (7 : Int32)) (pc' := 18) X d2_16 rfl rfl ?_
  refine E_iload (pc' := 20) X d2_18 rfl rfl ?_
  refine E_isub (pc' := 21) X d2_20 rfl ?_
  refine E_eqI (z := (5 : Int32)) (by decide) ?_
  refine E_bipush (v := (8 : Int32)) (pc' := 23) X d2_21 rfl rfl ?_
  refine E_imul (pc' := 24) X d2_23 rfl ?_
  refine E_eqI (z := (40 : Int32)) (by decide) ?_
  refine E_lushr (pc' := 25) X d2_24 rfl ?_
  refine E_l2i (pc' := 26) X d2_25 rfl ?_
  refine E_i2b (pc' := 27) X d2_26 rfl ?_
  refine E_eqI (z := (ownB v (40 : Int32))) rfl ?_
  refine E_bastore (vs' := [(.int p0), (.int p1), (.int (nar .byte (ownB v (56 : Int32)))), (.int (nar .byte (ownB v (48 : Int32)))), (.int (nar .byte (ownB v (40 : Int32)))), (.int p5), (.int p6), (.int p7), (.int p8), (.int p9)]) (pc' := 28) X Aa_7 (by decide) (Nat.le_of_ble_eq_true rfl) rfl hfr1 d2_27 rfl (fun T h_10 X W_9 Aa_11 => ?_)
  have K_12 : Keep h0 h_10 [a] := K_8.wr W_9 (Or.inl (List.mem_of_getElem? (i := 0) rfl))
  refine E_iinc (x := (2 : Int32)) (z := (3 : Int32)) (Ls' := #[.val (.ref a), .val (.int (2 : Int32)), .val (.long v), .second, .val (.int (3 : Int32))]) (pc' := 31) X d2_28 rfl rfl rfl rfl ?_
  refine E_goto (pc' := 3) X d2_31 (by decide) rfl ?_
  refine E_iload (pc' := 5) X d2_3 rfl rfl ?_
  refine E_bipush (v := (8 : Int32)) (pc' := 7) X d2_5 rfl rfl ?_
  refine E_icmp (pcY := 34) (pcN := 10) X (ic_ge _ _) d2_7 (by decide) rfl rfl (fun hc7_3 => absurd hc7_3 (by decide)) (fun hc7_3 => ?_)
  refine E_aloadN (v := (.ref a)) (pc' := 11) X d2_10 rfl rfl rfl ?_
  refine E_iloadN (pc' := 12) X d2_11 rfl rfl ?_
  refine E_iload (pc' := 14) X d2_12 rfl rfl ?_
  refine E_iadd (pc' := 15) X d2_14 rfl ?_
  refine E_eqI (z := (5 : Int32)) (by decide) ?_
  refine E_lloadN (pc' := 16) X d2_15 rfl rfl ?_
  refine E_bipush (v := (7 : Int32)) (pc' := 18) X d2_16 rfl rfl ?_
  refine E_iload (pc' := 20) X d2_18 rfl rfl ?_
  refine E_isub (pc' := 21) X d2_20 rfl ?_
  refine E_eqI (z := (4 : Int32)) (by decide) ?_
  refine E_bipush (v := (8 : Int32)) (pc' := 23) X d2_21 rfl rfl ?_
  refine E_imul (pc' := 24) X d2_23 rfl ?_
  refine E_eqI (z := (32 : Int32)) (by decide) ?_
  refine E_lushr (pc' := 25) X d2_24 rfl ?_
  refine E_l2i (pc' := 26) X d2_25 rfl ?_
  refine E_i2b (pc' := 27) X d2_26 rfl ?_
  refine E_eqI (z := (ownB v (32 : Int32))) rfl ?_
  refine E_bastore (vs' := [(.int p0), (.int p1), (.int (nar .byte (ownB v (56 : Int32)))), (.int (nar .byte (ownB v (48 : Int32)))), (.int (nar .byte (ownB v (40 : Int32)))), (.int (nar .byte (ownB v (32 : Int32)))), (.int p6), (.int p7), (.int p8), (.int p9)]) (pc' := 28) X Aa_11 (by decide) (Nat.le_of_ble_eq_true rfl) rfl hfr1 d2_27 rfl (fun T h_14 X W_13 Aa_15 => ?_)
  have K_16 : Keep h0 h_14 [a] := K_12.wr W_13 (Or.inl (List.mem_of_getElem? (i := 0) rfl))
  refine E_iinc (x := (3 : Int32)) (z := (4 : Int32)) (Ls' := #[.val (.ref a), .val (.int (2 : Int32)), .val (.long v), .second, .val (.int (4 : Int32))]) (pc' := 31) X d2_28 rfl rfl rfl rfl ?_
  refine E_goto (pc' := 3) X d2_31 (by decide) rfl ?_
  refine E_iload (pc' := 5) X d2_3 rfl rfl ?_
  refine E_bipush (v := (8 : Int32)) (pc' := 7) X d2_5 rfl rfl ?_
  refine E_icmp (pcY := 34) (pcN := 10) X (ic_ge _ _) d2_7 (by decide) rfl rfl (fun hc7_4 => absurd hc7_4 (by decide)) (fun hc7_4 => ?_)
  refine E_aloadN (v := (.ref a)) (pc' := 11) X d2_10 rfl rfl rfl ?_
  refine E_iloadN (pc' := 12) X d2_11 rfl rfl ?_
  refine E_iload (pc' := 14) X d2_12 rfl rfl ?_
  refine E_iadd (pc' := 15) X d2_14 rfl ?_
  refine E_eqI (z := (6 : Int32)) (by decide) ?_
  refine E_lloadN (pc' := 16) X d2_15 rfl rfl ?_
  refine E_bipush (v := (7 : Int32)) (pc' := 18) X d2_16 rfl rfl ?_
  refine E_iload (pc' := 20) X d2_18 rfl rfl ?_
  refine E_isub (pc' := 21) X d2_20 rfl ?_
  refine E_eqI (z := (3 : Int32)) (by decide) ?_
  refine E_bipush (v := (8 : Int32)) (pc' := 23) X d2_21 rfl rfl ?_
  refine E_imul (pc' := 24) X d2_23 rfl ?_
  refine E_eqI (z := (24 : Int32)) (by decide) ?_
  refine E_lushr (pc' := 25) X d2_24 rfl ?_
  refine E_l2i (pc' := 26) X d2_25 rfl ?_
  refine E_i2b (pc' := 27) X d2_26 rfl ?_
  refine E_eqI (z := (ownB v (24 : Int32))) rfl ?_
  refine E_bastore (vs' := [(.int p0), (.int p1), (.int (nar .byte (ownB v (56 : Int32)))), (.int (nar .byte (ownB v (48 : Int32)))), (.int (nar .byte (ownB v (40 : Int32)))), (.int (nar .byte (ownB v (32 : Int32)))), (.int (nar .byte (ownB v (24 : Int32)))), (.int p7), (.int p8), (.int p9)]) (pc' := 28) X Aa_15 (by decide) (Nat.le_of_ble_eq_true rfl) rfl hfr1 d2_27 rfl (fun T h_18 X W_17 Aa_19 => ?_)
  have K_20 : Keep h0 h_18 [a] := K_16.wr W_17 (Or.inl (List.mem_of_getElem? (i := 0) rfl))
  refine E_iinc (x := (4 : Int32)) (z := (5 : Int32)) (Ls' := #[.val (.ref a), .val (.int (2 : Int32)), .val (.long v), .second, .val (.int (5 : Int32))]) (pc' := 31) X d2_28 rfl rfl rfl rfl ?_
  refine E_goto (pc' := 3) X d2_31 (by decide) rfl ?_
  refine E_iload (pc' := 5) X d2_3 rfl rfl ?_
  refine E_bipush (v := (8 : Int32)) (pc' := 7) X d2_5 rfl rfl ?_
  refine E_icmp (pcY := 34) (pcN := 10) X (ic_ge _ _) d2_7 (by decide) rfl rfl (fun hc7_5 => absurd hc7_5 (by decide)) (fun hc7_5 => ?_)
  refine E_aloadN (v := (.ref a)) (pc' := 11) X d2_10 rfl rfl rfl ?_
  refine E_iloadN (pc' := 12) X d2_11 rfl rfl ?_
  refine E_iload (pc' := 14) X d2_12 rfl rfl ?_
  refine E_iadd (pc' := 15) X d2_14 rfl ?_
  refine E_eqI (z := (7 : Int32)) (by decide) ?_
  refine E_lloadN (pc' := 16) X d2_15 rfl rfl ?_
  refine E_bipush (v := (7 : Int32)) (pc' := 18) X d2_16 rfl rfl ?_
  refine E_iload (pc' := 20) X d2_18 rfl rfl ?_
  refine E_isub (pc' := 21) X d2_20 rfl ?_
  refine E_eqI (z := (2 : Int32)) (by decide) ?_
  refine E_bipush (v := (8 : Int32)) (pc' := 23) X d2_21 rfl rfl ?_
  refine E_imul (pc' := 24) X d2_23 rfl ?_
  refine E_eqI (z := (16 : Int32)) (by decide) ?_
  refine E_lushr (pc' := 25) X d2_24 rfl ?_
  refine E_l2i (pc' := 26) X d2_25 rfl ?_
  refine E_i2b (pc' := 27) X d2_26 rfl ?_
  refine E_eqI (z := (ownB v (16 : Int32))) rfl ?_
  refine E_bastore (vs' := [(.int p0), (.int p1), (.int (nar .byte (ownB v (56 : Int32)))), (.int (nar .byte (ownB v (48 : Int32)))), (.int (nar .byte (ownB v (40 : Int32)))), (.int (nar .byte (ownB v (32 : Int32)))), (.int (nar .byte (ownB v (24 : Int32)))), (.int (nar .byte (ownB v (16 : Int32)))), (.int p8), (.int p9)]) (pc' := 28) X Aa_19 (by decide) (Nat.le_of_ble_eq_true rfl) rfl hfr1 d2_27 rfl (fun T h_22 X W_21 Aa_23 => ?_)
  have K_24 : Keep h0 h_22 [a] := K_20.wr W_21 (Or.inl (List.mem_of_getElem? (i := 0) rfl))
  refine E_iinc (x := (5 : Int32)) (z := (6 : Int32)) (Ls' := #[.val (.ref a), .val (.int (2 : Int32)), .val (.long v), .second, .val (.int (6 : Int32))]) (pc' := 31) X d2_28 rfl rfl rfl rfl ?_
  refine E_goto (pc' := 3) X d2_31 (by decide) rfl ?_
  refine E_iload (pc' := 5) X d2_3 rfl rfl ?_
  refine E_bipush (v := (8 : Int32)) (pc' := 7) X d2_5 rfl rfl ?_
  refine E_icmp (pcY := 34) (pcN := 10) X (ic_ge _ _) d2_7 (by decide) rfl rfl (fun hc7_6 => absurd hc7_6 (by decide)) (fun hc7_6 => ?_)
  refine E_aloadN (v := (.ref a)) (pc' := 11) X d2_10 rfl rfl rfl ?_
  refine E_iloadN (pc' := 12) X d2_11 rfl rfl ?_
  refine E_iload (pc' := 14) X d2_12 rfl rfl ?_
  refine E_iadd (pc' := 15) X d2_14 rfl ?_
  refine E_eqI (z := (8 : Int32)) (by decide) ?_
  refine E_lloadN (pc' := 16) X d2_15 rfl rfl ?_
  refine E_bipush (v := (7 : Int32)) (pc' := 18) X d2_16 rfl rfl ?_
  refine E_iload (pc' := 20) X d2_18 rfl rfl ?_
  refine E_isub (pc' := 21) X d2_20 rfl ?_
  refine E_eqI (z := (1 : Int32)) (by decide) ?_
  refine E_bipush (v := (8 : Int32)) (pc' := 23) X d2_21 rfl rfl ?_
  refine E_imul (pc' := 24) X d2_23 rfl ?_
  refine E_eqI (z := (8 : Int32)) (by decide) ?_
  refine E_lushr (pc' := 25) X d2_24 rfl ?_
  refine E_l2i (pc' := 26) X d2_25 rfl ?_
  refine E_i2b (pc' := 27) X d2_26 rfl ?_
  refine E_eqI (z := (ownB v (8 : Int32))) rfl ?_
  refine E_bastore (vs' := [(.int p0), (.int p1), (.int (nar .byte (ownB v (56 : Int32)))), (.int (nar .byte (ownB v (48 : Int32)))), (.int (nar .byte (ownB v (40 : Int32)))), (.int (nar .byte (ownB v (32 : Int32)))), (.int (nar .byte (ownB v (24 : Int32)))), (.int (nar .byte (ownB v (16 : Int32)))), (.int (nar .byte (ownB v (8 : Int32)))), (.int p9)]) (pc' := 28) X Aa_23 (by decide) (Nat.le_of_ble_eq_true rfl) rfl hfr1 d2_27 rfl (fun T h_26 X W_25 Aa_27 => ?_)
  have K_28 : Keep h0 h_26 [a] := K_24.wr W_25 (Or.inl (List.mem_of_getElem? (i := 0) rfl))
  refine E_iinc (x := (6 : Int32)) (z := (7 : Int32)) (Ls' := #[.val (.ref a), .val (.int (2 : Int32)), .val (.long v), .second, .val (.int (7 : Int32))]) (pc' := 31) X d2_28 rfl rfl rfl rfl ?_
  refine E_goto (pc' := 3) X d2_31 (by decide) rfl ?_
  refine E_iload (pc' := 5) X d2_3 rfl rfl ?_
  refine E_bipush (v := (8 : Int32)) (pc' := 7) X d2_5 rfl rfl ?_
  refine E_icmp (pcY := 34) (pcN := 10) X (ic_ge _ _) d2_7 (by decide) rfl rfl (fun hc7_7 => absurd hc7_7 (by decide)) (fun hc7_7 => ?_)
  refine E_aloadN (v := (.ref a)) (pc' := 11) X d2_10 rfl rfl rfl ?_
  refine E_iloadN (pc' := 12) X d2_11 rfl rfl ?_
  refine E_iload (pc' := 14) X d2_12 rfl rfl ?_
  refine E_iadd (pc' := 15) X d2_14 rfl ?_
  refine E_eqI (z := (9 : Int32)) (by decide) ?_
  refine E_lloadN (pc' := 16) X d2_15 rfl rfl ?_
  refine E_bipush (v := (7 : Int32)) (pc' := 18) X d2_16 rfl rfl ?_
  refine E_iload (pc' := 20) X d2_18 rfl rfl ?_
  refine E_isub (pc' := 21) X d2_20 rfl ?_
  refine E_eqI (z := (0 : Int32)) (by decide) ?_
  refine E_bipush (v := (8 : Int32)) (pc' := 23) X d2_21 rfl rfl ?_
  refine E_imul (pc' := 24) X d2_23 rfl ?_
  refine E_eqI (z := (0 : Int32)) (by decide) ?_
  refine E_lushr (pc' := 25) X d2_24 rfl ?_
  refine E_l2i (pc' := 26) X d2_25 rfl ?_
  refine E_i2b (pc' := 27) X d2_26 rfl ?_
  refine E_eqI (z := (ownB v (0 : Int32))) rfl ?_
  refine E_bastore (vs' := [(.int p0), (.int p1), (.int (nar .byte (ownB v (56 : Int32)))), (.int (nar .byte (ownB v (48 : Int32)))), (.int (nar .byte (ownB v (40 : Int32)))), (.int (nar .byte (ownB v (32 : Int32)))), (.int (nar .byte (ownB v (24 : Int32)))), (.int (nar .byte (ownB v (16 : Int32)))), (.int (nar .byte (ownB v (8 : Int32)))), (.int (nar .byte (ownB v (0 : Int32))))]) (pc' := 28) X Aa_27 (by decide) (Nat.le_of_ble_eq_true rfl) rfl hfr1 d2_27 rfl (fun T h_30 X W_29 Aa_31 => ?_)
  have K_32 : Keep h0 h_30 [a] := K_28.wr W_29 (Or.inl (List.mem_of_getElem? (i := 0) rfl))
  refine E_iinc (x := (7 : Int32)) (z := (8 : Int32)) (Ls' := #[.val (.ref a), .val (.int (2 : Int32)), .val (.long v), .second, .val (.int (8 : Int32))]) (pc' := 31) X d2_28 rfl rfl rfl rfl ?_
  refine E_goto (pc' := 3) X d2_31 (by decide) rfl ?_
  refine E_iload (pc' := 5) X d2_3 rfl rfl ?_
  refine E_bipush (v := (8 : Int32)) (pc' := 7) X d2_5 rfl rfl ?_
  refine E_icmp (pcY := 34) (pcN := 10) X (ic_ge _ _) d2_7 (by decide) rfl rfl (fun hc7_8 => ?_) (fun hc7_8 => absurd (by decide) hc7_8)
  exact E_ret0 X d2_34 (by decide) (by decide) ⟨rfl, K_32, Aa_31⟩
theorem d3_0 : decode method_3_code 0 = .ok (.aload_n 0, 1) := by decide +kernel
theorem d3_1 : decode method_3_code 1 = .ok (.iconst 0, 1) := by decide +kernel
theorem d3_2 : decode method_3_code 2 = .ok (.baload, 1) := by decide +kernel
theorem d3_3 : decode method_3_code 3 = .ok (.aload_n 1, 1) := by decide +kernel
theorem d3_4 : decode method_3_code 4 = .ok (.iconst 0, 1) := by decide +kernel
theorem d3_5 : decode method_3_code 5 = .ok (.baload, 1) := by decide +kernel
theorem d3_6 : decode method_3_code 6 = .ok (.if_icmp .ne 96, 3) := by decide +kernel
theorem d3_9 : decode method_3_code 9 = .ok (.aload_n 0, 1) := by decide +kernel
theorem d3_10 : decode method_3_code 10 = .ok (.iconst 1, 1) := by decide +kernel
theorem d3_11 : decode method_3_code 11 = .ok (.baload, 1) := by decide +kernel
theorem d3_12 : decode method_3_code 12 = .ok (.aload_n 1, 1) := by decide +kernel
theorem d3_13 : decode method_3_code 13 = .ok (.iconst 1, 1) := by decide +kernel
theorem d3_14 : decode method_3_code 14 = .ok (.baload, 1) := by decide +kernel
theorem d3_15 : decode method_3_code 15 = .ok (.if_icmp .ne 87, 3) := by decide +kernel
theorem d3_18 : decode method_3_code 18 = .ok (.aload_n 0, 1) := by decide +kernel
theorem d3_19 : decode method_3_code 19 = .ok (.iconst 2, 1) := by decide +kernel
theorem d3_20 : decode method_3_code 20 = .ok (.baload, 1) := by decide +kernel
theorem d3_21 : decode method_3_code 21 = .ok (.aload_n 1, 1) := by decide +kernel
theorem d3_22 : decode method_3_code 22 = .ok (.iconst 2, 1) := by decide +kernel
theorem d3_23 : decode method_3_code 23 = .ok (.baload, 1) := by decide +kernel
theorem d3_24 : decode method_3_code 24 = .ok (.if_icmp .ne 78, 3) := by decide +kernel
theorem d3_27 : decode method_3_code 27 = .ok (.aload_n 0, 1) := by decide +kernel
theorem d3_28 : decode method_3_code 28 = .ok (.iconst 3, 1) := by decide +kernel
theorem d3_29 : decode method_3_code 29 = .ok (.baload, 1) := by decide +kernel
theorem d3_30 : decode method_3_code 30 = .ok (.aload_n 1, 1) := by decide +kernel
theorem d3_31 : decode method_3_code 31 = .ok (.iconst 3, 1) := by decide +kernel
theorem d3_32 : decode method_3_code 32 = .ok (.baload, 1) := by decide +kernel
theorem d3_33 : decode method_3_code 33 = .ok (.if_icmp .ne 69, 3) := by decide +kernel
theorem d3_36 : decode method_3_code 36 = .ok (.aload_n 0, 1) := by decide +kernel
theorem d3_37 : decode method_3_code 37 = .ok (.iconst 4, 1) := by decide +kernel
theorem d3_38 : decode method_3_code 38 = .ok (.baload, 1) := by decide +kernel
theorem d3_39 : decode method_3_code 39 = .ok (.aload_n 1, 1) := by decide +kernel
theorem d3_40 : decode method_3_code 40 = .ok (.iconst 4, 1) := by decide +kernel
theorem d3_41 : decode method_3_code 41 = .ok (.baload, 1) := by decide +kernel
theorem d3_42 : decode method_3_code 42 = .ok (.if_icmp .ne 60, 3) := by decide +kernel
theorem d3_45 : decode method_3_code 45 = .ok (.aload_n 0, 1) := by decide +kernel
theorem d3_46 : decode method_3_code 46 = .ok (.iconst 5, 1) := by decide +kernel
theorem d3_47 : decode method_3_code 47 = .ok (.baload, 1) := by decide +kernel
theorem d3_48 : decode method_3_code 48 = .ok (.aload_n 1, 1) := by decide +kernel
theorem d3_49 : decode method_3_code 49 = .ok (.iconst 5, 1) := by decide +kernel
theorem d3_50 : decode method_3_code 50 = .ok (.baload, 1) := by decide +kernel
theorem d3_51 : decode method_3_code 51 = .ok (.if_icmp .ne 51, 3) := by decide +kernel
theorem d3_54 : decode method_3_code 54 = .ok (.aload_n 0, 1) := by decide +kernel
theorem d3_55 : decode method_3_code 55 = .ok (.bipush 6, 2) := by decide +kernel
theorem d3_57 : decode method_3_code 57 = .ok (.baload, 1) := by decide +kernel
theorem d3_58 : decode method_3_code 58 = .ok (.aload_n 1, 1) := by decide +kernel
theorem d3_59 : decode method_3_code 59 = .ok (.bipush 6, 2) := by decide +kernel
theorem d3_61 : decode method_3_code 61 = .ok (.baload, 1) := by decide +kernel
theorem d3_62 : decode method_3_code 62 = .ok (.if_icmp .ne 40, 3) := by decide +kernel
theorem d3_65 : decode method_3_code 65 = .ok (.aload_n 0, 1) := by decide +kernel
theorem d3_66 : decode method_3_code 66 = .ok (.bipush 7, 2) := by decide +kernel
theorem d3_68 : decode method_3_code 68 = .ok (.baload, 1) := by decide +kernel
theorem d3_69 : decode method_3_code 69 = .ok (.aload_n 1, 1) := by decide +kernel
theorem d3_70 : decode method_3_code 70 = .ok (.bipush 7, 2) := by decide +kernel
theorem d3_72 : decode method_3_code 72 = .ok (.baload, 1) := by decide +kernel
theorem d3_73 : decode method_3_code 73 = .ok (.if_icmp .ne 29, 3) := by decide +kernel
theorem d3_76 : decode method_3_code 76 = .ok (.aload_n 0, 1) := by decide +kernel
theorem d3_77 : decode method_3_code 77 = .ok (.bipush 8, 2) := by decide +kernel
theorem d3_79 : decode method_3_code 79 = .ok (.baload, 1) := by decide +kernel
theorem d3_80 : decode method_3_code 80 = .ok (.aload_n 1, 1) := by decide +kernel
theorem d3_81 : decode method_3_code 81 = .ok (.bipush 8, 2) := by decide +kernel
theorem d3_83 : decode method_3_code 83 = .ok (.baload, 1) := by decide +kernel
theorem d3_84 : decode method_3_code 84 = .ok (.if_icmp .ne 18, 3) := by decide +kernel
theorem d3_87 : decode method_3_code 87 = .ok (.aload_n 0, 1) := by decide +kernel
theorem d3_88 : decode method_3_code 88 = .ok (.bipush 9, 2) := by decide +kernel
theorem d3_90 : decode method_3_code 90 = .ok (.baload, 1) := by decide +kernel
theorem d3_91 : decode method_3_code 91 = .ok (.aload_n 1, 1) := by decide +kernel
theorem d3_92 : decode method_3_code 92 = .ok (.bipush 9, 2) := by decide +kernel
theorem d3_94 : decode method_3_code 94 = .ok (.baload, 1) := by decide +kernel
theorem d3_95 : decode method_3_code 95 = .ok (.if_icmp .ne 7, 3) := by decide +kernel
theorem d3_98 : decode method_3_code 98 = .ok (.iconst 1, 1) := by decide +kernel
theorem d3_99 : decode method_3_code 99 = .ok (.goto 4, 3) := by decide +kernel
theorem d3_103 : decode method_3_code 103 = .ok (.ireturn, 1) := by decide +kernel
theorem ef_rm3 (m : MethodId) (x0 : Addr) (x1 : Addr) : entryFrame m #[(.ref x0), (.ref x1)] 2 = mkF m 0 #[.val (.ref x0), .val (.ref x1)] [] := by first | (simp [entryFrame, mkF, argsToLocals, Value.category]; done) | (simp [entryFrame, mkF, argsToLocals, *]; done) | rfl
set_option maxRecDepth 65536 in
set_option maxHeartbeats 2000000 in
theorem rm3 (l : Launch) (Z : State) (a0 : Array Value) (hw : ∀ d ∈ tables_1, d.before a0 Z = true) (a : Addr) (b : Addr) (p0 : Int32) (p1 : Int32) (p2 : Int32) (p3 : Int32) (p4 : Int32) (p5 : Int32) (p6 : Int32) (p7 : Int32) (p8 : Int32) (p9 : Int32) (h0 : Heap) (hE : Ext Z.heap h0) (hA0 : Ar Z h0 a .byte [(.int p0), (.int p1), (.int p2), (.int p3), (.int p4), (.int p5), (.int p6), (.int p7), (.int p8), (.int p9)]) (hA1 : Ar Z h0 b .byte [(.int p0), (.int p1), (.int p2), (.int p3), (.int p4), (.int p5), (.int p6), (.int p7), (.int p8), (.int p9)]) :
    Con l Z (⟨"com/example/flowmote/flowmote/BytesWriteLongPinLaw", "same", "([B[B)Z"⟩ : MethodName) method_3_code 2 (some .boolean) ({ frames := 0, cells := 0, slots := 0, locals := 0 } : Room) #[(.ref a), (.ref b)] h0 (fun vv hh => vv = some (.int (1 : Int32)) ∧ h0 = hh) := by
  refine Con.of (plainFor_of_name (by first | (simp [plainName, overriddenIn]; done) | decide +kernel)) hE ?_
  intro p e s m below T (X : Sd l Z "com/example/flowmote/flowmote/BytesWriteLongPinLaw" "same" method_3_code 2 (some .boolean) ({ frames := 0, cells := 0, slots := 0, locals := 0 } : Room) p e s m #[(.ref a), (.ref b)] below T h0 0 0)
  refine End.frame (ef_rm3 m a b) ?_
  show End Z p e below s _ _ _ _ (mkF m 0 #[.val (.ref a), .val (.ref b)] [])
  refine E_aloadN (v := (.ref a)) (pc' := 1) X d3_0 rfl rfl rfl ?_
  refine E_iconst (v := (0 : Int32)) (pc' := 2) X d3_1 rfl rfl ?_
  refine E_baload (v := (.int p0)) (pc' := 3) X hA0 (by decide) rfl d3_2 rfl ?_
  refine E_aloadN (v := (.ref b)) (pc' := 4) X d3_3 rfl rfl rfl ?_
  refine E_iconst (v := (0 : Int32)) (pc' := 5) X d3_4 rfl rfl ?_
  refine E_baload (v := (.int p0)) (pc' := 6) X hA1 (by decide) rfl d3_5 rfl ?_
  refine E_icmp (pcY := 102) (pcN := 9) X (ic_ne _ _) d3_6 (by decide) rfl rfl (fun hc6_0 => absurd hc6_0 (fun q => q rfl)) (fun hc6_0 => ?_)
  refine E_aloadN (v := (.ref a)) (pc' := 10) X d3_9 rfl rfl rfl ?_
  refine E_iconst (v := (1 : Int32)) (pc' := 11) X d3_10 rfl rfl ?_
  refine E_baload (v := (.int p1)) (pc' := 12) X hA0 (by decide) rfl d3_11 rfl ?_
  refine E_aloadN (v := (.ref b)) (pc' := 13) X d3_12 rfl rfl rfl ?_
  refine E_iconst (v := (1 : Int32)) (pc' := 14) X d3_13 rfl rfl ?_
  refine E_baload (v := (.int p1)) (pc' := 15) X hA1 (by decide) rfl d3_14 rfl ?_
  refine E_icmp (pcY := 102) (pcN := 18) X (ic_ne _ _) d3_15 (by decide) rfl rfl (fun hc15_0 => absurd hc15_0 (fun q => q rfl)) (fun hc15_0 => ?_)
  refine E_aloadN (v := (.ref a)) (pc' := 19) X d3_18 rfl rfl rfl ?_
  refine E_iconst (v := (2 : Int32)) (pc' := 20) X d3_19 rfl rfl ?_
  refine E_baload (v := (.int p2)) (pc' := 21) X hA0 (by decide) rfl d3_20 rfl ?_
  refine E_aloadN (v := (.ref b)) (pc' := 22) X d3_21 rfl rfl rfl ?_
  refine E_iconst (v := (2 : Int32)) (pc' := 23) X d3_22 rfl rfl ?_
  refine E_baload (v := (.int p2)) (pc' := 24) X hA1 (by decide) rfl d3_23 rfl ?_
  refine E_icmp (pcY := 102) (pcN := 27) X (ic_ne _ _) d3_24 (by decide) rfl rfl (fun hc24_0 => absurd hc24_0 (fun q => q rfl)) (fun hc24_0 => ?_)
  refine E_aloadN (v := (.ref a)) (pc' := 28) X d3_27 rfl rfl rfl ?_
  refine E_iconst (v := (3 : Int32)) (pc' := 29) X d3_28 rfl rfl ?_
  refine E_baload (v := (.int p3)) (pc' := 30) X hA0 (by decide) rfl d3_29 rfl ?_
  refine E_aloadN (v := (.ref b)) (pc' := 31) X d3_30 rfl rfl rfl ?_
  refine E_iconst (v := (3 : Int32)) (pc' := 32) X d3_31 rfl rfl ?_
  refine E_baload (v := (.int p3)) (pc' := 33) X hA1 (by decide) rfl d3_32 rfl ?_
  refine E_icmp (pcY := 102) (pcN := 36) X (ic_ne _ _) d3_33 (by decide) rfl rfl (fun hc33_0 => absurd hc33_0 (fun q => q rfl)) (fun hc33_0 => ?_)
  refine E_aloadN (v := (.ref a)) (pc' := 37) X d3_36 rfl rfl rfl ?_
  refine E_iconst (v := (4 : Int32)) (pc' := 38) X d3_37 rfl rfl ?_
  refine E_baload (v := (.int p4)) (pc' := 39) X hA0 (by decide) rfl d3_38 rfl ?_
  refine E_aloadN (v := (.ref b)) (pc' := 40) X d3_39 rfl rfl rfl ?_
  refine E_iconst (v := (4 : Int32)) (pc' := 41) X d3_40 rfl rfl ?_
  refine E_baload (v := (.int p4)) (pc' := 42) X hA1 (by decide) rfl d3_41 rfl ?_
  refine E_icmp (pcY := 102) (pcN := 45) X (ic_ne _ _) d3_42 (by decide) rfl rfl (fun hc42_0 => absurd hc42_0 (fun q => q rfl)) (fun hc42_0 => ?_)
  refine E_aloadN (v := (.ref a)) (pc' := 46) X d3_45 rfl rfl rfl ?_
  refine E_iconst (v := (5 : Int32)) (pc' := 47) X d3_46 rfl rfl ?_
  refine E_baload (v := (.int p5)) (pc' := 48) X hA0 (by decide) rfl d3_47 rfl ?_
  refine E_aloadN (v := (.ref b)) (pc' := 49) X d3_48 rfl rfl rfl ?_
  refine E_iconst (v := (5 : Int32)) (pc' := 50) X d3_49 rfl rfl ?_
  refine E_baload (v := (.int p5)) (pc' := 51) X hA1 (by decide) rfl d3_50 rfl ?_
  refine E_icmp (pcY := 102) (pcN := 54) X (ic_ne _ _) d3_51 (by decide) rfl rfl (fun hc51_0 => absurd hc51_0 (fun q => q rfl)) (fun hc51_0 => ?_)
  refine E_aloadN (v := (.ref a)) (pc' := 55) X d3_54 rfl rfl rfl ?_
  refine E_bipush (v := (6 : Int32)) (pc' := 57) X d3_55 rfl rfl ?_
  refine E_baload (v := (.int p6)) (pc' := 58) X hA0 (by decide) rfl d3_57 rfl ?_
  refine E_aloadN (v := (.ref b)) (pc' := 59) X d3_58 rfl rfl rfl ?_
  refine E_bipush (v := (6 : Int32)) (pc' := 61) X d3_59 rfl rfl ?_
  refine E_baload (v := (.int p6)) (pc' := 62) X hA1 (by decide) rfl d3_61 rfl ?_
  refine E_icmp (pcY := 102) (pcN := 65) X (ic_ne _ _) d3_62 (by decide) rfl rfl (fun hc62_0 => absurd hc62_0 (fun q => q rfl)) (fun hc62_0 => ?_)
  refine E_aloadN (v := (.ref a)) (pc' := 66) X d3_65 rfl rfl rfl ?_
  refine E_bipush (v := (7 : Int32)) (pc' := 68) X d3_66 rfl rfl ?_
  refine E_baload (v := (.int p7)) (pc' := 69) X hA0 (by decide) rfl d3_68 rfl ?_
  refine E_aloadN (v := (.ref b)) (pc' := 70) X d3_69 rfl rfl rfl ?_
  refine E_bipush (v := (7 : Int32)) (pc' := 72) X d3_70 rfl rfl ?_
  refine E_baload (v := (.int p7)) (pc' := 73) X hA1 (by decide) rfl d3_72 rfl ?_
  refine E_icmp (pcY := 102) (pcN := 76) X (ic_ne _ _) d3_73 (by decide) rfl rfl (fun hc73_0 => absurd hc73_0 (fun q => q rfl)) (fun hc73_0 => ?_)
  refine E_aloadN (v := (.ref a)) (pc' := 77) X d3_76 rfl rfl rfl ?_
  refine E_bipush (v := (8 : Int32)) (pc' := 79) X d3_77 rfl rfl ?_
  refine E_baload (v := (.int p8)) (pc' := 80) X hA0 (by decide) rfl d3_79 rfl ?_
  refine E_aloadN (v := (.ref b)) (pc' := 81) X d3_80 rfl rfl rfl ?_
  refine E_bipush (v := (8 : Int32)) (pc' := 83) X d3_81 rfl rfl ?_
  refine E_baload (v := (.int p8)) (pc' := 84) X hA1 (by decide) rfl d3_83 rfl ?_
  refine E_icmp (pcY := 102) (pcN := 87) X (ic_ne _ _) d3_84 (by decide) rfl rfl (fun hc84_0 => absurd hc84_0 (fun q => q rfl)) (fun hc84_0 => ?_)
  refine E_aloadN (v := (.ref a)) (pc' := 88) X d3_87 rfl rfl rfl ?_
  refine E_bipush (v := (9 : Int32)) (pc' := 90) X d3_88 rfl rfl ?_
  refine E_baload (v := (.int p9)) (pc' := 91) X hA0 (by decide) rfl d3_90 rfl ?_
  refine E_aloadN (v := (.ref b)) (pc' := 92) X d3_91 rfl rfl rfl ?_
  refine E_bipush (v := (9 : Int32)) (pc' := 94) X d3_92 rfl rfl ?_
  refine E_baload (v := (.int p9)) (pc' := 95) X hA1 (by decide) rfl d3_94 rfl ?_
  refine E_icmp (pcY := 102) (pcN := 98) X (ic_ne _ _) d3_95 (by decide) rfl rfl (fun hc95_0 => absurd hc95_0 (fun q => q rfl)) (fun hc95_0 => ?_)
  refine E_iconst (v := (1 : Int32)) (pc' := 99) X d3_98 rfl rfl ?_
  refine E_goto (pc' := 103) X d3_99 (by decide) rfl ?_
  exact E_retZ (Or.inr rfl) X d3_103 (by decide) (by decide) ⟨rfl, rfl⟩
theorem pd_0 : parseMethodDescriptor "([BB)V" = some ⟨[(.array .byte), .byte], none⟩ := by decide +kernel
theorem pd_1 : parseMethodDescriptor "([BIJ)V" = some ⟨[(.array .byte), .int, .long], none⟩ := by decide +kernel
theorem pd_2 : parseMethodDescriptor "([B[B)Z" = some ⟨[(.array .byte), (.array .byte)], some .boolean⟩ := by decide +kernel
theorem ef_rm0 (m : MethodId) (x0 : Int64) (x1 : Int32) (x2 : Int32) : entryFrame m #[(.long x0), (.int x1), (.int x2)] 8 = mkF m 0 #[.val (.long x0), .second, .val (.int x1), .val (.int x2), .unset, .unset, .unset, .unset] [] := by first | (simp [entryFrame, mkF, argsToLocals, Value.category]; done) | (simp [entryFrame, mkF, argsToLocals, *]; done) | rfl
set_option maxRecDepth 65536 in
set_option maxHeartbeats 2000000 in
theorem rm0 (l : Launch) (Z : State) (a0 : Array Value) (hw : ∀ d ∈ tables_1, d.before a0 Z = true) (i0 : Int64) (i1 : Int32) (i2 : Int32) (h0 : Heap) (hE : Ext Z.heap h0) :
    Con l Z x code maxLocals ret room_1 #[(.long i0), (.int i1), (.int i2)] h0 (fun vv hh => vv = some (.int (1 : Int32))) := by
  refine Con.of (plainFor_of_name (by first | (simp [plainName, overriddenIn]; done) | decide +kernel)) hE ?_
  intro p e s m below T (X : Sd l Z "com/example/flowmote/flowmote/BytesWriteLongPinLaw" "law" code 8 (some .boolean) room_1 p e s m #[(.long i0), (.int i1), (.int i2)] below T h0 0 0)
  refine End.frame (ef_rm0 m i0 i1 i2) ?_
  show End Z p e below s _ _ _ _ (mkF m 0 #[.val (.long i0), .second, .val (.int i1), .val (.int i2), .unset, .unset, .unset, .unset] [])
  refine E_iloadN (pc' := 1) X at_0 rfl rfl ?_
  refine E_ldcI (v := (2147483647 : Int32)) (pc' := 3) X (w_0 hw) at_1 rfl ?_
  refine E_iand (pc' := 4) X at_3 rfl ?_
  refine E_iconst (v := (3 : Int32)) (pc' := 5) X at_4 rfl rfl ?_
  refine E_irem (pc' := 6) X at_5 rfl (by decide) ?_
  obtain ⟨off, q_off⟩ : ∃ z : Int32, ((i1 &&& (2147483647 : Int32)) % (3 : Int32)) = z := ⟨_, rfl⟩
  refine E_eqI (z := off) q_off ?_
  refine E_istore (Ls' := #[.val (.long i0), .second, .val (.int i1), .val (.int i2), .val (.int off), .unset, .unset, .unset]) (pc' := 8) X at_6 rfl rfl ?_
  refine E_iloadN (pc' := 9) X at_8 rfl rfl ?_
  refine E_i2b (pc' := 10) X at_9 rfl ?_
  obtain ⟨fl, q_fl⟩ : ∃ z : Int32, (i2.toInt8.toInt32) = z := ⟨_, rfl⟩
  refine E_eqI (z := fl) q_fl ?_
  refine E_istore (Ls' := #[.val (.long i0), .second, .val (.int i1), .val (.int i2), .val (.int off), .val (.int fl), .unset, .unset]) (pc' := 12) X at_10 rfl rfl ?_
  refine E_bipush (v := (10 : Int32)) (pc' := 14) X at_12 rfl rfl ?_
  have le_o1 := X.le
  refine E_newA (pc' := 16) X (aty := .byte) (n := (10 : Int32)) (cap := 10) (vs := [(.int (0 : Int32)), (.int (0 : Int32)), (.int (0 : Int32)), (.int (0 : Int32)), (.int (0 : Int32)), (.int (0 : Int32)), (.int (0 : Int32)), (.int (0 : Int32)), (.int (0 : Int32)), (.int (0 : Int32))]) (cells' := 1) (slots' := 10) (w_1 hw) at_14 rfl (by decide) (by decide) (by decide) rfl rfl rfl (by decide) (by decide) (fun T h_2 o1 g_5 X Ex_3 Aa_4 => ?_)
  have fr_6 : Z.heap.size ≤ o1 := by rw [g_5]; exact le_o1
  refine E_astore (Ls' := #[.val (.long i0), .second, .val (.int i1), .val (.int i2), .val (.int off), .val (.int fl), .val (.ref o1), .unset]) (pc' := 18) X at_16 rfl rfl rfl ?_
  refine E_bipush (v := (10 : Int32)) (pc' := 20) X at_18 rfl rfl ?_
  have le_o7 := X.le
  refine E_newA (pc' := 22) X (aty := .byte) (n := (10 : Int32)) (cap := 10) (vs := [(.int (0 : Int32)), (.int (0 : Int32)), (.int (0 : Int32)), (.int (0 : Int32)), (.int (0 : Int32)), (.int (0 : Int32)), (.int (0 : Int32)), (.int (0 : Int32)), (.int (0 : Int32)), (.int (0 : Int32))]) (cells' := 2) (slots' := 20) (w_1 hw) at_20 rfl (by decide) (by decide) (by decide) rfl rfl rfl (by decide) (by decide) (fun T h_8 o7 g_11 X Ex_9 Aa_10 => ?_)
  have fr_12 : Z.heap.size ≤ o7 := by rw [g_11]; exact le_o7
  have ne_13 : o1 ≠ o7 := Nat.ne_of_lt (by rw [g_11]; exact Aa_4.lt)
  refine E_astore (Ls' := #[.val (.long i0), .second, .val (.int i1), .val (.int i2), .val (.int off), .val (.int fl), .val (.ref o1), .val (.ref o7)]) (pc' := 24) X at_22 rfl rfl rfl ?_
  refine E_aload (v := (.ref o1)) (pc' := 26) X at_24 rfl rfl rfl ?_
  refine E_iload (pc' := 28) X at_26 rfl rfl ?_
  have A_14 : Ar Z h_8 o1 .byte [(.int (0 : Int32)), (.int (0 : Int32)), (.int (0 : Int32)), (.int (0 : Int32)), (.int (0 : Int32)), (.int (0 : Int32)), (.int (0 : Int32)), (.int (0 : Int32)), (.int (0 : Int32)), (.int (0 : Int32))] := (Aa_4.ext Ex_9)
  refine E_callS (pc' := 31) (W := 0) (cells' := 2) (slots' := 20) (argsL := [(.ref o1), (.int fl)]) (rest := []) X (rm1 l Z a0 hw o1 fl h_8 X.ext A_14 fr_6) (w_2 hw) (w_3 hw) (w_4 hw) (w_5 hw) (by decide) rfl rfl pd_0 rfl rfl at_28 rfl (Nat.le_refl _) (by decide) (by decide) rfl rfl (by decide) (by decide) (fun v15 T h_16 X hQ17 => ?_)
  obtain ⟨rfl, Kc_18, A_19⟩ := hQ17
  show End Z p e below s _ _ _ _ (mkF m 31 #[.val (.long i0), .second, .val (.int i1), .val (.int i2), .val (.int off), .val (.int fl), .val (.ref o1), .val (.ref o7)] [])
  refine E_aload (v := (.ref o7)) (pc' := 33) X at_31 rfl rfl rfl ?_
  refine E_iload (pc' := 35) X at_33 rfl rfl ?_
  have A_20 : Ar Z h_16 o7 .byte [(.int (0 : Int32)), (.int (0 : Int32)), (.int (0 : Int32)), (.int (0 : Int32)), (.int (0 : Int32)), (.int (0 : Int32)), (.int (0 : Int32)), (.int (0 : Int32)), (.int (0 : Int32)), (.int (0 : Int32))] := (Aa_10.keep Kc_18 (ninS (Ne.symm ne_13) nin0))
  refine E_callS (pc' := 38) (W := 0) (cells' := 2) (slots' := 20) (argsL := [(.ref o7), (.int fl)]) (rest := []) X (rm1 l Z a0 hw o7 fl h_16 X.ext A_20 fr_12) (w_2 hw) (w_3 hw) (w_4 hw) (w_5 hw) (by decide) rfl rfl pd_0 rfl rfl at_35 rfl (Nat.le_refl _) (by decide) (by decide) rfl rfl (by decide) (by decide) (fun v21 T h_22 X hQ23 => ?_)
  obtain ⟨rfl, Kc_24, A_25⟩ := hQ23
  show End Z p e below s _ _ _ _ (mkF m 38 #[.val (.long i0), .second, .val (.int i1), .val (.int i2), .val (.int off), .val (.int fl), .val (.ref o1), .val (.ref o7)] [])
  rcases (by rw [← q_off]; exact own_rem3 i1 : off = (0 : Int32) ∨ off = (1 : Int32) ∨ off = (2 : Int32)) with rfl | rfl | rfl
  · skip
    refine E_aload (v := (.ref o7)) (pc' := 40) X at_38 rfl rfl rfl ?_
    refine E_iload (pc' := 42) X at_40 rfl rfl ?_
    refine E_lloadN (pc' := 43) X at_42 rfl rfl ?_
    refine E_bipush (v := (56 : Int32)) (pc' := 45) X at_43 rfl rfl ?_
    refine E_lushr (pc' := 46) X at_45 rfl ?_
    refine E_l2i (pc' := 47) X at_46 rfl ?_
    refine E_i2b (pc' := 48) X at_47 rfl ?_
    refine E_eqI (z := (ownB i0 (56 : Int32))) rfl ?_
    refine E_bastore (vs' := [(.int (nar .byte (ownB i0 (56 : Int32)))), (.int (nar .byte fl)), (.int (nar .byte fl)), (.int (nar .byte fl)), (.int (nar .byte fl)), (.int (nar .byte fl)), (.int (nar .byte fl)), (.int (nar .byte fl)), (.int (nar .byte fl)), (.int (nar .byte fl))]) (pc' := 49) X A_25 (by decide) (Nat.le_of_ble_eq_true rfl) rfl fr_12 at_48 rfl (fun T h_27 X W_26 Aa_28 => ?_)
    refine E_aload (v := (.ref o7)) (pc' := 51) X at_49 rfl rfl rfl ?_
    refine E_iload (pc' := 53) X at_51 rfl rfl ?_
    refine E_iconst (v := (1 : Int32)) (pc' := 54) X at_53 rfl rfl ?_
    refine E_iadd (pc' := 55) X at_54 rfl ?_
    refine E_eqI (z := (1 : Int32)) (by decide) ?_
    refine E_lloadN (pc' := 56) X at_55 rfl rfl ?_
    refine E_bipush (v := (48 : Int32)) (pc' := 58) X at_56 rfl rfl ?_
    refine E_lushr (pc' := 59) X at_58 rfl ?_
    refine E_l2i (pc' := 60) X at_59 rfl ?_
    refine E_i2b (pc' := 61) X at_60 rfl ?_
    refine E_eqI (z := (ownB i0 (48 : Int32))) rfl ?_
    refine E_bastore (vs' := [(.int (nar .byte (ownB i0 (56 : Int32)))), (.int (nar .byte (ownB i0 (48 : Int32)))), (.int (nar .byte fl)), (.int (nar .byte fl)), (.int (nar .byte fl)), (.int (nar .byte fl)), (.int (nar .byte fl)), (.int (nar .byte fl)), (.int (nar .byte fl)), (.int (nar .byte fl))]) (pc' := 62) X Aa_28 (by decide) (Nat.le_of_ble_eq_true rfl) rfl fr_12 at_61 rfl (fun T h_30 X W_29 Aa_31 => ?_)
    refine E_aload (v := (.ref o7)) (pc' := 64) X at_62 rfl rfl rfl ?_
    refine E_iload (pc' := 66) X at_64 rfl rfl ?_
    refine E_iconst (v := (2 : Int32)) (pc' := 67) X at_66 rfl rfl ?_
    refine E_iadd (pc' := 68) X at_67 rfl ?_
    refine E_eqI (z := (2 : Int32)) (by decide) ?_
    refine E_lloadN (pc' := 69) X at_68 rfl rfl ?_
    refine E_bipush (v := (40 : Int32)) (pc' := 71) X at_69 rfl rfl ?_
    refine E_lushr (pc' := 72) X at_71 rfl ?_
    refine E_l2i (pc' := 73) X at_72 rfl ?_
    refine E_i2b (pc' := 74) X at_73 rfl ?_
    refine E_eqI (z := (ownB i0 (40 : Int32))) rfl ?_
    refine E_bastore (vs' := [(.int (nar .byte (ownB i0 (56 : Int32)))), (.int (nar .byte (ownB i0 (48 : Int32)))), (.int (nar .byte (ownB i0 (40 : Int32)))), (.int (nar .byte fl)), (.int (nar .byte fl)), (.int (nar .byte fl)), (.int (nar .byte fl)), (.int (nar .byte fl)), (.int (nar .byte fl)), (.int (nar .byte fl))]) (pc' := 75) X Aa_31 (by decide) (Nat.le_of_ble_eq_true rfl) rfl fr_12 at_74 rfl (fun T h_33 X W_32 Aa_34 => ?_)
    refine E_aload (v := (.ref o7)) (pc' := 77) X at_75 rfl rfl rfl ?_
    refine E_iload (pc' := 79) X at_77 rfl rfl ?_
    refine E_iconst (v := (3 : Int32)) (pc' := 80) X at_79 rfl rfl ?_
    refine E_iadd (pc' := 81) X at_80 rfl ?_
    refine E_eqI (z := (3 : Int32)) (by decide) ?_
    refine E_lloadN (pc' := 82) X at_81 rfl rfl ?_
    refine E_bipush (v := (32 : Int32)) (pc' := 84) X at_82 rfl rfl ?_
    refine E_lushr (pc' := 85) X at_84 rfl ?_
    refine E_l2i (pc' := 86) X at_85 rfl ?_
    refine E_i2b (pc' := 87) X at_86 rfl ?_
    refine E_eqI (z := (ownB i0 (32 : Int32))) rfl ?_
    refine E_bastore (vs' := [(.int (nar .byte (ownB i0 (56 : Int32)))), (.int (nar .byte (ownB i0 (48 : Int32)))), (.int (nar .byte (ownB i0 (40 : Int32)))), (.int (nar .byte (ownB i0 (32 : Int32)))), (.int (nar .byte fl)), (.int (nar .byte fl)), (.int (nar .byte fl)), (.int (nar .byte fl)), (.int (nar .byte fl)), (.int (nar .byte fl))]) (pc' := 88) X Aa_34 (by decide) (Nat.le_of_ble_eq_true rfl) rfl fr_12 at_87 rfl (fun T h_36 X W_35 Aa_37 => ?_)
    refine E_aload (v := (.ref o7)) (pc' := 90) X at_88 rfl rfl rfl ?_
    refine E_iload (pc' := 92) X at_90 rfl rfl ?_
    refine E_iconst (v := (4 : Int32)) (pc' := 93) X at_92 rfl rfl ?_
    refine E_iadd (pc' := 94) X at_93 rfl ?_
    refine E_eqI (z := (4 : Int32)) (by decide) ?_
    refine E_lloadN (pc' := 95) X at_94 rfl rfl ?_
    refine E_bipush (v := (24 : Int32)) (pc' := 97) X at_95 rfl rfl ?_
    refine E_lushr (pc' := 98) X at_97 rfl ?_
    refine E_l2i (pc' := 99) X at_98 rfl ?_
    refine E_i2b (pc' := 100) X at_99 rfl ?_
    refine E_eqI (z := (ownB i0 (24 : Int32))) rfl ?_
    refine E_bastore (vs' := [(.int (nar .byte (ownB i0 (56 : Int32)))), (.int (nar .byte (ownB i0 (48 : Int32)))), (.int (nar .byte (ownB i0 (40 : Int32)))), (.int (nar .byte (ownB i0 (32 : Int32)))), (.int (nar .byte (ownB i0 (24 : Int32)))), (.int (nar .byte fl)), (.int (nar .byte fl)), (.int (nar .byte fl)), (.int (nar .byte fl)), (.int (nar .byte fl))]) (pc' := 101) X Aa_37 (by decide) (Nat.le_of_ble_eq_true rfl) rfl fr_12 at_100 rfl (fun T h_39 X W_38 Aa_40 => ?_)
    refine E_aload (v := (.ref o7)) (pc' := 103) X at_101 rfl rfl rfl ?_
    refine E_iload (pc' := 105) X at_103 rfl rfl ?_
    refine E_iconst (v := (5 : Int32)) (pc' := 106) X at_105 rfl rfl ?_
    refine E_iadd (pc' := 107) X at_106 rfl ?_
    refine E_eqI (z := (5 : Int32)) (by decide) ?_
    refine E_lloadN (pc' := 108) X at_107 rfl rfl ?_
    refine E_bipush (v := (16 : Int32)) (pc' := 110) X at_108 rfl rfl ?_
    refine E_lushr (pc' := 111) X at_110 rfl ?_
    refine E_l2i (pc' := 112) X at_111 rfl ?_
    refine E_i2b (pc' := 113) X at_112 rfl ?_
    refine E_eqI (z := (ownB i0 (16 : Int32))) rfl ?_
    refine E_bastore (vs' := [(.int (nar .byte (ownB i0 (56 : Int32)))), (.int (nar .byte (ownB i0 (48 : Int32)))), (.int (nar .byte (ownB i0 (40 : Int32)))), (.int (nar .byte (ownB i0 (32 : Int32)))), (.int (nar .byte (ownB i0 (24 : Int32)))), (.int (nar .byte (ownB i0 (16 : Int32)))), (.int (nar .byte fl)), (.int (nar .byte fl)), (.int (nar .byte fl)), (.int (nar .byte fl))]) (pc' := 114) X Aa_40 (by decide) (Nat.le_of_ble_eq_true rfl) rfl fr_12 at_113 rfl (fun T h_42 X W_41 Aa_43 => ?_)
    refine E_aload (v := (.ref o7)) (pc' := 116) X at_114 rfl rfl rfl ?_
    refine E_iload (pc' := 118) X at_116 rfl rfl ?_
    refine E_bipush (v := (6 : Int32)) (pc' := 120) X at_118 rfl rfl ?_
    refine E_iadd (pc' := 121) X at_120 rfl ?_
    refine E_eqI (z := (6 : Int32)) (by decide) ?_
    refine E_lloadN (pc' := 122) X at_121 rfl rfl ?_
    refine E_bipush (v := (8 : Int32)) (pc' := 124) X at_122 rfl rfl ?_
    refine E_lushr (pc' := 125) X at_124 rfl ?_
    refine E_l2i (pc' := 126) X at_125 rfl ?_
    refine E_i2b (pc' := 127) X at_126 rfl ?_
    refine E_eqI (z := (ownB i0 (8 : Int32))) rfl ?_
    refine E_bastore (vs' := [(.int (nar .byte (ownB i0 (56 : Int32)))), (.int (nar .byte (ownB i0 (48 : Int32)))), (.int (nar .byte (ownB i0 (40 : Int32)))), (.int (nar .byte (ownB i0 (32 : Int32)))), (.int (nar .byte (ownB i0 (24 : Int32)))), (.int (nar .byte (ownB i0 (16 : Int32)))), (.int (nar .byte (ownB i0 (8 : Int32)))), (.int (nar .byte fl)), (.int (nar .byte fl)), (.int (nar .byte fl))]) (pc' := 128) X Aa_43 (by decide) (Nat.le_of_ble_eq_true rfl) rfl fr_12 at_127 rfl (fun T h_45 X W_44 Aa_46 => ?_)
    refine E_aload (v := (.ref o7)) (pc' := 130) X at_128 rfl rfl rfl ?_
    refine E_iload (pc' := 132) X at_130 rfl rfl ?_
    refine E_bipush (v := (7 : Int32)) (pc' := 134) X at_132 rfl rfl ?_
    refine E_iadd (pc' := 135) X at_134 rfl ?_
    refine E_eqI (z := (7 : Int32)) (by decide) ?_
    refine E_lloadN (pc' := 136) X at_135 rfl rfl ?_
    refine E_l2i (pc' := 137) X at_136 rfl ?_
    refine E_i2b (pc' := 138) X at_137 rfl ?_
    refine E_eqI (z := (ownB i0 (0 : Int32))) (ownB_0 i0) ?_
    refine E_bastore (vs' := [(.int (nar .byte (ownB i0 (56 : Int32)))), (.int (nar .byte (ownB i0 (48 : Int32)))), (.int (nar .byte (ownB i0 (40 : Int32)))), (.int (nar .byte (ownB i0 (32 : Int32)))), (.int (nar .byte (ownB i0 (24 : Int32)))), (.int (nar .byte (ownB i0 (16 : Int32)))), (.int (nar .byte (ownB i0 (8 : Int32)))), (.int (nar .byte (ownB i0 (0 : Int32)))), (.int (nar .byte fl)), (.int (nar .byte fl))]) (pc' := 139) X Aa_46 (by decide) (Nat.le_of_ble_eq_true rfl) rfl fr_12 at_138 rfl (fun T h_48 X W_47 Aa_49 => ?_)
    refine E_aload (v := (.ref o1)) (pc' := 141) X at_139 rfl rfl rfl ?_
    refine E_iload (pc' := 143) X at_141 rfl rfl ?_
    refine E_lloadN (pc' := 144) X at_143 rfl rfl ?_
    have A_50 : Ar Z h_48 o1 .byte [(.int (nar .byte fl)), (.int (nar .byte fl)), (.int (nar .byte fl)), (.int (nar .byte fl)), (.int (nar .byte fl)), (.int (nar .byte fl)), (.int (nar .byte fl)), (.int (nar .byte fl)), (.int (nar .byte fl)), (.int (nar .byte fl))] := (((((((((A_19.keep Kc_24 (ninS ne_13 nin0)).other W_26 ne_13).other W_29 ne_13).other W_32 ne_13).other W_35 ne_13).other W_38 ne_13).other W_41 ne_13).other W_44 ne_13).other W_47 ne_13)
    refine E_callS (pc' := 147) (W := 0) (cells' := 2) (slots' := 20) (argsL := [(.ref o1), (.int (0 : Int32)), (.long i0)]) (rest := []) X (rm_w0 l Z a0 hw o1 i0 (nar .byte fl) (nar .byte fl) (nar .byte fl) (nar .byte fl) (nar .byte fl) (nar .byte fl) (nar .byte fl) (nar .byte fl) (nar .byte fl) (nar .byte fl) h_48 X.ext A_50 fr_6) (w_6 hw) (w_7 hw) (w_8 hw) (w_9 hw) (by decide) rfl rfl pd_1 rfl rfl at_144 rfl (Nat.le_refl _) (by decide) (by decide) rfl rfl (by decide) (by decide) (fun v51 T h_52 X hQ53 => ?_)
    obtain ⟨rfl, Kc_54, A_55⟩ := hQ53
    show End Z p e below s _ _ _ _ (mkF m 147 #[.val (.long i0), .second, .val (.int i1), .val (.int i2), .val (.int (0 : Int32)), .val (.int fl), .val (.ref o1), .val (.ref o7)] [])
    refine E_aload (v := (.ref o1)) (pc' := 149) X at_147 rfl rfl rfl ?_
    refine E_aload (v := (.ref o7)) (pc' := 151) X at_149 rfl rfl rfl ?_
    have A_56 : Ar Z h_52 o7 .byte [(.int (nar .byte (ownB i0 (56 : Int32)))), (.int (nar .byte (ownB i0 (48 : Int32)))), (.int (nar .byte (ownB i0 (40 : Int32)))), (.int (nar .byte (ownB i0 (32 : Int32)))), (.int (nar .byte (ownB i0 (24 : Int32)))), (.int (nar .byte (ownB i0 (16 : Int32)))), (.int (nar .byte (ownB i0 (8 : Int32)))), (.int (nar .byte (ownB i0 (0 : Int32)))), (.int (nar .byte fl)), (.int (nar .byte fl))] := (Aa_49.keep Kc_54 (ninS (Ne.symm ne_13) nin0))
    refine E_callS (pc' := 154) (W := 0) (cells' := 2) (slots' := 20) (argsL := [(.ref o1), (.ref o7)]) (rest := []) X (rm3 l Z a0 hw o1 o7 (nar .byte (ownB i0 (56 : Int32))) (nar .byte (ownB i0 (48 : Int32))) (nar .byte (ownB i0 (40 : Int32))) (nar .byte (ownB i0 (32 : Int32))) (nar .byte (ownB i0 (24 : Int32))) (nar .byte (ownB i0 (16 : Int32))) (nar .byte (ownB i0 (8 : Int32))) (nar .byte (ownB i0 (0 : Int32))) (nar .byte fl) (nar .byte fl) h_52 X.ext A_55 A_56) (w_10 hw) (w_11 hw) (w_4 hw) (w_12 hw) (by decide) rfl rfl pd_2 rfl rfl at_151 rfl (Nat.le_refl _) (by decide) (by decide) rfl rfl (by decide) (by decide) (fun v57 T h_58 X hQ59 => ?_)
    obtain ⟨rfl, rfl⟩ := hQ59
    show End Z p e below s _ _ _ _ (mkF m 154 #[.val (.long i0), .second, .val (.int i1), .val (.int i2), .val (.int (0 : Int32)), .val (.int fl), .val (.ref o1), .val (.ref o7)] [(.int (1 : Int32))])
    exact E_retZ (Or.inr rfl) X at_154 (by decide) (by decide) rfl
  · skip
    refine E_aload (v := (.ref o7)) (pc' := 40) X at_38 rfl rfl rfl ?_
    refine E_iload (pc' := 42) X at_40 rfl rfl ?_
    refine E_lloadN (pc' := 43) X at_42 rfl rfl ?_
    refine E_bipush (v := (56 : Int32)) (pc' := 45) X at_43 rfl rfl ?_
    refine E_lushr (pc' := 46) X at_45 rfl ?_
    refine E_l2i (pc' := 47) X at_46 rfl ?_
    refine E_i2b (pc' := 48) X at_47 rfl ?_
    refine E_eqI (z := (ownB i0 (56 : Int32))) rfl ?_
    refine E_bastore (vs' := [(.int (nar .byte fl)), (.int (nar .byte (ownB i0 (56 : Int32)))), (.int (nar .byte fl)), (.int (nar .byte fl)), (.int (nar .byte fl)), (.int (nar .byte fl)), (.int (nar .byte fl)), (.int (nar .byte fl)), (.int (nar .byte fl)), (.int (nar .byte fl))]) (pc' := 49) X A_25 (by decide) (Nat.le_of_ble_eq_true rfl) rfl fr_12 at_48 rfl (fun T h_62 X W_61 Aa_63 => ?_)
    refine E_aload (v := (.ref o7)) (pc' := 51) X at_49 rfl rfl rfl ?_
    refine E_iload (pc' := 53) X at_51 rfl rfl ?_
    refine E_iconst (v := (1 : Int32)) (pc' := 54) X at_53 rfl rfl ?_
    refine E_iadd (pc' := 55) X at_54 rfl ?_
    refine E_eqI (z := (2 : Int32)) (by decide) ?_
    refine E_lloadN (pc' := 56) X at_55 rfl rfl ?_
    refine E_bipush (v := (48 : Int32)) (pc' := 58) X at_56 rfl rfl ?_
    refine E_lushr (pc' := 59) X at_58 rfl ?_
    refine E_l2i (pc' := 60) X at_59 rfl ?_
    refine E_i2b (pc' := 61) X at_60 rfl ?_
    refine E_eqI (z := (ownB i0 (48 : Int32))) rfl ?_
    refine E_bastore (vs' := [(.int (nar .byte fl)), (.int (nar .byte (ownB i0 (56 : Int32)))), (.int (nar .byte (ownB i0 (48 : Int32)))), (.int (nar .byte fl)), (.int (nar .byte fl)), (.int (nar .byte fl)), (.int (nar .byte fl)), (.int (nar .byte fl)), (.int (nar .byte fl)), (.int (nar .byte fl))]) (pc' := 62) X Aa_63 (by decide) (Nat.le_of_ble_eq_true rfl) rfl fr_12 at_61 rfl (fun T h_65 X W_64 Aa_66 => ?_)
    refine E_aload (v := (.ref o7)) (pc' := 64) X at_62 rfl rfl rfl ?_
    refine E_iload (pc' := 66) X at_64 rfl rfl ?_
    refine E_iconst (v := (2 : Int32)) (pc' := 67) X at_66 rfl rfl ?_
    refine E_iadd (pc' := 68) X at_67 rfl ?_
    refine E_eqI (z := (3 : Int32)) (by decide) ?_
    refine E_lloadN (pc' := 69) X at_68 rfl rfl ?_
    refine E_bipush (v := (40 : Int32)) (pc' := 71) X at_69 rfl rfl ?_
    refine E_lushr (pc' := 72) X at_71 rfl ?_
    refine E_l2i (pc' := 73) X at_72 rfl ?_
    refine E_i2b (pc' := 74) X at_73 rfl ?_
    refine E_eqI (z := (ownB i0 (40 : Int32))) rfl ?_
    refine E_bastore (vs' := [(.int (nar .byte fl)), (.int (nar .byte (ownB i0 (56 : Int32)))), (.int (nar .byte (ownB i0 (48 : Int32)))), (.int (nar .byte (ownB i0 (40 : Int32)))), (.int (nar .byte fl)), (.int (nar .byte fl)), (.int (nar .byte fl)), (.int (nar .byte fl)), (.int (nar .byte fl)), (.int (nar .byte fl))]) (pc' := 75) X Aa_66 (by decide) (Nat.le_of_ble_eq_true rfl) rfl fr_12 at_74 rfl (fun T h_68 X W_67 Aa_69 => ?_)
    refine E_aload (v := (.ref o7)) (pc' := 77) X at_75 rfl rfl rfl ?_
    refine E_iload (pc' := 79) X at_77 rfl rfl ?_
    refine E_iconst (v := (3 : Int32)) (pc' := 80) X at_79 rfl rfl ?_
    refine E_iadd (pc' := 81) X at_80 rfl ?_
    refine E_eqI (z := (4 : Int32)) (by decide) ?_
    refine E_lloadN (pc' := 82) X at_81 rfl rfl ?_
    refine E_bipush (v := (32 : Int32)) (pc' := 84) X at_82 rfl rfl ?_
    refine E_lushr (pc' := 85) X at_84 rfl ?_
    refine E_l2i (pc' := 86) X at_85 rfl ?_
    refine E_i2b (pc' := 87) X at_86 rfl ?_
    refine E_eqI (z := (ownB i0 (32 : Int32))) rfl ?_
    refine E_bastore (vs' := [(.int (nar .byte fl)), (.int (nar .byte (ownB i0 (56 : Int32)))), (.int (nar .byte (ownB i0 (48 : Int32)))), (.int (nar .byte (ownB i0 (40 : Int32)))), (.int (nar .byte (ownB i0 (32 : Int32)))), (.int (nar .byte fl)), (.int (nar .byte fl)), (.int (nar .byte fl)), (.int (nar .byte fl)), (.int (nar .byte fl))]) (pc' := 88) X Aa_69 (by decide) (Nat.le_of_ble_eq_true rfl) rfl fr_12 at_87 rfl (fun T h_71 X W_70 Aa_72 => ?_)
    refine E_aload (v := (.ref o7)) (pc' := 90) X at_88 rfl rfl rfl ?_
    refine E_iload (pc' := 92) X at_90 rfl rfl ?_
    refine E_iconst (v := (4 : Int32)) (pc' := 93) X at_92 rfl rfl ?_
    refine E_iadd (pc' := 94) X at_93 rfl ?_
    refine E_eqI (z := (5 : Int32)) (by decide) ?_
    refine E_lloadN (pc' := 95) X at_94 rfl rfl ?_
    refine E_bipush (v := (24 : Int32)) (pc' := 97) X at_95 rfl rfl ?_
    refine E_lushr (pc' := 98) X at_97 rfl ?_
    refine E_l2i (pc' := 99) X at_98 rfl ?_
    refine E_i2b (pc' := 100) X at_99 rfl ?_
    refine E_eqI (z := (ownB i0 (24 : Int32))) rfl ?_
    refine E_bastore (vs' := [(.int (nar .byte fl)), (.int (nar .byte (ownB i0 (56 : Int32)))), (.int (nar .byte (ownB i0 (48 : Int32)))), (.int (nar .byte (ownB i0 (40 : Int32)))), (.int (nar .byte (ownB i0 (32 : Int32)))), (.int (nar .byte (ownB i0 (24 : Int32)))), (.int (nar .byte fl)), (.int (nar .byte fl)), (.int (nar .byte fl)), (.int (nar .byte fl))]) (pc' := 101) X Aa_72 (by decide) (Nat.le_of_ble_eq_true rfl) rfl fr_12 at_100 rfl (fun T h_74 X W_73 Aa_75 => ?_)
    refine E_aload (v := (.ref o7)) (pc' := 103) X at_101 rfl rfl rfl ?_
    refine E_iload (pc' := 105) X at_103 rfl rfl ?_
    refine E_iconst (v := (5 : Int32)) (pc' := 106) X at_105 rfl rfl ?_
    refine E_iadd (pc' := 107) X at_106 rfl ?_
    refine E_eqI (z := (6 : Int32)) (by decide) ?_
    refine E_lloadN (pc' := 108) X at_107 rfl rfl ?_
    refine E_bipush (v := (16 : Int32)) (pc' := 110) X at_108 rfl rfl ?_
    refine E_lushr (pc' := 111) X at_110 rfl ?_
    refine E_l2i (pc' := 112) X at_111 rfl ?_
    refine E_i2b (pc' := 113) X at_112 rfl ?_
    refine E_eqI (z := (ownB i0 (16 : Int32))) rfl ?_
    refine E_bastore (vs' := [(.int (nar .byte fl)), (.int (nar .byte (ownB i0 (56 : Int32)))), (.int (nar .byte (ownB i0 (48 : Int32)))), (.int (nar .byte (ownB i0 (40 : Int32)))), (.int (nar .byte (ownB i0 (32 : Int32)))), (.int (nar .byte (ownB i0 (24 : Int32)))), (.int (nar .byte (ownB i0 (16 : Int32)))), (.int (nar .byte fl)), (.int (nar .byte fl)), (.int (nar .byte fl))]) (pc' := 114) X Aa_75 (by decide) (Nat.le_of_ble_eq_true rfl) rfl fr_12 at_113 rfl (fun T h_77 X W_76 Aa_78 => ?_)
    refine E_aload (v := (.ref o7)) (pc' := 116) X at_114 rfl rfl rfl ?_
    refine E_iload (pc' := 118) X at_116 rfl rfl ?_
    refine E_bipush (v := (6 : Int32)) (pc' := 120) X at_118 rfl rfl ?_
    refine E_iadd (pc' := 121) X at_120 rfl ?_
    refine E_eqI (z := (7 : Int32)) (by decide) ?_
    refine E_lloadN (pc' := 122) X at_121 rfl rfl ?_
    refine E_bipush (v := (8 : Int32)) (pc' := 124) X at_122 rfl rfl ?_
    refine E_lushr (pc' := 125) X at_124 rfl ?_
    refine E_l2i (pc' := 126) X at_125 rfl ?_
    refine E_i2b (pc' := 127) X at_126 rfl ?_
    refine E_eqI (z := (ownB i0 (8 : Int32))) rfl ?_
    refine E_bastore (vs' := [(.int (nar .byte fl)), (.int (nar .byte (ownB i0 (56 : Int32)))), (.int (nar .byte (ownB i0 (48 : Int32)))), (.int (nar .byte (ownB i0 (40 : Int32)))), (.int (nar .byte (ownB i0 (32 : Int32)))), (.int (nar .byte (ownB i0 (24 : Int32)))), (.int (nar .byte (ownB i0 (16 : Int32)))), (.int (nar .byte (ownB i0 (8 : Int32)))), (.int (nar .byte fl)), (.int (nar .byte fl))]) (pc' := 128) X Aa_78 (by decide) (Nat.le_of_ble_eq_true rfl) rfl fr_12 at_127 rfl (fun T h_80 X W_79 Aa_81 => ?_)
    refine E_aload (v := (.ref o7)) (pc' := 130) X at_128 rfl rfl rfl ?_
    refine E_iload (pc' := 132) X at_130 rfl rfl ?_
    refine E_bipush (v := (7 : Int32)) (pc' := 134) X at_132 rfl rfl ?_
    refine E_iadd (pc' := 135) X at_134 rfl ?_
    refine E_eqI (z := (8 : Int32)) (by decide) ?_
    refine E_lloadN (pc' := 136) X at_135 rfl rfl ?_
    refine E_l2i (pc' := 137) X at_136 rfl ?_
    refine E_i2b (pc' := 138) X at_137 rfl ?_
    refine E_eqI (z := (ownB i0 (0 : Int32))) (ownB_0 i0) ?_
    refine E_bastore (vs' := [(.int (nar .byte fl)), (.int (nar .byte (ownB i0 (56 : Int32)))), (.int (nar .byte (ownB i0 (48 : Int32)))), (.int (nar .byte (ownB i0 (40 : Int32)))), (.int (nar .byte (ownB i0 (32 : Int32)))), (.int (nar .byte (ownB i0 (24 : Int32)))), (.int (nar .byte (ownB i0 (16 : Int32)))), (.int (nar .byte (ownB i0 (8 : Int32)))), (.int (nar .byte (ownB i0 (0 : Int32)))), (.int (nar .byte fl))]) (pc' := 139) X Aa_81 (by decide) (Nat.le_of_ble_eq_true rfl) rfl fr_12 at_138 rfl (fun T h_83 X W_82 Aa_84 => ?_)
    refine E_aload (v := (.ref o1)) (pc' := 141) X at_139 rfl rfl rfl ?_
    refine E_iload (pc' := 143) X at_141 rfl rfl ?_
    refine E_lloadN (pc' := 144) X at_143 rfl rfl ?_
    have A_85 : Ar Z h_83 o1 .byte [(.int (nar .byte fl)), (.int (nar .byte fl)), (.int (nar .byte fl)), (.int (nar .byte fl)), (.int (nar .byte fl)), (.int (nar .byte fl)), (.int (nar .byte fl)), (.int (nar .byte fl)), (.int (nar .byte fl)), (.int (nar .byte fl))] := (((((((((A_19.keep Kc_24 (ninS ne_13 nin0)).other W_61 ne_13).other W_64 ne_13).other W_67 ne_13).other W_70 ne_13).other W_73 ne_13).other W_76 ne_13).other W_79 ne_13).other W_82 ne_13)
    refine E_callS (pc' := 147) (W := 0) (cells' := 2) (slots' := 20) (argsL := [(.ref o1), (.int (1 : Int32)), (.long i0)]) (rest := []) X (rm_w1 l Z a0 hw o1 i0 (nar .byte fl) (nar .byte fl) (nar .byte fl) (nar .byte fl) (nar .byte fl) (nar .byte fl) (nar .byte fl) (nar .byte fl) (nar .byte fl) (nar .byte fl) h_83 X.ext A_85 fr_6) (w_6 hw) (w_7 hw) (w_8 hw) (w_9 hw) (by decide) rfl rfl pd_1 rfl rfl at_144 rfl (Nat.le_refl _) (by decide) (by decide) rfl rfl (by decide) (by decide) (fun v86 T h_87 X hQ88 => ?_)
    obtain ⟨rfl, Kc_89, A_90⟩ := hQ88
    show End Z p e below s _ _ _ _ (mkF m 147 #[.val (.long i0), .second, .val (.int i1), .val (.int i2), .val (.int (1 : Int32)), .val (.int fl), .val (.ref o1), .val (.ref o7)] [])
    refine E_aload (v := (.ref o1)) (pc' := 149) X at_147 rfl rfl rfl ?_
    refine E_aload (v := (.ref o7)) (pc' := 151) X at_149 rfl rfl rfl ?_
    have A_91 : Ar Z h_87 o7 .byte [(.int (nar .byte fl)), (.int (nar .byte (ownB i0 (56 : Int32)))), (.int (nar .byte (ownB i0 (48 : Int32)))), (.int (nar .byte (ownB i0 (40 : Int32)))), (.int (nar .byte (ownB i0 (32 : Int32)))), (.int (nar .byte (ownB i0 (24 : Int32)))), (.int (nar .byte (ownB i0 (16 : Int32)))), (.int (nar .byte (ownB i0 (8 : Int32)))), (.int (nar .byte (ownB i0 (0 : Int32)))), (.int (nar .byte fl))] := (Aa_84.keep Kc_89 (ninS (Ne.symm ne_13) nin0))
    refine E_callS (pc' := 154) (W := 0) (cells' := 2) (slots' := 20) (argsL := [(.ref o1), (.ref o7)]) (rest := []) X (rm3 l Z a0 hw o1 o7 (nar .byte fl) (nar .byte (ownB i0 (56 : Int32))) (nar .byte (ownB i0 (48 : Int32))) (nar .byte (ownB i0 (40 : Int32))) (nar .byte (ownB i0 (32 : Int32))) (nar .byte (ownB i0 (24 : Int32))) (nar .byte (ownB i0 (16 : Int32))) (nar .byte (ownB i0 (8 : Int32))) (nar .byte (ownB i0 (0 : Int32))) (nar .byte fl) h_87 X.ext A_90 A_91) (w_10 hw) (w_11 hw) (w_4 hw) (w_12 hw) (by decide) rfl rfl pd_2 rfl rfl at_151 rfl (Nat.le_refl _) (by decide) (by decide) rfl rfl (by decide) (by decide) (fun v92 T h_93 X hQ94 => ?_)
    obtain ⟨rfl, rfl⟩ := hQ94
    show End Z p e below s _ _ _ _ (mkF m 154 #[.val (.long i0), .second, .val (.int i1), .val (.int i2), .val (.int (1 : Int32)), .val (.int fl), .val (.ref o1), .val (.ref o7)] [(.int (1 : Int32))])
    exact E_retZ (Or.inr rfl) X at_154 (by decide) (by decide) rfl
  · skip
    refine E_aload (v := (.ref o7)) (pc' := 40) X at_38 rfl rfl rfl ?_
    refine E_iload (pc' := 42) X at_40 rfl rfl ?_
    refine E_lloadN (pc' := 43) X at_42 rfl rfl ?_
    refine E_bipush (v := (56 : Int32)) (pc' := 45) X at_43 rfl rfl ?_
    refine E_lushr (pc' := 46) X at_45 rfl ?_
    refine E_l2i (pc' := 47) X at_46 rfl ?_
    refine E_i2b (pc' := 48) X at_47 rfl ?_
    refine E_eqI (z := (ownB i0 (56 : Int32))) rfl ?_
    refine E_bastore (vs' := [(.int (nar .byte fl)), (.int (nar .byte fl)), (.int (nar .byte (ownB i0 (56 : Int32)))), (.int (nar .byte fl)), (.int (nar .byte fl)), (.int (nar .byte fl)), (.int (nar .byte fl)), (.int (nar .byte fl)), (.int (nar .byte fl)), (.int (nar .byte fl))]) (pc' := 49) X A_25 (by decide) (Nat.le_of_ble_eq_true rfl) rfl fr_12 at_48 rfl (fun T h_97 X W_96 Aa_98 => ?_)
    refine E_aload (v := (.ref o7)) (pc' := 51) X at_49 rfl rfl rfl ?_
    refine E_iload (pc' := 53) X at_51 rfl rfl ?_
    refine E_iconst (v := (1 : Int32)) (pc' := 54) X at_53 rfl rfl ?_
    refine E_iadd (pc' := 55) X at_54 rfl ?_
    refine E_eqI (z := (3 : Int32)) (by decide) ?_
    refine E_lloadN (pc' := 56) X at_55 rfl rfl ?_
    refine E_bipush (v := (48 : Int32)) (pc' := 58) X at_56 rfl rfl ?_
    refine E_lushr (pc' := 59) X at_58 rfl ?_
    refine E_l2i (pc' := 60) X at_59 rfl ?_
    refine E_i2b (pc' := 61) X at_60 rfl ?_
    refine E_eqI (z := (ownB i0 (48 : Int32))) rfl ?_
    refine E_bastore (vs' := [(.int (nar .byte fl)), (.int (nar .byte fl)), (.int (nar .byte (ownB i0 (56 : Int32)))), (.int (nar .byte (ownB i0 (48 : Int32)))), (.int (nar .byte fl)), (.int (nar .byte fl)), (.int (nar .byte fl)), (.int (nar .byte fl)), (.int (nar .byte fl)), (.int (nar .byte fl))]) (pc' := 62) X Aa_98 (by decide) (Nat.le_of_ble_eq_true rfl) rfl fr_12 at_61 rfl (fun T h_100 X W_99 Aa_101 => ?_)
    refine E_aload (v := (.ref o7)) (pc' := 64) X at_62 rfl rfl rfl ?_
    refine E_iload (pc' := 66) X at_64 rfl rfl ?_
    refine E_iconst (v := (2 : Int32)) (pc' := 67) X at_66 rfl rfl ?_
    refine E_iadd (pc' := 68) X at_67 rfl ?_
    refine E_eqI (z := (4 : Int32)) (by decide) ?_
    refine E_lloadN (pc' := 69) X at_68 rfl rfl ?_
    refine E_bipush (v := (40 : Int32)) (pc' := 71) X at_69 rfl rfl ?_
    refine E_lushr (pc' := 72) X at_71 rfl ?_
    refine E_l2i (pc' := 73) X at_72 rfl ?_
    refine E_i2b (pc' := 74) X at_73 rfl ?_
    refine E_eqI (z := (ownB i0 (40 : Int32))) rfl ?_
    refine E_bastore (vs' := [(.int (nar .byte fl)), (.int (nar .byte fl)), (.int (nar .byte (ownB i0 (56 : Int32)))), (.int (nar .byte (ownB i0 (48 : Int32)))), (.int (nar .byte (ownB i0 (40 : Int32)))), (.int (nar .byte fl)), (.int (nar .byte fl)), (.int (nar .byte fl)), (.int (nar .byte fl)), (.int (nar .byte fl))]) (pc' := 75) X Aa_101 (by decide) (Nat.le_of_ble_eq_true rfl) rfl fr_12 at_74 rfl (fun T h_103 X W_102 Aa_104 => ?_)
    refine E_aload (v := (.ref o7)) (pc' := 77) X at_75 rfl rfl rfl ?_
    refine E_iload (pc' := 79) X at_77 rfl rfl ?_
    refine E_iconst (v := (3 : Int32)) (pc' := 80) X at_79 rfl rfl ?_
    refine E_iadd (pc' := 81) X at_80 rfl ?_
    refine E_eqI (z := (5 : Int32)) (by decide) ?_
    refine E_lloadN (pc' := 82) X at_81 rfl rfl ?_
    refine E_bipush (v := (32 : Int32)) (pc' := 84) X at_82 rfl rfl ?_
    refine E_lushr (pc' := 85) X at_84 rfl ?_
    refine E_l2i (pc' := 86) X at_85 rfl ?_
    refine E_i2b (pc' := 87) X at_86 rfl ?_
    refine E_eqI (z := (ownB i0 (32 : Int32))) rfl ?_
    refine E_bastore (vs' := [(.int (nar .byte fl)), (.int (nar .byte fl)), (.int (nar .byte (ownB i0 (56 : Int32)))), (.int (nar .byte (ownB i0 (48 : Int32)))), (.int (nar .byte (ownB i0 (40 : Int32)))), (.int (nar .byte (ownB i0 (32 : Int32)))), (.int (nar .byte fl)), (.int (nar .byte fl)), (.int (nar .byte fl)), (.int (nar .byte fl))]) (pc' := 88) X Aa_104 (by decide) (Nat.le_of_ble_eq_true rfl) rfl fr_12 at_87 rfl (fun T h_106 X W_105 Aa_107 => ?_)
    refine E_aload (v := (.ref o7)) (pc' := 90) X at_88 rfl rfl rfl ?_
    refine E_iload (pc' := 92) X at_90 rfl rfl ?_
    refine E_iconst (v := (4 : Int32)) (pc' := 93) X at_92 rfl rfl ?_
    refine E_iadd (pc' := 94) X at_93 rfl ?_
    refine E_eqI (z := (6 : Int32)) (by decide) ?_
    refine E_lloadN (pc' := 95) X at_94 rfl rfl ?_
    refine E_bipush (v := (24 : Int32)) (pc' := 97) X at_95 rfl rfl ?_
    refine E_lushr (pc' := 98) X at_97 rfl ?_
    refine E_l2i (pc' := 99) X at_98 rfl ?_
    refine E_i2b (pc' := 100) X at_99 rfl ?_
    refine E_eqI (z := (ownB i0 (24 : Int32))) rfl ?_
    refine E_bastore (vs' := [(.int (nar .byte fl)), (.int (nar .byte fl)), (.int (nar .byte (ownB i0 (56 : Int32)))), (.int (nar .byte (ownB i0 (48 : Int32)))), (.int (nar .byte (ownB i0 (40 : Int32)))), (.int (nar .byte (ownB i0 (32 : Int32)))), (.int (nar .byte (ownB i0 (24 : Int32)))), (.int (nar .byte fl)), (.int (nar .byte fl)), (.int (nar .byte fl))]) (pc' := 101) X Aa_107 (by decide) (Nat.le_of_ble_eq_true rfl) rfl fr_12 at_100 rfl (fun T h_109 X W_108 Aa_110 => ?_)
    refine E_aload (v := (.ref o7)) (pc' := 103) X at_101 rfl rfl rfl ?_
    refine E_iload (pc' := 105) X at_103 rfl rfl ?_
    refine E_iconst (v := (5 : Int32)) (pc' := 106) X at_105 rfl rfl ?_
    refine E_iadd (pc' := 107) X at_106 rfl ?_
    refine E_eqI (z := (7 : Int32)) (by decide) ?_
    refine E_lloadN (pc' := 108) X at_107 rfl rfl ?_
    refine E_bipush (v := (16 : Int32)) (pc' := 110) X at_108 rfl rfl ?_
    refine E_lushr (pc' := 111) X at_110 rfl ?_
    refine E_l2i (pc' := 112) X at_111 rfl ?_
    refine E_i2b (pc' := 113) X at_112 rfl ?_
    refine E_eqI (z := (ownB i0 (16 : Int32))) rfl ?_
    refine E_bastore (vs' := [(.int (nar .byte fl)), (.int (nar .byte fl)), (.int (nar .byte (ownB i0 (56 : Int32)))), (.int (nar .byte (ownB i0 (48 : Int32)))), (.int (nar .byte (ownB i0 (40 : Int32)))), (.int (nar .byte (ownB i0 (32 : Int32)))), (.int (nar .byte (ownB i0 (24 : Int32)))), (.int (nar .byte (ownB i0 (16 : Int32)))), (.int (nar .byte fl)), (.int (nar .byte fl))]) (pc' := 114) X Aa_110 (by decide) (Nat.le_of_ble_eq_true rfl) rfl fr_12 at_113 rfl (fun T h_112 X W_111 Aa_113 => ?_)
    refine E_aload (v := (.ref o7)) (pc' := 116) X at_114 rfl rfl rfl ?_
    refine E_iload (pc' := 118) X at_116 rfl rfl ?_
    refine E_bipush (v := (6 : Int32)) (pc' := 120) X at_118 rfl rfl ?_
    refine E_iadd (pc' := 121) X at_120 rfl ?_
    refine E_eqI (z := (8 : Int32)) (by decide) ?_
    refine E_lloadN (pc' := 122) X at_121 rfl rfl ?_
    refine E_bipush (v := (8 : Int32)) (pc' := 124) X at_122 rfl rfl ?_
    refine E_lushr (pc' := 125) X at_124 rfl ?_
    refine E_l2i (pc' := 126) X at_125 rfl ?_
    refine E_i2b (pc' := 127) X at_126 rfl ?_
    refine E_eqI (z := (ownB i0 (8 : Int32))) rfl ?_
    refine E_bastore (vs' := [(.int (nar .byte fl)), (.int (nar .byte fl)), (.int (nar .byte (ownB i0 (56 : Int32)))), (.int (nar .byte (ownB i0 (48 : Int32)))), (.int (nar .byte (ownB i0 (40 : Int32)))), (.int (nar .byte (ownB i0 (32 : Int32)))), (.int (nar .byte (ownB i0 (24 : Int32)))), (.int (nar .byte (ownB i0 (16 : Int32)))), (.int (nar .byte (ownB i0 (8 : Int32)))), (.int (nar .byte fl))]) (pc' := 128) X Aa_113 (by decide) (Nat.le_of_ble_eq_true rfl) rfl fr_12 at_127 rfl (fun T h_115 X W_114 Aa_116 => ?_)
    refine E_aload (v := (.ref o7)) (pc' := 130) X at_128 rfl rfl rfl ?_
    refine E_iload (pc' := 132) X at_130 rfl rfl ?_
    refine E_bipush (v := (7 : Int32)) (pc' := 134) X at_132 rfl rfl ?_
    refine E_iadd (pc' := 135) X at_134 rfl ?_
    refine E_eqI (z := (9 : Int32)) (by decide) ?_
    refine E_lloadN (pc' := 136) X at_135 rfl rfl ?_
    refine E_l2i (pc' := 137) X at_136 rfl ?_
    refine E_i2b (pc' := 138) X at_137 rfl ?_
    refine E_eqI (z := (ownB i0 (0 : Int32))) (ownB_0 i0) ?_
    refine E_bastore (vs' := [(.int (nar .byte fl)), (.int (nar .byte fl)), (.int (nar .byte (ownB i0 (56 : Int32)))), (.int (nar .byte (ownB i0 (48 : Int32)))), (.int (nar .byte (ownB i0 (40 : Int32)))), (.int (nar .byte (ownB i0 (32 : Int32)))), (.int (nar .byte (ownB i0 (24 : Int32)))), (.int (nar .byte (ownB i0 (16 : Int32)))), (.int (nar .byte (ownB i0 (8 : Int32)))), (.int (nar .byte (ownB i0 (0 : Int32))))]) (pc' := 139) X Aa_116 (by decide) (Nat.le_of_ble_eq_true rfl) rfl fr_12 at_138 rfl (fun T h_118 X W_117 Aa_119 => ?_)
    refine E_aload (v := (.ref o1)) (pc' := 141) X at_139 rfl rfl rfl ?_
    refine E_iload (pc' := 143) X at_141 rfl rfl ?_
    refine E_lloadN (pc' := 144) X at_143 rfl rfl ?_
    have A_120 : Ar Z h_118 o1 .byte [(.int (nar .byte fl)), (.int (nar .byte fl)), (.int (nar .byte fl)), (.int (nar .byte fl)), (.int (nar .byte fl)), (.int (nar .byte fl)), (.int (nar .byte fl)), (.int (nar .byte fl)), (.int (nar .byte fl)), (.int (nar .byte fl))] := (((((((((A_19.keep Kc_24 (ninS ne_13 nin0)).other W_96 ne_13).other W_99 ne_13).other W_102 ne_13).other W_105 ne_13).other W_108 ne_13).other W_111 ne_13).other W_114 ne_13).other W_117 ne_13)
    refine E_callS (pc' := 147) (W := 0) (cells' := 2) (slots' := 20) (argsL := [(.ref o1), (.int (2 : Int32)), (.long i0)]) (rest := []) X (rm_w2 l Z a0 hw o1 i0 (nar .byte fl) (nar .byte fl) (nar .byte fl) (nar .byte fl) (nar .byte fl) (nar .byte fl) (nar .byte fl) (nar .byte fl) (nar .byte fl) (nar .byte fl) h_118 X.ext A_120 fr_6) (w_6 hw) (w_7 hw) (w_8 hw) (w_9 hw) (by decide) rfl rfl pd_1 rfl rfl at_144 rfl (Nat.le_refl _) (by decide) (by decide) rfl rfl (by decide) (by decide) (fun v121 T h_122 X hQ123 => ?_)
    obtain ⟨rfl, Kc_124, A_125⟩ := hQ123
    show End Z p e below s _ _ _ _ (mkF m 147 #[.val (.long i0), .second, .val (.int i1), .val (.int i2), .val (.int (2 : Int32)), .val (.int fl), .val (.ref o1), .val (.ref o7)] [])
    refine E_aload (v := (.ref o1)) (pc' := 149) X at_147 rfl rfl rfl ?_
    refine E_aload (v := (.ref o7)) (pc' := 151) X at_149 rfl rfl rfl ?_
    have A_126 : Ar Z h_122 o7 .byte [(.int (nar .byte fl)), (.int (nar .byte fl)), (.int (nar .byte (ownB i0 (56 : Int32)))), (.int (nar .byte (ownB i0 (48 : Int32)))), (.int (nar .byte (ownB i0 (40 : Int32)))), (.int (nar .byte (ownB i0 (32 : Int32)))), (.int (nar .byte (ownB i0 (24 : Int32)))), (.int (nar .byte (ownB i0 (16 : Int32)))), (.int (nar .byte (ownB i0 (8 : Int32)))), (.int (nar .byte (ownB i0 (0 : Int32))))] := (Aa_119.keep Kc_124 (ninS (Ne.symm ne_13) nin0))
    refine E_callS (pc' := 154) (W := 0) (cells' := 2) (slots' := 20) (argsL := [(.ref o1), (.ref o7)]) (rest := []) X (rm3 l Z a0 hw o1 o7 (nar .byte fl) (nar .byte fl) (nar .byte (ownB i0 (56 : Int32))) (nar .byte (ownB i0 (48 : Int32))) (nar .byte (ownB i0 (40 : Int32))) (nar .byte (ownB i0 (32 : Int32))) (nar .byte (ownB i0 (24 : Int32))) (nar .byte (ownB i0 (16 : Int32))) (nar .byte (ownB i0 (8 : Int32))) (nar .byte (ownB i0 (0 : Int32))) h_122 X.ext A_125 A_126) (w_10 hw) (w_11 hw) (w_4 hw) (w_12 hw) (by decide) rfl rfl pd_2 rfl rfl at_151 rfl (Nat.le_refl _) (by decide) (by decide) rfl rfl (by decide) (by decide) (fun v127 T h_128 X hQ129 => ?_)
    obtain ⟨rfl, rfl⟩ := hQ129
    show End Z p e below s _ _ _ _ (mkF m 154 #[.val (.long i0), .second, .val (.int i1), .val (.int i2), .val (.int (2 : Int32)), .val (.int fl), .val (.ref o1), .val (.ref o7)] [(.int (1 : Int32))])
    exact E_retZ (Or.inr rfl) X at_154 (by decide) (by decide) rfl
set_option maxRecDepth 65536 in
set_option maxHeartbeats 2000000 in
theorem comes_1 {Post : Tables → Env → Array Value → State → Outcome → State → Prop} (hpost : ∀ tb e args s v u, (limb_1_1.after args s (.returned v) u = true ∧ limb_1_2.after args s (.returned v) u = true ∧ True) → FrameEnd s (.returned v) u (Jvm.fieldLocs frame_1_writes args s ++ Jvm.arrayLocs frame_1_arrays args s ++ Jvm.staticLocs frame_1_statics s) 16 128 → Post tb e args s (.returned v) u) :
    ArmFor flags0 classFile x code maxLocals ret World_1 tables_1 room_1 Calls_1 rest_1 Pre_1 Post := by
  intro l hfl _ _ p e ha hc hk s m args below hf hA hF happ hP
  obtain ⟨hcalls, hrest, hpre⟩ := hP
  obtain ⟨-, -, -, hnamed, -, -, -, hat⟩ := (Spec.applies_iff hf).mp happ
  obtain ⟨hg, hn⟩ := and_e (Cond.before_iff.mp (show (Jvm.Cond.and given_1 narrow_1).before args s = true from hpre))
  obtain ⟨hcnt, hrst⟩ := and_e hg
  obtain ⟨hk0, hrst⟩ := and_e hrst
  obtain ⟨hk1, hrst⟩ := and_e hrst
  have hk2 := hrst
  obtain ⟨w0, w1, w2, rfl⟩ : ∃ w0 w1 w2 : Value, args = #[w0, w1, w2] := by
    have hs : args.size = 3 := by simpa [Cond.value, given_1] using hcnt
    obtain ⟨L⟩ := args
    match L, hs with
    | [w0, w1, w2], _ => exact ⟨w0, w1, w2, rfl⟩
  have hw := fun d (hd : d ∈ tables_1) => atoms_spec (ws := Jvm.Cond.code x code maxLocals ret :: tables_1) hat d (List.mem_cons_of_mem _ hd)
  have hfit : Fit s := fun {y c} hc i hi => by
    obtain ⟨ha, rfl⟩ := Array.getElem?_eq_some_iff.mp hc
    have q := List.all_eq_true.mp ((Array.all_eq_true_iff_forall_mem.mp hF) _ (Array.getElem_mem ha)) i (List.mem_range.mpr hi)
    simpa [Array.getElem?_eq_getElem hi] using q
  obtain ⟨i0, e0⟩ := isL_v hk0
  obtain rfl : w0 = (.long i0) := Option.some.inj e0
  obtain ⟨i1, e1⟩ := is_v hk1
  obtain rfl : w1 = (.int i1) := Option.some.inj e1
  obtain ⟨i2, e2⟩ := is_v hk2
  obtain rfl : w2 = (.int i2) := Option.some.inj e2
  obtain ⟨n, o, h1, h2, h3, _, L, rfl, ⟨N, _, rfl⟩, hq⟩ := rm0 l s _ hw i0 i1 i2 s.heap (Ext.refl _) tables_1 p e ha hc hk s m _ below hf ((Spec.applies_iff_loose hf).mp happ).1 ⟨rfl, State.Warmed39.refl s, rfl⟩ trivial
  refine ⟨n, _, h1, h2, h3, hpost _ _ _ _ _ _ ⟨Cond.after_iff.mpr rfl, Cond.after_iff.mpr (eq_i res_at (Term.int_eval (1)) rfl), trivial⟩ ⟨hq.1, hq.2.1, (hq.2.2.sift fun y hy => Or.inr (N y hy)).mono (by decide) (by decide)⟩⟩
theorem main_1_1 : Claimed_1_1 := comes_1 fun _ _ _ _ _ _ h hF => ⟨h.1, hF⟩
theorem main_1_2 : Claimed_1_2 := comes_1 fun _ _ _ _ _ _ h hF => ⟨h.2.1, hF⟩
end Jvm.Pilot.@@N@@
namespace Jvm.Pilot.@@N@@
open Jvm Jvm.ClassFile Sem Op Lib Jvm.Free Jvm.Stand Jvm.Pilot.@@N@@.Jvm.D
/-! MADE BY PROGRAM (witnessworld.py) out of the Statement's table words and the real class files: 9 classes; the members and pool entries that the words name. The judged class is class 1, her method 3. -/
namespace start1
open Jvm.ClassFile
def u (s : String) : CpInfo := .utf8 (stringToUtf16 s)
/-- a pool by its gaps: so many unusable entries, then the entry; so many at the end -/
def gap : Nat → List CpInfo → List CpInfo
  | 0, r => r
  | n + 1, r => .unusable :: gap n r
def poolList (es : List (Nat × CpInfo)) (last : Nat) : List CpInfo := es.foldr (fun e r => gap e.1 (e.2 :: r)) (gap last [])
def pool (es : List (Nat × CpInfo)) (last : Nat) : Array CpInfo := ⟨poolList es last⟩
def fileOf (pool : Array CpInfo) (this : Nat) (attrs : Array Attribute := #[]) (ms : Array MethodInfo := #[]) (fl : Nat := 33) (sup : Nat := 0) (ifs : Array Nat := #[]) (fds : Array FieldInfo := #[]) : ClassFile where
  minorVersion := 0
  majorVersion := 65
  constantPool := pool
  accessFlags := fl
  thisClass := this
  superClass := sup
  interfaces := ifs
  fields := fds
  methods := ms
  attributes := attrs
def plain (name : String) (sup : Option ClassId) : Class where
  name := name
  kind := .ordinary
  loader := none
  accessFlags := 33
  super := sup
  interfaces := #[]
  cf := none
  fields := #[]
  methods := #[]
  instanceTypes := #[]
  staticTypes := #[]
  resolved := #[]
  callSites := []
  init := .initialized
  statics := none
  mirror := none

def pool0 : Array CpInfo := pool [(5, u "<init>"), (0, u "()V"), (1, .class_ 10), (1, u "java/lang/Object")] 113

def k0m0 : Method := { name := "<init>", desc := "()V", sig := { parameters := [], returnType := none }, accessFlags := 1, code := none }
/-- java/lang/Object -/
def k0 : Class := { plain "java/lang/Object" none with
  accessFlags := 33
  interfaces := #[]
  cf := some (fileOf pool0 8 #[] #[{ accessFlags := 1, nameIndex := 5, descriptorIndex := 6, attributes := #[] }] 33 0 #[] #[])
  fields := #[]
  methods := #[k0m0]
  instanceTypes := #[]
  staticTypes := #[]
  resolved := Array.replicate 124 none
  statics := none }

def pool1 : Array CpInfo := pool [(2, .class_ 4), (1, u "java/lang/Object"), (0, u "<init>"), (0, u "()V"), (0, .integer 2147483647), (0, .methodref 9 10), (0, .class_ 11), (0, .nameAndType 12 13), (0, u "com/example/flowmote/flowmote/BytesWriteLongPinLaw"), (0, u "fillAll"), (0, u "([BB)V"), (0, .methodref 15 16), (0, .class_ 17), (0, .nameAndType 18 19), (0, u "com/example/flowmote/flowmote/Bytes"), (0, u "writeLong"), (0, u "([BIJ)V"), (0, .methodref 9 21), (0, .nameAndType 22 23), (0, u "same"), (0, u "([B[B)Z"), (3, u "law"), (0, u "(JII)Z")] 2

def k1m0 : Method := { name := "<init>", desc := "()V", sig := { parameters := [], returnType := none }, accessFlags := 1, code := none }
def k1c1 : Code := { maxStack := 3, maxLocals := 2, code := method_2_code, exceptionTable := #[], attributes := #[] }
def k1m1 : Method := { name := "fillAll", desc := "([BB)V", sig := { parameters := [(.array .byte), .byte], returnType := none }, accessFlags := 10, code := some k1c1 }
def k1c2 : Code := { maxStack := 3, maxLocals := 2, code := method_3_code, exceptionTable := #[], attributes := #[] }
def k1m2 : Method := { name := "same", desc := "([B[B)Z", sig := { parameters := [(.array .byte), (.array .byte)], returnType := some .boolean }, accessFlags := 10, code := some k1c2 }
def k1c3 : Code := { maxStack := 5, maxLocals := 8, code := code, exceptionTable := #[], attributes := #[] }
def k1m3 : Method := { name := "law", desc := "(JII)Z", sig := { parameters := [.long, .int, .int], returnType := some .boolean }, accessFlags := 9, code := some k1c3 }
/-- com/example/flowmote/flowmote/BytesWriteLongPinLaw -/
def k1 : Class := { plain "com/example/flowmote/flowmote/BytesWriteLongPinLaw" (some 0) with
  accessFlags := 49
  interfaces := #[]
  cf := some (fileOf pool1 9 #[] #[{ accessFlags := 1, nameIndex := 5, descriptorIndex := 6, attributes := #[] }, { accessFlags := 10, nameIndex := 12, descriptorIndex := 13, attributes := #[] }, { accessFlags := 10, nameIndex := 22, descriptorIndex := 23, attributes := #[] }, { accessFlags := 9, nameIndex := 27, descriptorIndex := 28, attributes := #[] }] 49 2 #[] #[])
  fields := #[]
  methods := #[k1m0, k1m1, k1m2, k1m3]
  instanceTypes := #[]
  staticTypes := #[]
  resolved := Array.replicate 31 none
  statics := none }

def pool2 : Array CpInfo := pool [(2, .class_ 4), (1, u "java/lang/Object"), (0, u "<init>"), (0, u "()V"), (0, .class_ 8), (0, u "com/example/flowmote/flowmote/Bytes"), (16, u "HEX"), (0, u "Ljava/util/HexFormat;"), (19, u "COLON_HEX"), (69, u "MAX_BYTE"), (0, u "I"), (2, u "MAX_BYTE_DIGITS"), (1, u "SHORT_BYTES"), (1, u "MAX_SHORT"), (9, u "writeLong"), (0, u "([BIJ)V")] 32

def k2m0 : Method := { name := "<init>", desc := "()V", sig := { parameters := [], returnType := none }, accessFlags := 2, code := none }
def k2c1 : Code := { maxStack := 6, maxLocals := 5, code := prog_6_method_6_code, exceptionTable := #[], attributes := #[] }
def k2m1 : Method := { name := "writeLong", desc := "([BIJ)V", sig := { parameters := [(.array .byte), .int, .long], returnType := none }, accessFlags := 8, code := some k2c1 }
/-- com/example/flowmote/flowmote/Bytes -/
def k2 : Class := { plain "com/example/flowmote/flowmote/Bytes" (some 0) with
  accessFlags := 48
  interfaces := #[]
  cf := some (fileOf pool2 7 #[] #[{ accessFlags := 2, nameIndex := 5, descriptorIndex := 6, attributes := #[] }, { accessFlags := 8, nameIndex := 134, descriptorIndex := 135, attributes := #[] }] 48 2 #[] #[{ accessFlags := 26, nameIndex := 116, descriptorIndex := 117, attributes := #[] }, { accessFlags := 26, nameIndex := 120, descriptorIndex := 117, attributes := #[] }, { accessFlags := 26, nameIndex := 122, descriptorIndex := 117, attributes := #[] }, { accessFlags := 26, nameIndex := 124, descriptorIndex := 117, attributes := #[] }, { accessFlags := 26, nameIndex := 25, descriptorIndex := 26, attributes := #[] }, { accessFlags := 26, nameIndex := 46, descriptorIndex := 26, attributes := #[] }])
  fields := #[{ name := "MAX_BYTE", type := .int, accessFlags := 26, slot := 0, constantValue := 0 }, { name := "MAX_BYTE_DIGITS", type := .int, accessFlags := 26, slot := 1, constantValue := 0 }, { name := "SHORT_BYTES", type := .int, accessFlags := 26, slot := 2, constantValue := 0 }, { name := "MAX_SHORT", type := .int, accessFlags := 26, slot := 3, constantValue := 0 }, { name := "HEX", type := (.object "java/util/HexFormat"), accessFlags := 26, slot := 4, constantValue := 0 }, { name := "COLON_HEX", type := (.object "java/util/HexFormat"), accessFlags := 26, slot := 5, constantValue := 0 }]
  methods := #[k2m0, k2m1]
  instanceTypes := #[]
  staticTypes := #[.int, .int, .int, .int, (.object "java/util/HexFormat"), (.object "java/util/HexFormat")]
  resolved := Array.replicate 168 none
  statics := none }

def pool3 : Array CpInfo := pool [(1, u "java/lang/Cloneable"), (0, .class_ 1), (0, u "java/lang/Object"), (0, .class_ 3)] 3

/-- java/lang/Cloneable -/
def k3 : Class := { plain "java/lang/Cloneable" (some 0) with
  accessFlags := 1537
  interfaces := #[]
  cf := some (fileOf pool3 2 #[] #[] 1537 4 #[] #[])
  fields := #[]
  methods := #[]
  instanceTypes := #[]
  staticTypes := #[]
  resolved := Array.replicate 8 none
  statics := none }

def pool4 : Array CpInfo := pool [(1, u "java/io/Serializable"), (0, .class_ 1), (0, u "java/lang/Object"), (0, .class_ 3)] 3

/-- java/io/Serializable -/
def k4 : Class := { plain "java/io/Serializable" (some 0) with
  accessFlags := 1537
  interfaces := #[]
  cf := some (fileOf pool4 2 #[] #[] 1537 4 #[] #[])
  fields := #[]
  methods := #[]
  instanceTypes := #[]
  staticTypes := #[]
  resolved := Array.replicate 8 none
  statics := none }

/-- the primitive byte -/
def k5 : Class := { plain "byte" none with kind := .primitive 'B', accessFlags := 0x411 }
/-- [B -/
def k6 : Class := { plain "[B" (some 0) with kind := .array 5 .byte, interfaces := #[3, 4], accessFlags := 1041 }

/-- the primitive int -/
def k7 : Class := { plain "int" none with kind := .primitive 'I', accessFlags := 0x411 }
/-- [I -/
def k8 : Class := { plain "[I" (some 0) with kind := .array 7 .int, interfaces := #[3, 4], accessFlags := 1041 }

def heap : Heap := #[]
def classes : Array Class := #[k0, k1, k2, k3, k4, k5, k6, k7, k8]
def interned : List (Array UInt16 × Addr) := []
def slotsUsed : Nat := 0
def theMethod : MethodId := ⟨1, 3⟩
def args0 : Array Value := #[.long 123456789, .int 4, .int 7]
def aboutOver (below : List Frame) : State where
  vm := { classes := classes, interned := interned.toArray }
  heap := heap
  slotsUsed := slotsUsed
  threads := #[{ frames := .invoking theMethod args0 :: below }]
def below0 : List Frame := [.native { method := ⟨0, 0⟩, args := #[] }]
def about1 : State := aboutOver below0
def p0 : Program := .bare "" "" ""
def e0 : Env := launch0.env 0 0 0
theorem w_frames : about1.frames = Frame.invoking theMethod args0 :: below0 := rfl
set_option maxRecDepth 65536 in
theorem w_args : argsFit about1.vm theMethod args0 = true := by decide +kernel
set_option maxRecDepth 65536 in
theorem w_heap : heapFits about1 = true := by decide +kernel
set_option maxRecDepth 65536 in
theorem w_runnable : about1.curStatus? = some .runnable := by decide +kernel
set_option maxRecDepth 65536 in
theorem w_alone : about1.alone = true := by decide +kernel
set_option maxRecDepth 65536 in
theorem w_named : about1.methodNamed? x = some theMethod := by decide +kernel
set_option maxRecDepth 65536 in
theorem w_hears : about1.hears theMethod below0 = true := by decide +kernel
set_option maxRecDepth 65536 in
theorem w_ripe : about1.ripe theMethod args0 below0 = true := by decide +kernel
theorem w_running : about1.status = .running := rfl
set_option maxRecDepth 65536 in
theorem w_room : about1.hasRoom e0.platform room_1 = true :=
  launch0.hasRoom_least _ room_1 (by decide +kernel) (by decide +kernel) (by decide +kernel) (by decide +kernel) (by decide +kernel) (by decide +kernel)
theorem allAtoms_all (ts : List Jvm.Cond) (a : Array Jvm.Value) (st : Jvm.State) : (allAtoms ts).before a st = ts.all (fun c => c.before a st) := by
  induction ts with
  | nil => rfl
  | cons c t ih =>
    show (Jvm.Cond.and c (allAtoms t)).before a st = _
    rw [Jvm.Cond.before_and, ih, List.all_cons]
def words1 : List Jvm.Cond := Jvm.Cond.code x code maxLocals ret :: tables_1
/-- a 'code' word, met by the world's own term for the bytes: nothing is compared byte by byte -/
theorem code_word {y : MethodName} {bytes : ByteArray} {mx : Nat} {rt : Option FieldType} {a : Array Value} {s : State} {m : MethodId} {meth : Method} {c : Code} (h1 : s.methodNamed? y = some m) (h2 : s.vm.method? m = some meth) (h3 : meth.code = some c) (h4 : c.code = bytes)
    (h5 : (c.maxLocals == mx && c.exceptionTable.isEmpty && decide (c.maxStack ≤ mostOperands) && decide (meth.sig.returnType = rt) && !meth.locks && decide (parseMethodDescriptor y.desc = some meth.sig)) = true) : (Jvm.Cond.code y bytes mx rt).before a s = true := by
  simp only [Bool.and_eq_true, beq_iff_eq, Bool.not_eq_true', decide_eq_true_eq] at h5
  obtain ⟨⟨⟨⟨⟨g1, g2⟩, g3⟩, g4⟩, g5⟩, g6⟩ := h5
  simp [Cond.before, Cond.holds, Cond.value, h1, h2, h3, h4, g1, g2, g3, g4, g5, g6]
def isCode : Jvm.Cond → Bool
  | .code _ _ _ _ => true
  | _ => false
theorem all_split {L : List Jvm.Cond} {P : Jvm.Cond → Bool} (h1 : L.all (fun c => isCode c || P c) = true) (h2 : ∀ c ∈ L.filter isCode, P c = true) : L.all P = true := by
  refine List.all_eq_true.mpr fun c hc => ?_
  have h := List.all_eq_true.mp h1 c hc
  rcases Bool.eq_false_or_eq_true (isCode c) with hi | hi
  · exact h2 c (List.mem_filter.mpr ⟨hc, hi⟩)
  · simpa [hi] using h
set_option maxRecDepth 65536 in
theorem w_c0 : (Jvm.Cond.code x code maxLocals ret).before args0 about1 = true := code_word (m := ⟨1, 3⟩) (meth := k1m3) (c := k1c3) (by decide +kernel) rfl rfl rfl (by decide +kernel)
set_option maxRecDepth 65536 in
theorem w_c1 : (Jvm.Cond.code ({ cls := "com/example/flowmote/flowmote/BytesWriteLongPinLaw", name := "fillAll", desc := "([BB)V" } : Jvm.MethodName) method_2_code (2 : Nat) (Option.none : Option Jvm.ClassFile.FieldType)).before args0 about1 = true := code_word (m := ⟨1, 1⟩) (meth := k1m1) (c := k1c1) (by decide +kernel) rfl rfl rfl (by decide +kernel)
set_option maxRecDepth 65536 in
theorem w_c2 : (Jvm.Cond.code ({ cls := "com/example/flowmote/flowmote/Bytes", name := "writeLong", desc := "([BIJ)V" } : Jvm.MethodName) prog_6_method_6_code (5 : Nat) (Option.none : Option Jvm.ClassFile.FieldType)).before args0 about1 = true := code_word (m := ⟨2, 1⟩) (meth := k2m1) (c := k2c1) (by decide +kernel) rfl rfl rfl (by decide +kernel)
set_option maxRecDepth 65536 in
theorem w_c3 : (Jvm.Cond.code ({ cls := "com/example/flowmote/flowmote/BytesWriteLongPinLaw", name := "same", desc := "([B[B)Z" } : Jvm.MethodName) method_3_code (2 : Nat) (Option.some Jvm.ClassFile.FieldType.boolean)).before args0 about1 = true := code_word (m := ⟨1, 2⟩) (meth := k1m2) (c := k1c2) (by decide +kernel) rfl rfl rfl (by decide +kernel)
def codes1 : List Jvm.Cond := [Jvm.Cond.code x code maxLocals ret, Jvm.Cond.code ({ cls := "com/example/flowmote/flowmote/BytesWriteLongPinLaw", name := "fillAll", desc := "([BB)V" } : Jvm.MethodName) method_2_code (2 : Nat) (Option.none : Option Jvm.ClassFile.FieldType), Jvm.Cond.code ({ cls := "com/example/flowmote/flowmote/Bytes", name := "writeLong", desc := "([BIJ)V" } : Jvm.MethodName) prog_6_method_6_code (5 : Nat) (Option.none : Option Jvm.ClassFile.FieldType), Jvm.Cond.code ({ cls := "com/example/flowmote/flowmote/BytesWriteLongPinLaw", name := "same", desc := "([B[B)Z" } : Jvm.MethodName) method_3_code (2 : Nat) (Option.some Jvm.ClassFile.FieldType.boolean)]
set_option maxRecDepth 65536 in
theorem codes_eq : words1.filter isCode = codes1 := rfl
theorem w_codes : ∀ c ∈ words1.filter isCode, c.before args0 about1 = true := by
  rw [codes_eq]
  intro c hc
  simp only [codes1, List.mem_cons, List.not_mem_nil, or_false] at hc
  rcases hc with rfl | rfl | rfl | rfl
  · exact w_c0
  · exact w_c1
  · exact w_c2
  · exact w_c3
set_option maxRecDepth 65536 in
theorem w_t1 : words1.all (fun c => isCode c || c.before args0 about1) = true := by decide +kernel
theorem w_tables : (allAtoms (Jvm.Cond.code x code maxLocals ret :: tables_1)).before args0 about1 = true := by
  rw [allAtoms_all]
  show words1.all (fun c => c.before args0 about1) = true
  refine all_split ?_ w_codes
  rw [w_t1]
set_option maxRecDepth 65536 in
theorem w_case : (Jvm.Cond.and given_1 narrow_1).before args0 about1 = true := by decide +kernel
theorem w_applies : (headSpec (Jvm.Cond.code x code maxLocals ret :: tables_1) room_1).applies x e0.platform about1 = true :=
  (Spec.applies_iff w_frames).mpr ⟨w_running, w_runnable, w_alone, w_named, w_hears, w_ripe, w_room, w_tables⟩
theorem atStart : AtStart classFile x code maxLocals ret World_1 tables_1 room_1 Calls_1 rest_1 Pre_1 launch0 p0 e0 about1 theMethod args0 below0 :=
  ⟨lists_1, trivial, launch0.admits_env _ _ _, launch0.least_env, fairChoices_fair.cas, fairChoices_fair.clock, w_frames, w_args, w_heap, w_applies, trivial, trivial, w_case⟩
end start1
theorem witness_1 : WitnessClaimed_1 := ⟨start1.p0, start1.e0, start1.about1, start1.theMethod, start1.args0, start1.below0, start1.atStart⟩
end Jvm.Pilot.@@N@@
