import JvmDerived
import JvmDerived.Pilot.@@N@@Statement
import JvmDerived.Pilot.@@N@@Code
set_option linter.unusedVariables false
set_option linter.unusedSimpArgs false
namespace Jvm.RoadKit
open Sem ClassFile Op Lib Jvm.Stand Jvm.Free Jvm.LawKit
section Own
/-- the walk comes to its end from here: it returns, what it returns and the heap are as Q says, nothing old is written -/
def End (Z : State) (p : Program) (e : Env) (below : List Frame) (s : State) (Q : Option Value → Heap → Prop) (kc ks : Nat) (T : State) (g : JFrame) : Prop :=
  ∃ s₂ o, Steps p.tables e below (T.setTop g) s₂ ∧ s₂.status = .running ∧ Ended s₂ below o ∧ ∃ v L, o = .returned v ∧ (Fr Z.heap.size L ∧ Ext Z.heap s₂.heap ∧ Q v s₂.heap) ∧ FrameEnd s o s₂ L kc ks
/-- where the walk stands, with all that is fixed in a body -/
def Sd (l : Launch) (Z : State) (own nm : String) (bytes : ByteArray) (ml : Nat) (ret : Option FieldType) (R : Room) (p : Program) (e : Env) (s : State) (m : MethodId) (args : Array Value) (below : List Frame) (T : State) (h : Heap) (cells slots : Nat) : Prop :=
  ∃ (meth : Method) (c : Code) (locs : List Loc), Stand p l e R s m args below meth c T locs cells slots ∧ Fr Z.heap.size locs ∧ T.heap = h ∧ Ext Z.heap h ∧ p.tables.exec = Jvm.exec ∧ c.code = bytes ∧ c.maxLocals = ml ∧ s.vm.findClass own = some m.cls ∧ meth.name = nm ∧ meth.sig.returnType = ret ∧ meth.locks = false ∧ Z.Warmed39 s.vm
/-- a contract: called with these arguments over the heap h0 the body returns, as Q says -/
def Con (l : Launch) (Z : State) (y : MethodName) (bytes : ByteArray) (ml : Nat) (ret : Option FieldType) (rm : Room) (as : Array Value) (h0 : Heap) (Q : Option Value → Heap → Prop) : Prop :=
  ∀ ws : List Jvm.Cond, MetFree l y (head1 (Jvm.Cond.code y bytes ml ret :: ws) rm) (fun a U => a = as ∧ Z.Warmed39 U.vm ∧ U.heap = h0) (fun _ _ _ _ _ => True) (fun _ U o U' => ∃ v L, o = .returned v ∧ (Fr Z.heap.size L ∧ Ext Z.heap U'.heap ∧ Q v U'.heap) ∧ FrameEnd U o U' L rm.cells rm.slots)
theorem Ext.refl (h : Heap) : Ext h h := ⟨Nat.le_refl _, fun _ _ q => q⟩
theorem Ext.trans {h h' h'' : Heap} (E : Ext h h') (E' : Ext h' h'') : Ext h h'' := ⟨Nat.le_trans E.1 E'.1, fun a c q => E'.2 a c (E.2 a c q)⟩
theorem Ext.keep {h0 h h' : Heap} {ws : List Addr} (E : Ext h0 h) (K : Keep h h' ws) (q : ∀ x ∈ ws, h0.size ≤ x) : Ext h0 h' := ⟨Nat.le_trans E.1 K.1, fun x c r => K.2.1 x c (E.2 x c r) fun z => absurd (Array.getElem?_eq_some_iff.mp r).1 (Nat.not_lt.mpr (q x z))⟩
theorem Ext.wr {h0 h h' : Heap} {a : Addr} {sl : Nat} {v : Value} (E : Ext h0 h) (W : Wr h h' a sl v) (q : h0.size ≤ a) : Ext h0 h' := E.keep (Keep.of_wr W) (allS q all0)
theorem Keep.of_ext {h h' : Heap} (E : Ext h h') (ws : List Addr) : Keep h h' ws := (Keep.refl h ws).ext E
theorem Keep.ext0 {h h' : Heap} (K : Keep h h' []) : Ext h h' := ⟨K.1, fun x c q => K.2.1 x c q nin0⟩
theorem Keep.sub {h h' : Heap} {ws ws' : List Addr} (K : Keep h h' ws) (q : ∀ x ∈ ws, x ∈ ws') : Keep h h' ws' := ⟨K.1, fun x c r n => K.2.1 x c r fun z => n (q x z), K.2.2⟩
theorem Con.of {l : Launch} {Z : State} {y : MethodName} {bytes : ByteArray} {ml : Nat} {ret : Option FieldType} {rm : Room} {as : Array Value} {h0 : Heap} {Q : Option Value → Heap → Prop} (pn : plainFor y = true) (hE : Ext Z.heap h0)
    (body : ∀ (p : Program) (e : Env) (s : State) (m : MethodId) (below : List Frame) (T : State), Sd l Z y.cls y.name bytes ml ret rm p e s m as below T h0 0 0 → End Z p e below s Q rm.cells rm.slots T (entryFrame m as ml)) : Con l Z y bytes ml ret rm as h0 Q := by
  intro ws
  refine MetFree.of_bodySF pn hisR ?_
  intro p e s m args below meth c s₁ Bd hml hP hK
  obtain ⟨rfl, hZ, hh⟩ := hP
  have X : Stand p l e rm s m args below meth c s₁ [] 0 0 := Stand.of_body Bd
  have e0 : s₁.heap = h0 := by rw [← hh, Bd.state]; rfl
  exact body p e s m below s₁ ⟨meth, c, [], X, Fr.nil _, e0, hE, Bd.exec, Bd.bytes, hml, findClass_of_methodNamed Bd.named, (name_of_methodNamed Bd.named Bd.method).1, Bd.returns, Bd.notSynchronized, hZ⟩
variable {l : Launch} {Z : State} {own nm : String} {bytes : ByteArray} {ml : Nat} {ret : Option FieldType} {R : Room} {p : Program} {e : Env} {s : State} {m : MethodId} {args : Array Value} {below : List Frame} {T : State} {h : Heap} {cells slots : Nat} {Q : Option Value → Heap → Prop} {kc ks : Nat} {pc pc' : Nat} {Ls : Array Slot} {st : List Value} {a0 : Array Value}
theorem End.go {T' : State} {g g' : JFrame} (k : End Z p e below s Q kc ks T' g') (stp : ∀ target, Steps p.tables e below (T'.setTop g') target → Steps p.tables e below (T.setTop g) target) : End Z p e below s Q kc ks T g := by
  obtain ⟨s2, o, h1, h2⟩ := k
  exact ⟨s2, o, stp _ h1, h2⟩
theorem End.frame {g g' : JFrame} (q : g = g') (k : End Z p e below s Q kc ks T g') : End Z p e below s Q kc ks T g := q ▸ k
theorem End.of {Q' : Option Value → Heap → Prop} {g : JFrame} (k : End Z p e below s Q kc ks T g) (q : ∀ v h, Q v h → Q' v h) : End Z p e below s Q' kc ks T g := by
  obtain ⟨s2, o, h1, h2, h3, v, L, h4, ⟨h5, h6, h7⟩, h8⟩ := k
  exact ⟨s2, o, h1, h2, h3, v, L, h4, ⟨h5, h6, q _ _ h7⟩, h8⟩
theorem Con.imp {y : MethodName} {rm : Room} {as : Array Value} {h0 : Heap} {Q' : Option Value → Heap → Prop} (C : Con l Z y bytes ml ret rm as h0 Q) (q : ∀ v h, Q v h → Q' v h) : Con l Z y bytes ml ret rm as h0 Q' := by
  intro ws p e ha hc hk s m args below hf happ hP hK
  obtain ⟨n, o, h1, h2, h3, v, L, h4, ⟨h5, h6, h7⟩, h8⟩ := C ws p e ha hc hk s m args below hf happ hP hK
  exact ⟨n, o, h1, h2, h3, v, L, h4, ⟨h5, h6, q _ _ h7⟩, h8⟩
theorem Sd.ext (X : Sd l Z own nm bytes ml ret R p e s m args below T h cells slots) : Ext Z.heap h := by obtain ⟨meth, c, locs, X, N, e0, E, -⟩ := X; exact E
theorem Sd.le (X : Sd l Z own nm bytes ml ret R p e s m args below T h cells slots) : Z.heap.size ≤ h.size := X.ext.1
theorem Sd.more (X : Sd l Z own nm bytes ml ret R p e s m args below T h cells slots) {cells' slots' : Nat} (h1 : cells ≤ cells') (h2 : slots ≤ slots') : Sd l Z own nm bytes ml ret R p e s m args below T h cells' slots' := by
  obtain ⟨meth, c, locs, X, r⟩ := X; exact ⟨meth, c, locs, X.more h1 h2, r⟩
/-! returns -/
theorem E_ret0 (X : Sd l Z own nm bytes ml none R p e s m args below T h cells slots) (hd : decode bytes pc = .ok (.return_, 1)) (h1 : cells ≤ kc) (h2 : slots ≤ ks) (hq : Q none h) : End Z p e below s Q kc ks T (mkF m pc Ls []) := by
  obtain ⟨meth, c, locs, X, N, e0, E, hx, hb, hml, hown, hnm, hret, hlk, hZ⟩ := X
  subst hb
  obtain ⟨fs, hr, hrun, hended, hW, hsame⟩ := X.leave (v := none) (fun _ => rfl)
  exact ⟨_, _, X.returnOut hx hret hd hr, hrun, hended, _, _, rfl, ⟨N, by show Ext Z.heap T.heap; rw [e0]; exact E, by show Q none T.heap; rw [e0]; exact hq⟩, ⟨_, rfl⟩, hW, hsame.mono h1 h2⟩
theorem E_retW {t : FieldType} {w : Value} {i : Instr} (hn : narrow t w = w) (hi : (i = .ireturn ∧ (t = .int ∨ t = .boolean ∨ t = .byte ∨ t = .char ∨ t = .short) ∧ ∃ z, w = .int z) ∨ (i = .lreturn ∧ t = .long ∧ ∃ z, w = .long z) ∨ (i = .dreturn ∧ t = .double ∧ ∃ z, w = .double z) ∨ (i = .freturn ∧ t = .float ∧ ∃ z, w = .float z) ∨ (i = .areturn ∧ t.isReference = true ∧ w.isRef = true))
    (X : Sd l Z own nm bytes ml (some t) R p e s m args below T h cells slots) (hd : decode bytes pc = .ok (i, 1)) (h1 : cells ≤ kc) (h2 : slots ≤ ks) (hq : Q (some w) h) : End Z p e below s Q kc ks T (mkF m pc Ls (w :: st)) := by
  obtain ⟨meth, c, locs, X, N, e0, E, hx, hb, hml, hown, hnm, hret, hlk, hZ⟩ := X
  subst hb
  obtain ⟨fs, hr, hrun, hended, hW, hsame⟩ := X.leave (v := some w) (fun h => by rw [hret] at h; cases h)
  exact ⟨_, _, retOut X hx hret hn hi hd hr, hrun, hended, _, _, rfl, ⟨N, by show Ext Z.heap T.heap; rw [e0]; exact E, by show Q (some w) T.heap; rw [e0]; exact hq⟩, ⟨_, rfl⟩, hW, hsame.mono h1 h2⟩
theorem E_retI {z : Int32} (X : Sd l Z own nm bytes ml (some .int) R p e s m args below T h cells slots) (hd : decode bytes pc = .ok (.ireturn, 1)) (h1 : cells ≤ kc) (h2 : slots ≤ ks) (hq : Q (some (.int z)) h) : End Z p e below s Q kc ks T (mkF m pc Ls (.int z :: st)) :=
  E_retW (t := .int) rfl (Or.inl ⟨rfl, Or.inl rfl, z, rfl⟩) X hd h1 h2 hq
theorem E_retL {z : Int64} (X : Sd l Z own nm bytes ml (some .long) R p e s m args below T h cells slots) (hd : decode bytes pc = .ok (.lreturn, 1)) (h1 : cells ≤ kc) (h2 : slots ≤ ks) (hq : Q (some (.long z)) h) : End Z p e below s Q kc ks T (mkF m pc Ls (.long z :: st)) :=
  E_retW (t := .long) rfl (Or.inr (Or.inl ⟨rfl, rfl, z, rfl⟩)) X hd h1 h2 hq
theorem E_retA {t : FieldType} {w : Value} (X : Sd l Z own nm bytes ml (some t) R p e s m args below T h cells slots) (hd : decode bytes pc = .ok (.areturn, 1)) (ht : t.isReference = true) (hw : w.isRef = true) (h1 : cells ≤ kc) (h2 : slots ≤ ks) (hq : Q (some w) h) : End Z p e below s Q kc ks T (mkF m pc Ls (w :: st)) :=
  E_retW (by rcases ref_cases hw with rfl | ⟨a, rfl⟩ <;> (cases t <;> first | rfl | (simp [FieldType.isReference] at ht))) (Or.inr (Or.inr (Or.inr (Or.inr ⟨rfl, ht, hw⟩)))) X hd h1 h2 hq
theorem E_retZ {z : Int32} (hz : z = 0 ∨ z = 1) (X : Sd l Z own nm bytes ml (some .boolean) R p e s m args below T h cells slots) (hd : decode bytes pc = .ok (.ireturn, 1)) (h1 : cells ≤ kc) (h2 : slots ≤ ks) (hq : Q (some (.int z)) h) : End Z p e below s Q kc ks T (mkF m pc Ls (.int z :: st)) :=
  E_retW (t := .boolean) (by rcases hz with rfl | rfl <;> rfl) (Or.inl ⟨rfl, Or.inr (Or.inl rfl), z, rfl⟩) X hd h1 h2 hq
theorem E_iloadN (X : Sd l Z own nm bytes ml ret R p e s m args below T h cells slots) {i : Fin 4} {v : Int32} (hd : decode bytes pc = .ok (.iload_n i, 1)) (hp : pc + 1 = pc') (hl : Ls[i.val]? = some (.val (.int v))) (k : End Z p e below s Q kc ks T (mkF m pc' Ls (.int v :: st))) : End Z p e below s Q kc ks T (mkF m pc Ls st) := by
  subst hp; obtain ⟨meth, c, locs, X, -, -, -, hx, hb, -⟩ := X; subst hb
  exact k.go fun _ => XS.iloadN X.here hx (g := mkF m pc Ls st) rfl hd hl
theorem E_iload (X : Sd l Z own nm bytes ml ret R p e s m args below T h cells slots) {i : Nat} {v : Int32} (hd : decode bytes pc = .ok (.iload i, 2)) (hp : pc + 2 = pc') (hl : Ls[i]? = some (.val (.int v))) (k : End Z p e below s Q kc ks T (mkF m pc' Ls (.int v :: st))) : End Z p e below s Q kc ks T (mkF m pc Ls st) := by
  subst hp; obtain ⟨meth, c, locs, X, -, -, -, hx, hb, -⟩ := X; subst hb
  exact k.go fun _ => XS.iload X.here hx (g := mkF m pc Ls st) rfl hd hl
theorem E_istoreN (X : Sd l Z own nm bytes ml ret R p e s m args below T h cells slots) {i : Fin 4} {v : Int32} {Ls' : Array Slot} (hd : decode bytes pc = .ok (.istore_n i, 1)) (hp : pc + 1 = pc') (hl : storeLocals Ls i.val (.int v) = some Ls') (k : End Z p e below s Q kc ks T (mkF m pc' Ls' st)) : End Z p e below s Q kc ks T (mkF m pc Ls (.int v :: st)) := by
  subst hp; obtain ⟨meth, c, locs, X, -, -, -, hx, hb, -⟩ := X; subst hb
  exact k.go fun _ => XS.istoreN X.here hx (g := mkF m pc Ls (.int v :: st)) rfl hd rfl hl
theorem E_istore (X : Sd l Z own nm bytes ml ret R p e s m args below T h cells slots) {i : Nat} {v : Int32} {Ls' : Array Slot} (hd : decode bytes pc = .ok (.istore i, 2)) (hp : pc + 2 = pc') (hl : storeLocals Ls i (.int v) = some Ls') (k : End Z p e below s Q kc ks T (mkF m pc' Ls' st)) : End Z p e below s Q kc ks T (mkF m pc Ls (.int v :: st)) := by
  subst hp; obtain ⟨meth, c, locs, X, -, -, -, hx, hb, -⟩ := X; subst hb
  exact k.go fun _ => XS.istore X.here hx (g := mkF m pc Ls (.int v :: st)) rfl hd rfl hl
theorem E_lloadN (X : Sd l Z own nm bytes ml ret R p e s m args below T h cells slots) {i : Fin 4} {v : Int64} (hd : decode bytes pc = .ok (.lload_n i, 1)) (hp : pc + 1 = pc') (hl : Ls[i.val]? = some (.val (.long v))) (k : End Z p e below s Q kc ks T (mkF m pc' Ls (.long v :: st))) : End Z p e below s Q kc ks T (mkF m pc Ls st) := by
  subst hp; obtain ⟨meth, c, locs, X, -, -, -, hx, hb, -⟩ := X; subst hb
  exact k.go fun _ => XS.lloadN X.here hx (g := mkF m pc Ls st) rfl hd hl
theorem E_lload (X : Sd l Z own nm bytes ml ret R p e s m args below T h cells slots) {i : Nat} {v : Int64} (hd : decode bytes pc = .ok (.lload i, 2)) (hp : pc + 2 = pc') (hl : Ls[i]? = some (.val (.long v))) (k : End Z p e below s Q kc ks T (mkF m pc' Ls (.long v :: st))) : End Z p e below s Q kc ks T (mkF m pc Ls st) := by
  subst hp; obtain ⟨meth, c, locs, X, -, -, -, hx, hb, -⟩ := X; subst hb
  exact k.go fun _ => XS.lload X.here hx (g := mkF m pc Ls st) rfl hd hl
theorem E_lstoreN (X : Sd l Z own nm bytes ml ret R p e s m args below T h cells slots) {i : Fin 4} {v : Int64} {Ls' : Array Slot} (hd : decode bytes pc = .ok (.lstore_n i, 1)) (hp : pc + 1 = pc') (hl : storeLocals Ls i.val (.long v) = some Ls') (k : End Z p e below s Q kc ks T (mkF m pc' Ls' st)) : End Z p e below s Q kc ks T (mkF m pc Ls (.long v :: st)) := by
  subst hp; obtain ⟨meth, c, locs, X, -, -, -, hx, hb, -⟩ := X; subst hb
  exact k.go fun _ => XS.lstoreN X.here hx (g := mkF m pc Ls (.long v :: st)) rfl hd rfl hl
theorem E_lstore (X : Sd l Z own nm bytes ml ret R p e s m args below T h cells slots) {i : Nat} {v : Int64} {Ls' : Array Slot} (hd : decode bytes pc = .ok (.lstore i, 2)) (hp : pc + 2 = pc') (hl : storeLocals Ls i (.long v) = some Ls') (k : End Z p e below s Q kc ks T (mkF m pc' Ls' st)) : End Z p e below s Q kc ks T (mkF m pc Ls (.long v :: st)) := by
  subst hp; obtain ⟨meth, c, locs, X, -, -, -, hx, hb, -⟩ := X; subst hb
  exact k.go fun _ => XS.lstore X.here hx (g := mkF m pc Ls (.long v :: st)) rfl hd rfl hl
theorem E_aloadN (X : Sd l Z own nm bytes ml ret R p e s m args below T h cells slots) {i : Fin 4} {v : Value} (hd : decode bytes pc = .ok (.aload_n i, 1)) (hp : pc + 1 = pc') (hl : Ls[i.val]? = some (.val v)) (hv : v.isRef = true) (k : End Z p e below s Q kc ks T (mkF m pc' Ls (v :: st))) : End Z p e below s Q kc ks T (mkF m pc Ls st) := by
  subst hp; obtain ⟨meth, c, locs, X, -, -, -, hx, hb, -⟩ := X; subst hb
  exact k.go fun _ => XS.aloadN X.here hx (g := mkF m pc Ls st) rfl hd hl hv
theorem E_aload (X : Sd l Z own nm bytes ml ret R p e s m args below T h cells slots) {i : Nat} {v : Value} (hd : decode bytes pc = .ok (.aload i, 2)) (hp : pc + 2 = pc') (hl : Ls[i]? = some (.val v)) (hv : v.isRef = true) (k : End Z p e below s Q kc ks T (mkF m pc' Ls (v :: st))) : End Z p e below s Q kc ks T (mkF m pc Ls st) := by
  subst hp; obtain ⟨meth, c, locs, X, -, -, -, hx, hb, -⟩ := X; subst hb
  exact k.go fun _ => XS.aload X.here hx (g := mkF m pc Ls st) rfl hd hl hv
theorem E_astoreN (X : Sd l Z own nm bytes ml ret R p e s m args below T h cells slots) {i : Fin 4} {v : Value} {Ls' : Array Slot} (hd : decode bytes pc = .ok (.astore_n i, 1)) (hp : pc + 1 = pc') (hv : v.isRef = true) (hl : storeLocals Ls i.val v = some Ls') (k : End Z p e below s Q kc ks T (mkF m pc' Ls' st)) : End Z p e below s Q kc ks T (mkF m pc Ls (v :: st)) := by
  subst hp; obtain ⟨meth, c, locs, X, -, -, -, hx, hb, -⟩ := X; subst hb
  exact k.go fun _ => XS.astoreN X.here hx (g := mkF m pc Ls (v :: st)) rfl hd rfl hv hl
theorem E_astore (X : Sd l Z own nm bytes ml ret R p e s m args below T h cells slots) {i : Nat} {v : Value} {Ls' : Array Slot} (hd : decode bytes pc = .ok (.astore i, 2)) (hp : pc + 2 = pc') (hv : v.isRef = true) (hl : storeLocals Ls i v = some Ls') (k : End Z p e below s Q kc ks T (mkF m pc' Ls' st)) : End Z p e below s Q kc ks T (mkF m pc Ls (v :: st)) := by
  subst hp; obtain ⟨meth, c, locs, X, -, -, -, hx, hb, -⟩ := X; subst hb
  exact k.go fun _ => XS.astore X.here hx (g := mkF m pc Ls (v :: st)) rfl hd rfl hv hl
theorem E_iconst (X : Sd l Z own nm bytes ml ret R p e s m args below T h cells slots) {i : Int} {v : Int32} (hd : decode bytes pc = .ok (.iconst i, 1)) (hp : pc + 1 = pc') (hv : Int32.ofInt i = v) (k : End Z p e below s Q kc ks T (mkF m pc' Ls (.int v :: st))) : End Z p e below s Q kc ks T (mkF m pc Ls st) := by
  subst hp; obtain ⟨meth, c, locs, X, -, -, -, hx, hb, -⟩ := X; subst hb
  exact k.go fun _ => by subst hv; exact XS.iconst X.here hx (g := mkF m pc Ls st) rfl hd
theorem E_bipush (X : Sd l Z own nm bytes ml ret R p e s m args below T h cells slots) {i : Int} {v : Int32} (hd : decode bytes pc = .ok (.bipush i, 2)) (hp : pc + 2 = pc') (hv : (Int8.ofInt i).toInt32 = v) (k : End Z p e below s Q kc ks T (mkF m pc' Ls (.int v :: st))) : End Z p e below s Q kc ks T (mkF m pc Ls st) := by
  subst hp; obtain ⟨meth, c, locs, X, -, -, -, hx, hb, -⟩ := X; subst hb
  exact k.go fun _ => by subst hv; exact XS.bipush X.here hx (g := mkF m pc Ls st) rfl hd
theorem E_sipush (X : Sd l Z own nm bytes ml ret R p e s m args below T h cells slots) {i : Int} {v : Int32} (hd : decode bytes pc = .ok (.sipush i, 3)) (hp : pc + 3 = pc') (hv : (Int16.ofInt i).toInt32 = v) (k : End Z p e below s Q kc ks T (mkF m pc' Ls (.int v :: st))) : End Z p e below s Q kc ks T (mkF m pc Ls st) := by
  subst hp; obtain ⟨meth, c, locs, X, -, -, -, hx, hb, -⟩ := X; subst hb
  exact k.go fun _ => by subst hv; exact XS.sipush X.here hx (g := mkF m pc Ls st) rfl hd
theorem E_lconst (X : Sd l Z own nm bytes ml ret R p e s m args below T h cells slots) {i : Fin 2} {v : Int64} (hd : decode bytes pc = .ok (.lconst i, 1)) (hp : pc + 1 = pc') (hv : Int64.ofNat i = v) (k : End Z p e below s Q kc ks T (mkF m pc' Ls (.long v :: st))) : End Z p e below s Q kc ks T (mkF m pc Ls st) := by
  subst hp; obtain ⟨meth, c, locs, X, -, -, -, hx, hb, -⟩ := X; subst hb
  exact k.go fun _ => by subst hv; exact XS.lconst X.here hx (g := mkF m pc Ls st) rfl hd
theorem E_null (X : Sd l Z own nm bytes ml ret R p e s m args below T h cells slots)  (hd : decode bytes pc = .ok (.aconst_null, 1)) (hp : pc + 1 = pc') (k : End Z p e below s Q kc ks T (mkF m pc' Ls (.null :: st))) : End Z p e below s Q kc ks T (mkF m pc Ls st) := by
  subst hp; obtain ⟨meth, c, locs, X, -, -, -, hx, hb, -⟩ := X; subst hb
  exact k.go fun _ => XS.aconstNull X.here hx (g := mkF m pc Ls st) rfl hd
theorem E_iadd (X : Sd l Z own nm bytes ml ret R p e s m args below T h cells slots) {x y : Int32} (hd : decode bytes pc = .ok (.iadd, 1)) (hp : pc + 1 = pc') (k : End Z p e below s Q kc ks T (mkF m pc' Ls (.int (x + y) :: st))) : End Z p e below s Q kc ks T (mkF m pc Ls (.int y :: .int x :: st)) := by
  subst hp; obtain ⟨meth, c, locs, X, -, -, -, hx, hb, -⟩ := X; subst hb
  exact k.go fun _ => XS.iadd X.here hx (g := mkF m pc Ls (.int y :: .int x :: st)) rfl hd rfl
theorem E_isub (X : Sd l Z own nm bytes ml ret R p e s m args below T h cells slots) {x y : Int32} (hd : decode bytes pc = .ok (.isub, 1)) (hp : pc + 1 = pc') (k : End Z p e below s Q kc ks T (mkF m pc' Ls (.int (x - y) :: st))) : End Z p e below s Q kc ks T (mkF m pc Ls (.int y :: .int x :: st)) := by
  subst hp; obtain ⟨meth, c, locs, X, -, -, -, hx, hb, -⟩ := X; subst hb
  exact k.go fun _ => XS.isub X.here hx (g := mkF m pc Ls (.int y :: .int x :: st)) rfl hd rfl
theorem E_imul (X : Sd l Z own nm bytes ml ret R p e s m args below T h cells slots) {x y : Int32} (hd : decode bytes pc = .ok (.imul, 1)) (hp : pc + 1 = pc') (k : End Z p e below s Q kc ks T (mkF m pc' Ls (.int (x * y) :: st))) : End Z p e below s Q kc ks T (mkF m pc Ls (.int y :: .int x :: st)) := by
  subst hp; obtain ⟨meth, c, locs, X, -, -, -, hx, hb, -⟩ := X; subst hb
  exact k.go fun _ => XS.imul X.here hx (g := mkF m pc Ls (.int y :: .int x :: st)) rfl hd rfl
theorem E_iand (X : Sd l Z own nm bytes ml ret R p e s m args below T h cells slots) {x y : Int32} (hd : decode bytes pc = .ok (.iand, 1)) (hp : pc + 1 = pc') (k : End Z p e below s Q kc ks T (mkF m pc' Ls (.int (x &&& y) :: st))) : End Z p e below s Q kc ks T (mkF m pc Ls (.int y :: .int x :: st)) := by
  subst hp; obtain ⟨meth, c, locs, X, -, -, -, hx, hb, -⟩ := X; subst hb
  exact k.go fun _ => XS.iand X.here hx (g := mkF m pc Ls (.int y :: .int x :: st)) rfl hd rfl
theorem E_ior (X : Sd l Z own nm bytes ml ret R p e s m args below T h cells slots) {x y : Int32} (hd : decode bytes pc = .ok (.ior, 1)) (hp : pc + 1 = pc') (k : End Z p e below s Q kc ks T (mkF m pc' Ls (.int (x ||| y) :: st))) : End Z p e below s Q kc ks T (mkF m pc Ls (.int y :: .int x :: st)) := by
  subst hp; obtain ⟨meth, c, locs, X, -, -, -, hx, hb, -⟩ := X; subst hb
  exact k.go fun _ => XS.ior X.here hx (g := mkF m pc Ls (.int y :: .int x :: st)) rfl hd rfl
theorem E_ixor (X : Sd l Z own nm bytes ml ret R p e s m args below T h cells slots) {x y : Int32} (hd : decode bytes pc = .ok (.ixor, 1)) (hp : pc + 1 = pc') (k : End Z p e below s Q kc ks T (mkF m pc' Ls (.int (x ^^^ y) :: st))) : End Z p e below s Q kc ks T (mkF m pc Ls (.int y :: .int x :: st)) := by
  subst hp; obtain ⟨meth, c, locs, X, -, -, -, hx, hb, -⟩ := X; subst hb
  exact k.go fun _ => XS.ixor X.here hx (g := mkF m pc Ls (.int y :: .int x :: st)) rfl hd rfl
theorem E_idiv (X : Sd l Z own nm bytes ml ret R p e s m args below T h cells slots) {x y : Int32} (hd : decode bytes pc = .ok (.idiv, 1)) (hp : pc + 1 = pc') (hy : y ≠ 0) (k : End Z p e below s Q kc ks T (mkF m pc' Ls (.int (x / y) :: st))) : End Z p e below s Q kc ks T (mkF m pc Ls (.int y :: .int x :: st)) := by
  subst hp; obtain ⟨meth, c, locs, X, -, -, -, hx, hb, -⟩ := X; subst hb
  exact k.go fun _ => XS.idiv X.here hx (g := mkF m pc Ls (.int y :: .int x :: st)) rfl hd rfl hy
theorem E_ineg (X : Sd l Z own nm bytes ml ret R p e s m args below T h cells slots) {x : Int32} (hd : decode bytes pc = .ok (.ineg, 1)) (hp : pc + 1 = pc') (k : End Z p e below s Q kc ks T (mkF m pc' Ls (.int (-x) :: st))) : End Z p e below s Q kc ks T (mkF m pc Ls (.int x :: st)) := by
  subst hp; obtain ⟨meth, c, locs, X, -, -, -, hx, hb, -⟩ := X; subst hb
  exact k.go fun _ => XS.ineg X.here hx (g := mkF m pc Ls (.int x :: st)) rfl hd rfl
theorem E_ladd (X : Sd l Z own nm bytes ml ret R p e s m args below T h cells slots) {x y : Int64} (hd : decode bytes pc = .ok (.ladd, 1)) (hp : pc + 1 = pc') (k : End Z p e below s Q kc ks T (mkF m pc' Ls (.long (x + y) :: st))) : End Z p e below s Q kc ks T (mkF m pc Ls (.long y :: .long x :: st)) := by
  subst hp; obtain ⟨meth, c, locs, X, -, -, -, hx, hb, -⟩ := X; subst hb
  exact k.go fun _ => XS.ladd X.here hx (g := mkF m pc Ls (.long y :: .long x :: st)) rfl hd rfl
theorem E_lsub (X : Sd l Z own nm bytes ml ret R p e s m args below T h cells slots) {x y : Int64} (hd : decode bytes pc = .ok (.lsub, 1)) (hp : pc + 1 = pc') (k : End Z p e below s Q kc ks T (mkF m pc' Ls (.long (x - y) :: st))) : End Z p e below s Q kc ks T (mkF m pc Ls (.long y :: .long x :: st)) := by
  subst hp; obtain ⟨meth, c, locs, X, -, -, -, hx, hb, -⟩ := X; subst hb
  exact k.go fun _ => XS.lsub X.here hx (g := mkF m pc Ls (.long y :: .long x :: st)) rfl hd rfl
theorem E_lmul (X : Sd l Z own nm bytes ml ret R p e s m args below T h cells slots) {x y : Int64} (hd : decode bytes pc = .ok (.lmul, 1)) (hp : pc + 1 = pc') (k : End Z p e below s Q kc ks T (mkF m pc' Ls (.long (x * y) :: st))) : End Z p e below s Q kc ks T (mkF m pc Ls (.long y :: .long x :: st)) := by
  subst hp; obtain ⟨meth, c, locs, X, -, -, -, hx, hb, -⟩ := X; subst hb
  exact k.go fun _ => XS.lmul X.here hx (g := mkF m pc Ls (.long y :: .long x :: st)) rfl hd rfl
theorem E_land (X : Sd l Z own nm bytes ml ret R p e s m args below T h cells slots) {x y : Int64} (hd : decode bytes pc = .ok (.land, 1)) (hp : pc + 1 = pc') (k : End Z p e below s Q kc ks T (mkF m pc' Ls (.long (x &&& y) :: st))) : End Z p e below s Q kc ks T (mkF m pc Ls (.long y :: .long x :: st)) := by
  subst hp; obtain ⟨meth, c, locs, X, -, -, -, hx, hb, -⟩ := X; subst hb
  exact k.go fun _ => XS.land X.here hx (g := mkF m pc Ls (.long y :: .long x :: st)) rfl hd rfl
theorem E_lor (X : Sd l Z own nm bytes ml ret R p e s m args below T h cells slots) {x y : Int64} (hd : decode bytes pc = .ok (.lor, 1)) (hp : pc + 1 = pc') (k : End Z p e below s Q kc ks T (mkF m pc' Ls (.long (x ||| y) :: st))) : End Z p e below s Q kc ks T (mkF m pc Ls (.long y :: .long x :: st)) := by
  subst hp; obtain ⟨meth, c, locs, X, -, -, -, hx, hb, -⟩ := X; subst hb
  exact k.go fun _ => XS.lor X.here hx (g := mkF m pc Ls (.long y :: .long x :: st)) rfl hd rfl
theorem E_lxor (X : Sd l Z own nm bytes ml ret R p e s m args below T h cells slots) {x y : Int64} (hd : decode bytes pc = .ok (.lxor, 1)) (hp : pc + 1 = pc') (k : End Z p e below s Q kc ks T (mkF m pc' Ls (.long (x ^^^ y) :: st))) : End Z p e below s Q kc ks T (mkF m pc Ls (.long y :: .long x :: st)) := by
  subst hp; obtain ⟨meth, c, locs, X, -, -, -, hx, hb, -⟩ := X; subst hb
  exact k.go fun _ => XS.lxor X.here hx (g := mkF m pc Ls (.long y :: .long x :: st)) rfl hd rfl
theorem E_ldiv (X : Sd l Z own nm bytes ml ret R p e s m args below T h cells slots) {x y : Int64} (hd : decode bytes pc = .ok (.ldiv, 1)) (hp : pc + 1 = pc') (hy : y ≠ 0) (k : End Z p e below s Q kc ks T (mkF m pc' Ls (.long (x / y) :: st))) : End Z p e below s Q kc ks T (mkF m pc Ls (.long y :: .long x :: st)) := by
  subst hp; obtain ⟨meth, c, locs, X, -, -, -, hx, hb, -⟩ := X; subst hb
  exact k.go fun _ => XS.ldiv X.here hx (g := mkF m pc Ls (.long y :: .long x :: st)) rfl hd rfl hy
theorem E_lneg (X : Sd l Z own nm bytes ml ret R p e s m args below T h cells slots) {x : Int64} (hd : decode bytes pc = .ok (.lneg, 1)) (hp : pc + 1 = pc') (k : End Z p e below s Q kc ks T (mkF m pc' Ls (.long (-x) :: st))) : End Z p e below s Q kc ks T (mkF m pc Ls (.long x :: st)) := by
  subst hp; obtain ⟨meth, c, locs, X, -, -, -, hx, hb, -⟩ := X; subst hb
  exact k.go fun _ => XS.lneg X.here hx (g := mkF m pc Ls (.long x :: st)) rfl hd rfl
theorem E_irem (X : Sd l Z own nm bytes ml ret R p e s m args below T h cells slots) {x y : Int32} (hd : decode bytes pc = .ok (.irem, 1)) (hp : pc + 1 = pc') (hy : y ≠ 0) (k : End Z p e below s Q kc ks T (mkF m pc' Ls (.int (x % y) :: st))) : End Z p e below s Q kc ks T (mkF m pc Ls (.int y :: .int x :: st)) := by
  subst hp; obtain ⟨meth, c, locs, X, -, -, -, hx, hb, -⟩ := X; subst hb
  exact k.go fun _ => iremM X hx (g := mkF m pc Ls (.int y :: .int x :: st)) rfl hd rfl hy
theorem E_lrem (X : Sd l Z own nm bytes ml ret R p e s m args below T h cells slots) {x y : Int64} (hd : decode bytes pc = .ok (.lrem, 1)) (hp : pc + 1 = pc') (hy : y ≠ 0) (k : End Z p e below s Q kc ks T (mkF m pc' Ls (.long (x % y) :: st))) : End Z p e below s Q kc ks T (mkF m pc Ls (.long y :: .long x :: st)) := by
  subst hp; obtain ⟨meth, c, locs, X, -, -, -, hx, hb, -⟩ := X; subst hb
  exact k.go fun _ => fun hr => XS.lrem X.here hx (g := mkF m pc Ls (.long y :: .long x :: st)) rfl hd rfl hy (by rw [lrem_mod x y]; exact hr)
theorem E_ishl (X : Sd l Z own nm bytes ml ret R p e s m args below T h cells slots) {x y : Int32} (hd : decode bytes pc = .ok (.ishl, 1)) (hp : pc + 1 = pc') (k : End Z p e below s Q kc ks T (mkF m pc' Ls (.int (x <<< (y &&& 31)) :: st))) : End Z p e below s Q kc ks T (mkF m pc Ls (.int y :: .int x :: st)) := by
  subst hp; obtain ⟨meth, c, locs, X, -, -, -, hx, hb, -⟩ := X; subst hb
  exact k.go fun _ => XS.ishl X.here hx (g := mkF m pc Ls (.int y :: .int x :: st)) rfl hd rfl
theorem E_ishr (X : Sd l Z own nm bytes ml ret R p e s m args below T h cells slots) {x y : Int32} (hd : decode bytes pc = .ok (.ishr, 1)) (hp : pc + 1 = pc') (k : End Z p e below s Q kc ks T (mkF m pc' Ls (.int (x >>> (y &&& 31)) :: st))) : End Z p e below s Q kc ks T (mkF m pc Ls (.int y :: .int x :: st)) := by
  subst hp; obtain ⟨meth, c, locs, X, -, -, -, hx, hb, -⟩ := X; subst hb
  exact k.go fun _ => XS.ishr X.here hx (g := mkF m pc Ls (.int y :: .int x :: st)) rfl hd rfl
theorem E_iushr (X : Sd l Z own nm bytes ml ret R p e s m args below T h cells slots) {x y : Int32} (hd : decode bytes pc = .ok (.iushr, 1)) (hp : pc + 1 = pc') (k : End Z p e below s Q kc ks T (mkF m pc' Ls (.int ((x.toUInt32 >>> (y &&& 31).toUInt32).toInt32) :: st))) : End Z p e below s Q kc ks T (mkF m pc Ls (.int y :: .int x :: st)) := by
  subst hp; obtain ⟨meth, c, locs, X, -, -, -, hx, hb, -⟩ := X; subst hb
  exact k.go fun _ => XS.iushr X.here hx (g := mkF m pc Ls (.int y :: .int x :: st)) rfl hd rfl
theorem E_lshl (X : Sd l Z own nm bytes ml ret R p e s m args below T h cells slots) {x : Int64} {y : Int32} (hd : decode bytes pc = .ok (.lshl, 1)) (hp : pc + 1 = pc') (k : End Z p e below s Q kc ks T (mkF m pc' Ls (.long (x <<< (y &&& 0x3f).toInt64) :: st))) : End Z p e below s Q kc ks T (mkF m pc Ls (.int y :: .long x :: st)) := by
  subst hp; obtain ⟨meth, c, locs, X, -, -, -, hx, hb, -⟩ := X; subst hb
  exact k.go fun _ => XS.lshl X.here hx (g := mkF m pc Ls (.int y :: .long x :: st)) rfl hd rfl
theorem E_lshr (X : Sd l Z own nm bytes ml ret R p e s m args below T h cells slots) {x : Int64} {y : Int32} (hd : decode bytes pc = .ok (.lshr, 1)) (hp : pc + 1 = pc') (k : End Z p e below s Q kc ks T (mkF m pc' Ls (.long (x >>> (y &&& 0x3f).toInt64) :: st))) : End Z p e below s Q kc ks T (mkF m pc Ls (.int y :: .long x :: st)) := by
  subst hp; obtain ⟨meth, c, locs, X, -, -, -, hx, hb, -⟩ := X; subst hb
  exact k.go fun _ => XS.lshr X.here hx (g := mkF m pc Ls (.int y :: .long x :: st)) rfl hd rfl
theorem E_lushr (X : Sd l Z own nm bytes ml ret R p e s m args below T h cells slots) {x : Int64} {y : Int32} (hd : decode bytes pc = .ok (.lushr, 1)) (hp : pc + 1 = pc') (k : End Z p e below s Q kc ks T (mkF m pc' Ls (.long ((x.toUInt64 >>> (y &&& 0x3f).toInt64.toUInt64).toInt64) :: st))) : End Z p e below s Q kc ks T (mkF m pc Ls (.int y :: .long x :: st)) := by
  subst hp; obtain ⟨meth, c, locs, X, -, -, -, hx, hb, -⟩ := X; subst hb
  exact k.go fun _ => XS.lushr X.here hx (g := mkF m pc Ls (.int y :: .long x :: st)) rfl hd rfl
theorem E_i2l (X : Sd l Z own nm bytes ml ret R p e s m args below T h cells slots) {x : Int32} (hd : decode bytes pc = .ok (.i2l, 1)) (hp : pc + 1 = pc') (k : End Z p e below s Q kc ks T (mkF m pc' Ls (.long (x.toInt64) :: st))) : End Z p e below s Q kc ks T (mkF m pc Ls (.int x :: st)) := by
  subst hp; obtain ⟨meth, c, locs, X, -, -, -, hx, hb, -⟩ := X; subst hb
  exact k.go fun _ => XS.i2l X.here hx (g := mkF m pc Ls (.int x :: st)) rfl hd rfl
theorem E_l2i (X : Sd l Z own nm bytes ml ret R p e s m args below T h cells slots) {x : Int64} (hd : decode bytes pc = .ok (.l2i, 1)) (hp : pc + 1 = pc') (k : End Z p e below s Q kc ks T (mkF m pc' Ls (.int (x.toInt32) :: st))) : End Z p e below s Q kc ks T (mkF m pc Ls (.long x :: st)) := by
  subst hp; obtain ⟨meth, c, locs, X, -, -, -, hx, hb, -⟩ := X; subst hb
  exact k.go fun _ => XS.l2i X.here hx (g := mkF m pc Ls (.long x :: st)) rfl hd rfl
theorem E_i2b (X : Sd l Z own nm bytes ml ret R p e s m args below T h cells slots) {x : Int32} (hd : decode bytes pc = .ok (.i2b, 1)) (hp : pc + 1 = pc') (k : End Z p e below s Q kc ks T (mkF m pc' Ls (.int (x.toInt8.toInt32) :: st))) : End Z p e below s Q kc ks T (mkF m pc Ls (.int x :: st)) := by
  subst hp; obtain ⟨meth, c, locs, X, -, -, -, hx, hb, -⟩ := X; subst hb
  exact k.go fun _ => XS.i2b X.here hx (g := mkF m pc Ls (.int x :: st)) rfl hd rfl
theorem E_i2c (X : Sd l Z own nm bytes ml ret R p e s m args below T h cells slots) {x : Int32} (hd : decode bytes pc = .ok (.i2c, 1)) (hp : pc + 1 = pc') (k : End Z p e below s Q kc ks T (mkF m pc' Ls (.int (x.toUInt32.toUInt16.toUInt32.toInt32) :: st))) : End Z p e below s Q kc ks T (mkF m pc Ls (.int x :: st)) := by
  subst hp; obtain ⟨meth, c, locs, X, -, -, -, hx, hb, -⟩ := X; subst hb
  exact k.go fun _ => XS.i2c X.here hx (g := mkF m pc Ls (.int x :: st)) rfl hd rfl
theorem E_i2s (X : Sd l Z own nm bytes ml ret R p e s m args below T h cells slots) {x : Int32} (hd : decode bytes pc = .ok (.i2s, 1)) (hp : pc + 1 = pc') (k : End Z p e below s Q kc ks T (mkF m pc' Ls (.int (x.toInt16.toInt32) :: st))) : End Z p e below s Q kc ks T (mkF m pc Ls (.int x :: st)) := by
  subst hp; obtain ⟨meth, c, locs, X, -, -, -, hx, hb, -⟩ := X; subst hb
  exact k.go fun _ => XS.i2s X.here hx (g := mkF m pc Ls (.int x :: st)) rfl hd rfl
theorem E_lcmp (X : Sd l Z own nm bytes ml ret R p e s m args below T h cells slots) {x y : Int64} (hd : decode bytes pc = .ok (.lcmp, 1)) (hp : pc + 1 = pc') (k : End Z p e below s Q kc ks T (mkF m pc' Ls (.int (lcmpW x y) :: st))) : End Z p e below s Q kc ks T (mkF m pc Ls (.long y :: .long x :: st)) := by
  subst hp; obtain ⟨meth, c, locs, X, -, -, -, hx, hb, -⟩ := X; subst hb
  exact k.go fun _ => XS.lcmp X.here hx (g := mkF m pc Ls (.long y :: .long x :: st)) rfl hd rfl
theorem E_iinc (X : Sd l Z own nm bytes ml ret R p e s m args below T h cells slots) {i : Nat} {cst : Int} {x z : Int32} {Ls' : Array Slot} (hd : decode bytes pc = .ok (.iinc i cst, 3)) (hp : pc + 3 = pc') (hl : Ls[i]? = some (.val (.int x))) (hz : x + Int32.ofInt cst = z) (hl' : storeLocals Ls i (.int z) = some Ls') (k : End Z p e below s Q kc ks T (mkF m pc' Ls' st)) : End Z p e below s Q kc ks T (mkF m pc Ls st) := by
  subst hp; obtain ⟨meth, c, locs, X, -, -, -, hx, hb, -⟩ := X; subst hb
  exact k.go fun _ => by subst hz; exact XS.iinc X.here hx (g := mkF m pc Ls st) rfl hd hl hl'
theorem E_dup (X : Sd l Z own nm bytes ml ret R p e s m args below T h cells slots) {v : Value} (hd : decode bytes pc = .ok (.dup, 1)) (hp : pc + 1 = pc') (hc : v.category = 1) (k : End Z p e below s Q kc ks T (mkF m pc' Ls (v :: v :: st))) : End Z p e below s Q kc ks T (mkF m pc Ls (v :: st)) := by
  subst hp; obtain ⟨meth, c, locs, X, -, -, -, hx, hb, -⟩ := X; subst hb
  exact k.go fun _ => XS.dup X.here hx (g := mkF m pc Ls (v :: st)) rfl hd rfl hc
theorem E_pop (X : Sd l Z own nm bytes ml ret R p e s m args below T h cells slots) {v : Value} (hd : decode bytes pc = .ok (.pop, 1)) (hp : pc + 1 = pc') (hc : v.category = 1) (k : End Z p e below s Q kc ks T (mkF m pc' Ls st)) : End Z p e below s Q kc ks T (mkF m pc Ls (v :: st)) := by
  subst hp; obtain ⟨meth, c, locs, X, -, -, -, hx, hb, -⟩ := X; subst hb
  exact k.go fun _ => XS.pop X.here hx (g := mkF m pc Ls (v :: st)) rfl hd rfl hc
theorem E_dup_x1 (X : Sd l Z own nm bytes ml ret R p e s m args below T h cells slots) {v w : Value} (hd : decode bytes pc = .ok (.dup_x1, 1)) (hp : pc + 1 = pc') (hc : v.category = 1) (hc' : w.category = 1) (k : End Z p e below s Q kc ks T (mkF m pc' Ls (v :: w :: v :: st))) : End Z p e below s Q kc ks T (mkF m pc Ls (v :: w :: st)) := by
  subst hp; obtain ⟨meth, c, locs, X, -, -, -, hx, hb, -⟩ := X; subst hb
  exact k.go fun _ => XS.dupX1 X.here hx (g := mkF m pc Ls (v :: w :: st)) rfl hd rfl hc hc'
theorem E_dup2 (X : Sd l Z own nm bytes ml ret R p e s m args below T h cells slots) {v w : Value} (hd : decode bytes pc = .ok (.dup2, 1)) (hp : pc + 1 = pc') (hc : v.category = 1) (hc' : w.category = 1) (k : End Z p e below s Q kc ks T (mkF m pc' Ls (v :: w :: v :: w :: st))) : End Z p e below s Q kc ks T (mkF m pc Ls (v :: w :: st)) := by
  subst hp; obtain ⟨meth, c, locs, X, -, -, -, hx, hb, -⟩ := X; subst hb
  exact k.go fun _ => XT.dup2 X.here hx (g := mkF m pc Ls (v :: w :: st)) rfl hd rfl hc hc'
theorem E_dup2L (X : Sd l Z own nm bytes ml ret R p e s m args below T h cells slots) {x : Int64} (hd : decode bytes pc = .ok (.dup2, 1)) (hp : pc + 1 = pc') (k : End Z p e below s Q kc ks T (mkF m pc' Ls (.long x :: .long x :: st))) : End Z p e below s Q kc ks T (mkF m pc Ls (.long x :: st)) := by
  subst hp; obtain ⟨meth, c, locs, X, -, -, -, hx, hb, -⟩ := X; subst hb
  exact k.go fun _ => XT.dup2L X.here hx (g := mkF m pc Ls (.long x :: st)) rfl hd rfl
theorem E_goto (X : Sd l Z own nm bytes ml ret R p e s m args below T h cells slots) {o : Int} (hd : decode bytes pc = .ok (.goto o, 3)) (ho : 0 ≤ (pc : Int) + o) (hp : ((pc : Int) + o).toNat = pc') (k : End Z p e below s Q kc ks T (mkF m pc' Ls st)) : End Z p e below s Q kc ks T (mkF m pc Ls st) := by
  obtain ⟨meth, c, locs, X, -, -, -, hx, hb, -⟩ := X; subst hb
  exact k.go fun _ => XS.goto X.here hx (g := mkF m pc Ls st) rfl rfl hd ho hp
theorem E_if (X : Sd l Z own nm bytes ml ret R p e s m args below T h cells slots) {cd : ClassFile.Cond} {o : Int} {x : Int32} {P : Prop} [Decidable P] (hP : ifCond.holds cd x = decide P) (hd : decode bytes pc = .ok (.ifCond cd o, 3)) {pcY pcN : Nat} (ho : 0 ≤ (pc : Int) + o) (hY : ((pc : Int) + o).toNat = pcY) (hN : pc + 3 = pcN)
    (kY : P → End Z p e below s Q kc ks T (mkF m pcY Ls st)) (kN : ¬ P → End Z p e below s Q kc ks T (mkF m pcN Ls st)) : End Z p e below s Q kc ks T (mkF m pc Ls (.int x :: st)) := by
  obtain ⟨meth, c, locs, X, -, -, -, hx, hb, -⟩ := X; subst hb hN
  by_cases q : P
  · exact (kY q).go fun _ => XS.ifYes X.here hx (g := mkF m pc Ls (.int x :: st)) rfl rfl hd rfl (by rw [hP]; simp [q]) ho hY
  · exact (kN q).go fun _ => XS.ifNo X.here hx (g := mkF m pc Ls (.int x :: st)) rfl hd rfl (by rw [hP]; simp [q])
theorem E_icmp (X : Sd l Z own nm bytes ml ret R p e s m args below T h cells slots) {cd : ClassFile.Cond} {o : Int} {x y : Int32} {P : Prop} [Decidable P] (hP : if_icmp.holds cd x y = decide P) (hd : decode bytes pc = .ok (.if_icmp cd o, 3)) {pcY pcN : Nat} (ho : 0 ≤ (pc : Int) + o) (hY : ((pc : Int) + o).toNat = pcY) (hN : pc + 3 = pcN)
    (kY : P → End Z p e below s Q kc ks T (mkF m pcY Ls st)) (kN : ¬ P → End Z p e below s Q kc ks T (mkF m pcN Ls st)) : End Z p e below s Q kc ks T (mkF m pc Ls (.int y :: .int x :: st)) := by
  obtain ⟨meth, c, locs, X, -, -, -, hx, hb, -⟩ := X; subst hb hN
  by_cases q : P
  · exact (kY q).go fun _ => XS.icmpYes X.here hx (g := mkF m pc Ls (.int y :: .int x :: st)) rfl rfl hd rfl (by rw [hP]; simp [q]) ho hY
  · exact (kN q).go fun _ => XS.icmpNo X.here hx (g := mkF m pc Ls (.int y :: .int x :: st)) rfl hd rfl (by rw [hP]; simp [q])
theorem ic_lt (x y : Int32) : if_icmp.holds .lt x y = decide (x < y) := by
  by_cases q : x < y
  · rw [(tlt q).1]; simp [q]
  · rw [(flt q).1]; simp [q]
theorem ic_ge (x y : Int32) : if_icmp.holds .ge x y = decide (¬ x < y) := by
  by_cases q : x < y
  · rw [(tlt q).2.1]; simp [q]
  · rw [(flt q).2.1]; simp [q]
theorem ic_gt (x y : Int32) : if_icmp.holds .gt x y = decide (y < x) := by
  by_cases q : y < x
  · rw [(tlt q).2.2.1]; simp [q]
  · rw [(flt q).2.2.1]; simp [q]
theorem ic_le (x y : Int32) : if_icmp.holds .le x y = decide (¬ y < x) := by
  by_cases q : y < x
  · rw [(tlt q).2.2.2]; simp [q]
  · rw [(flt q).2.2.2]; simp [q]
theorem ic_eq (x y : Int32) : if_icmp.holds .eq x y = decide (x = y) := by
  by_cases q : x = y
  · rw [(teq q).1]; simp [q]
  · rw [(feq q).1]; simp [q]
theorem ic_ne (x y : Int32) : if_icmp.holds .ne x y = decide (¬ x = y) := by
  by_cases q : x = y
  · rw [(teq q).2]; simp [q]
  · rw [(feq q).2]; simp [q]
theorem i0_lt (x : Int32) : ifCond.holds .lt x = decide (x < 0) := (if0 _ _).trans (ic_lt _ _)
theorem i0_ge (x : Int32) : ifCond.holds .ge x = decide (¬ x < 0) := (if0 _ _).trans (ic_ge _ _)
theorem i0_gt (x : Int32) : ifCond.holds .gt x = decide (0 < x) := (if0 _ _).trans (ic_gt _ _)
theorem i0_le (x : Int32) : ifCond.holds .le x = decide (¬ 0 < x) := (if0 _ _).trans (ic_le _ _)
theorem i0_eq (x : Int32) : ifCond.holds .eq x = decide (x = 0) := (if0 _ _).trans (ic_eq _ _)
theorem i0_ne (x : Int32) : ifCond.holds .ne x = decide (¬ x = 0) := (if0 _ _).trans (ic_ne _ _)
theorem il_lt (x y : Int64) : ifCond.holds .lt (lcmpW x y) = decide (x < y) := (i0_lt _).trans (by simp only [lw_lt])
theorem il_ge (x y : Int64) : ifCond.holds .ge (lcmpW x y) = decide (¬ x < y) := (i0_ge _).trans (by simp only [lw_lt])
theorem il_gt (x y : Int64) : ifCond.holds .gt (lcmpW x y) = decide (y < x) := (i0_gt _).trans (by simp only [lw_gt])
theorem il_le (x y : Int64) : ifCond.holds .le (lcmpW x y) = decide (¬ y < x) := (i0_le _).trans (by simp only [lw_gt])
theorem il_eq (x y : Int64) : ifCond.holds .eq (lcmpW x y) = decide (x = y) := (i0_eq _).trans (by simp only [lw_eq])
theorem il_ne (x y : Int64) : ifCond.holds .ne (lcmpW x y) = decide (¬ x = y) := (i0_ne _).trans (by simp only [lw_eq])
theorem E_acmp (X : Sd l Z own nm bytes ml ret R p e s m args below T h cells slots) {cd : ACond} {o : Int} {x y : Value} {pcE pcU : Nat} (hd : decode bytes pc = .ok (.if_acmp cd o, 3)) (hx1 : x.isRef = true) (hy1 : y.isRef = true) (ho : 0 ≤ (pc : Int) + o) (hE : pcE = if acV cd true = true then ((pc : Int) + o).toNat else pc + 3) (hU : pcU = if acV cd false = true then ((pc : Int) + o).toNat else pc + 3)
    (kE : x = y → End Z p e below s Q kc ks T (mkF m pcE Ls st)) (kU : ¬ x = y → End Z p e below s Q kc ks T (mkF m pcU Ls st)) : End Z p e below s Q kc ks T (mkF m pc Ls (y :: x :: st)) := by
  obtain ⟨meth, c, locs, X, -, -, -, hx, hb, -⟩ := X; subst hb
  by_cases q : x = y
  · exact (kE q).go fun _ => Jvm.RoadKit.acmp (g := mkF m pc Ls (y :: x :: st)) X hx rfl hx1 hy1 (same := true) rfl hd rfl (decide_eq_true q) ho hE
  · exact (kU q).go fun _ => Jvm.RoadKit.acmp (g := mkF m pc Ls (y :: x :: st)) X hx rfl hx1 hy1 (same := false) rfl hd rfl (decide_eq_false q) ho hU
theorem E_ifnullY (X : Sd l Z own nm bytes ml ret R p e s m args below T h cells slots) {o : Int} (hd : decode bytes pc = .ok (.ifnull o, 3)) (ho : 0 ≤ (pc : Int) + o) (hp : ((pc : Int) + o).toNat = pc') (k : End Z p e below s Q kc ks T (mkF m pc' Ls st)) : End Z p e below s Q kc ks T (mkF m pc Ls (.null :: st)) := by
  obtain ⟨meth, c, locs, X, -, -, -, hx, hb, -⟩ := X; subst hb
  exact k.go fun _ => XS.ifnullYes X.here hx (g := mkF m pc Ls (.null :: st)) rfl rfl hd rfl ho hp
theorem E_ifnullN (X : Sd l Z own nm bytes ml ret R p e s m args below T h cells slots) {o : Int} {b : Addr} (hd : decode bytes pc = .ok (.ifnull o, 3)) (hp : pc + 3 = pc') (k : End Z p e below s Q kc ks T (mkF m pc' Ls st)) : End Z p e below s Q kc ks T (mkF m pc Ls (.ref b :: st)) := by
  subst hp; obtain ⟨meth, c, locs, X, -, -, -, hx, hb, -⟩ := X; subst hb
  exact k.go fun _ => XS.ifnullNo X.here hx (g := mkF m pc Ls (.ref b :: st)) rfl hd rfl
theorem E_ifnonnullY (X : Sd l Z own nm bytes ml ret R p e s m args below T h cells slots) {o : Int} {b : Addr} (hd : decode bytes pc = .ok (.ifnonnull o, 3)) (ho : 0 ≤ (pc : Int) + o) (hp : ((pc : Int) + o).toNat = pc') (k : End Z p e below s Q kc ks T (mkF m pc' Ls st)) : End Z p e below s Q kc ks T (mkF m pc Ls (.ref b :: st)) := by
  obtain ⟨meth, c, locs, X, -, -, -, hx, hb, -⟩ := X; subst hb
  exact k.go fun _ => XS.ifnonnullYes X.here hx (g := mkF m pc Ls (.ref b :: st)) rfl rfl hd rfl ho hp
theorem E_ifnonnullN (X : Sd l Z own nm bytes ml ret R p e s m args below T h cells slots) {o : Int} (hd : decode bytes pc = .ok (.ifnonnull o, 3)) (hp : pc + 3 = pc') (k : End Z p e below s Q kc ks T (mkF m pc' Ls st)) : End Z p e below s Q kc ks T (mkF m pc Ls (.null :: st)) := by
  subst hp; obtain ⟨meth, c, locs, X, -, -, -, hx, hb, -⟩ := X; subst hb
  exact k.go fun _ => XS.ifnonnullNo X.here hx (g := mkF m pc Ls (.null :: st)) rfl hd rfl
/-! constants -/
theorem E_ldcI (X : Sd l Z own nm bytes ml ret R p e s m args below T h cells slots) {i : Nat} {v : Int32} (w : (Jvm.Cond.constant own i v).before a0 Z = true) (hd : decode bytes pc = .ok (.ldc i, 2)) (hp : pc + 2 = pc') (k : End Z p e below s Q kc ks T (mkF m pc' Ls (.int v :: st))) : End Z p e below s Q kc ks T (mkF m pc Ls st) := by
  subst hp; obtain ⟨meth, c, locs, X, N, e0, E, hx, hb, hml, hown, hnm, hret, hlk, hZ⟩ := X; subst hb
  exact k.go (X.ldcInt hx hown (mvT hZ w) (g := mkF m pc Ls st) rfl hd)
theorem E_ldcJ (X : Sd l Z own nm bytes ml ret R p e s m args below T h cells slots) {i : Nat} {v : Int64} (w : (Jvm.Cond.constantLong own i v).before a0 Z = true) (hd : decode bytes pc = .ok (.ldc2_w i, 3)) (hp : pc + 3 = pc') (k : End Z p e below s Q kc ks T (mkF m pc' Ls (.long v :: st))) : End Z p e below s Q kc ks T (mkF m pc Ls st) := by
  subst hp; obtain ⟨meth, c, locs, X, N, e0, E, hx, hb, hml, hown, hnm, hret, hlk, hZ⟩ := X; subst hb
  exact k.go (X.ldc2Long hx hown (mvT hZ w) (g := mkF m pc Ls st) rfl hd)
/-! fields, statics -/
theorem E_getF (X : Sd l Z own nm bytes ml ret R p e s m args below T h cells slots) {R0 O n d host : String} {i : Nat} {a : Addr} {v : Value} (w : (Jvm.Cond.fieldLink own i R0 n d).before a0 Z = true ∨ (Jvm.Cond.fieldLinkNest own i R0 n d host).before a0 Z = true) (via : Via Z R0 O n d) (F : Fld Z h a O n d v) (hd : decode bytes pc = .ok (.getfield i, 3)) (hp : pc + 3 = pc')
    (k : ∀ T', Sd l Z own nm bytes ml ret R p e s m args below T' h cells slots → End Z p e below s Q kc ks T' (mkF m pc' Ls (v :: st))) : End Z p e below s Q kc ks T (mkF m pc Ls (.ref a :: st)) := by
  subst hp; obtain ⟨meth, c, locs, X, N, e0, E, hx, hb, hml, hown, r⟩ := X; subst hb
  obtain ⟨T', X', e', stp⟩ := getF X hx r.2.2.2 hown w via e0 F (g := mkF m pc Ls (.ref a :: st)) rfl rfl hd
  exact (k T' ⟨meth, c, locs, X', N, e', E, hx, rfl, hml, hown, r⟩).go stp
theorem E_putF (X : Sd l Z own nm bytes ml ret R p e s m args below T h cells slots) {R0 O n d host C : String} {i kk : Nat} {ty : FieldType} {a : Addr} {v old : Value} (w : (Jvm.Cond.fieldLink own i R0 n d).before a0 Z = true ∨ (Jvm.Cond.fieldLinkNest own i R0 n d host).before a0 Z = true) (via : Via Z R0 O n d) (F : Fld Z h a O n d old) (E1 : Exa Z h a C)
    (L : (Jvm.Cond.lays C O n d).before a0 Z = true ∨ ((Jvm.Cond.laysFinal C O n d).before a0 Z = true ∧ own = O ∧ nm = "<init>")) (wi : (Jvm.Cond.instantiable C kk).before a0 Z = true) (hty : parseFieldDescriptor d = some ty) (hn : narrow ty v = v) (hf : fits ty v = true) (ha : Z.heap.size ≤ a) (hd : decode bytes pc = .ok (.putfield i, 3)) (hp : pc + 3 = pc')
    (k : ∀ T' h', Sd l Z own nm bytes ml ret R p e s m args below T' h' cells slots → Wr h h' a (slotOf Z O n d) v → End Z p e below s Q kc ks T' (mkF m pc' Ls st)) : End Z p e below s Q kc ks T (mkF m pc Ls (v :: .ref a :: st)) := by
  subst hp; obtain ⟨meth, c, locs, X, N, e0, E, hx, hb, hml, hown, hnm, r⟩ := X; subst hb
  obtain ⟨T', h', X', e', W, stp⟩ := putF X hx r.2.2 hown w via e0 F E1 (L.imp id fun q => ⟨q.1, q.2.1, hnm.trans q.2.2⟩) wi hty hn hf (g := mkF m pc Ls (v :: .ref a :: st)) rfl rfl hd
  exact (k T' h' ⟨meth, c, _, X', Fr.snoc X' N ha, e', E.wr W ha, hx, rfl, hml, hown, hnm, r⟩ W).go stp
theorem E_getS (X : Sd l Z own nm bytes ml ret R p e s m args below T h cells slots) {R0 O n d host : String} {i : Nat} {v : Value} (w : (Jvm.Cond.fieldLink own i R0 n d).before a0 Z = true ∨ (Jvm.Cond.fieldLinkNest own i R0 n d host).before a0 Z = true) (via : Via Z R0 O n d) (F : Sta Z Z.heap O n d v) (hd : decode bytes pc = .ok (.getstatic i, 3)) (hp : pc + 3 = pc')
    (k : ∀ T', Sd l Z own nm bytes ml ret R p e s m args below T' h cells slots → End Z p e below s Q kc ks T' (mkF m pc' Ls (v :: st))) : End Z p e below s Q kc ks T (mkF m pc Ls st) := by
  subst hp; obtain ⟨meth, c, locs, X, N, e0, E, hx, hb, hml, hown, r⟩ := X; subst hb
  obtain ⟨T', X', e', stp⟩ := getS2 X hx r.2.2.2 hown w via e0 (F.ext E) (g := mkF m pc Ls st) rfl hd
  exact (k T' ⟨meth, c, locs, X', N, e', E, hx, rfl, hml, hown, r⟩).go stp
/-! new objects -/
theorem E_new (X : Sd l Z own nm bytes ml ret R p e s m args below T h cells slots) {C : String} {i n : Nat} {cells' slots' : Nat} (w : (Jvm.Cond.classLink own i C).before a0 Z = true) (wi : (Jvm.Cond.instantiable C n).before a0 Z = true) (wz : (Jvm.Cond.initialized C).before a0 Z = true) (hd : decode bytes pc = .ok (.new i, 3)) (hp : pc + 3 = pc') (hcc : cells + 1 = cells') (hss : slots + n = slots') (hc : cells' ≤ R.cells) (hl : slots' ≤ R.slots)
    (k : ∀ T' h' a, a = h.size → Sd l Z own nm bytes ml ret R p e s m args below T' h' cells' slots' → Ext h h' → Exa Z h' a C → (∀ {O n d : String} {ty : FieldType}, Laid Z a0 C O n d → parseFieldDescriptor d = some ty → Fld Z h' a O n d (defaultValue ty)) → End Z p e below s Q kc ks T' (mkF m pc' Ls (.ref a :: st))) : End Z p e below s Q kc ks T (mkF m pc Ls st) := by
  subst hp hcc hss; obtain ⟨meth, c, locs, X, N, e0, E, hx, hb, hml, hown, r⟩ := X; subst hb
  obtain ⟨T', h', X', e', E2, A2, D2, -, stp⟩ := newO X hx r.2.2.2 hown w wi wz e0 (g := mkF m pc Ls st) rfl hd hc hl
  exact (k T' h' h.size rfl ⟨meth, c, locs, X', N, e', E.trans E2, hx, rfl, hml, hown, r⟩ E2 A2 (fun q1 q2 => D2 q1 q2)).go stp
theorem E_initO (X : Sd l Z own nm bytes ml ret R p e s m args below T h cells slots) {i : Nat} {a : Addr} (w1 : (Jvm.Cond.methodLink own i Lib.objectInit).before a0 Z = true) (w2 : (Jvm.Cond.instanceMethod Lib.objectInit).before a0 Z = true) (w3 : (Jvm.Cond.code Lib.objectInit ⟨#[0xb1]⟩ 1 none).before a0 Z = true) (hsz : Ls.size = ml) (hd : decode bytes pc = .ok (.invokespecial i, 3)) (hp : pc + 3 = pc') (hf : 1 ≤ R.frames) {W : Nat} (hW : (st.map fun v => v.category).sum ≤ W) (hl : W + 12 ≤ R.locals)
    (k : ∀ T', Sd l Z own nm bytes ml ret R p e s m args below T' h cells slots → End Z p e below s Q kc ks T' (mkF m pc' Ls st)) : End Z p e below s Q kc ks T (mkF m pc Ls (.ref a :: st)) := by
  subst hp; obtain ⟨meth, c, locs, X, N, e0, E, hx, hb, hml, hown, r⟩ := X; subst hb
  obtain ⟨T', X', e', stp⟩ := initO X hx r.2.2.2 hown w1 w2 w3 e0 (g := mkF m pc Ls (.ref a :: st)) rfl (hsz.trans hml.symm) rfl hd hf (W := W) (by show 2 * 0 + _ ≤ _; omega) hl
  exact (k T' ⟨meth, c, locs, X', N, e', E, hx, rfl, hml, hown, r⟩).go stp
/-! calls by a contract -/
theorem E_callS (X : Sd l Z own nm bytes ml ret R p e s m args below T h cells slots) {i : Nat} {y : MethodName} {bytes' : ByteArray} {ml' : Nat} {ret' : Option FieldType} {rm : Room} {Qc : Option Value → Heap → Prop} {as : Array Value} {ps : List FieldType} {rr : Option FieldType} {argsL rest : List Value} {W : Nat} {cells' slots' : Nat} (C : Con l Z y bytes' ml' ret' rm as h Qc)
    (w1 : (Jvm.Cond.methodLink own i y).before a0 Z = true) (w2 : (Jvm.Cond.static y).before a0 Z = true) (w3 : (Jvm.Cond.initialized y.cls).before a0 Z = true) (w4 : (Jvm.Cond.code y bytes' ml' ret').before a0 Z = true) (hy : y.cls ≠ "java/lang/invoke/MethodHandle" ∧ y.cls ≠ "java/lang/invoke/VarHandle") (hsz : Ls.size = ml) (has : argsL.toArray = as) (hpd : parseMethodDescriptor y.desc = some ⟨ps, rr⟩) (hlen : argsL.length = ps.length) (hst : st = argsL.reverse ++ rest)
    (hd : decode bytes pc = .ok (.invokestatic i, 3)) (hp : pc + 3 = pc') (hW : (rest.map fun v => v.category).sum ≤ W) (hf : rm.frames + 1 ≤ R.frames) (hl : W + (ml' + 11) + rm.locals ≤ R.locals) (hcc : cells + rm.cells = cells') (hss : slots + rm.slots = slots') (hc : cells' ≤ R.cells) (hs : slots' ≤ R.slots)
    (k : ∀ v T' h', Sd l Z own nm bytes ml ret R p e s m args below T' h' cells' slots' → Qc v h' → End Z p e below s Q kc ks T' (mkF m pc' Ls (v.toList ++ rest))) : End Z p e below s Q kc ks T (mkF m pc Ls st) := by
  subst hp hst hcc hss; obtain ⟨meth, c, locs, X, N, e0, E, hx, hb, hml, hown, r⟩ := X; subst hb
  obtain ⟨v, _, ⟨T', L', k', n'⟩, -, X', ⟨Lc, hQ, l1, l2, l3⟩, stp⟩ := Jvm.LawKit.callS X hx (y := y) hown (mvT r.2.2.2 w1) (mvT r.2.2.2 w2) (mvT r.2.2.2 w3) (mvT r.2.2.2 w4) hy (backOf (W := W) (Q := fun v h L => Fr Z.heap.size L ∧ Ext Z.heap h ∧ Qc v h) (C []) r.2.2.2 w4 w3 hf hl) (g := mkF m pc Ls (argsL.reverse ++ rest)) rfl (hsz.trans hml.symm) (argsL := argsL) (rest := rest) (lenOf hpd hlen) rfl (by show 2 * 0 + _ ≤ _; omega) hd (fun _ _ => ⟨has, e0, hc, hs⟩)
  dsimp only [Pt.U, Pt.locs, Pt.cells, Pt.slots] at X' l1 l2 l3 stp hQ
  subst l1 l2 l3
  exact (k v T' T'.heap ⟨meth, c, _, X', Fr.app N hQ.1, rfl, hQ.2.1, hx, rfl, hml, hown, r⟩ hQ.2.2).go stp
theorem E_callI (X : Sd l Z own nm bytes ml ret R p e s m args below T h cells slots) {i : Nat} {y : MethodName} {bytes' : ByteArray} {ml' : Nat} {rm : Room} {Qc : Option Value → Heap → Prop} {a : Addr} {as : Array Value} {ps : List FieldType} {rr : Option FieldType} {argsL rest : List Value} {W : Nat} {cells' slots' : Nat} (C : Con l Z y bytes' ml' none rm as h Qc)
    (w1 : (Jvm.Cond.methodLink own i y).before a0 Z = true) (w2 : (Jvm.Cond.instanceMethod y).before a0 Z = true) (w3 : (Jvm.Cond.initialized y.cls).before a0 Z = true) (w4 : (Jvm.Cond.code y bytes' ml' none).before a0 Z = true) (hy1 : y.name = "<init>") (hy : y.cls ≠ "java/lang/invoke/MethodHandle" ∧ y.cls ≠ "java/lang/invoke/VarHandle") (hsz : Ls.size = ml) (has : (.ref a :: argsL).toArray = as) (hpd : parseMethodDescriptor y.desc = some ⟨ps, rr⟩) (hlen : argsL.length = ps.length) (hst : st = argsL.reverse ++ .ref a :: rest)
    (hd : decode bytes pc = .ok (.invokespecial i, 3)) (hp : pc + 3 = pc') (hW : (rest.map fun v => v.category).sum ≤ W) (hf : rm.frames + 1 ≤ R.frames) (hl : W + (ml' + 11) + rm.locals ≤ R.locals) (hcc : cells + rm.cells = cells') (hss : slots + rm.slots = slots') (hc : cells' ≤ R.cells) (hs : slots' ≤ R.slots)
    (k : ∀ v T' h', Sd l Z own nm bytes ml ret R p e s m args below T' h' cells' slots' → Qc v h' → End Z p e below s Q kc ks T' (mkF m pc' Ls (v.toList ++ rest))) : End Z p e below s Q kc ks T (mkF m pc Ls st) := by
  subst hp hst hcc hss; obtain ⟨meth, c, locs, X, N, e0, E, hx, hb, hml, hown, r⟩ := X; subst hb
  obtain ⟨v, _, ⟨T', L', k', n'⟩, -, X', ⟨Lc, hQ, l1, l2, l3⟩, stp⟩ := X.specialBack hx (y := y) hy1 hown (mvT r.2.2.2 w1) (mvT r.2.2.2 w2) (mvT r.2.2.2 w4) hy (backOf (W := W) (Q := fun v h L => Fr Z.heap.size L ∧ Ext Z.heap h ∧ Qc v h) (C []) r.2.2.2 w4 w3 hf hl) (g := mkF m pc Ls (argsL.reverse ++ .ref a :: rest)) rfl (hsz.trans hml.symm) (Steps.refl _) (a := a) (argsL := argsL) (rest := rest) (lenOf hpd hlen) rfl (by show 2 * 0 + _ ≤ _; omega) hd (fun _ _ => ⟨has, e0, hc, hs⟩)
  dsimp only [Pt.U, Pt.locs, Pt.cells, Pt.slots] at X' l1 l2 l3 stp hQ
  subst l1 l2 l3
  exact (k v T' T'.heap ⟨meth, c, _, X', Fr.app N hQ.1, rfl, hQ.2.1, hx, rfl, hml, hown, r⟩ hQ.2.2).go fun _ q => stp.trans q
theorem E_callV (X : Sd l Z own nm bytes ml ret R p e s m args below T h cells slots) {i : Nat} {y : MethodName} {K : String} {bytes' : ByteArray} {ml' : Nat} {ret' : Option FieldType} {rm : Room} {Qc : Option Value → Heap → Prop} {a : Addr} {as : Array Value} {ps : List FieldType} {rr : Option FieldType} {argsL rest : List Value} {W : Nat} {cells' slots' : Nat} (C : Con l Z y bytes' ml' ret' rm as h Qc) (E1 : Exa Z h a K)
    (w1 : (Jvm.Cond.methodLink own i y).before a0 Z = true) (wd : (Jvm.Cond.declares y).before a0 Z = true) (ws : (Jvm.Cond.selects K y y).before a0 Z = true) (w2 : (Jvm.Cond.instanceMethod y).before a0 Z = true) (w3 : (Jvm.Cond.initialized y.cls).before a0 Z = true) (w4 : (Jvm.Cond.code y bytes' ml' ret').before a0 Z = true) (hK : K = y.cls) (hy : y.cls ≠ "java/lang/invoke/MethodHandle" ∧ y.cls ≠ "java/lang/invoke/VarHandle") (hsz : Ls.size = ml) (has : (.ref a :: argsL).toArray = as) (hpd : parseMethodDescriptor y.desc = some ⟨ps, rr⟩) (hlen : argsL.length = ps.length) (hst : st = argsL.reverse ++ .ref a :: rest)
    (hd : decode bytes pc = .ok (.invokevirtual i, 3)) (hp : pc + 3 = pc') (hW : (rest.map fun v => v.category).sum ≤ W) (hf : rm.frames + 1 ≤ R.frames) (hl : W + (ml' + 11) + rm.locals ≤ R.locals) (hcc : cells + rm.cells = cells') (hss : slots + rm.slots = slots') (hc : cells' ≤ R.cells) (hs : slots' ≤ R.slots)
    (k : ∀ v T' h', Sd l Z own nm bytes ml ret R p e s m args below T' h' cells' slots' → Qc v h' → End Z p e below s Q kc ks T' (mkF m pc' Ls (v.toList ++ rest))) : End Z p e below s Q kc ks T (mkF m pc Ls st) := by
  subst hp hst hcc hss; obtain ⟨meth, c, locs, X, N, e0, E, hx, hb, hml, hown, r⟩ := X; subst hb
  subst hK
  obtain ⟨cq, kq, qa, qb, qc⟩ := isOf r.2.2.2 e0 E1
  obtain ⟨v, _, ⟨T', L', k', n'⟩, -, X', ⟨Lc, hQ, l1, l2, l3⟩, stp⟩ := X.virtualBack hx (y := y) (z := y) hown (mvT r.2.2.2 w1) (mvT r.2.2.2 wd) (notFace_of_selects (args := #[]) (mvT r.2.2.2 ws)) (mvT r.2.2.2 ws) (mvT r.2.2.2 w2) hy (backOf (W := W) (Q := fun v h L => Fr Z.heap.size L ∧ Ext Z.heap h ∧ Qc v h) (C []) r.2.2.2 w4 w3 hf hl) qa qc (g := mkF m pc Ls (argsL.reverse ++ .ref a :: rest)) rfl (hsz.trans hml.symm) (Steps.refl _) (argsL := argsL) (rest := rest) (lenOf hpd hlen) rfl (by show 2 * 0 + _ ≤ _; omega) hd (fun _ _ => ⟨has, e0, hc, hs⟩)
  dsimp only [Pt.U, Pt.locs, Pt.cells, Pt.slots] at X' l1 l2 l3 stp hQ
  subst l1 l2 l3
  exact (k v T' T'.heap ⟨meth, c, _, X', Fr.app N hQ.1, rfl, hQ.2.1, hx, rfl, hml, hown, r⟩ hQ.2.2).go fun _ q => stp.trans q
/-! arrays by their list of values -/
def Ar (Z : State) (h : Heap) (a : Addr) (ty : FieldType) (vs : List Value) : Prop := ∃ c : Cell, Arr Z h a c ty ∧ c.slots = vs.toArray
section ArFacts
variable {h' : Heap} {a b : Addr} {ty : FieldType} {vs : List Value} {ws : List Addr} {v : Value} {sl : Nat}
theorem Ar.lt (F : Ar Z h a ty vs) : a < h.size := by obtain ⟨c, A, -⟩ := F; exact A.lt
theorem Ar.ext (F : Ar Z h a ty vs) (E : Ext h h') : Ar Z h' a ty vs := by obtain ⟨c, A, r⟩ := F; exact ⟨c, A.ext E, r⟩
theorem Ar.other (F : Ar Z h b ty vs) (W : Wr h h' a sl v) (q : b ≠ a) : Ar Z h' b ty vs := by obtain ⟨c, A, r⟩ := F; exact ⟨c, A.other W q, r⟩
theorem Ar.keep (F : Ar Z h a ty vs) (K : Keep h h' ws) (q : a ∉ ws) : Ar Z h' a ty vs := by obtain ⟨c, A, r⟩ := F; exact ⟨c, ⟨K.2.1 a c A.1 q, A.2⟩, r⟩
theorem Ar.set (F : Ar Z h a ty vs) (W : Wr h h' a sl v) : Ar Z h' a ty (vs.set sl v) := by
  obtain ⟨c, A, r⟩ := F
  exact ⟨_, A.same W, by simp [Cell.setSlot, r]⟩
theorem Ar.ne_exa {C : String} {k : Nat} (F : Ar Z h b ty vs) (E : Exa Z h a C) (wi : (Jvm.Cond.instantiable C k).before a0 Z = true) : a ≠ b := by obtain ⟨c, A, r⟩ := F; exact ne_arr E wi A
theorem Ar.ne {vs' : List Value} (F : Ar Z h a ty vs) (G : Ar Z h b ty vs') (q : vs ≠ vs') : a ≠ b := fun e => by
  subst e; obtain ⟨c, A, r⟩ := F; obtain ⟨c', A', r'⟩ := G
  cases A.1.symm.trans A'.1
  exact q (by simpa using congrArg Array.toList (r.symm.trans r'))
theorem Ar.at {c : Cell} {j : Int32} (r : c.slots = vs.toArray) (hj : ¬ j < 0) (hv : vs[j.toNatClampNeg]? = some v) : ¬ (j < 0 ∨ c.slots.size ≤ j.toNatClampNeg) ∧ c.slots[j.toNatClampNeg]? = some v := by
  refine ⟨fun q => ?_, by rw [r]; simpa using hv⟩
  rcases q with q | q
  · exact hj q
  · rw [r] at q
    have := (List.getElem?_eq_some_iff.mp hv).1
    simp at q; omega
theorem Ar.inb {c : Cell} {j : Int32} (r : c.slots = vs.toArray) (hj : ¬ j < 0) (hl : j.toNatClampNeg < vs.length) : ¬ (j < 0 ∨ c.slots.size ≤ j.toNatClampNeg) := (Ar.at r hj (List.getElem?_eq_getElem hl)).1
end ArFacts
theorem E_newA (X : Sd l Z own nm bytes ml ret R p e s m args below T h cells slots) {aty : ArrayType} {n : Int32} {cap : Nat} {vs : List Value} {cells' slots' : Nat} (w : (Jvm.Cond.arrayClass (newarray.typeOf aty)).before a0 Z = true) (hd : decode bytes pc = .ok (.newarray aty, 2)) (hp : pc + 2 = pc') (hn : ¬ n < 0) (hcap : n.toNatClampNeg ≤ cap) (hb8 : cap * 8 ≤ 536870912) (hvs : List.replicate n.toNatClampNeg (defaultValue (newarray.typeOf aty)) = vs) (hcc : cells + 1 = cells') (hss : slots + cap = slots') (hc : cells' ≤ R.cells) (hl : slots' ≤ R.slots)
    (k : ∀ T' h' a, a = h.size → Sd l Z own nm bytes ml ret R p e s m args below T' h' cells' slots' → Ext h h' → Ar Z h' a (newarray.typeOf aty) vs → End Z p e below s Q kc ks T' (mkF m pc' Ls (.ref a :: st))) : End Z p e below s Q kc ks T (mkF m pc Ls (.int n :: st)) := by
  subst hp hcc hss hvs; obtain ⟨meth, c, locs, X, N, e0, E, hx, hb, hml, hown, r⟩ := X; subst hb
  obtain ⟨T', h', cA, X', e', E2, A2, stp⟩ := newP X hx r.2.2.2 w e0 (g := mkF m pc Ls (.int n :: st)) rfl hd rfl hn hcap hb8 hc hl
  exact (k T' h' h.size rfl ⟨meth, c, locs, X', N, e', E.trans E2, hx, rfl, hml, hown, r⟩ E2 ⟨_, A2, by simp [newA]⟩).go stp
theorem E_newAE (X : Sd l Z own nm bytes ml ret R p e s m args below T h cells slots) {aty : ArrayType} {n : Int32} {cap : Nat} {vs : List Value} {cells' slots' : Nat} {ad : String} (had : "[" ++ (newarray.typeOf aty).toString = ad) (w : (Jvm.Cond.arrayClass (newarray.typeOf aty)).before a0 Z = true) (hd : decode bytes pc = .ok (.newarray aty, 2)) (hp : pc + 2 = pc') (hn : ¬ n < 0) (hcap : n.toNatClampNeg ≤ cap) (hb8 : cap * 8 ≤ 536870912) (hvs : List.replicate n.toNatClampNeg (defaultValue (newarray.typeOf aty)) = vs) (hcc : cells + 1 = cells') (hss : slots + cap = slots') (hc : cells' ≤ R.cells) (hl : slots' ≤ R.slots)
    (k : ∀ T' h' a, a = h.size → Sd l Z own nm bytes ml ret R p e s m args below T' h' cells' slots' → Ext h h' → Ar Z h' a (newarray.typeOf aty) vs → Exa Z h' a ad → End Z p e below s Q kc ks T' (mkF m pc' Ls (.ref a :: st))) : End Z p e below s Q kc ks T (mkF m pc Ls (.int n :: st)) := by
  subst hp hcc hss hvs; obtain ⟨meth, c, locs, X, N, e0, E, hx, hb, hml, hown, r⟩ := X; subst hb
  obtain ⟨T', h', cA, X', e', E2, A2, A3, stp⟩ := newPE X hx r.2.2.2 w e0 (g := mkF m pc Ls (.int n :: st)) rfl hd rfl hn hcap hb8 hc hl had
  exact (k T' h' h.size rfl ⟨meth, c, locs, X', N, e', E.trans E2, hx, rfl, hml, hown, r⟩ E2 ⟨_, A2, by simp [newA]⟩ A3).go stp
theorem E_alen (X : Sd l Z own nm bytes ml ret R p e s m args below T h cells slots) {a : Addr} {ty : FieldType} {vs : List Value} {n : Int32} (F : Ar Z h a ty vs) (hn : vs.length.toInt32 = n) (hd : decode bytes pc = .ok (.arraylength, 1)) (hp : pc + 1 = pc') (k : End Z p e below s Q kc ks T (mkF m pc' Ls (.int n :: st))) : End Z p e below s Q kc ks T (mkF m pc Ls (.ref a :: st)) := by
  subst hp hn; obtain ⟨meth, c, locs, X, N, e0, E, hx, hb, hml, hown, r⟩ := X; subst hb
  obtain ⟨cl, A, q⟩ := F
  have q2 : cl.slots.size = vs.length := by rw [q]; simp
  rw [← q2] at k
  exact k.go fun t => X.arraylength hx (by rw [e0]; exact A.1) (State.isArrayOf_alike r.2.2.2.alike A.2.1) (g := mkF m pc Ls (.ref a :: st)) rfl rfl hd t
theorem E_iaload (X : Sd l Z own nm bytes ml ret R p e s m args below T h cells slots) {a : Addr} {vs : List Value} {j : Int32} {v : Value} (F : Ar Z h a .int vs) (hj : ¬ j < 0) (hv : vs[j.toNatClampNeg]? = some v) (hd : decode bytes pc = .ok (.iaload, 1)) (hp : pc + 1 = pc') (k : End Z p e below s Q kc ks T (mkF m pc' Ls (v :: st))) : End Z p e below s Q kc ks T (mkF m pc Ls (.int j :: .ref a :: st)) := by
  subst hp; obtain ⟨meth, c, locs, X, N, e0, E, hx, hb, hml, hown, r⟩ := X; subst hb
  obtain ⟨cl, A, q⟩ := F
  obtain ⟨i1, i2⟩ := Ar.at q hj hv
  exact k.go fun t => X.iaload hx (by rw [e0]; exact A.1) (State.isArrayOf_alike r.2.2.2.alike A.2.1) A.2.2 i1 i2 (g := mkF m pc Ls (.int j :: .ref a :: st)) rfl rfl hd t
theorem E_laload (X : Sd l Z own nm bytes ml ret R p e s m args below T h cells slots) {a : Addr} {vs : List Value} {j : Int32} {v : Value} (F : Ar Z h a .long vs) (hj : ¬ j < 0) (hv : vs[j.toNatClampNeg]? = some v) (hd : decode bytes pc = .ok (.laload, 1)) (hp : pc + 1 = pc') (k : End Z p e below s Q kc ks T (mkF m pc' Ls (v :: st))) : End Z p e below s Q kc ks T (mkF m pc Ls (.int j :: .ref a :: st)) := by
  subst hp; obtain ⟨meth, c, locs, X, N, e0, E, hx, hb, hml, hown, r⟩ := X; subst hb
  obtain ⟨cl, A, q⟩ := F
  obtain ⟨i1, i2⟩ := Ar.at q hj hv
  exact k.go fun t => X.laload hx (by rw [e0]; exact A.1) (State.isArrayOf_alike r.2.2.2.alike A.2.1) A.2.2 i1 i2 (g := mkF m pc Ls (.int j :: .ref a :: st)) rfl rfl hd t
theorem E_caload (X : Sd l Z own nm bytes ml ret R p e s m args below T h cells slots) {a : Addr} {vs : List Value} {j : Int32} {v : Value} (F : Ar Z h a .char vs) (hj : ¬ j < 0) (hv : vs[j.toNatClampNeg]? = some v) (hd : decode bytes pc = .ok (.caload, 1)) (hp : pc + 1 = pc') (k : End Z p e below s Q kc ks T (mkF m pc' Ls (v :: st))) : End Z p e below s Q kc ks T (mkF m pc Ls (.int j :: .ref a :: st)) := by
  subst hp; obtain ⟨meth, c, locs, X, N, e0, E, hx, hb, hml, hown, r⟩ := X; subst hb
  obtain ⟨cl, A, q⟩ := F
  obtain ⟨i1, i2⟩ := Ar.at q hj hv
  exact k.go fun t => X.caload hx (by rw [e0]; exact A.1) (State.isArrayOf_alike r.2.2.2.alike A.2.1) A.2.2 i1 i2 (g := mkF m pc Ls (.int j :: .ref a :: st)) rfl rfl hd t
theorem E_baload (X : Sd l Z own nm bytes ml ret R p e s m args below T h cells slots) {a : Addr} {vs : List Value} {j : Int32} {v : Value} (F : Ar Z h a .byte vs) (hj : ¬ j < 0) (hv : vs[j.toNatClampNeg]? = some v) (hd : decode bytes pc = .ok (.baload, 1)) (hp : pc + 1 = pc') (k : End Z p e below s Q kc ks T (mkF m pc' Ls (v :: st))) : End Z p e below s Q kc ks T (mkF m pc Ls (.int j :: .ref a :: st)) := by
  subst hp; obtain ⟨meth, c, locs, X, N, e0, E, hx, hb, hml, hown, r⟩ := X; subst hb
  obtain ⟨cl, A, q⟩ := F
  obtain ⟨i1, i2⟩ := Ar.at q hj hv
  exact k.go fun t => X.baloadBytes hx (by rw [e0]; exact A.1) (State.isArrayOf_alike r.2.2.2.alike A.2.1) A.2.2 i1 i2 (g := mkF m pc Ls (.int j :: .ref a :: st)) rfl rfl hd t
theorem E_baload_Z (X : Sd l Z own nm bytes ml ret R p e s m args below T h cells slots) {a : Addr} {vs : List Value} {j : Int32} {v : Value} (F : Ar Z h a .boolean vs) (hj : ¬ j < 0) (hv : vs[j.toNatClampNeg]? = some v) (hd : decode bytes pc = .ok (.baload, 1)) (hp : pc + 1 = pc') (k : End Z p e below s Q kc ks T (mkF m pc' Ls (v :: st))) : End Z p e below s Q kc ks T (mkF m pc Ls (.int j :: .ref a :: st)) := by
  subst hp; obtain ⟨meth, c, locs, X, N, e0, E, hx, hb, hml, hown, r⟩ := X; subst hb
  obtain ⟨cl, A, q⟩ := F
  obtain ⟨i1, i2⟩ := Ar.at q hj hv
  exact k.go fun t => X.baloadBooleans hx (by rw [e0]; exact A.1) (State.isArrayOf_alike r.2.2.2.alike A.2.1) A.2.2 i1 i2 (g := mkF m pc Ls (.int j :: .ref a :: st)) rfl rfl hd t
theorem E_aaload (X : Sd l Z own nm bytes ml ret R p e s m args below T h cells slots) {a : Addr} {vs : List Value} {j : Int32} {v : Value} {ty : FieldType} (F : Ar Z h a ty vs) (hty : ty.isReference = true) (hj : ¬ j < 0) (hv : vs[j.toNatClampNeg]? = some v) (hd : decode bytes pc = .ok (.aaload, 1)) (hp : pc + 1 = pc') (k : End Z p e below s Q kc ks T (mkF m pc' Ls (v :: st))) : End Z p e below s Q kc ks T (mkF m pc Ls (.int j :: .ref a :: st)) := by
  subst hp; obtain ⟨meth, c, locs, X, N, e0, E, hx, hb, hml, hown, r⟩ := X; subst hb
  obtain ⟨cl, A, q⟩ := F
  obtain ⟨i1, i2⟩ := Ar.at q hj hv
  exact k.go fun t => X.aaload hx (by rw [e0]; exact A.1) (State.isArrayOf_alike r.2.2.2.alike A.2.1) hty A.2.2 i1 i2 (g := mkF m pc Ls (.int j :: .ref a :: st)) rfl rfl hd t
theorem E_iastore (X : Sd l Z own nm bytes ml ret R p e s m args below T h cells slots) {a : Addr} {vs vs' : List Value} {j : Int32} {x : Int32} (F : Ar Z h a .int vs) (hj : ¬ j < 0) (hl : j.toNatClampNeg < vs.length) (hvs : vs.set j.toNatClampNeg (.int x) = vs') (ha : Z.heap.size ≤ a) (hd : decode bytes pc = .ok (.iastore, 1)) (hp : pc + 1 = pc')
    (k : ∀ T' h', Sd l Z own nm bytes ml ret R p e s m args below T' h' cells slots → Wr h h' a j.toNatClampNeg (.int x) → Ar Z h' a .int vs' → End Z p e below s Q kc ks T' (mkF m pc' Ls st)) : End Z p e below s Q kc ks T (mkF m pc Ls (.int x :: .int j :: .ref a :: st)) := by
  subst hp hvs; obtain ⟨meth, c, locs, X, N, e0, E, hx, hb, hml, hown, r⟩ := X; subst hb
  have F0 := F
  obtain ⟨cl, A, q⟩ := F
  obtain ⟨T', h', X', e', W, stp⟩ := stI X hx r.2.2.2 e0 A (Ar.inb q hj hl) (g := mkF m pc Ls (.int x :: .int j :: .ref a :: st)) rfl rfl hd
  exact (k T' h' ⟨meth, c, _, X', Fr.snoc X' N ha, e', E.wr W ha, hx, rfl, hml, hown, r⟩ W (F0.set W)).go stp
theorem E_lastore (X : Sd l Z own nm bytes ml ret R p e s m args below T h cells slots) {a : Addr} {vs vs' : List Value} {j : Int32} {x : Int64} (F : Ar Z h a .long vs) (hj : ¬ j < 0) (hl : j.toNatClampNeg < vs.length) (hvs : vs.set j.toNatClampNeg (.long x) = vs') (ha : Z.heap.size ≤ a) (hd : decode bytes pc = .ok (.lastore, 1)) (hp : pc + 1 = pc')
    (k : ∀ T' h', Sd l Z own nm bytes ml ret R p e s m args below T' h' cells slots → Wr h h' a j.toNatClampNeg (.long x) → Ar Z h' a .long vs' → End Z p e below s Q kc ks T' (mkF m pc' Ls st)) : End Z p e below s Q kc ks T (mkF m pc Ls (.long x :: .int j :: .ref a :: st)) := by
  subst hp hvs; obtain ⟨meth, c, locs, X, N, e0, E, hx, hb, hml, hown, r⟩ := X; subst hb
  have F0 := F
  obtain ⟨cl, A, q⟩ := F
  obtain ⟨T', h', X', e', W, stp⟩ := stJ X hx r.2.2.2 e0 A (Ar.inb q hj hl) (g := mkF m pc Ls (.long x :: .int j :: .ref a :: st)) rfl rfl hd
  exact (k T' h' ⟨meth, c, _, X', Fr.snoc X' N ha, e', E.wr W ha, hx, rfl, hml, hown, r⟩ W (F0.set W)).go stp
theorem E_castore (X : Sd l Z own nm bytes ml ret R p e s m args below T h cells slots) {a : Addr} {vs vs' : List Value} {j : Int32} {x : Int32} (F : Ar Z h a .char vs) (hj : ¬ j < 0) (hl : j.toNatClampNeg < vs.length) (hvs : vs.set j.toNatClampNeg (.int (nar .char x)) = vs') (ha : Z.heap.size ≤ a) (hd : decode bytes pc = .ok (.castore, 1)) (hp : pc + 1 = pc')
    (k : ∀ T' h', Sd l Z own nm bytes ml ret R p e s m args below T' h' cells slots → Wr h h' a j.toNatClampNeg (.int (nar .char x)) → Ar Z h' a .char vs' → End Z p e below s Q kc ks T' (mkF m pc' Ls st)) : End Z p e below s Q kc ks T (mkF m pc Ls (.int x :: .int j :: .ref a :: st)) := by
  subst hp hvs; obtain ⟨meth, c, locs, X, N, e0, E, hx, hb, hml, hown, r⟩ := X; subst hb
  have F0 := F
  obtain ⟨cl, A, q⟩ := F
  obtain ⟨T', h', X', e', W, stp⟩ := stC X hx r.2.2.2 e0 A (Ar.inb q hj hl) (g := mkF m pc Ls (.int x :: .int j :: .ref a :: st)) rfl rfl hd
  exact (k T' h' ⟨meth, c, _, X', Fr.snoc X' N ha, e', E.wr W ha, hx, rfl, hml, hown, r⟩ W (F0.set W)).go stp
theorem E_bastore (X : Sd l Z own nm bytes ml ret R p e s m args below T h cells slots) {a : Addr} {vs vs' : List Value} {j : Int32} {x : Int32} (F : Ar Z h a .byte vs) (hj : ¬ j < 0) (hl : j.toNatClampNeg < vs.length) (hvs : vs.set j.toNatClampNeg (.int (nar .byte x)) = vs') (ha : Z.heap.size ≤ a) (hd : decode bytes pc = .ok (.bastore, 1)) (hp : pc + 1 = pc')
    (k : ∀ T' h', Sd l Z own nm bytes ml ret R p e s m args below T' h' cells slots → Wr h h' a j.toNatClampNeg (.int (nar .byte x)) → Ar Z h' a .byte vs' → End Z p e below s Q kc ks T' (mkF m pc' Ls st)) : End Z p e below s Q kc ks T (mkF m pc Ls (.int x :: .int j :: .ref a :: st)) := by
  subst hp hvs; obtain ⟨meth, c, locs, X, N, e0, E, hx, hb, hml, hown, r⟩ := X; subst hb
  have F0 := F
  obtain ⟨cl, A, q⟩ := F
  obtain ⟨T', h', X', e', W, stp⟩ := stB X hx r.2.2.2 e0 A (Ar.inb q hj hl) (g := mkF m pc Ls (.int x :: .int j :: .ref a :: st)) rfl rfl hd
  exact (k T' h' ⟨meth, c, _, X', Fr.snoc X' N ha, e', E.wr W ha, hx, rfl, hml, hown, r⟩ W (F0.set W)).go stp
theorem E_bastore_Z (X : Sd l Z own nm bytes ml ret R p e s m args below T h cells slots) {a : Addr} {vs vs' : List Value} {j : Int32} {x : Int32} (F : Ar Z h a .boolean vs) (hj : ¬ j < 0) (hl : j.toNatClampNeg < vs.length) (hvs : vs.set j.toNatClampNeg (.int (nar .boolean x)) = vs') (ha : Z.heap.size ≤ a) (hd : decode bytes pc = .ok (.bastore, 1)) (hp : pc + 1 = pc')
    (k : ∀ T' h', Sd l Z own nm bytes ml ret R p e s m args below T' h' cells slots → Wr h h' a j.toNatClampNeg (.int (nar .boolean x)) → Ar Z h' a .boolean vs' → End Z p e below s Q kc ks T' (mkF m pc' Ls st)) : End Z p e below s Q kc ks T (mkF m pc Ls (.int x :: .int j :: .ref a :: st)) := by
  subst hp hvs; obtain ⟨meth, c, locs, X, N, e0, E, hx, hb, hml, hown, r⟩ := X; subst hb
  have F0 := F
  obtain ⟨cl, A, q⟩ := F
  obtain ⟨T', h', X', e', W, stp⟩ := stZ X hx r.2.2.2 e0 A (Ar.inb q hj hl) (g := mkF m pc Ls (.int x :: .int j :: .ref a :: st)) rfl rfl hd
  exact (k T' h' ⟨meth, c, _, X', Fr.snoc X' N ha, e', E.wr W ha, hx, rfl, hml, hown, r⟩ W (F0.set W)).go stp
theorem E_clone (X : Sd l Z own nm bytes ml ret R p e s m args below T h cells slots) {ad : String} {i cap W : Nat} {a : Addr} {ty : FieldType} {vs : List Value} {cells' slots' : Nat} (w1 : (Jvm.Cond.methodLink own i ⟨ad, "clone", "()Ljava/lang/Object;"⟩).before a0 Z = true) (w2 : (Jvm.Cond.sameMethod ad "java/lang/Object" "clone" "()Ljava/lang/Object;").before a0 Z = true) (w3 : (Jvm.Cond.native ⟨"java/lang/Object", "clone", "()Ljava/lang/Object;"⟩).before a0 Z = true)
    (w4 : (Jvm.Cond.instanceMethod ⟨"java/lang/Object", "clone", "()Ljava/lang/Object;"⟩).before a0 Z = true) (w5 : (Jvm.Cond.selects ad ⟨ad, "clone", "()Ljava/lang/Object;"⟩ ⟨"java/lang/Object", "clone", "()Ljava/lang/Object;"⟩).before a0 Z = true) (w6 : (Jvm.Cond.castable ad "java/lang/Cloneable").before a0 Z = true) (F : Ar Z h a ty vs) (E1 : Exa Z h a ad) (hfit : ∀ v ∈ vs, fits ty v = true) (hsz : Ls.size = ml) (hd : decode bytes pc = .ok (.invokevirtual i, 3)) (hp : pc + 3 = pc')
    (hf : 1 ≤ R.frames) (hW : (st.map fun v => v.category).sum ≤ W) (hl : W + 14 ≤ R.locals) (hcap : vs.length ≤ cap) (hcc : cells + 1 = cells') (hss : slots + cap = slots') (hc : cells' ≤ R.cells) (hsl : slots' ≤ R.slots)
    (k : ∀ T' h' b, b = h.size → Sd l Z own nm bytes ml ret R p e s m args below T' h' cells' slots' → Ext h h' → Ar Z h' b ty vs → Exa Z h' b ad → End Z p e below s Q kc ks T' (mkF m pc' Ls (.ref b :: st))) : End Z p e below s Q kc ks T (mkF m pc Ls (.ref a :: st)) := by
  subst hp hcc hss; obtain ⟨meth, c, locs, X, N, e0, E, hx, hb, hml, hown, r⟩ := X; subst hb
  obtain ⟨cl, A, q⟩ := F
  have FC : FitC Z cl := fitC_of A fun i hi v hv => hfit v (by rw [q] at hv; exact List.mem_of_getElem? (by simpa using hv))
  obtain ⟨T', h', X', e', E2, A2, A3, stp⟩ := cloneA X hx r.2.2.2 hown w1 w2 w3 w4 w5 w6 e0 A E1 FC (g := mkF m pc Ls (.ref a :: st)) rfl (hsz.trans hml.symm) rfl hd hf (W := W) (cap := cap) (by show 2 * 0 + _ ≤ _; omega) hl (by rw [q]; simpa using hcap) hc hsl
  exact (k T' h' h.size rfl ⟨meth, c, locs, X', N, e', E.trans E2, hx, rfl, hml, hown, r⟩ E2 ⟨_, A2, q⟩ A3).go stp
theorem E_cast (X : Sd l Z own nm bytes ml ret R p e s m args below T h cells slots) {K : String} {i : Nat} {a : Addr} (w : (Jvm.Cond.classLink own i K).before a0 Z = true) (F : Ins Z h a K true) (hd : decode bytes pc = .ok (.checkcast i, 3)) (hp : pc + 3 = pc')
    (k : ∀ T', Sd l Z own nm bytes ml ret R p e s m args below T' h cells slots → End Z p e below s Q kc ks T' (mkF m pc' Ls (.ref a :: st))) : End Z p e below s Q kc ks T (mkF m pc Ls (.ref a :: st)) := by
  subst hp; obtain ⟨meth, c, locs, X, N, e0, E, hx, hb, hml, hown, r⟩ := X; subst hb
  obtain ⟨T', X', e', stp⟩ := castY X hx r.2.2.2 hown w e0 F (g := mkF m pc Ls (.ref a :: st)) rfl rfl hd
  exact (k T' ⟨meth, c, locs, X', N, e', E, hx, rfl, hml, hown, r⟩).go stp
theorem E_instY (X : Sd l Z own nm bytes ml ret R p e s m args below T h cells slots) {K : String} {i : Nat} {a : Addr} (w : (Jvm.Cond.classLink own i K).before a0 Z = true) (F : Ins Z h a K true) (hd : decode bytes pc = .ok (.instanceof i, 3)) (hp : pc + 3 = pc')
    (k : ∀ T', Sd l Z own nm bytes ml ret R p e s m args below T' h cells slots → End Z p e below s Q kc ks T' (mkF m pc' Ls (.int 1 :: st))) : End Z p e below s Q kc ks T (mkF m pc Ls (.ref a :: st)) := by
  subst hp; obtain ⟨meth, c, locs, X, N, e0, E, hx, hb, hml, hown, r⟩ := X; subst hb
  obtain ⟨T', X', e', stp⟩ := instY X hx r.2.2.2 hown w e0 F (g := mkF m pc Ls (.ref a :: st)) rfl rfl hd
  exact (k T' ⟨meth, c, locs, X', N, e', E, hx, rfl, hml, hown, r⟩).go stp
theorem isref_cat {v : Value} (h : v.isRef = true) : v.category = 1 := by rcases ref_cases h with rfl | ⟨a, rfl⟩ <;> rfl
theorem own_irr (x : Int32) : ¬ x < x := by rw [Int32.lt_iff_toInt_lt]; omega
theorem own_irrL (x : Int64) : ¬ x < x := by rw [Int64.lt_iff_toInt_lt]; omega
theorem E_callP (X : Sd l Z own nm bytes ml ret R p e s m args below T h cells slots) {i : Nat} {y : MethodName} {K : String} {bytes' : ByteArray} {ml' : Nat} {ret' : Option FieldType} {rm : Room} {Qc : Option Value → Heap → Prop} {a : Addr} {as : Array Value} {ps : List FieldType} {rr : Option FieldType} {argsL rest : List Value} {W : Nat} {cells' slots' : Nat} (C : Con l Z y bytes' ml' ret' rm as h Qc) (E1 : Exa Z h a K)
    (w1 : (Jvm.Cond.methodLink own i y).before a0 Z = true) (w2 : (Jvm.Cond.instanceMethod y).before a0 Z = true) (ws : (Jvm.Cond.selects y.cls y y).before a0 Z = true) (wp : (Jvm.Cond.privateMethod y).before a0 Z = true) (w3 : (Jvm.Cond.initialized y.cls).before a0 Z = true) (w4 : (Jvm.Cond.code y bytes' ml' ret').before a0 Z = true) (hy : y.cls ≠ "java/lang/invoke/MethodHandle" ∧ y.cls ≠ "java/lang/invoke/VarHandle") (hsz : Ls.size = ml) (has : (.ref a :: argsL).toArray = as) (hpd : parseMethodDescriptor y.desc = some ⟨ps, rr⟩) (hlen : argsL.length = ps.length) (hst : st = argsL.reverse ++ .ref a :: rest)
    (hd : decode bytes pc = .ok (.invokevirtual i, 3)) (hp : pc + 3 = pc') (hW : (rest.map fun v => v.category).sum ≤ W) (hf : rm.frames + 1 ≤ R.frames) (hl : W + (ml' + 11) + rm.locals ≤ R.locals) (hcc : cells + rm.cells = cells') (hss : slots + rm.slots = slots') (hc : cells' ≤ R.cells) (hs : slots' ≤ R.slots)
    (k : ∀ v T' h', Sd l Z own nm bytes ml ret R p e s m args below T' h' cells' slots' → Qc v h' → End Z p e below s Q kc ks T' (mkF m pc' Ls (v.toList ++ rest))) : End Z p e below s Q kc ks T (mkF m pc Ls st) := by
  subst hp hst hcc hss; obtain ⟨meth, c, locs, X, N, e0, E, hx, hb, hml, hown, r⟩ := X; subst hb
  obtain ⟨cq, q1, q2⟩ := E1.cell
  obtain ⟨v, _, ⟨T', L', k', n'⟩, -, X', ⟨Lc, hQ, l1, l2, l3⟩, stp⟩ := X.privateBack hx (y := y) hown (mvT r.2.2.2 w1) (mvT r.2.2.2 w2) (mvT r.2.2.2 ws) (Cond.privateMethod_at (mvP r.2.2.2 wp (args := #[]))) (mvT r.2.2.2 w4) hy (backOf (W := W) (Q := fun v h L => Fr Z.heap.size L ∧ Ext Z.heap h ∧ Qc v h) (C []) r.2.2.2 w4 w3 hf hl) (g := mkF m pc Ls (argsL.reverse ++ .ref a :: rest)) rfl (hsz.trans hml.symm) (Steps.refl _) (a := a) (by rw [e0]; exact q1) q2 (argsL := argsL) (rest := rest) (lenOf hpd hlen) rfl (by show 2 * 0 + _ ≤ _; omega) hd (fun _ _ => ⟨has, e0, hc, hs⟩)
  dsimp only [Pt.U, Pt.locs, Pt.cells, Pt.slots] at X' l1 l2 l3 stp hQ
  subst l1 l2 l3
  exact (k v T' T'.heap ⟨meth, c, _, X', Fr.app N hQ.1, rfl, hQ.2.1, hx, rfl, hml, hown, r⟩ hQ.2.2).go fun _ q => stp.trans q
theorem E_callU (X : Sd l Z own nm bytes ml ret R p e s m args below T h cells slots) {i : Nat} {x y : MethodName} {K : String} {bytes' : ByteArray} {ml' : Nat} {ret' : Option FieldType} {rm : Room} {Qc : Option Value → Heap → Prop} {a : Addr} {as : Array Value} {ps : List FieldType} {rr : Option FieldType} {argsL rest : List Value} {W : Nat} {cells' slots' : Nat} (C : Con l Z y bytes' ml' ret' rm as h Qc) (E1 : Exa Z h a K)
    (w1 : (Jvm.Cond.methodLink own i x).before a0 Z = true) (wm : (Jvm.Cond.sameMethod x.cls y.cls x.name x.desc).before a0 Z = true) (wd : (Jvm.Cond.declares ⟨y.cls, x.name, x.desc⟩).before a0 Z = true) (ws : (Jvm.Cond.selects K x y).before a0 Z = true) (w2 : (Jvm.Cond.instanceMethod y).before a0 Z = true) (w3 : (Jvm.Cond.initialized y.cls).before a0 Z = true) (w4 : (Jvm.Cond.code y bytes' ml' ret').before a0 Z = true) (hy : y.cls ≠ "java/lang/invoke/MethodHandle" ∧ y.cls ≠ "java/lang/invoke/VarHandle") (hsz : Ls.size = ml) (has : (.ref a :: argsL).toArray = as) (hpd : parseMethodDescriptor x.desc = some ⟨ps, rr⟩) (hlen : argsL.length = ps.length) (hst : st = argsL.reverse ++ .ref a :: rest)
    (hd : decode bytes pc = .ok (.invokevirtual i, 3)) (hp : pc + 3 = pc') (hW : (rest.map fun v => v.category).sum ≤ W) (hf : rm.frames + 1 ≤ R.frames) (hl : W + (ml' + 11) + rm.locals ≤ R.locals) (hcc : cells + rm.cells = cells') (hss : slots + rm.slots = slots') (hc : cells' ≤ R.cells) (hs : slots' ≤ R.slots)
    (k : ∀ v T' h', Sd l Z own nm bytes ml ret R p e s m args below T' h' cells' slots' → Qc v h' → End Z p e below s Q kc ks T' (mkF m pc' Ls (v.toList ++ rest))) : End Z p e below s Q kc ks T (mkF m pc Ls st) := by
  subst hp hst hcc hss; obtain ⟨meth, c, locs, X, N, e0, E, hx, hb, hml, hown, r⟩ := X; subst hb
  obtain ⟨cq, kq, qa, qb, qc⟩ := isOf r.2.2.2 e0 E1
  obtain ⟨v, _, ⟨T', L', k', n'⟩, -, X', ⟨Lc, hQ, l1, l2, l3⟩, stp⟩ := X.virtualBackUp hx (x := x) (y := y) (owner := y.cls) hown (mvT r.2.2.2 w1) (mvT r.2.2.2 wm) (mvT r.2.2.2 wd) hy (mvT r.2.2.2 ws) (mvT r.2.2.2 w2) (backOf (W := W) (Q := fun v h L => Fr Z.heap.size L ∧ Ext Z.heap h ∧ Qc v h) (C []) r.2.2.2 w4 w3 hf hl) qa qc (g := mkF m pc Ls (argsL.reverse ++ .ref a :: rest)) rfl (hsz.trans hml.symm) (Steps.refl _) (argsL := argsL) (rest := rest) (lenOf hpd hlen) rfl (by show 2 * 0 + _ ≤ _; omega) hd (fun _ _ => ⟨has, e0, hc, hs⟩)
  dsimp only [Pt.U, Pt.locs, Pt.cells, Pt.slots] at X' l1 l2 l3 stp hQ
  subst l1 l2 l3
  exact (k v T' T'.heap ⟨meth, c, _, X', Fr.app N hQ.1, rfl, hQ.2.1, hx, rfl, hml, hown, r⟩ hQ.2.2).go fun _ q => stp.trans q
theorem E_eqI {x z : Int32} (q : x = z) (k : End Z p e below s Q kc ks T (mkF m pc Ls (.int z :: st))) : End Z p e below s Q kc ks T (mkF m pc Ls (.int x :: st)) := by subst q; exact k
theorem E_eqJ {x z : Int64} (q : x = z) (k : End Z p e below s Q kc ks T (mkF m pc Ls (.long z :: st))) : End Z p e below s Q kc ks T (mkF m pc Ls (.long x :: st)) := by subst q; exact k
theorem E_eqV {x z : Value} (q : x = z) (k : End Z p e below s Q kc ks T (mkF m pc Ls (z :: st))) : End Z p e below s Q kc ks T (mkF m pc Ls (x :: st)) := by subst q; exact k
/-! from the case's words -/
theorem own_eq {first : State} {o : Option Outcome} {idx : List Nat} {a b : Term} (h : (Jvm.Cond.eq a b).value args first o s idx = some true) : ∃ v, a.eval args first o idx s = some v ∧ b.eval args first o idx s = some v := by
  simp only [Cond.value] at h
  split at h <;> simp_all
theorem own_exa {t : Term} {K : String} (h : (Jvm.Cond.exactly t K).value args s none s [] = some true) : ∃ a, t.eval args s none [] s = some (.ref a) ∧ Exa s s.heap a K := by
  obtain ⟨a, c, cell, k, e1, r⟩ := Cond.exactly_spec (Cond.before_iff.mpr h)
  exact ⟨a, e1, Exa.start e1 h⟩
theorem own_eqi {t u : Term} {v : Value} (h : (Jvm.Cond.eq t u).value args s none s [] = some true) (hu : u.eval args s none [] s = some v) : t.eval args s none [] s = some v := by
  obtain ⟨w, h1, h2⟩ := own_eq h
  rw [h1, ← h2, hu]
theorem own_fld {t : Term} {C n d : String} {v : Value} {a : Addr} (ev : t.eval args s none [] s = some (.ref a)) (h : (Term.field t C n d).eval args s none [] s = some v) : Fld s s.heap a C n d v :=
  Fld.start (by simpa [Term.eval, ev] using h)
theorem own_arr {t : Term} {ty : FieldType} {a : Addr} (ev : t.eval args s none [] s = some (.ref a)) (h : (Jvm.Cond.arrayOf t ty).value args s none s [] = some true) : ∃ c, Arr s s.heap a c ty ∧ s.arrayAt? a = some c := by
  obtain ⟨c, A⟩ := Arr.start ev h
  exact ⟨c, A, A.fin (Vm.Alike.refl _)⟩
theorem own_len {t : Term} {a : Addr} {c : Cell} {n : Int32} (ev : t.eval args s none [] s = some (.ref a)) (hc : s.arrayAt? a = some c) (h : (Term.length t).eval args s none [] s = some (.int n)) : c.slots.size = n.toNatClampNeg := by
  simp only [Term.eval, ev, hc, Option.bind_eq_bind, Option.bind_some] at h
  split at h
  · rename_i q
    have h := Value.int.inj (Option.some.inj h)
    rw [← h]
    have h2 := len_toInt q
    show _ = (Int32.toInt _).toNat
    rw [h2]; rfl
  · cases h
theorem own_el {t : Term} {a : Addr} {c : Cell} {k : Int32} {v : Value} (ev : t.eval args s none [] s = some (.ref a)) (hc : s.arrayAt? a = some c) (h : (Term.elem t (.int k)).eval args s none [] s = some v) : c.slots[k.toNatClampNeg]? = some v := by
  simp only [Term.eval, ev, hc, Option.bind_eq_bind, Option.bind_some] at h
  split at h
  · cases h
  · exact h
theorem own_ar {a : Addr} {c : Cell} {ty : FieldType} {vs : List Value} (A : Arr Z h a c ty) (hs : c.slots.size = vs.length) (H : HasL c 0 vs) : Ar Z h a ty vs := by
  refine ⟨c, A, ?_⟩
  apply Array.ext'
  apply List.ext_getElem?
  intro i
  by_cases hi : i < vs.length
  · have := HasL.at (dv := .null) vs 0 H i hi
    rw [Nat.zero_add] at this
    simp only [List.getElem?_toArray, Array.getElem?_toList] at *
    rw [this, List.getD_eq_getElem?_getD, List.getElem?_eq_getElem hi]; rfl
  · rw [List.getElem?_eq_none (by simpa [hs] using Nat.le_of_not_lt hi), List.getElem?_eq_none (by simpa using Nat.le_of_not_lt hi)]
theorem E_ldcF (X : Sd l Z own nm bytes ml ret R p e s m args below T h cells slots) {i : Nat} {b : UInt32} (w : (Jvm.Cond.constantFloat own i b).before a0 Z = true) (hd : decode bytes pc = .ok (.ldc i, 2)) (hp : pc + 2 = pc') (k : End Z p e below s Q kc ks T (mkF m pc' Ls (.float b :: st))) : End Z p e below s Q kc ks T (mkF m pc Ls st) := by
  subst hp; obtain ⟨meth, c, locs, X, N, e0, E, hx, hb, hml, hown, hnm, hret, hlk, hZ⟩ := X; subst hb
  obtain ⟨kk, cf, hk, hcf, hc⟩ := Cond.constantFloat_spec hown (mvT (args := args) hZ w)
  exact k.go (X.ldcFloat hx hk hcf hc (g := mkF m pc Ls st) rfl hd)
/-! arrays of references, with what they take -/
def ArR (Z : State) (h : Heap) (a : Addr) (ty : FieldType) (C : String) (vs : List Value) : Prop := ∃ c : Cell, Arr Z h a c ty ∧ c.slots = vs.toArray ∧ (Ovr Z c.cls C ∨ ∃ t, OvrA Z c.cls t C)
section ArRFacts
variable {h' : Heap} {a b y : Addr} {ty : FieldType} {C : String} {vs : List Value} {ws : List Addr} {v : Value} {sl : Nat}
theorem ArR.ar (F : ArR Z h a ty C vs) : Ar Z h a ty vs := by obtain ⟨c, A, r, -⟩ := F; exact ⟨c, A, r⟩
theorem ArR.lt (F : ArR Z h a ty C vs) : a < h.size := F.ar.lt
theorem ArR.ext (F : ArR Z h a ty C vs) (E : Ext h h') : ArR Z h' a ty C vs := by obtain ⟨c, A, r⟩ := F; exact ⟨c, A.ext E, r⟩
theorem ArR.other (F : ArR Z h b ty C vs) (W : Wr h h' a sl v) (q : b ≠ a) : ArR Z h' b ty C vs := by obtain ⟨c, A, r⟩ := F; exact ⟨c, A.other W q, r⟩
theorem ArR.keep (F : ArR Z h a ty C vs) (K : Keep h h' ws) (q : a ∉ ws) : ArR Z h' a ty C vs := by obtain ⟨c, A, r⟩ := F; exact ⟨c, ⟨K.2.1 a c A.1 q, A.2⟩, r⟩
theorem ArR.set (F : ArR Z h a ty C vs) (W : Wr h h' a sl v) : ArR Z h' a ty C (vs.set sl v) := by
  obtain ⟨c, A, r, O⟩ := F
  exact ⟨_, A.same W, by simp [Cell.setSlot, r], O⟩
theorem ArR.sto (F : ArR Z h a ty C vs) (I : Ins Z h y C true) : Sto Z h a (.ref y) := by
  obtain ⟨c, A, -, O | ⟨t, O⟩⟩ := F
  · exact Sto.of A O I
  · exact Sto.ofVA A rfl O I
end ArRFacts
theorem E_newRA (X : Sd l Z own nm bytes ml ret R p e s m args below T h cells slots) {C : String} {ty : FieldType} {i cap : Nat} {n : Int32} {vs : List Value} {cells' slots' : Nat} (hC : (FieldType.array ty).toString = C) (w1 : (Jvm.Cond.classLink own i C).before a0 Z = true) (w2 : (Jvm.Cond.arrayOver (.array ty)).before a0 Z = true) (hd : decode bytes pc = .ok (.anewarray i, 3)) (hp : pc + 3 = pc') (hn : ¬ n < 0) (hcap : n.toNatClampNeg ≤ cap) (hb8 : cap * 8 ≤ 536870912) (hvs : List.replicate n.toNatClampNeg Value.null = vs) (hcc : cells + 1 = cells') (hss : slots + cap = slots') (hc : cells' ≤ R.cells) (hl : slots' ≤ R.slots)
    (k : ∀ T' h' a, a = h.size → Sd l Z own nm bytes ml ret R p e s m args below T' h' cells' slots' → Ext h h' → ArR Z h' a (.array ty) C vs → End Z p e below s Q kc ks T' (mkF m pc' Ls (.ref a :: st))) : End Z p e below s Q kc ks T (mkF m pc Ls (.int n :: st)) := by
  subst hp hcc hss hvs; obtain ⟨meth, c, locs, X, N, e0, E, hx, hb, hml, hown, r⟩ := X; subst hb
  obtain ⟨T', h', cA, X', e', E2, A2, -, O2, stp⟩ := newRA X hx r.2.2.2 hown hC w1 w2 e0 (g := mkF m pc Ls (.int n :: st)) rfl hd rfl hn hcap hb8 hc hl rfl
  exact (k T' h' h.size rfl ⟨meth, c, locs, X', N, e', E.trans E2, hx, rfl, hml, hown, r⟩ E2 ⟨_, A2, by simp [newA, defaultValue], Or.inr ⟨_, O2⟩⟩).go stp
theorem E_newR (X : Sd l Z own nm bytes ml ret R p e s m args below T h cells slots) {C : String} {i cap : Nat} {n : Int32} {vs : List Value} {cells' slots' : Nat} (w1 : (Jvm.Cond.classLink own i C).before a0 Z = true) (w2 : (Jvm.Cond.arrayOver (.object C)).before a0 Z = true) (hd : decode bytes pc = .ok (.anewarray i, 3)) (hp : pc + 3 = pc') (hn : ¬ n < 0) (hcap : n.toNatClampNeg ≤ cap) (hb8 : cap * 8 ≤ 536870912) (hvs : List.replicate n.toNatClampNeg Value.null = vs) (hcc : cells + 1 = cells') (hss : slots + cap = slots') (hc : cells' ≤ R.cells) (hl : slots' ≤ R.slots)
    (k : ∀ T' h' a, a = h.size → Sd l Z own nm bytes ml ret R p e s m args below T' h' cells' slots' → Ext h h' → ArR Z h' a (.object C) C vs → End Z p e below s Q kc ks T' (mkF m pc' Ls (.ref a :: st))) : End Z p e below s Q kc ks T (mkF m pc Ls (.int n :: st)) := by
  subst hp hcc hss hvs; obtain ⟨meth, c, locs, X, N, e0, E, hx, hb, hml, hown, r⟩ := X; subst hb
  obtain ⟨T', h', cA, X', e', E2, A2, O2, stp⟩ := newR X hx r.2.2.2 hown w1 w2 e0 (g := mkF m pc Ls (.int n :: st)) rfl hd rfl hn hcap hb8 hc hl
  exact (k T' h' h.size rfl ⟨meth, c, locs, X', N, e', E.trans E2, hx, rfl, hml, hown, r⟩ E2 ⟨_, A2, by simp [newA, defaultValue], Or.inl O2⟩).go stp
theorem E_aastore (X : Sd l Z own nm bytes ml ret R p e s m args below T h cells slots) {a y : Addr} {ty : FieldType} {C : String} {vs vs' : List Value} {j : Int32} (F : ArR Z h a ty C vs) (I : Ins Z h y C true) (hty : ty.isReference = true) (hj : ¬ j < 0) (hl : j.toNatClampNeg < vs.length) (hvs : vs.set j.toNatClampNeg (.ref y) = vs') (ha : Z.heap.size ≤ a) (hd : decode bytes pc = .ok (.aastore, 1)) (hp : pc + 1 = pc')
    (k : ∀ T' h', Sd l Z own nm bytes ml ret R p e s m args below T' h' cells slots → Wr h h' a j.toNatClampNeg (.ref y) → ArR Z h' a ty C vs' → End Z p e below s Q kc ks T' (mkF m pc' Ls st)) : End Z p e below s Q kc ks T (mkF m pc Ls (.ref y :: .int j :: .ref a :: st)) := by
  subst hp hvs; obtain ⟨meth, c, locs, X, N, e0, E, hx, hb, hml, hown, r⟩ := X; subst hb
  have F0 := F
  have S := F.sto I
  obtain ⟨cl, A, q, -⟩ := F
  obtain ⟨T', h', X', e', W, stp⟩ := stR X hx r.2.2.2 e0 A (Ar.inb q hj hl) hty S (g := mkF m pc Ls (.ref y :: .int j :: .ref a :: st)) rfl rfl hd
  exact (k T' h' ⟨meth, c, _, X', Fr.snoc X' N ha, e', E.wr W ha, hx, rfl, hml, hown, r⟩ W (F0.set W)).go stp
theorem E_ldcwI (X : Sd l Z own nm bytes ml ret R p e s m args below T h cells slots) {i : Nat} {v : Int32} (w : (Jvm.Cond.constant own i v).before a0 Z = true) (hd : decode bytes pc = .ok (.ldc_w i, 3)) (hp : pc + 3 = pc') (k : End Z p e below s Q kc ks T (mkF m pc' Ls (.int v :: st))) : End Z p e below s Q kc ks T (mkF m pc Ls st) := by
  subst hp; obtain ⟨meth, c, locs, X, N, e0, E, hx, hb, hml, hown, hnm, hret, hlk, hZ⟩ := X; subst hb
  exact k.go (X.ldcwInt hx hown (mvT hZ w) (g := mkF m pc Ls st) rfl hd)
theorem Ar.arv {a : Addr} {ty : FieldType} {vs : List Value} {z : Int32} (dv : Value) (F : Ar Z h a ty vs) (hf : ∀ v ∈ vs, fits ty v = true) (hn : vs.length = z.toNatClampNeg) (hz : ¬ z < 0) : ∃ k, Arv Z h a k ty z vs dv := by
  obtain ⟨c, A, r⟩ := F
  have hs : c.slots.size = vs.length := by rw [r]; simp
  refine ⟨c.cls, c, A, rfl, by rw [hs]; exact hn, hz, fun i hi => ?_, fun i hi => ?_⟩
  · rw [hs] at hi
    rw [r, List.getD_eq_getElem?_getD]; simp [hi]
  · rw [hs] at hi
    rw [List.getD_eq_getElem?_getD, List.getElem?_eq_getElem hi]
    exact hf _ (List.getElem_mem hi)
theorem Ar.of_arv {a : Addr} {ty : FieldType} {vs : List Value} {z : Int32} {dv : Value} {k : ClassId} (F : Arv Z h a k ty z vs dv) (hn : vs.length = z.toNatClampNeg) : Ar Z h a ty vs := by
  obtain ⟨c, A, -, hs, -, H, -⟩ := F
  refine ⟨c, A, ?_⟩
  apply Array.ext'
  apply List.ext_getElem?
  intro i
  by_cases hi : i < vs.length
  · have := H i (by omega)
    rw [Array.getElem?_toList, this, List.getD_eq_getElem?_getD, List.getElem?_eq_getElem hi]
    simp [hi]
  · rw [List.getElem?_eq_none (by rw [Array.length_toList]; omega), List.getElem?_eq_none (by simpa using Nat.le_of_not_lt hi)]
theorem E_acopy (X : Sd l Z own nm bytes ml ret R p e s m args below T h cells slots) {i W : Nat} {a b : Addr} {ty : FieldType} {vs vd vd2 : List Value} {sp dp nn z z' : Int32} (w1 : (Jvm.Cond.methodLink own i Jvm.Stand.acN).before a0 Z = true) (w2 : (Jvm.Cond.native Jvm.Stand.acN).before a0 Z = true) (w3 : (Jvm.Cond.static Jvm.Stand.acN).before a0 Z = true) (w4 : (Jvm.Cond.initialized "java/lang/System").before a0 Z = true)
    (A : Ar Z h a ty vs) (B : Ar Z h b ty vd) (hty : refKind ty = false) (fa : ∀ v ∈ vs, fits ty v = true) (fb : ∀ v ∈ vd, fits ty v = true) (za : vs.length = z.toNatClampNeg) (hz : ¬ z < 0) (zb : vd.length = z'.toNatClampNeg) (hz' : ¬ z' < 0) (h1 : ¬ sp < 0) (h2 : ¬ dp < 0) (h3 : ¬ nn < 0) (h4 : sp.toNatClampNeg + nn.toNatClampNeg ≤ vs.length) (h5 : dp.toNatClampNeg + nn.toNatClampNeg ≤ vd.length)
    (hvd : vd.take dp.toNatClampNeg ++ ((List.range nn.toNatClampNeg).map fun i => vs.getD (sp.toNatClampNeg + i) .null) ++ vd.drop (dp.toNatClampNeg + nn.toNatClampNeg) = vd2) (hb0 : Z.heap.size ≤ b) (hsz : Ls.size = ml) (hd : decode bytes pc = .ok (.invokestatic i, 3)) (hp : pc + 3 = pc') (hf : 1 ≤ R.frames) (hW : (st.map fun v => v.category).sum ≤ W) (hlo : W + (nativeFrameWords "java/lang/System" "arraycopy" 5 + 11) ≤ R.locals)
    (k : ∀ T' h', Sd l Z own nm bytes ml ret R p e s m args below T' h' cells slots → Keep h h' [b] → Ar Z h' b ty vd2 → End Z p e below s Q kc ks T' (mkF m pc' Ls st)) : End Z p e below s Q kc ks T (mkF m pc Ls (.int nn :: .int dp :: .ref b :: .int sp :: .ref a :: st)) := by
  subst hp hvd; obtain ⟨meth, c, locs, X, N, e0, E, hx, hb, hml, hown, r⟩ := X; subst hb
  obtain ⟨k1, A1⟩ := A.arv .null fa za hz
  obtain ⟨k2, B1⟩ := B.arv .null fb zb hz'
  obtain ⟨T', h', L, X', e', N', K, B2, stp⟩ := cpA X hx r.2.2.2 hown w1 w2 w3 w4 e0 A1 B1 (Or.inl ⟨rfl, hty⟩) h1 h2 h3 (by rw [← za]; exact h4) (by rw [← zb]; exact h5) rfl h5 N hb0 (g := mkF m pc Ls (.int nn :: .int dp :: .ref b :: .int sp :: .ref a :: st)) rfl (hsz.trans hml.symm) rfl hd hf (W := W) (by show 2 * 0 + _ ≤ _; omega) hlo
  refine (k T' h' ⟨meth, c, _, X', N', e', E.keep K (allS hb0 all0), hx, rfl, hml, hown, r⟩ K (Ar.of_arv B2 ?_)).go stp
  simp; omega
end Own
end Jvm.RoadKit
namespace Jvm.Pilot.@@N@@
open Jvm Jvm.ClassFile Sem Op Lib Jvm.Free Jvm.Stand Jvm.LawKit Jvm.RoadKit Bundle Jvm.Pilot.@@N@@.Jvm.D
theorem w_0 {a0 : Array Value} {Z : State} (hw : ∀ d ∈ tables_1, d.before a0 Z = true) : (Jvm.Cond.methodLink "com/example/flowmote/flowmote/ActionTypeIsPlainPinLaw" (34 : Nat) ({ cls := "com/example/flowmote/flowmote/ActionTypeIsPlainPinLaw", name := "pick", desc := "(I)Lcom/example/flowmote/flowmote/ActionType;" } : Jvm.MethodName)).before a0 Z = true := hw _ (List.mem_of_getElem? (i := 0) rfl)
theorem w_1 {a0 : Array Value} {Z : State} (hw : ∀ d ∈ tables_1, d.before a0 Z = true) : (Jvm.Cond.static ({ cls := "com/example/flowmote/flowmote/ActionTypeIsPlainPinLaw", name := "pick", desc := "(I)Lcom/example/flowmote/flowmote/ActionType;" } : Jvm.MethodName)).before a0 Z = true := hw _ (List.mem_of_getElem? (i := 1) rfl)
theorem w_2 {a0 : Array Value} {Z : State} (hw : ∀ d ∈ tables_1, d.before a0 Z = true) : (Jvm.Cond.initialized "com/example/flowmote/flowmote/ActionTypeIsPlainPinLaw").before a0 Z = true := hw _ (List.mem_of_getElem? (i := 2) rfl)
theorem w_3 {a0 : Array Value} {Z : State} (hw : ∀ d ∈ tables_1, d.before a0 Z = true) : (Jvm.Cond.code ({ cls := "com/example/flowmote/flowmote/ActionTypeIsPlainPinLaw", name := "pick", desc := "(I)Lcom/example/flowmote/flowmote/ActionType;" } : Jvm.MethodName) method_2_code (1 : Nat) (Option.some (Jvm.ClassFile.FieldType.object "com/example/flowmote/flowmote/ActionType"))).before a0 Z = true := hw _ (List.mem_of_getElem? (i := 3) rfl)
theorem w_4 {a0 : Array Value} {Z : State} (hw : ∀ d ∈ tables_1, d.before a0 Z = true) : (Jvm.Cond.fieldLink "com/example/flowmote/flowmote/ActionTypeIsPlainPinLaw" (7 : Nat) "com/example/flowmote/flowmote/ActionType" "FORWARD_U" "Lcom/example/flowmote/flowmote/ActionType;").before a0 Z = true := hw _ (List.mem_of_getElem? (i := 4) rfl)
theorem w_5 {a0 : Array Value} {Z : State} (hw : ∀ d ∈ tables_1, d.before a0 Z = true) : (Jvm.Cond.initialized "com/example/flowmote/flowmote/ActionType").before a0 Z = true := hw _ (List.mem_of_getElem? (i := 5) rfl)
theorem w_6 {a0 : Array Value} {Z : State} (hw : ∀ d ∈ tables_1, d.before a0 Z = true) : (Jvm.Cond.laysStatic "com/example/flowmote/flowmote/ActionType" "FORWARD_U" "Lcom/example/flowmote/flowmote/ActionType;").before a0 Z = true := hw _ (List.mem_of_getElem? (i := 6) rfl)
theorem w_7 {a0 : Array Value} {Z : State} (hw : ∀ d ∈ tables_1, d.before a0 Z = true) : (Jvm.Cond.methodLink "com/example/flowmote/flowmote/ActionTypeIsPlainPinLaw" (40 : Nat) ({ cls := "com/example/flowmote/flowmote/ActionType", name := "isPlain", desc := "()Z" } : Jvm.MethodName)).before a0 Z = true := hw _ (List.mem_of_getElem? (i := 7) rfl)
theorem w_8 {a0 : Array Value} {Z : State} (hw : ∀ d ∈ tables_1, d.before a0 Z = true) : (Jvm.Cond.declares ({ cls := "com/example/flowmote/flowmote/ActionType", name := "isPlain", desc := "()Z" } : Jvm.MethodName)).before a0 Z = true := hw _ (List.mem_of_getElem? (i := 8) rfl)
theorem w_9 {a0 : Array Value} {Z : State} (hw : ∀ d ∈ tables_1, d.before a0 Z = true) : (Jvm.Cond.instanceMethod ({ cls := "com/example/flowmote/flowmote/ActionType", name := "isPlain", desc := "()Z" } : Jvm.MethodName)).before a0 Z = true := hw _ (List.mem_of_getElem? (i := 9) rfl)
theorem w_10 {a0 : Array Value} {Z : State} (hw : ∀ d ∈ tables_1, d.before a0 Z = true) : (Jvm.Cond.selects "com/example/flowmote/flowmote/ActionType" ({ cls := "com/example/flowmote/flowmote/ActionType", name := "isPlain", desc := "()Z" } : Jvm.MethodName) ({ cls := "com/example/flowmote/flowmote/ActionType", name := "isPlain", desc := "()Z" } : Jvm.MethodName)).before a0 Z = true := hw _ (List.mem_of_getElem? (i := 10) rfl)
theorem w_11 {a0 : Array Value} {Z : State} (hw : ∀ d ∈ tables_1, d.before a0 Z = true) : (Jvm.Cond.code ({ cls := "com/example/flowmote/flowmote/ActionType", name := "isPlain", desc := "()Z" } : Jvm.MethodName) prog_2_method_8_code (1 : Nat) (Option.some Jvm.ClassFile.FieldType.boolean)).before a0 Z = true := hw _ (List.mem_of_getElem? (i := 11) rfl)
theorem w_12 {a0 : Array Value} {Z : State} (hw : ∀ d ∈ tables_1, d.before a0 Z = true) : (Jvm.Cond.fieldLink "com/example/flowmote/flowmote/ActionType" (57 : Nat) "com/example/flowmote/flowmote/ActionType" "fixedValue" "[B").before a0 Z = true := hw _ (List.mem_of_getElem? (i := 12) rfl)
theorem w_14 {a0 : Array Value} {Z : State} (hw : ∀ d ∈ tables_1, d.before a0 Z = true) : (Jvm.Cond.fieldLink "com/example/flowmote/flowmote/ActionTypeIsPlainPinLaw" (19 : Nat) "com/example/flowmote/flowmote/ActionType" "ASK" "Lcom/example/flowmote/flowmote/ActionType;").before a0 Z = true := hw _ (List.mem_of_getElem? (i := 14) rfl)
theorem w_15 {a0 : Array Value} {Z : State} (hw : ∀ d ∈ tables_1, d.before a0 Z = true) : (Jvm.Cond.laysStatic "com/example/flowmote/flowmote/ActionType" "ASK" "Lcom/example/flowmote/flowmote/ActionType;").before a0 Z = true := hw _ (List.mem_of_getElem? (i := 15) rfl)
theorem w_16 {a0 : Array Value} {Z : State} (hw : ∀ d ∈ tables_1, d.before a0 Z = true) : (Jvm.Cond.methodLink "com/example/flowmote/flowmote/ActionTypeIsPlainPinLaw" (44 : Nat) ({ cls := "com/example/flowmote/flowmote/ActionType", name := "fixedValue", desc := "()[B" } : Jvm.MethodName)).before a0 Z = true := hw _ (List.mem_of_getElem? (i := 16) rfl)
theorem w_17 {a0 : Array Value} {Z : State} (hw : ∀ d ∈ tables_1, d.before a0 Z = true) : (Jvm.Cond.declares ({ cls := "com/example/flowmote/flowmote/ActionType", name := "fixedValue", desc := "()[B" } : Jvm.MethodName)).before a0 Z = true := hw _ (List.mem_of_getElem? (i := 17) rfl)
theorem w_18 {a0 : Array Value} {Z : State} (hw : ∀ d ∈ tables_1, d.before a0 Z = true) : (Jvm.Cond.instanceMethod ({ cls := "com/example/flowmote/flowmote/ActionType", name := "fixedValue", desc := "()[B" } : Jvm.MethodName)).before a0 Z = true := hw _ (List.mem_of_getElem? (i := 18) rfl)
theorem w_19 {a0 : Array Value} {Z : State} (hw : ∀ d ∈ tables_1, d.before a0 Z = true) : (Jvm.Cond.selects "com/example/flowmote/flowmote/ActionType" ({ cls := "com/example/flowmote/flowmote/ActionType", name := "fixedValue", desc := "()[B" } : Jvm.MethodName) ({ cls := "com/example/flowmote/flowmote/ActionType", name := "fixedValue", desc := "()[B" } : Jvm.MethodName)).before a0 Z = true := hw _ (List.mem_of_getElem? (i := 19) rfl)
theorem w_20 {a0 : Array Value} {Z : State} (hw : ∀ d ∈ tables_1, d.before a0 Z = true) : (Jvm.Cond.code ({ cls := "com/example/flowmote/flowmote/ActionType", name := "fixedValue", desc := "()[B" } : Jvm.MethodName) prog_2_method_9_code (1 : Nat) (Option.some (Jvm.ClassFile.FieldType.array Jvm.ClassFile.FieldType.byte))).before a0 Z = true := hw _ (List.mem_of_getElem? (i := 20) rfl)
theorem w_21 {a0 : Array Value} {Z : State} (hw : ∀ d ∈ tables_1, d.before a0 Z = true) : (Jvm.Cond.methodLink "com/example/flowmote/flowmote/ActionType" (83 : Nat) ({ cls := "[B", name := "clone", desc := "()Ljava/lang/Object;" } : Jvm.MethodName)).before a0 Z = true := hw _ (List.mem_of_getElem? (i := 21) rfl)
theorem w_22 {a0 : Array Value} {Z : State} (hw : ∀ d ∈ tables_1, d.before a0 Z = true) : (Jvm.Cond.sameMethod "[B" "java/lang/Object" "clone" "()Ljava/lang/Object;").before a0 Z = true := hw _ (List.mem_of_getElem? (i := 22) rfl)
theorem w_24 {a0 : Array Value} {Z : State} (hw : ∀ d ∈ tables_1, d.before a0 Z = true) : (Jvm.Cond.instanceMethod ({ cls := "java/lang/Object", name := "clone", desc := "()Ljava/lang/Object;" } : Jvm.MethodName)).before a0 Z = true := hw _ (List.mem_of_getElem? (i := 24) rfl)
theorem w_25 {a0 : Array Value} {Z : State} (hw : ∀ d ∈ tables_1, d.before a0 Z = true) : (Jvm.Cond.selects "[B" ({ cls := "[B", name := "clone", desc := "()Ljava/lang/Object;" } : Jvm.MethodName) ({ cls := "java/lang/Object", name := "clone", desc := "()Ljava/lang/Object;" } : Jvm.MethodName)).before a0 Z = true := hw _ (List.mem_of_getElem? (i := 25) rfl)
theorem w_26 {a0 : Array Value} {Z : State} (hw : ∀ d ∈ tables_1, d.before a0 Z = true) : (Jvm.Cond.native ({ cls := "java/lang/Object", name := "clone", desc := "()Ljava/lang/Object;" } : Jvm.MethodName)).before a0 Z = true := hw _ (List.mem_of_getElem? (i := 26) rfl)
theorem w_27 {a0 : Array Value} {Z : State} (hw : ∀ d ∈ tables_1, d.before a0 Z = true) : (Jvm.Cond.castable "[B" "java/lang/Cloneable").before a0 Z = true := hw _ (List.mem_of_getElem? (i := 27) rfl)
theorem w_28 {a0 : Array Value} {Z : State} (hw : ∀ d ∈ tables_1, d.before a0 Z = true) : (Jvm.Cond.classLink "com/example/flowmote/flowmote/ActionType" (84 : Nat) "[B").before a0 Z = true := hw _ (List.mem_of_getElem? (i := 28) rfl)
theorem w_30 {a0 : Array Value} {Z : State} (hw : ∀ d ∈ tables_1, d.before a0 Z = true) : (Jvm.Cond.fieldLink "com/example/flowmote/flowmote/ActionTypeIsPlainPinLaw" (28 : Nat) "com/example/flowmote/flowmote/ActionType" "MATCH" "Lcom/example/flowmote/flowmote/ActionType;").before a0 Z = true := hw _ (List.mem_of_getElem? (i := 30) rfl)
theorem w_31 {a0 : Array Value} {Z : State} (hw : ∀ d ∈ tables_1, d.before a0 Z = true) : (Jvm.Cond.laysStatic "com/example/flowmote/flowmote/ActionType" "MATCH" "Lcom/example/flowmote/flowmote/ActionType;").before a0 Z = true := hw _ (List.mem_of_getElem? (i := 31) rfl)
theorem w_32 {a0 : Array Value} {Z : State} (hw : ∀ d ∈ tables_1, d.before a0 Z = true) : (Jvm.Cond.fieldLink "com/example/flowmote/flowmote/ActionTypeIsPlainPinLaw" (31 : Nat) "com/example/flowmote/flowmote/ActionType" "RADIO_OFF" "Lcom/example/flowmote/flowmote/ActionType;").before a0 Z = true := hw _ (List.mem_of_getElem? (i := 32) rfl)
theorem w_33 {a0 : Array Value} {Z : State} (hw : ∀ d ∈ tables_1, d.before a0 Z = true) : (Jvm.Cond.laysStatic "com/example/flowmote/flowmote/ActionType" "RADIO_OFF" "Lcom/example/flowmote/flowmote/ActionType;").before a0 Z = true := hw _ (List.mem_of_getElem? (i := 33) rfl)
theorem w_34 {a0 : Array Value} {Z : State} (hw : ∀ d ∈ tables_1, d.before a0 Z = true) : (Jvm.Cond.fieldLink "com/example/flowmote/flowmote/ActionTypeIsPlainPinLaw" (16 : Nat) "com/example/flowmote/flowmote/ActionType" "DROP" "Lcom/example/flowmote/flowmote/ActionType;").before a0 Z = true := hw _ (List.mem_of_getElem? (i := 34) rfl)
theorem w_35 {a0 : Array Value} {Z : State} (hw : ∀ d ∈ tables_1, d.before a0 Z = true) : (Jvm.Cond.laysStatic "com/example/flowmote/flowmote/ActionType" "DROP" "Lcom/example/flowmote/flowmote/ActionType;").before a0 Z = true := hw _ (List.mem_of_getElem? (i := 35) rfl)
theorem w_36 {a0 : Array Value} {Z : State} (hw : ∀ d ∈ tables_1, d.before a0 Z = true) : (Jvm.Cond.fieldLink "com/example/flowmote/flowmote/ActionTypeIsPlainPinLaw" (13 : Nat) "com/example/flowmote/flowmote/ActionType" "FORWARD_B" "Lcom/example/flowmote/flowmote/ActionType;").before a0 Z = true := hw _ (List.mem_of_getElem? (i := 36) rfl)
theorem w_37 {a0 : Array Value} {Z : State} (hw : ∀ d ∈ tables_1, d.before a0 Z = true) : (Jvm.Cond.laysStatic "com/example/flowmote/flowmote/ActionType" "FORWARD_B" "Lcom/example/flowmote/flowmote/ActionType;").before a0 Z = true := hw _ (List.mem_of_getElem? (i := 37) rfl)
theorem w_38 {a0 : Array Value} {Z : State} (hw : ∀ d ∈ tables_1, d.before a0 Z = true) : (Jvm.Cond.fieldLink "com/example/flowmote/flowmote/ActionTypeIsPlainPinLaw" (22 : Nat) "com/example/flowmote/flowmote/ActionType" "FUNCTION" "Lcom/example/flowmote/flowmote/ActionType;").before a0 Z = true := hw _ (List.mem_of_getElem? (i := 38) rfl)
theorem w_39 {a0 : Array Value} {Z : State} (hw : ∀ d ∈ tables_1, d.before a0 Z = true) : (Jvm.Cond.laysStatic "com/example/flowmote/flowmote/ActionType" "FUNCTION" "Lcom/example/flowmote/flowmote/ActionType;").before a0 Z = true := hw _ (List.mem_of_getElem? (i := 39) rfl)
theorem w_40 {a0 : Array Value} {Z : State} (hw : ∀ d ∈ tables_1, d.before a0 Z = true) : (Jvm.Cond.fieldLink "com/example/flowmote/flowmote/ActionTypeIsPlainPinLaw" (25 : Nat) "com/example/flowmote/flowmote/ActionType" "SET" "Lcom/example/flowmote/flowmote/ActionType;").before a0 Z = true := hw _ (List.mem_of_getElem? (i := 40) rfl)
theorem w_41 {a0 : Array Value} {Z : State} (hw : ∀ d ∈ tables_1, d.before a0 Z = true) : (Jvm.Cond.laysStatic "com/example/flowmote/flowmote/ActionType" "SET" "Lcom/example/flowmote/flowmote/ActionType;").before a0 Z = true := hw _ (List.mem_of_getElem? (i := 41) rfl)
def ownPick (k : Int32) (oFORWARD_U oFORWARD_B oDROP oASK oFUNCTION oSET oMATCH oRADIO_OFF : Addr) : Addr := if k = 0 then oFORWARD_U else if k = 1 then oFORWARD_B else if k = 2 then oDROP else if k = 3 then oASK else if k = 4 then oFUNCTION else if k = 5 then oSET else if k = 6 then oMATCH else oRADIO_OFF
theorem own_and7 (x : Int32) : x &&& (7 : Int32) = 0 ∨ x &&& (7 : Int32) = 1 ∨ x &&& (7 : Int32) = 2 ∨ x &&& (7 : Int32) = 3 ∨ x &&& (7 : Int32) = 4 ∨ x &&& (7 : Int32) = 5 ∨ x &&& (7 : Int32) = 6 ∨ x &&& (7 : Int32) = 7 := by
  have h := c_and x 7 (by decide)
  generalize x &&& (7 : Int32) = z at h
  simp only [← Int32.toInt_inj]
  have q0 : (0 : Int32).toInt = 0 := rfl
  have q1 : (1 : Int32).toInt = 1 := rfl
  have q2 : (2 : Int32).toInt = 2 := rfl
  have q3 : (3 : Int32).toInt = 3 := rfl
  have q4 : (4 : Int32).toInt = 4 := rfl
  have q5 : (5 : Int32).toInt = 5 := rfl
  have q6 : (6 : Int32).toInt = 6 := rfl
  have q7 : (7 : Int32).toInt = 7 := rfl
  omega
theorem d1_0 : decode method_2_code 0 = .ok (.iload_n 0, 1) := by decide +kernel
theorem d1_1 : decode method_2_code 1 = .ok (.ifCond .ne 7, 3) := by decide +kernel
theorem d1_4 : decode method_2_code 4 = .ok (.getstatic 7, 3) := by decide +kernel
theorem d1_7 : decode method_2_code 7 = .ok (.areturn, 1) := by decide +kernel
theorem d1_8 : decode method_2_code 8 = .ok (.iload_n 0, 1) := by decide +kernel
theorem d1_9 : decode method_2_code 9 = .ok (.iconst 1, 1) := by decide +kernel
theorem d1_10 : decode method_2_code 10 = .ok (.if_icmp .ne 7, 3) := by decide +kernel
theorem d1_13 : decode method_2_code 13 = .ok (.getstatic 13, 3) := by decide +kernel
theorem d1_16 : decode method_2_code 16 = .ok (.areturn, 1) := by decide +kernel
theorem d1_17 : decode method_2_code 17 = .ok (.iload_n 0, 1) := by decide +kernel
theorem d1_18 : decode method_2_code 18 = .ok (.iconst 2, 1) := by decide +kernel
theorem d1_19 : decode method_2_code 19 = .ok (.if_icmp .ne 7, 3) := by decide +kernel
theorem d1_22 : decode method_2_code 22 = .ok (.getstatic 16, 3) := by decide +kernel
theorem d1_25 : decode method_2_code 25 = .ok (.areturn, 1) := by decide +kernel
theorem d1_26 : decode method_2_code 26 = .ok (.iload_n 0, 1) := by decide +kernel
theorem d1_27 : decode method_2_code 27 = .ok (.iconst 3, 1) := by decide +kernel
theorem d1_28 : decode method_2_code 28 = .ok (.if_icmp .ne 7, 3) := by decide +kernel
theorem d1_31 : decode method_2_code 31 = .ok (.getstatic 19, 3) := by decide +kernel
theorem d1_34 : decode method_2_code 34 = .ok (.areturn, 1) := by decide +kernel
theorem d1_35 : decode method_2_code 35 = .ok (.iload_n 0, 1) := by decide +kernel
theorem d1_36 : decode method_2_code 36 = .ok (.iconst 4, 1) := by decide +kernel
theorem d1_37 : decode method_2_code 37 = .ok (.if_icmp .ne 7, 3) := by decide +kernel
theorem d1_40 : decode method_2_code 40 = .ok (.getstatic 22, 3) := by decide +kernel
theorem d1_43 : decode method_2_code 43 = .ok (.areturn, 1) := by decide +kernel
theorem d1_44 : decode method_2_code 44 = .ok (.iload_n 0, 1) := by decide +kernel
theorem d1_45 : decode method_2_code 45 = .ok (.iconst 5, 1) := by decide +kernel
theorem d1_46 : decode method_2_code 46 = .ok (.if_icmp .ne 7, 3) := by decide +kernel
theorem d1_49 : decode method_2_code 49 = .ok (.getstatic 25, 3) := by decide +kernel
theorem d1_52 : decode method_2_code 52 = .ok (.areturn, 1) := by decide +kernel
theorem d1_53 : decode method_2_code 53 = .ok (.iload_n 0, 1) := by decide +kernel
theorem d1_54 : decode method_2_code 54 = .ok (.bipush 6, 2) := by decide +kernel
theorem d1_56 : decode method_2_code 56 = .ok (.if_icmp .ne 7, 3) := by decide +kernel
theorem d1_59 : decode method_2_code 59 = .ok (.getstatic 28, 3) := by decide +kernel
theorem d1_62 : decode method_2_code 62 = .ok (.areturn, 1) := by decide +kernel
theorem d1_63 : decode method_2_code 63 = .ok (.getstatic 31, 3) := by decide +kernel
theorem d1_66 : decode method_2_code 66 = .ok (.areturn, 1) := by decide +kernel
theorem ef_rm1 (m : MethodId) (x0 : Int32) : entryFrame m #[(.int x0)] 1 = mkF m 0 #[.val (.int x0)] [] := by first | (simp [entryFrame, mkF, argsToLocals, Value.category]; done) | (simp [entryFrame, mkF, argsToLocals, *]; done) | rfl
set_option maxRecDepth 65536 in
set_option maxHeartbeats 2000000 in
theorem rm1 (l : Launch) (Z : State) (a0 : Array Value) (hw : ∀ d ∈ tables_1, d.before a0 Z = true) (k : Int32) (oFORWARD_U : Addr) (oFORWARD_B : Addr) (oDROP : Addr) (oASK : Addr) (oFUNCTION : Addr) (oSET : Addr) (oMATCH : Addr) (oRADIO_OFF : Addr) (r : Addr) (h0 : Heap) (hE : Ext Z.heap h0) (hS0 : Sta Z Z.heap "com/example/flowmote/flowmote/ActionType" "FORWARD_U" "Lcom/example/flowmote/flowmote/ActionType;" (.ref oFORWARD_U)) (hS1 : Sta Z Z.heap "com/example/flowmote/flowmote/ActionType" "FORWARD_B" "Lcom/example/flowmote/flowmote/ActionType;" (.ref oFORWARD_B)) (hS2 : Sta Z Z.heap "com/example/flowmote/flowmote/ActionType" "DROP" "Lcom/example/flowmote/flowmote/ActionType;" (.ref oDROP)) (hS3 : Sta Z Z.heap "com/example/flowmote/flowmote/ActionType" "ASK" "Lcom/example/flowmote/flowmote/ActionType;" (.ref oASK)) (hS4 : Sta Z Z.heap "com/example/flowmote/flowmote/ActionType" "FUNCTION" "Lcom/example/flowmote/flowmote/ActionType;" (.ref oFUNCTION)) (hS5 : Sta Z Z.heap "com/example/flowmote/flowmote/ActionType" "SET" "Lcom/example/flowmote/flowmote/ActionType;" (.ref oSET)) (hS6 : Sta Z Z.heap "com/example/flowmote/flowmote/ActionType" "MATCH" "Lcom/example/flowmote/flowmote/ActionType;" (.ref oMATCH)) (hS7 : Sta Z Z.heap "com/example/flowmote/flowmote/ActionType" "RADIO_OFF" "Lcom/example/flowmote/flowmote/ActionType;" (.ref oRADIO_OFF)) (hr : ownPick k oFORWARD_U oFORWARD_B oDROP oASK oFUNCTION oSET oMATCH oRADIO_OFF = r) :
    Con l Z (⟨"com/example/flowmote/flowmote/ActionTypeIsPlainPinLaw", "pick", "(I)Lcom/example/flowmote/flowmote/ActionType;"⟩ : MethodName) method_2_code 1 (some (.object "com/example/flowmote/flowmote/ActionType")) ({ frames := 0, cells := 0, slots := 0, locals := 0 } : Room) #[(.int k)] h0 (fun vv hh => vv = some (.ref r) ∧ h0 = hh) := by
  refine Con.of (plainFor_of_name (by first | (simp [plainName, overriddenIn]; done) | decide +kernel)) hE ?_
  intro p e s m below T (X : Sd l Z "com/example/flowmote/flowmote/ActionTypeIsPlainPinLaw" "pick" method_2_code 1 (some (.object "com/example/flowmote/flowmote/ActionType")) ({ frames := 0, cells := 0, slots := 0, locals := 0 } : Room) p e s m #[(.int k)] below T h0 0 0)
  refine End.frame (ef_rm1 m k) ?_
  show End Z p e below s _ _ _ _ (mkF m 0 #[.val (.int k)] [])
  refine E_iloadN (pc' := 1) X d1_0 rfl rfl ?_
  refine E_if (pcY := 8) (pcN := 4) X (i0_ne _) d1_1 (by decide) rfl rfl (fun hc1_0 => ?_) (fun hc1_0 => ?_)
  · skip
    refine E_iloadN (pc' := 9) X d1_8 rfl rfl ?_
    refine E_iconst (v := (1 : Int32)) (pc' := 10) X d1_9 rfl rfl ?_
    refine E_icmp (pcY := 17) (pcN := 13) X (ic_ne _ _) d1_10 (by decide) rfl rfl (fun hc10_0 => ?_) (fun hc10_0 => ?_)
    · skip
      refine E_iloadN (pc' := 18) X d1_17 rfl rfl ?_
      refine E_iconst (v := (2 : Int32)) (pc' := 19) X d1_18 rfl rfl ?_
      refine E_icmp (pcY := 26) (pcN := 22) X (ic_ne _ _) d1_19 (by decide) rfl rfl (fun hc19_0 => ?_) (fun hc19_0 => ?_)
      · skip
        refine E_iloadN (pc' := 27) X d1_26 rfl rfl ?_
        refine E_iconst (v := (3 : Int32)) (pc' := 28) X d1_27 rfl rfl ?_
        refine E_icmp (pcY := 35) (pcN := 31) X (ic_ne _ _) d1_28 (by decide) rfl rfl (fun hc28_0 => ?_) (fun hc28_0 => ?_)
        · skip
          refine E_iloadN (pc' := 36) X d1_35 rfl rfl ?_
          refine E_iconst (v := (4 : Int32)) (pc' := 37) X d1_36 rfl rfl ?_
          refine E_icmp (pcY := 44) (pcN := 40) X (ic_ne _ _) d1_37 (by decide) rfl rfl (fun hc37_0 => ?_) (fun hc37_0 => ?_)
          · skip
            refine E_iloadN (pc' := 45) X d1_44 rfl rfl ?_
            refine E_iconst (v := (5 : Int32)) (pc' := 46) X d1_45 rfl rfl ?_
            refine E_icmp (pcY := 53) (pcN := 49) X (ic_ne _ _) d1_46 (by decide) rfl rfl (fun hc46_0 => ?_) (fun hc46_0 => ?_)
            · skip
              refine E_iloadN (pc' := 54) X d1_53 rfl rfl ?_
              refine E_bipush (v := (6 : Int32)) (pc' := 56) X d1_54 rfl rfl ?_
              refine E_icmp (pcY := 63) (pcN := 59) X (ic_ne _ _) d1_56 (by decide) rfl rfl (fun hc56_0 => ?_) (fun hc56_0 => ?_)
              · skip
                refine E_getS (pc' := 66) X (host := "") (Or.inl (w_32 hw)) Via.refl hS7 d1_63 rfl (fun T X => ?_)
                exact E_retA X d1_66 rfl rfl (by decide) (by decide) ⟨(by rw [← hr]; simp [ownPick, hc1_0, hc10_0, hc19_0, hc28_0, hc37_0, hc46_0, hc56_0]), rfl⟩
              · skip
                replace hc56_0 := Decidable.not_not.mp hc56_0
                refine E_getS (pc' := 62) X (host := "") (Or.inl (w_30 hw)) Via.refl hS6 d1_59 rfl (fun T X => ?_)
                exact E_retA X d1_62 rfl rfl (by decide) (by decide) ⟨(by rw [← hr]; simp [ownPick, hc1_0, hc10_0, hc19_0, hc28_0, hc37_0, hc46_0, hc56_0]), rfl⟩
            · skip
              replace hc46_0 := Decidable.not_not.mp hc46_0
              refine E_getS (pc' := 52) X (host := "") (Or.inl (w_40 hw)) Via.refl hS5 d1_49 rfl (fun T X => ?_)
              exact E_retA X d1_52 rfl rfl (by decide) (by decide) ⟨(by rw [← hr]; simp [ownPick, hc1_0, hc10_0, hc19_0, hc28_0, hc37_0, hc46_0]), rfl⟩
          · skip
            replace hc37_0 := Decidable.not_not.mp hc37_0
            refine E_getS (pc' := 43) X (host := "") (Or.inl (w_38 hw)) Via.refl hS4 d1_40 rfl (fun T X => ?_)
            exact E_retA X d1_43 rfl rfl (by decide) (by decide) ⟨(by rw [← hr]; simp [ownPick, hc1_0, hc10_0, hc19_0, hc28_0, hc37_0]), rfl⟩
        · skip
          replace hc28_0 := Decidable.not_not.mp hc28_0
          refine E_getS (pc' := 34) X (host := "") (Or.inl (w_14 hw)) Via.refl hS3 d1_31 rfl (fun T X => ?_)
          exact E_retA X d1_34 rfl rfl (by decide) (by decide) ⟨(by rw [← hr]; simp [ownPick, hc1_0, hc10_0, hc19_0, hc28_0]), rfl⟩
      · skip
        replace hc19_0 := Decidable.not_not.mp hc19_0
        refine E_getS (pc' := 25) X (host := "") (Or.inl (w_34 hw)) Via.refl hS2 d1_22 rfl (fun T X => ?_)
        exact E_retA X d1_25 rfl rfl (by decide) (by decide) ⟨(by rw [← hr]; simp [ownPick, hc1_0, hc10_0, hc19_0]), rfl⟩
    · skip
      replace hc10_0 := Decidable.not_not.mp hc10_0
      refine E_getS (pc' := 16) X (host := "") (Or.inl (w_36 hw)) Via.refl hS1 d1_13 rfl (fun T X => ?_)
      exact E_retA X d1_16 rfl rfl (by decide) (by decide) ⟨(by rw [← hr]; simp [ownPick, hc1_0, hc10_0]), rfl⟩
  · skip
    replace hc1_0 := Decidable.not_not.mp hc1_0
    refine E_getS (pc' := 7) X (host := "") (Or.inl (w_4 hw)) Via.refl hS0 d1_4 rfl (fun T X => ?_)
    exact E_retA X d1_7 rfl rfl (by decide) (by decide) ⟨(by rw [← hr]; simp [ownPick, hc1_0]), rfl⟩
theorem d2_0 : decode prog_2_method_8_code 0 = .ok (.aload_n 0, 1) := by decide +kernel
theorem d2_1 : decode prog_2_method_8_code 1 = .ok (.getfield 57, 3) := by decide +kernel
theorem d2_4 : decode prog_2_method_8_code 4 = .ok (.ifnull 7, 3) := by decide +kernel
theorem d2_11 : decode prog_2_method_8_code 11 = .ok (.iconst 0, 1) := by decide +kernel
theorem d2_12 : decode prog_2_method_8_code 12 = .ok (.ireturn, 1) := by decide +kernel
theorem ef_rm_pn (m : MethodId) (x0 : Addr) : entryFrame m #[(.ref x0)] 1 = mkF m 0 #[.val (.ref x0)] [] := by first | (simp [entryFrame, mkF, argsToLocals, Value.category]; done) | (simp [entryFrame, mkF, argsToLocals, *]; done) | rfl
set_option maxRecDepth 65536 in
set_option maxHeartbeats 2000000 in
theorem rm_pn (l : Launch) (Z : State) (a0 : Array Value) (hw : ∀ d ∈ tables_1, d.before a0 Z = true) (a : Addr) (h0 : Heap) (hE : Ext Z.heap h0) (hoF0 : Fld Z Z.heap a "com/example/flowmote/flowmote/ActionType" "fixedValue" "[B" .null) :
    Con l Z (⟨"com/example/flowmote/flowmote/ActionType", "isPlain", "()Z"⟩ : MethodName) prog_2_method_8_code 1 (some .boolean) ({ frames := 0, cells := 0, slots := 0, locals := 0 } : Room) #[(.ref a)] h0 (fun vv hh => vv = some (.int (0 : Int32)) ∧ h0 = hh) := by
  refine Con.of (plainFor_of_name (by first | (simp [plainName, overriddenIn]; done) | decide +kernel)) hE ?_
  intro p e s m below T (X : Sd l Z "com/example/flowmote/flowmote/ActionType" "isPlain" prog_2_method_8_code 1 (some .boolean) ({ frames := 0, cells := 0, slots := 0, locals := 0 } : Room) p e s m #[(.ref a)] below T h0 0 0)
  refine End.frame (ef_rm_pn m a) ?_
  show End Z p e below s _ _ _ _ (mkF m 0 #[.val (.ref a)] [])
  refine E_aloadN (v := (.ref a)) (pc' := 1) X d2_0 rfl rfl rfl ?_
  have O_1 := hoF0.ext X.ext
  refine E_getF (pc' := 4) X (host := "") (Or.inl (w_12 hw)) Via.refl O_1 d2_1 rfl (fun T X => ?_)
  refine E_ifnullY (pc' := 11) X d2_4 (by decide) rfl ?_
  refine E_iconst (v := (0 : Int32)) (pc' := 12) X d2_11 rfl rfl ?_
  exact E_retZ (Or.inl rfl) X d2_12 (by decide) (by decide) ⟨rfl, rfl⟩
theorem d2_7 : decode prog_2_method_8_code 7 = .ok (.iconst 1, 1) := by decide +kernel
theorem d2_8 : decode prog_2_method_8_code 8 = .ok (.goto 4, 3) := by decide +kernel
theorem ef_rm_pr (m : MethodId) (x0 : Addr) : entryFrame m #[(.ref x0)] 1 = mkF m 0 #[.val (.ref x0)] [] := by first | (simp [entryFrame, mkF, argsToLocals, Value.category]; done) | (simp [entryFrame, mkF, argsToLocals, *]; done) | rfl
set_option maxRecDepth 65536 in
set_option maxHeartbeats 2000000 in
theorem rm_pr (l : Launch) (Z : State) (a0 : Array Value) (hw : ∀ d ∈ tables_1, d.before a0 Z = true) (a : Addr) (b : Addr) (h0 : Heap) (hE : Ext Z.heap h0) (hoF0 : Fld Z Z.heap a "com/example/flowmote/flowmote/ActionType" "fixedValue" "[B" (.ref b)) :
    Con l Z (⟨"com/example/flowmote/flowmote/ActionType", "isPlain", "()Z"⟩ : MethodName) prog_2_method_8_code 1 (some .boolean) ({ frames := 0, cells := 0, slots := 0, locals := 0 } : Room) #[(.ref a)] h0 (fun vv hh => vv = some (.int (1 : Int32)) ∧ h0 = hh) := by
  refine Con.of (plainFor_of_name (by first | (simp [plainName, overriddenIn]; done) | decide +kernel)) hE ?_
  intro p e s m below T (X : Sd l Z "com/example/flowmote/flowmote/ActionType" "isPlain" prog_2_method_8_code 1 (some .boolean) ({ frames := 0, cells := 0, slots := 0, locals := 0 } : Room) p e s m #[(.ref a)] below T h0 0 0)
  refine End.frame (ef_rm_pr m a) ?_
  show End Z p e below s _ _ _ _ (mkF m 0 #[.val (.ref a)] [])
  refine E_aloadN (v := (.ref a)) (pc' := 1) X d2_0 rfl rfl rfl ?_
  have O_1 := hoF0.ext X.ext
  refine E_getF (pc' := 4) X (host := "") (Or.inl (w_12 hw)) Via.refl O_1 d2_1 rfl (fun T X => ?_)
  refine E_ifnullN (pc' := 7) X d2_4 rfl ?_
  refine E_iconst (v := (1 : Int32)) (pc' := 8) X d2_7 rfl rfl ?_
  refine E_goto (pc' := 12) X d2_8 (by decide) rfl ?_
  exact E_retZ (Or.inr rfl) X d2_12 (by decide) (by decide) ⟨rfl, rfl⟩
theorem d3_0 : decode prog_2_method_9_code 0 = .ok (.aload_n 0, 1) := by decide +kernel
theorem d3_1 : decode prog_2_method_9_code 1 = .ok (.getfield 57, 3) := by decide +kernel
theorem d3_4 : decode prog_2_method_9_code 4 = .ok (.invokevirtual 83, 3) := by decide +kernel
theorem d3_7 : decode prog_2_method_9_code 7 = .ok (.checkcast 84, 3) := by decide +kernel
theorem d3_10 : decode prog_2_method_9_code 10 = .ok (.areturn, 1) := by decide +kernel
theorem ef_rm_fv0 (m : MethodId) (x0 : Addr) : entryFrame m #[(.ref x0)] 1 = mkF m 0 #[.val (.ref x0)] [] := by first | (simp [entryFrame, mkF, argsToLocals, Value.category]; done) | (simp [entryFrame, mkF, argsToLocals, *]; done) | rfl
set_option maxRecDepth 65536 in
set_option maxHeartbeats 2000000 in
theorem rm_fv0 (l : Launch) (Z : State) (a0 : Array Value) (hw : ∀ d ∈ tables_1, d.before a0 Z = true) (a : Addr) (b : Addr) (h0 : Heap) (hE : Ext Z.heap h0) (hoF0 : Fld Z Z.heap a "com/example/flowmote/flowmote/ActionType" "fixedValue" "[B" (.ref b)) (hoE1 : Exa Z Z.heap b "[B") (hoA2 : Ar Z Z.heap b .byte []) :
    Con l Z (⟨"com/example/flowmote/flowmote/ActionType", "fixedValue", "()[B"⟩ : MethodName) prog_2_method_9_code 1 (some (.array .byte)) ({ frames := 1, cells := 1, slots := 0, locals := 14 } : Room) #[(.ref a)] h0 (fun vv hh => ∃ r : Addr, vv = some (.ref r) ∧ Keep h0 hh [] ∧ h0.size ≤ r ∧ Ar Z hh r .byte []) := by
  refine Con.of (plainFor_of_name (by first | (simp [plainName, overriddenIn]; done) | decide +kernel)) hE ?_
  intro p e s m below T (X : Sd l Z "com/example/flowmote/flowmote/ActionType" "fixedValue" prog_2_method_9_code 1 (some (.array .byte)) ({ frames := 1, cells := 1, slots := 0, locals := 14 } : Room) p e s m #[(.ref a)] below T h0 0 0)
  refine End.frame (ef_rm_fv0 m a) ?_
  have K_0 : Keep h0 h0 [] := Keep.refl _ _
  show End Z p e below s _ _ _ _ (mkF m 0 #[.val (.ref a)] [])
  refine E_aloadN (v := (.ref a)) (pc' := 1) X d3_0 rfl rfl rfl ?_
  have O_1 := hoF0.ext X.ext
  refine E_getF (pc' := 4) X (host := "") (Or.inl (w_12 hw)) Via.refl O_1 d3_1 rfl (fun T X => ?_)
  have O_2 := hoA2.ext X.ext
  have O_3 := hoE1.ext X.ext
  have le_o4 := X.le
  refine E_clone (pc' := 7) X (cap := 0) (W := 0) (cells' := 1) (slots' := 0) (w_21 hw) (w_22 hw) (w_26 hw) (w_24 hw) (w_25 hw) (w_27 hw) O_2 O_3 (by simp [fits]) rfl d3_4 rfl (by decide) (Nat.le_refl _) (by decide) (Nat.le_of_ble_eq_true rfl) rfl rfl (by decide) (by decide) (fun T h_5 o4 g_8 X Ex_6 Aa_7 EaAa_7 => ?_)
  have b_9 : h0.size ≤ o4 := by rw [g_8]; exact K_0.1
  have K_10 : Keep h0 h_5 [] := K_0.ext Ex_6
  have fr_11 : Z.heap.size ≤ o4 := by rw [g_8]; exact le_o4
  refine E_cast (pc' := 10) X (w_28 hw) (Ins.self EaAa_7) d3_7 rfl (fun T X => ?_)
  exact E_retA X d3_10 rfl rfl (by decide) (by decide) ⟨o4, rfl, K_10, b_9, Aa_7⟩
theorem ef_rm_fv2 (m : MethodId) (x0 : Addr) : entryFrame m #[(.ref x0)] 1 = mkF m 0 #[.val (.ref x0)] [] := by first | (simp [entryFrame, mkF, argsToLocals, Value.category]; done) | (simp [entryFrame, mkF, argsToLocals, *]; done) | rfl
set_option maxRecDepth 65536 in
set_option maxHeartbeats 2000000 in
theorem rm_fv2 (l : Launch) (Z : State) (a0 : Array Value) (hw : ∀ d ∈ tables_1, d.before a0 Z = true) (a : Addr) (b : Addr) (h0 : Heap) (hE : Ext Z.heap h0) (hoF0 : Fld Z Z.heap a "com/example/flowmote/flowmote/ActionType" "fixedValue" "[B" (.ref b)) (hoE1 : Exa Z Z.heap b "[B") (hoA2 : Ar Z Z.heap b .byte [(.int (-1 : Int32)), (.int (-1 : Int32))]) :
    Con l Z (⟨"com/example/flowmote/flowmote/ActionType", "fixedValue", "()[B"⟩ : MethodName) prog_2_method_9_code 1 (some (.array .byte)) ({ frames := 1, cells := 1, slots := 2, locals := 14 } : Room) #[(.ref a)] h0 (fun vv hh => ∃ r : Addr, vv = some (.ref r) ∧ Keep h0 hh [] ∧ h0.size ≤ r ∧ Ar Z hh r .byte [(.int (-1 : Int32)), (.int (-1 : Int32))]) := by
  refine Con.of (plainFor_of_name (by first | (simp [plainName, overriddenIn]; done) | decide +kernel)) hE ?_
  intro p e s m below T (X : Sd l Z "com/example/flowmote/flowmote/ActionType" "fixedValue" prog_2_method_9_code 1 (some (.array .byte)) ({ frames := 1, cells := 1, slots := 2, locals := 14 } : Room) p e s m #[(.ref a)] below T h0 0 0)
  refine End.frame (ef_rm_fv2 m a) ?_
  have K_0 : Keep h0 h0 [] := Keep.refl _ _
  show End Z p e below s _ _ _ _ (mkF m 0 #[.val (.ref a)] [])
  refine E_aloadN (v := (.ref a)) (pc' := 1) X d3_0 rfl rfl rfl ?_
  have O_1 := hoF0.ext X.ext
  refine E_getF (pc' := 4) X (host := "") (Or.inl (w_12 hw)) Via.refl O_1 d3_1 rfl (fun T X => ?_)
  have O_2 := hoA2.ext X.ext
  have O_3 := hoE1.ext X.ext
  have le_o4 := X.le
  refine E_clone (pc' := 7) X (cap := 2) (W := 0) (cells' := 1) (slots' := 2) (w_21 hw) (w_22 hw) (w_26 hw) (w_24 hw) (w_25 hw) (w_27 hw) O_2 O_3 (by simp [fits]) rfl d3_4 rfl (by decide) (Nat.le_refl _) (by decide) (Nat.le_of_ble_eq_true rfl) rfl rfl (by decide) (by decide) (fun T h_5 o4 g_8 X Ex_6 Aa_7 EaAa_7 => ?_)
  have b_9 : h0.size ≤ o4 := by rw [g_8]; exact K_0.1
  have K_10 : Keep h0 h_5 [] := K_0.ext Ex_6
  have fr_11 : Z.heap.size ≤ o4 := by rw [g_8]; exact le_o4
  refine E_cast (pc' := 10) X (w_28 hw) (Ins.self EaAa_7) d3_7 rfl (fun T X => ?_)
  exact E_retA X d3_10 rfl rfl (by decide) (by decide) ⟨o4, rfl, K_10, b_9, Aa_7⟩
theorem pd_0 : parseMethodDescriptor "(I)Lcom/example/flowmote/flowmote/ActionType;" = some ⟨[.int], some (.object "com/example/flowmote/flowmote/ActionType")⟩ := by decide +kernel
theorem pd_1 : parseMethodDescriptor "()Z" = some ⟨[], some .boolean⟩ := by decide +kernel
theorem pd_2 : parseMethodDescriptor "()[B" = some ⟨[], some (.array .byte)⟩ := by decide +kernel
theorem ef_rm0 (m : MethodId) (x0 : Int32) : entryFrame m #[(.int x0)] 6 = mkF m 0 #[.val (.int x0), .unset, .unset, .unset, .unset, .unset] [] := by first | (simp [entryFrame, mkF, argsToLocals, Value.category]; done) | (simp [entryFrame, mkF, argsToLocals, *]; done) | rfl
set_option maxRecDepth 65536 in
set_option maxHeartbeats 2000000 in
theorem rm0 (l : Launch) (Z : State) (a0 : Array Value) (hw : ∀ d ∈ tables_1, d.before a0 Z = true) (i0 : Int32) (oFORWARD_U : Addr) (oASK : Addr) (oASK_fixedValue : Addr) (oMATCH : Addr) (oRADIO_OFF : Addr) (oDROP : Addr) (oFORWARD_B : Addr) (oFORWARD_B_fixedValue : Addr) (oFUNCTION : Addr) (oSET : Addr) (h0 : Heap) (hE : Ext Z.heap h0) (hS0 : Sta Z Z.heap "com/example/flowmote/flowmote/ActionType" "FORWARD_U" "Lcom/example/flowmote/flowmote/ActionType;" (.ref oFORWARD_U)) (hoE1 : Exa Z Z.heap oFORWARD_U "com/example/flowmote/flowmote/ActionType") (hS2 : Sta Z Z.heap "com/example/flowmote/flowmote/ActionType" "ASK" "Lcom/example/flowmote/flowmote/ActionType;" (.ref oASK)) (hoE3 : Exa Z Z.heap oASK "com/example/flowmote/flowmote/ActionType") (hoE4 : Exa Z Z.heap oASK_fixedValue "[B") (hS5 : Sta Z Z.heap "com/example/flowmote/flowmote/ActionType" "MATCH" "Lcom/example/flowmote/flowmote/ActionType;" (.ref oMATCH)) (hoE6 : Exa Z Z.heap oMATCH "com/example/flowmote/flowmote/ActionType") (hS7 : Sta Z Z.heap "com/example/flowmote/flowmote/ActionType" "RADIO_OFF" "Lcom/example/flowmote/flowmote/ActionType;" (.ref oRADIO_OFF)) (hoE8 : Exa Z Z.heap oRADIO_OFF "com/example/flowmote/flowmote/ActionType") (hS9 : Sta Z Z.heap "com/example/flowmote/flowmote/ActionType" "DROP" "Lcom/example/flowmote/flowmote/ActionType;" (.ref oDROP)) (hoE10 : Exa Z Z.heap oDROP "com/example/flowmote/flowmote/ActionType") (hS11 : Sta Z Z.heap "com/example/flowmote/flowmote/ActionType" "FORWARD_B" "Lcom/example/flowmote/flowmote/ActionType;" (.ref oFORWARD_B)) (hoE12 : Exa Z Z.heap oFORWARD_B "com/example/flowmote/flowmote/ActionType") (hoE13 : Exa Z Z.heap oFORWARD_B_fixedValue "[B") (hS14 : Sta Z Z.heap "com/example/flowmote/flowmote/ActionType" "FUNCTION" "Lcom/example/flowmote/flowmote/ActionType;" (.ref oFUNCTION)) (hoE15 : Exa Z Z.heap oFUNCTION "com/example/flowmote/flowmote/ActionType") (hS16 : Sta Z Z.heap "com/example/flowmote/flowmote/ActionType" "SET" "Lcom/example/flowmote/flowmote/ActionType;" (.ref oSET)) (hoE17 : Exa Z Z.heap oSET "com/example/flowmote/flowmote/ActionType") (hoF18 : Fld Z Z.heap oASK "com/example/flowmote/flowmote/ActionType" "fixedValue" "[B" (.ref oASK_fixedValue)) (hoF19 : Fld Z Z.heap oFORWARD_B "com/example/flowmote/flowmote/ActionType" "fixedValue" "[B" (.ref oFORWARD_B_fixedValue)) (hoF20 : Fld Z Z.heap oFORWARD_U "com/example/flowmote/flowmote/ActionType" "fixedValue" "[B" .null) (hoF21 : Fld Z Z.heap oMATCH "com/example/flowmote/flowmote/ActionType" "fixedValue" "[B" (.ref oASK_fixedValue)) (hoF22 : Fld Z Z.heap oRADIO_OFF "com/example/flowmote/flowmote/ActionType" "fixedValue" "[B" .null) (hoF23 : Fld Z Z.heap oDROP "com/example/flowmote/flowmote/ActionType" "fixedValue" "[B" (.ref oASK_fixedValue)) (hoF24 : Fld Z Z.heap oFUNCTION "com/example/flowmote/flowmote/ActionType" "fixedValue" "[B" .null) (hoF25 : Fld Z Z.heap oSET "com/example/flowmote/flowmote/ActionType" "fixedValue" "[B" .null) (hoA26 : Ar Z Z.heap oASK_fixedValue .byte []) (hoA27 : Ar Z Z.heap oFORWARD_B_fixedValue .byte [(.int (-1 : Int32)), (.int (-1 : Int32))]) :
    Con l Z x code maxLocals ret room_1 #[(.int i0)] h0 (fun vv hh => vv = some (.int (1 : Int32))) := by
  refine Con.of (plainFor_of_name (by first | (simp [plainName, overriddenIn]; done) | decide +kernel)) hE ?_
  intro p e s m below T (X : Sd l Z "com/example/flowmote/flowmote/ActionTypeIsPlainPinLaw" "law" code 6 (some .boolean) room_1 p e s m #[(.int i0)] below T h0 0 0)
  refine End.frame (ef_rm0 m i0) ?_
  show End Z p e below s _ _ _ _ (mkF m 0 #[.val (.int i0), .unset, .unset, .unset, .unset, .unset] [])
  refine E_iloadN (pc' := 1) X at_0 rfl rfl ?_
  refine E_bipush (v := (7 : Int32)) (pc' := 3) X at_1 rfl rfl ?_
  refine E_iand (pc' := 4) X at_3 rfl ?_
  rcases own_and7 i0 with q | q | q | q | q | q | q | q
  · skip
    refine E_eqI (z := (0 : Int32)) q ?_
    refine E_istoreN (Ls' := #[.val (.int i0), .val (.int (0 : Int32)), .unset, .unset, .unset, .unset]) (pc' := 5) X at_4 rfl rfl ?_
    refine E_iloadN (pc' := 6) X at_5 rfl rfl ?_
    refine E_callS (pc' := 9) (W := 0) (cells' := 0) (slots' := 0) (argsL := [(.int (0 : Int32))]) (rest := []) X (rm1 l Z a0 hw (0 : Int32) oFORWARD_U oFORWARD_B oDROP oASK oFUNCTION oSET oMATCH oRADIO_OFF oFORWARD_U h0 X.ext hS0 hS11 hS9 hS2 hS14 hS16 hS5 hS7 (by simp [ownPick])) (w_0 hw) (w_1 hw) (w_2 hw) (w_3 hw) (by decide) rfl rfl pd_0 rfl rfl at_6 rfl (Nat.le_refl _) (by decide) (by decide) rfl rfl (by decide) (by decide) (fun v1 T h_2 X hQ3 => ?_)
    obtain ⟨rfl, rfl⟩ := hQ3
    show End Z p e below s _ _ _ _ (mkF m 9 #[.val (.int i0), .val (.int (0 : Int32)), .unset, .unset, .unset, .unset] [(.ref oFORWARD_U)])
    refine E_astoreN (Ls' := #[.val (.int i0), .val (.int (0 : Int32)), .val (.ref oFORWARD_U), .unset, .unset, .unset]) (pc' := 10) X at_9 rfl rfl rfl ?_
    refine E_iloadN (pc' := 11) X at_10 rfl rfl ?_
    refine E_iconst (v := (1 : Int32)) (pc' := 12) X at_11 rfl rfl ?_
    refine E_icmp (pcY := 31) (pcN := 15) X (ic_eq _ _) at_12 (by decide) rfl rfl (fun hc12_0 => absurd hc12_0 (by decide)) (fun hc12_0 => ?_)
    refine E_iloadN (pc' := 16) X at_15 rfl rfl ?_
    refine E_iconst (v := (2 : Int32)) (pc' := 17) X at_16 rfl rfl ?_
    refine E_icmp (pcY := 31) (pcN := 20) X (ic_eq _ _) at_17 (by decide) rfl rfl (fun hc17_0 => absurd hc17_0 (by decide)) (fun hc17_0 => ?_)
    refine E_iloadN (pc' := 21) X at_20 rfl rfl ?_
    refine E_iconst (v := (3 : Int32)) (pc' := 22) X at_21 rfl rfl ?_
    refine E_icmp (pcY := 31) (pcN := 25) X (ic_eq _ _) at_22 (by decide) rfl rfl (fun hc22_0 => absurd hc22_0 (by decide)) (fun hc22_0 => ?_)
    refine E_iloadN (pc' := 26) X at_25 rfl rfl ?_
    refine E_bipush (v := (6 : Int32)) (pc' := 28) X at_26 rfl rfl ?_
    refine E_icmp (pcY := 35) (pcN := 31) X (ic_ne _ _) at_28 (by decide) rfl rfl (fun hc28_0 => ?_) (fun hc28_0 => absurd (by decide) hc28_0)
    refine E_iconst (v := (0 : Int32)) (pc' := 36) X at_35 rfl rfl ?_
    refine E_istoreN (Ls' := #[.val (.int i0), .val (.int (0 : Int32)), .val (.ref oFORWARD_U), .val (.int (0 : Int32)), .unset, .unset]) (pc' := 37) X at_36 rfl rfl ?_
    refine E_aloadN (v := (.ref oFORWARD_U)) (pc' := 38) X at_37 rfl rfl rfl ?_
    have O_8 := hoE1.ext X.ext
    refine E_callV (a := oFORWARD_U) (pc' := 41) (W := 0) (cells' := 0) (slots' := 0) (argsL := []) (rest := []) X (rm_pn l Z a0 hw oFORWARD_U h0 X.ext hoF20) O_8 (w_7 hw) (w_8 hw) (w_10 hw) (w_9 hw) (w_5 hw) (w_11 hw) rfl (by decide) rfl rfl pd_1 rfl rfl at_38 rfl (Nat.le_refl _) (by decide) (by decide) rfl rfl (by decide) (by decide) (fun v5 T h_6 X hQ7 => ?_)
    obtain ⟨rfl, rfl⟩ := hQ7
    show End Z p e below s _ _ _ _ (mkF m 41 #[.val (.int i0), .val (.int (0 : Int32)), .val (.ref oFORWARD_U), .val (.int (0 : Int32)), .unset, .unset] [(.int (0 : Int32))])
    refine E_iloadN (pc' := 42) X at_41 rfl rfl ?_
    refine E_icmp (pcY := 47) (pcN := 45) X (ic_eq _ _) at_42 (by decide) rfl rfl (fun hc42_0 => ?_) (fun hc42_0 => absurd (by decide) hc42_0)
    refine E_iloadN (pc' := 48) X at_47 rfl rfl ?_
    refine E_if (pcY := 102) (pcN := 51) X (i0_eq _) at_48 (by decide) rfl rfl (fun hc48_0 => ?_) (fun hc48_0 => absurd (by decide) hc48_0)
    refine E_iconst (v := (1 : Int32)) (pc' := 103) X at_102 rfl rfl ?_
    exact E_retZ (Or.inr rfl) X at_103 (by decide) (by decide) rfl
  · skip
    refine E_eqI (z := (1 : Int32)) q ?_
    refine E_istoreN (Ls' := #[.val (.int i0), .val (.int (1 : Int32)), .unset, .unset, .unset, .unset]) (pc' := 5) X at_4 rfl rfl ?_
    refine E_iloadN (pc' := 6) X at_5 rfl rfl ?_
    refine E_callS (pc' := 9) (W := 0) (cells' := 0) (slots' := 0) (argsL := [(.int (1 : Int32))]) (rest := []) X (rm1 l Z a0 hw (1 : Int32) oFORWARD_U oFORWARD_B oDROP oASK oFUNCTION oSET oMATCH oRADIO_OFF oFORWARD_B h0 X.ext hS0 hS11 hS9 hS2 hS14 hS16 hS5 hS7 (by simp [ownPick])) (w_0 hw) (w_1 hw) (w_2 hw) (w_3 hw) (by decide) rfl rfl pd_0 rfl rfl at_6 rfl (Nat.le_refl _) (by decide) (by decide) rfl rfl (by decide) (by decide) (fun v10 T h_11 X hQ12 => ?_)
    obtain ⟨rfl, rfl⟩ := hQ12
    show End Z p e below s _ _ _ _ (mkF m 9 #[.val (.int i0), .val (.int (1 : Int32)), .unset, .unset, .unset, .unset] [(.ref oFORWARD_B)])
    refine E_astoreN (Ls' := #[.val (.int i0), .val (.int (1 : Int32)), .val (.ref oFORWARD_B), .unset, .unset, .unset]) (pc' := 10) X at_9 rfl rfl rfl ?_
    refine E_iloadN (pc' := 11) X at_10 rfl rfl ?_
    refine E_iconst (v := (1 : Int32)) (pc' := 12) X at_11 rfl rfl ?_
    refine E_icmp (pcY := 31) (pcN := 15) X (ic_eq _ _) at_12 (by decide) rfl rfl (fun hc12_0 => ?_) (fun hc12_0 => absurd (by decide) hc12_0)
    refine E_iconst (v := (1 : Int32)) (pc' := 32) X at_31 rfl rfl ?_
    refine E_goto (pc' := 36) X at_32 (by decide) rfl ?_
    refine E_istoreN (Ls' := #[.val (.int i0), .val (.int (1 : Int32)), .val (.ref oFORWARD_B), .val (.int (1 : Int32)), .unset, .unset]) (pc' := 37) X at_36 rfl rfl ?_
    refine E_aloadN (v := (.ref oFORWARD_B)) (pc' := 38) X at_37 rfl rfl rfl ?_
    have O_17 := hoE12.ext X.ext
    refine E_callV (a := oFORWARD_B) (pc' := 41) (W := 0) (cells' := 0) (slots' := 0) (argsL := []) (rest := []) X (rm_pr l Z a0 hw oFORWARD_B oFORWARD_B_fixedValue h0 X.ext hoF19) O_17 (w_7 hw) (w_8 hw) (w_10 hw) (w_9 hw) (w_5 hw) (w_11 hw) rfl (by decide) rfl rfl pd_1 rfl rfl at_38 rfl (Nat.le_refl _) (by decide) (by decide) rfl rfl (by decide) (by decide) (fun v14 T h_15 X hQ16 => ?_)
    obtain ⟨rfl, rfl⟩ := hQ16
    show End Z p e below s _ _ _ _ (mkF m 41 #[.val (.int i0), .val (.int (1 : Int32)), .val (.ref oFORWARD_B), .val (.int (1 : Int32)), .unset, .unset] [(.int (1 : Int32))])
    refine E_iloadN (pc' := 42) X at_41 rfl rfl ?_
    refine E_icmp (pcY := 47) (pcN := 45) X (ic_eq _ _) at_42 (by decide) rfl rfl (fun hc42_0 => ?_) (fun hc42_0 => absurd (by decide) hc42_0)
    refine E_iloadN (pc' := 48) X at_47 rfl rfl ?_
    refine E_if (pcY := 102) (pcN := 51) X (i0_eq _) at_48 (by decide) rfl rfl (fun hc48_0 => absurd hc48_0 (by decide)) (fun hc48_0 => ?_)
    refine E_aloadN (v := (.ref oFORWARD_B)) (pc' := 52) X at_51 rfl rfl rfl ?_
    have le_22 := X.le
    have O_23 := hoE12.ext X.ext
    refine E_callV (a := oFORWARD_B) (pc' := 55) (W := 0) (cells' := 1) (slots' := 2) (argsL := []) (rest := []) X (rm_fv2 l Z a0 hw oFORWARD_B oFORWARD_B_fixedValue h0 X.ext hoF19 hoE13 hoA27) O_23 (w_16 hw) (w_17 hw) (w_19 hw) (w_18 hw) (w_5 hw) (w_20 hw) rfl (by decide) rfl rfl pd_2 rfl rfl at_52 rfl (Nat.le_refl _) (by decide) (by decide) rfl rfl (by decide) (by decide) (fun v19 T h_20 X hQ21 => ?_)
    obtain ⟨r_24, rfl, Kc_25, nw_26, A_27⟩ := hQ21
    have fr_28 : Z.heap.size ≤ r_24 := Nat.le_trans le_22 nw_26
    show End Z p e below s _ _ _ _ (mkF m 55 #[.val (.int i0), .val (.int (1 : Int32)), .val (.ref oFORWARD_B), .val (.int (1 : Int32)), .unset, .unset] [(.ref r_24)])
    refine E_astore (Ls' := #[.val (.int i0), .val (.int (1 : Int32)), .val (.ref oFORWARD_B), .val (.int (1 : Int32)), .val (.ref r_24), .unset]) (pc' := 57) X at_55 rfl rfl rfl ?_
    refine E_iloadN (pc' := 58) X at_57 rfl rfl ?_
    refine E_iconst (v := (1 : Int32)) (pc' := 59) X at_58 rfl rfl ?_
    refine E_icmp (pcY := 66) (pcN := 62) X (ic_ne _ _) at_59 (by decide) rfl rfl (fun hc59_0 => absurd hc59_0 (by decide)) (fun hc59_0 => ?_)
    refine E_iconst (v := (2 : Int32)) (pc' := 63) X at_62 rfl rfl ?_
    refine E_goto (pc' := 67) X at_63 (by decide) rfl ?_
    refine E_istore (Ls' := #[.val (.int i0), .val (.int (1 : Int32)), .val (.ref oFORWARD_B), .val (.int (1 : Int32)), .val (.ref r_24), .val (.int (2 : Int32))]) (pc' := 69) X at_67 rfl rfl ?_
    refine E_aload (v := (.ref r_24)) (pc' := 71) X at_69 rfl rfl rfl ?_
    refine E_alen (n := (2 : Int32)) (pc' := 72) X A_27 rfl at_71 rfl ?_
    refine E_iload (pc' := 74) X at_72 rfl rfl ?_
    refine E_icmp (pcY := 79) (pcN := 77) X (ic_eq _ _) at_74 (by decide) rfl rfl (fun hc74_0 => ?_) (fun hc74_0 => absurd (by decide) hc74_0)
    refine E_iloadN (pc' := 80) X at_79 rfl rfl ?_
    refine E_iconst (v := (1 : Int32)) (pc' := 81) X at_80 rfl rfl ?_
    refine E_icmp (pcY := 102) (pcN := 84) X (ic_ne _ _) at_81 (by decide) rfl rfl (fun hc81_0 => absurd hc81_0 (by decide)) (fun hc81_0 => ?_)
    refine E_aload (v := (.ref r_24)) (pc' := 86) X at_84 rfl rfl rfl ?_
    refine E_iconst (v := (0 : Int32)) (pc' := 87) X at_86 rfl rfl ?_
    refine E_baload (v := (.int (-1 : Int32))) (pc' := 88) X A_27 (by decide) rfl at_87 rfl ?_
    refine E_iconst (v := (-1 : Int32)) (pc' := 89) X at_88 rfl rfl ?_
    refine E_icmp (pcY := 100) (pcN := 92) X (ic_ne _ _) at_89 (by decide) rfl rfl (fun hc89_0 => absurd hc89_0 (by decide)) (fun hc89_0 => ?_)
    refine E_aload (v := (.ref r_24)) (pc' := 94) X at_92 rfl rfl rfl ?_
    refine E_iconst (v := (1 : Int32)) (pc' := 95) X at_94 rfl rfl ?_
    refine E_baload (v := (.int (-1 : Int32))) (pc' := 96) X A_27 (by decide) rfl at_95 rfl ?_
    refine E_iconst (v := (-1 : Int32)) (pc' := 97) X at_96 rfl rfl ?_
    refine E_icmp (pcY := 102) (pcN := 100) X (ic_eq _ _) at_97 (by decide) rfl rfl (fun hc97_0 => ?_) (fun hc97_0 => absurd (by decide) hc97_0)
    refine E_iconst (v := (1 : Int32)) (pc' := 103) X at_102 rfl rfl ?_
    exact E_retZ (Or.inr rfl) X at_103 (by decide) (by decide) rfl
  · skip
    refine E_eqI (z := (2 : Int32)) q ?_
    refine E_istoreN (Ls' := #[.val (.int i0), .val (.int (2 : Int32)), .unset, .unset, .unset, .unset]) (pc' := 5) X at_4 rfl rfl ?_
    refine E_iloadN (pc' := 6) X at_5 rfl rfl ?_
    refine E_callS (pc' := 9) (W := 0) (cells' := 0) (slots' := 0) (argsL := [(.int (2 : Int32))]) (rest := []) X (rm1 l Z a0 hw (2 : Int32) oFORWARD_U oFORWARD_B oDROP oASK oFUNCTION oSET oMATCH oRADIO_OFF oDROP h0 X.ext hS0 hS11 hS9 hS2 hS14 hS16 hS5 hS7 (by simp [ownPick])) (w_0 hw) (w_1 hw) (w_2 hw) (w_3 hw) (by decide) rfl rfl pd_0 rfl rfl at_6 rfl (Nat.le_refl _) (by decide) (by decide) rfl rfl (by decide) (by decide) (fun v29 T h_30 X hQ31 => ?_)
    obtain ⟨rfl, rfl⟩ := hQ31
    show End Z p e below s _ _ _ _ (mkF m 9 #[.val (.int i0), .val (.int (2 : Int32)), .unset, .unset, .unset, .unset] [(.ref oDROP)])
    refine E_astoreN (Ls' := #[.val (.int i0), .val (.int (2 : Int32)), .val (.ref oDROP), .unset, .unset, .unset]) (pc' := 10) X at_9 rfl rfl rfl ?_
    refine E_iloadN (pc' := 11) X at_10 rfl rfl ?_
    refine E_iconst (v := (1 : Int32)) (pc' := 12) X at_11 rfl rfl ?_
    refine E_icmp (pcY := 31) (pcN := 15) X (ic_eq _ _) at_12 (by decide) rfl rfl (fun hc12_0 => absurd hc12_0 (by decide)) (fun hc12_0 => ?_)
    refine E_iloadN (pc' := 16) X at_15 rfl rfl ?_
    refine E_iconst (v := (2 : Int32)) (pc' := 17) X at_16 rfl rfl ?_
    refine E_icmp (pcY := 31) (pcN := 20) X (ic_eq _ _) at_17 (by decide) rfl rfl (fun hc17_0 => ?_) (fun hc17_0 => absurd (by decide) hc17_0)
    refine E_iconst (v := (1 : Int32)) (pc' := 32) X at_31 rfl rfl ?_
    refine E_goto (pc' := 36) X at_32 (by decide) rfl ?_
    refine E_istoreN (Ls' := #[.val (.int i0), .val (.int (2 : Int32)), .val (.ref oDROP), .val (.int (1 : Int32)), .unset, .unset]) (pc' := 37) X at_36 rfl rfl ?_
    refine E_aloadN (v := (.ref oDROP)) (pc' := 38) X at_37 rfl rfl rfl ?_
    have O_36 := hoE10.ext X.ext
    refine E_callV (a := oDROP) (pc' := 41) (W := 0) (cells' := 0) (slots' := 0) (argsL := []) (rest := []) X (rm_pr l Z a0 hw oDROP oASK_fixedValue h0 X.ext hoF23) O_36 (w_7 hw) (w_8 hw) (w_10 hw) (w_9 hw) (w_5 hw) (w_11 hw) rfl (by decide) rfl rfl pd_1 rfl rfl at_38 rfl (Nat.le_refl _) (by decide) (by decide) rfl rfl (by decide) (by decide) (fun v33 T h_34 X hQ35 => ?_)
    obtain ⟨rfl, rfl⟩ := hQ35
    show End Z p e below s _ _ _ _ (mkF m 41 #[.val (.int i0), .val (.int (2 : Int32)), .val (.ref oDROP), .val (.int (1 : Int32)), .unset, .unset] [(.int (1 : Int32))])
    refine E_iloadN (pc' := 42) X at_41 rfl rfl ?_
    refine E_icmp (pcY := 47) (pcN := 45) X (ic_eq _ _) at_42 (by decide) rfl rfl (fun hc42_0 => ?_) (fun hc42_0 => absurd (by decide) hc42_0)
    refine E_iloadN (pc' := 48) X at_47 rfl rfl ?_
    refine E_if (pcY := 102) (pcN := 51) X (i0_eq _) at_48 (by decide) rfl rfl (fun hc48_0 => absurd hc48_0 (by decide)) (fun hc48_0 => ?_)
    refine E_aloadN (v := (.ref oDROP)) (pc' := 52) X at_51 rfl rfl rfl ?_
    have le_41 := X.le
    have O_42 := hoE10.ext X.ext
    refine E_callV (a := oDROP) (pc' := 55) (W := 0) (cells' := 1) (slots' := 0) (argsL := []) (rest := []) X (rm_fv0 l Z a0 hw oDROP oASK_fixedValue h0 X.ext hoF23 hoE4 hoA26) O_42 (w_16 hw) (w_17 hw) (w_19 hw) (w_18 hw) (w_5 hw) (w_20 hw) rfl (by decide) rfl rfl pd_2 rfl rfl at_52 rfl (Nat.le_refl _) (by decide) (by decide) rfl rfl (by decide) (by decide) (fun v38 T h_39 X hQ40 => ?_)
    obtain ⟨r_43, rfl, Kc_44, nw_45, A_46⟩ := hQ40
    have fr_47 : Z.heap.size ≤ r_43 := Nat.le_trans le_41 nw_45
    show End Z p e below s _ _ _ _ (mkF m 55 #[.val (.int i0), .val (.int (2 : Int32)), .val (.ref oDROP), .val (.int (1 : Int32)), .unset, .unset] [(.ref r_43)])
    refine E_astore (Ls' := #[.val (.int i0), .val (.int (2 : Int32)), .val (.ref oDROP), .val (.int (1 : Int32)), .val (.ref r_43), .unset]) (pc' := 57) X at_55 rfl rfl rfl ?_
    refine E_iloadN (pc' := 58) X at_57 rfl rfl ?_
    refine E_iconst (v := (1 : Int32)) (pc' := 59) X at_58 rfl rfl ?_
    refine E_icmp (pcY := 66) (pcN := 62) X (ic_ne _ _) at_59 (by decide) rfl rfl (fun hc59_0 => ?_) (fun hc59_0 => absurd (by decide) hc59_0)
    refine E_iconst (v := (0 : Int32)) (pc' := 67) X at_66 rfl rfl ?_
    refine E_istore (Ls' := #[.val (.int i0), .val (.int (2 : Int32)), .val (.ref oDROP), .val (.int (1 : Int32)), .val (.ref r_43), .val (.int (0 : Int32))]) (pc' := 69) X at_67 rfl rfl ?_
    refine E_aload (v := (.ref r_43)) (pc' := 71) X at_69 rfl rfl rfl ?_
    refine E_alen (n := (0 : Int32)) (pc' := 72) X A_46 rfl at_71 rfl ?_
    refine E_iload (pc' := 74) X at_72 rfl rfl ?_
    refine E_icmp (pcY := 79) (pcN := 77) X (ic_eq _ _) at_74 (by decide) rfl rfl (fun hc74_0 => ?_) (fun hc74_0 => absurd (by decide) hc74_0)
    refine E_iloadN (pc' := 80) X at_79 rfl rfl ?_
    refine E_iconst (v := (1 : Int32)) (pc' := 81) X at_80 rfl rfl ?_
    refine E_icmp (pcY := 102) (pcN := 84) X (ic_ne _ _) at_81 (by decide) rfl rfl (fun hc81_0 => ?_) (fun hc81_0 => absurd (by decide) hc81_0)
    refine E_iconst (v := (1 : Int32)) (pc' := 103) X at_102 rfl rfl ?_
    exact E_retZ (Or.inr rfl) X at_103 (by decide) (by decide) rfl
  · skip
    refine E_eqI (z := (3 : Int32)) q ?_
    refine E_istoreN (Ls' := #[.val (.int i0), .val (.int (3 : Int32)), .unset, .unset, .unset, .unset]) (pc' := 5) X at_4 rfl rfl ?_
    refine E_iloadN (pc' := 6) X at_5 rfl rfl ?_
    refine E_callS (pc' := 9) (W := 0) (cells' := 0) (slots' := 0) (argsL := [(.int (3 : Int32))]) (rest := []) X (rm1 l Z a0 hw (3 : Int32) oFORWARD_U oFORWARD_B oDROP oASK oFUNCTION oSET oMATCH oRADIO_OFF oASK h0 X.ext hS0 hS11 hS9 hS2 hS14 hS16 hS5 hS7 (by simp [ownPick])) (w_0 hw) (w_1 hw) (w_2 hw) (w_3 hw) (by decide) rfl rfl pd_0 rfl rfl at_6 rfl (Nat.le_refl _) (by decide) (by decide) rfl rfl (by decide) (by decide) (fun v48 T h_49 X hQ50 => ?_)
    obtain ⟨rfl, rfl⟩ := hQ50
    show End Z p e below s _ _ _ _ (mkF m 9 #[.val (.int i0), .val (.int (3 : Int32)), .unset, .unset, .unset, .unset] [(.ref oASK)])
    refine E_astoreN (Ls' := #[.val (.int i0), .val (.int (3 : Int32)), .val (.ref oASK), .unset, .unset, .unset]) (pc' := 10) X at_9 rfl rfl rfl ?_
    refine E_iloadN (pc' := 11) X at_10 rfl rfl ?_
    refine E_iconst (v := (1 : Int32)) (pc' := 12) X at_11 rfl rfl ?_
    refine E_icmp (pcY := 31) (pcN := 15) X (ic_eq _ _) at_12 (by decide) rfl rfl (fun hc12_0 => absurd hc12_0 (by decide)) (fun hc12_0 => ?_)
    refine E_iloadN (pc' := 16) X at_15 rfl rfl ?_
    refine E_iconst (v := (2 : Int32)) (pc' := 17) X at_16 rfl rfl ?_
    refine E_icmp (pcY := 31) (pcN := 20) X (ic_eq _ _) at_17 (by decide) rfl rfl (fun hc17_0 => absurd hc17_0 (by decide)) (fun hc17_0 => ?_)
    refine E_iloadN (pc' := 21) X at_20 rfl rfl ?_
    refine E_iconst (v := (3 : Int32)) (pc' := 22) X at_21 rfl rfl ?_
    refine E_icmp (pcY := 31) (pcN := 25) X (ic_eq _ _) at_22 (by decide) rfl rfl (fun hc22_0 => ?_) (fun hc22_0 => absurd (by decide) hc22_0)
    refine E_iconst (v := (1 : Int32)) (pc' := 32) X at_31 rfl rfl ?_
    refine E_goto (pc' := 36) X at_32 (by decide) rfl ?_
    refine E_istoreN (Ls' := #[.val (.int i0), .val (.int (3 : Int32)), .val (.ref oASK), .val (.int (1 : Int32)), .unset, .unset]) (pc' := 37) X at_36 rfl rfl ?_
    refine E_aloadN (v := (.ref oASK)) (pc' := 38) X at_37 rfl rfl rfl ?_
    have O_55 := hoE3.ext X.ext
    refine E_callV (a := oASK) (pc' := 41) (W := 0) (cells' := 0) (slots' := 0) (argsL := []) (rest := []) X (rm_pr l Z a0 hw oASK oASK_fixedValue h0 X.ext hoF18) O_55 (w_7 hw) (w_8 hw) (w_10 hw) (w_9 hw) (w_5 hw) (w_11 hw) rfl (by decide) rfl rfl pd_1 rfl rfl at_38 rfl (Nat.le_refl _) (by decide) (by decide) rfl rfl (by decide) (by decide) (fun v52 T h_53 X hQ54 => ?_)
    obtain ⟨rfl, rfl⟩ := hQ54
    show End Z p e below s _ _ _ _ (mkF m 41 #[.val (.int i0), .val (.int (3 : Int32)), .val (.ref oASK), .val (.int (1 : Int32)), .unset, .unset] [(.int (1 : Int32))])
    refine E_iloadN (pc' := 42) X at_41 rfl rfl ?_
    refine E_icmp (pcY := 47) (pcN := 45) X (ic_eq _ _) at_42 (by decide) rfl rfl (fun hc42_0 => ?_) (fun hc42_0 => absurd (by decide) hc42_0)
    refine E_iloadN (pc' := 48) X at_47 rfl rfl ?_
    refine E_if (pcY := 102) (pcN := 51) X (i0_eq _) at_48 (by decide) rfl rfl (fun hc48_0 => absurd hc48_0 (by decide)) (fun hc48_0 => ?_)
    refine E_aloadN (v := (.ref oASK)) (pc' := 52) X at_51 rfl rfl rfl ?_
    have le_60 := X.le
    have O_61 := hoE3.ext X.ext
    refine E_callV (a := oASK) (pc' := 55) (W := 0) (cells' := 1) (slots' := 0) (argsL := []) (rest := []) X (rm_fv0 l Z a0 hw oASK oASK_fixedValue h0 X.ext hoF18 hoE4 hoA26) O_61 (w_16 hw) (w_17 hw) (w_19 hw) (w_18 hw) (w_5 hw) (w_20 hw) rfl (by decide) rfl rfl pd_2 rfl rfl at_52 rfl (Nat.le_refl _) (by decide) (by decide) rfl rfl (by decide) (by decide) (fun v57 T h_58 X hQ59 => ?_)
    obtain ⟨r_62, rfl, Kc_63, nw_64, A_65⟩ := hQ59
    have fr_66 : Z.heap.size ≤ r_62 := Nat.le_trans le_60 nw_64
    show End Z p e below s _ _ _ _ (mkF m 55 #[.val (.int i0), .val (.int (3 : Int32)), .val (.ref oASK), .val (.int (1 : Int32)), .unset, .unset] [(.ref r_62)])
    refine E_astore (Ls' := #[.val (.int i0), .val (.int (3 : Int32)), .val (.ref oASK), .val (.int (1 : Int32)), .val (.ref r_62), .unset]) (pc' := 57) X at_55 rfl rfl rfl ?_
    refine E_iloadN (pc' := 58) X at_57 rfl rfl ?_
    refine E_iconst (v := (1 : Int32)) (pc' := 59) X at_58 rfl rfl ?_
    refine E_icmp (pcY := 66) (pcN := 62) X (ic_ne _ _) at_59 (by decide) rfl rfl (fun hc59_0 => ?_) (fun hc59_0 => absurd (by decide) hc59_0)
    refine E_iconst (v := (0 : Int32)) (pc' := 67) X at_66 rfl rfl ?_
    refine E_istore (Ls' := #[.val (.int i0), .val (.int (3 : Int32)), .val (.ref oASK), .val (.int (1 : Int32)), .val (.ref r_62), .val (.int (0 : Int32))]) (pc' := 69) X at_67 rfl rfl ?_
    refine E_aload (v := (.ref r_62)) (pc' := 71) X at_69 rfl rfl rfl ?_
    refine E_alen (n := (0 : Int32)) (pc' := 72) X A_65 rfl at_71 rfl ?_
    refine E_iload (pc' := 74) X at_72 rfl rfl ?_
    refine E_icmp (pcY := 79) (pcN := 77) X (ic_eq _ _) at_74 (by decide) rfl rfl (fun hc74_0 => ?_) (fun hc74_0 => absurd (by decide) hc74_0)
    refine E_iloadN (pc' := 80) X at_79 rfl rfl ?_
    refine E_iconst (v := (1 : Int32)) (pc' := 81) X at_80 rfl rfl ?_
    refine E_icmp (pcY := 102) (pcN := 84) X (ic_ne _ _) at_81 (by decide) rfl rfl (fun hc81_0 => ?_) (fun hc81_0 => absurd (by decide) hc81_0)
    refine E_iconst (v := (1 : Int32)) (pc' := 103) X at_102 rfl rfl ?_
    exact E_retZ (Or.inr rfl) X at_103 (by decide) (by decide) rfl
  · skip
    refine E_eqI (z := (4 : Int32)) q ?_
    refine E_istoreN (Ls' := #[.val (.int i0), .val (.int (4 : Int32)), .unset, .unset, .unset, .unset]) (pc' := 5) X at_4 rfl rfl ?_
    refine E_iloadN (pc' := 6) X at_5 rfl rfl ?_
    refine E_callS (pc' := 9) (W := 0) (cells' := 0) (slots' := 0) (argsL := [(.int (4 : Int32))]) (rest := []) X (rm1 l Z a0 hw (4 : Int32) oFORWARD_U oFORWARD_B oDROP oASK oFUNCTION oSET oMATCH oRADIO_OFF oFUNCTION h0 X.ext hS0 hS11 hS9 hS2 hS14 hS16 hS5 hS7 (by simp [ownPick])) (w_0 hw) (w_1 hw) (w_2 hw) (w_3 hw) (by decide) rfl rfl pd_0 rfl rfl at_6 rfl (Nat.le_refl _) (by decide) (by decide) rfl rfl (by decide) (by decide) (fun v67 T h_68 X hQ69 => ?_)
    obtain ⟨rfl, rfl⟩ := hQ69
    show End Z p e below s _ _ _ _ (mkF m 9 #[.val (.int i0), .val (.int (4 : Int32)), .unset, .unset, .unset, .unset] [(.ref oFUNCTION)])
    refine E_astoreN (Ls' := #[.val (.int i0), .val (.int (4 : Int32)), .val (.ref oFUNCTION), .unset, .unset, .unset]) (pc' := 10) X at_9 rfl rfl rfl ?_
    refine E_iloadN (pc' := 11) X at_10 rfl rfl ?_
    refine E_iconst (v := (1 : Int32)) (pc' := 12) X at_11 rfl rfl ?_
    refine E_icmp (pcY := 31) (pcN := 15) X (ic_eq _ _) at_12 (by decide) rfl rfl (fun hc12_0 => absurd hc12_0 (by decide)) (fun hc12_0 => ?_)
    refine E_iloadN (pc' := 16) X at_15 rfl rfl ?_
    refine E_iconst (v := (2 : Int32)) (pc' := 17) X at_16 rfl rfl ?_
    refine E_icmp (pcY := 31) (pcN := 20) X (ic_eq _ _) at_17 (by decide) rfl rfl (fun hc17_0 => absurd hc17_0 (by decide)) (fun hc17_0 => ?_)
    refine E_iloadN (pc' := 21) X at_20 rfl rfl ?_
    refine E_iconst (v := (3 : Int32)) (pc' := 22) X at_21 rfl rfl ?_
    refine E_icmp (pcY := 31) (pcN := 25) X (ic_eq _ _) at_22 (by decide) rfl rfl (fun hc22_0 => absurd hc22_0 (by decide)) (fun hc22_0 => ?_)
    refine E_iloadN (pc' := 26) X at_25 rfl rfl ?_
    refine E_bipush (v := (6 : Int32)) (pc' := 28) X at_26 rfl rfl ?_
    refine E_icmp (pcY := 35) (pcN := 31) X (ic_ne _ _) at_28 (by decide) rfl rfl (fun hc28_0 => ?_) (fun hc28_0 => absurd (by decide) hc28_0)
    refine E_iconst (v := (0 : Int32)) (pc' := 36) X at_35 rfl rfl ?_
    refine E_istoreN (Ls' := #[.val (.int i0), .val (.int (4 : Int32)), .val (.ref oFUNCTION), .val (.int (0 : Int32)), .unset, .unset]) (pc' := 37) X at_36 rfl rfl ?_
    refine E_aloadN (v := (.ref oFUNCTION)) (pc' := 38) X at_37 rfl rfl rfl ?_
    have O_74 := hoE15.ext X.ext
    refine E_callV (a := oFUNCTION) (pc' := 41) (W := 0) (cells' := 0) (slots' := 0) (argsL := []) (rest := []) X (rm_pn l Z a0 hw oFUNCTION h0 X.ext hoF24) O_74 (w_7 hw) (w_8 hw) (w_10 hw) (w_9 hw) (w_5 hw) (w_11 hw) rfl (by decide) rfl rfl pd_1 rfl rfl at_38 rfl (Nat.le_refl _) (by decide) (by decide) rfl rfl (by decide) (by decide) (fun v71 T h_72 X hQ73 => ?_)
    obtain ⟨rfl, rfl⟩ := hQ73
    show End Z p e below s _ _ _ _ (mkF m 41 #[.val (.int i0), .val (.int (4 : Int32)), .val (.ref oFUNCTION), .val (.int (0 : Int32)), .unset, .unset] [(.int (0 : Int32))])
    refine E_iloadN (pc' := 42) X at_41 rfl rfl ?_
    refine E_icmp (pcY := 47) (pcN := 45) X (ic_eq _ _) at_42 (by decide) rfl rfl (fun hc42_0 => ?_) (fun hc42_0 => absurd (by decide) hc42_0)
    refine E_iloadN (pc' := 48) X at_47 rfl rfl ?_
    refine E_if (pcY := 102) (pcN := 51) X (i0_eq _) at_48 (by decide) rfl rfl (fun hc48_0 => ?_) (fun hc48_0 => absurd (by decide) hc48_0)
    refine E_iconst (v := (1 : Int32)) (pc' := 103) X at_102 rfl rfl ?_
    exact E_retZ (Or.inr rfl) X at_103 (by decide) (by decide) rfl
  · skip
    refine E_eqI (z := (5 : Int32)) q ?_
    refine E_istoreN (Ls' := #[.val (.int i0), .val (.int (5 : Int32)), .unset, .unset, .unset, .unset]) (pc' := 5) X at_4 rfl rfl ?_
    refine E_iloadN (pc' := 6) X at_5 rfl rfl ?_
    refine E_callS (pc' := 9) (W := 0) (cells' := 0) (slots' := 0) (argsL := [(.int (5 : Int32))]) (rest := []) X (rm1 l Z a0 hw (5 : Int32) oFORWARD_U oFORWARD_B oDROP oASK oFUNCTION oSET oMATCH oRADIO_OFF oSET h0 X.ext hS0 hS11 hS9 hS2 hS14 hS16 hS5 hS7 (by simp [ownPick])) (w_0 hw) (w_1 hw) (w_2 hw) (w_3 hw) (by decide) rfl rfl pd_0 rfl rfl at_6 rfl (Nat.le_refl _) (by decide) (by decide) rfl rfl (by decide) (by decide) (fun v76 T h_77 X hQ78 => ?_)
    obtain ⟨rfl, rfl⟩ := hQ78
    show End Z p e below s _ _ _ _ (mkF m 9 #[.val (.int i0), .val (.int (5 : Int32)), .unset, .unset, .unset, .unset] [(.ref oSET)])
    refine E_astoreN (Ls' := #[.val (.int i0), .val (.int (5 : Int32)), .val (.ref oSET), .unset, .unset, .unset]) (pc' := 10) X at_9 rfl rfl rfl ?_
    refine E_iloadN (pc' := 11) X at_10 rfl rfl ?_
    refine E_iconst (v := (1 : Int32)) (pc' := 12) X at_11 rfl rfl ?_
    refine E_icmp (pcY := 31) (pcN := 15) X (ic_eq _ _) at_12 (by decide) rfl rfl (fun hc12_0 => absurd hc12_0 (by decide)) (fun hc12_0 => ?_)
    refine E_iloadN (pc' := 16) X at_15 rfl rfl ?_
    refine E_iconst (v := (2 : Int32)) (pc' := 17) X at_16 rfl rfl ?_
    refine E_icmp (pcY := 31) (pcN := 20) X (ic_eq _ _) at_17 (by decide) rfl rfl (fun hc17_0 => absurd hc17_0 (by decide)) (fun hc17_0 => ?_)
    refine E_iloadN (pc' := 21) X at_20 rfl rfl ?_
    refine E_iconst (v := (3 : Int32)) (pc' := 22) X at_21 rfl rfl ?_
    refine E_icmp (pcY := 31) (pcN := 25) X (ic_eq _ _) at_22 (by decide) rfl rfl (fun hc22_0 => absurd hc22_0 (by decide)) (fun hc22_0 => ?_)
    refine E_iloadN (pc' := 26) X at_25 rfl rfl ?_
    refine E_bipush (v := (6 : Int32)) (pc' := 28) X at_26 rfl rfl ?_
    refine E_icmp (pcY := 35) (pcN := 31) X (ic_ne _ _) at_28 (by decide) rfl rfl (fun hc28_0 => ?_) (fun hc28_0 => absurd (by decide) hc28_0)
    refine E_iconst (v := (0 : Int32)) (pc' := 36) X at_35 rfl rfl ?_
    refine E_istoreN (Ls' := #[.val (.int i0), .val (.int (5 : Int32)), .val (.ref oSET), .val (.int (0 : Int32)), .unset, .unset]) (pc' := 37) X at_36 rfl rfl ?_
    refine E_aloadN (v := (.ref oSET)) (pc' := 38) X at_37 rfl rfl rfl ?_
    have O_83 := hoE17.ext X.ext
    refine E_callV (a := oSET) (pc' := 41) (W := 0) (cells' := 0) (slots' := 0) (argsL := []) (rest := []) X (rm_pn l Z a0 hw oSET h0 X.ext hoF25) O_83 (w_7 hw) (w_8 hw) (w_10 hw) (w_9 hw) (w_5 hw) (w_11 hw) rfl (by decide) rfl rfl pd_1 rfl rfl at_38 rfl (Nat.le_refl _) (by decide) (by decide) rfl rfl (by decide) (by decide) (fun v80 T h_81 X hQ82 => ?_)
    obtain ⟨rfl, rfl⟩ := hQ82
    show End Z p e below s _ _ _ _ (mkF m 41 #[.val (.int i0), .val (.int (5 : Int32)), .val (.ref oSET), .val (.int (0 : Int32)), .unset, .unset] [(.int (0 : Int32))])
    refine E_iloadN (pc' := 42) X at_41 rfl rfl ?_
    refine E_icmp (pcY := 47) (pcN := 45) X (ic_eq _ _) at_42 (by decide) rfl rfl (fun hc42_0 => ?_) (fun hc42_0 => absurd (by decide) hc42_0)
    refine E_iloadN (pc' := 48) X at_47 rfl rfl ?_
    refine E_if (pcY := 102) (pcN := 51) X (i0_eq _) at_48 (by decide) rfl rfl (fun hc48_0 => ?_) (fun hc48_0 => absurd (by decide) hc48_0)
    refine E_iconst (v := (1 : Int32)) (pc' := 103) X at_102 rfl rfl ?_
    exact E_retZ (Or.inr rfl) X at_103 (by decide) (by decide) rfl
  · skip
    refine E_eqI (z := (6 : Int32)) q ?_
    refine E_istoreN (Ls' := #[.val (.int i0), .val (.int (6 : Int32)), .unset, .unset, .unset, .unset]) (pc' := 5) X at_4 rfl rfl ?_
    refine E_iloadN (pc' := 6) X at_5 rfl rfl ?_
    refine E_callS (pc' := 9) (W := 0) (cells' := 0) (slots' := 0) (argsL := [(.int (6 : Int32))]) (rest := []) X (rm1 l Z a0 hw (6 : Int32) oFORWARD_U oFORWARD_B oDROP oASK oFUNCTION oSET oMATCH oRADIO_OFF oMATCH h0 X.ext hS0 hS11 hS9 hS2 hS14 hS16 hS5 hS7 (by simp [ownPick])) (w_0 hw) (w_1 hw) (w_2 hw) (w_3 hw) (by decide) rfl rfl pd_0 rfl rfl at_6 rfl (Nat.le_refl _) (by decide) (by decide) rfl rfl (by decide) (by decide) (fun v85 T h_86 X hQ87 => ?_)
    obtain ⟨rfl, rfl⟩ := hQ87
    show End Z p e below s _ _ _ _ (mkF m 9 #[.val (.int i0), .val (.int (6 : Int32)), .unset, .unset, .unset, .unset] [(.ref oMATCH)])
    refine E_astoreN (Ls' := #[.val (.int i0), .val (.int (6 : Int32)), .val (.ref oMATCH), .unset, .unset, .unset]) (pc' := 10) X at_9 rfl rfl rfl ?_
    refine E_iloadN (pc' := 11) X at_10 rfl rfl ?_
    refine E_iconst (v := (1 : Int32)) (pc' := 12) X at_11 rfl rfl ?_
    refine E_icmp (pcY := 31) (pcN := 15) X (ic_eq _ _) at_12 (by decide) rfl rfl (fun hc12_0 => absurd hc12_0 (by decide)) (fun hc12_0 => ?_)
    refine E_iloadN (pc' := 16) X at_15 rfl rfl ?_
    refine E_iconst (v := (2 : Int32)) (pc' := 17) X at_16 rfl rfl ?_
    refine E_icmp (pcY := 31) (pcN := 20) X (ic_eq _ _) at_17 (by decide) rfl rfl (fun hc17_0 => absurd hc17_0 (by decide)) (fun hc17_0 => ?_)
    refine E_iloadN (pc' := 21) X at_20 rfl rfl ?_
    refine E_iconst (v := (3 : Int32)) (pc' := 22) X at_21 rfl rfl ?_
    refine E_icmp (pcY := 31) (pcN := 25) X (ic_eq _ _) at_22 (by decide) rfl rfl (fun hc22_0 => absurd hc22_0 (by decide)) (fun hc22_0 => ?_)
    refine E_iloadN (pc' := 26) X at_25 rfl rfl ?_
    refine E_bipush (v := (6 : Int32)) (pc' := 28) X at_26 rfl rfl ?_
    refine E_icmp (pcY := 35) (pcN := 31) X (ic_ne _ _) at_28 (by decide) rfl rfl (fun hc28_0 => absurd hc28_0 (by decide)) (fun hc28_0 => ?_)
    refine E_iconst (v := (1 : Int32)) (pc' := 32) X at_31 rfl rfl ?_
    refine E_goto (pc' := 36) X at_32 (by decide) rfl ?_
    refine E_istoreN (Ls' := #[.val (.int i0), .val (.int (6 : Int32)), .val (.ref oMATCH), .val (.int (1 : Int32)), .unset, .unset]) (pc' := 37) X at_36 rfl rfl ?_
    refine E_aloadN (v := (.ref oMATCH)) (pc' := 38) X at_37 rfl rfl rfl ?_
    have O_92 := hoE6.ext X.ext
    refine E_callV (a := oMATCH) (pc' := 41) (W := 0) (cells' := 0) (slots' := 0) (argsL := []) (rest := []) X (rm_pr l Z a0 hw oMATCH oASK_fixedValue h0 X.ext hoF21) O_92 (w_7 hw) (w_8 hw) (w_10 hw) (w_9 hw) (w_5 hw) (w_11 hw) rfl (by decide) rfl rfl pd_1 rfl rfl at_38 rfl (Nat.le_refl _) (by decide) (by decide) rfl rfl (by decide) (by decide) (fun v89 T h_90 X hQ91 => ?_)
    obtain ⟨rfl, rfl⟩ := hQ91
    show End Z p e below s _ _ _ _ (mkF m 41 #[.val (.int i0), .val (.int (6 : Int32)), .val (.ref oMATCH), .val (.int (1 : Int32)), .unset, .unset] [(.int (1 : Int32))])
    refine E_iloadN (pc' := 42) X at_41 rfl rfl ?_
    refine E_icmp (pcY := 47) (pcN := 45) X (ic_eq _ _) at_42 (by decide) rfl rfl (fun hc42_0 => ?_) (fun hc42_0 => absurd (by decide) hc42_0)
    refine E_iloadN (pc' := 48) X at_47 rfl rfl ?_
    refine E_if (pcY := 102) (pcN := 51) X (i0_eq _) at_48 (by decide) rfl rfl (fun hc48_0 => absurd hc48_0 (by decide)) (fun hc48_0 => ?_)
    refine E_aloadN (v := (.ref oMATCH)) (pc' := 52) X at_51 rfl rfl rfl ?_
    have le_97 := X.le
    have O_98 := hoE6.ext X.ext
    refine E_callV (a := oMATCH) (pc' := 55) (W := 0) (cells' := 1) (slots' := 0) (argsL := []) (rest := []) X (rm_fv0 l Z a0 hw oMATCH oASK_fixedValue h0 X.ext hoF21 hoE4 hoA26) O_98 (w_16 hw) (w_17 hw) (w_19 hw) (w_18 hw) (w_5 hw) (w_20 hw) rfl (by decide) rfl rfl pd_2 rfl rfl at_52 rfl (Nat.le_refl _) (by decide) (by decide) rfl rfl (by decide) (by decide) (fun v94 T h_95 X hQ96 => ?_)
    obtain ⟨r_99, rfl, Kc_100, nw_101, A_102⟩ := hQ96
    have fr_103 : Z.heap.size ≤ r_99 := Nat.le_trans le_97 nw_101
    show End Z p e below s _ _ _ _ (mkF m 55 #[.val (.int i0), .val (.int (6 : Int32)), .val (.ref oMATCH), .val (.int (1 : Int32)), .unset, .unset] [(.ref r_99)])
    refine E_astore (Ls' := #[.val (.int i0), .val (.int (6 : Int32)), .val (.ref oMATCH), .val (.int (1 : Int32)), .val (.ref r_99), .unset]) (pc' := 57) X at_55 rfl rfl rfl ?_
    refine E_iloadN (pc' := 58) X at_57 rfl rfl ?_
    refine E_iconst (v := (1 : Int32)) (pc' := 59) X at_58 rfl rfl ?_
    refine E_icmp (pcY := 66) (pcN := 62) X (ic_ne _ _) at_59 (by decide) rfl rfl (fun hc59_0 => ?_) (fun hc59_0 => absurd (by decide) hc59_0)
    refine E_iconst (v := (0 : Int32)) (pc' := 67) X at_66 rfl rfl ?_
    refine E_istore (Ls' := #[.val (.int i0), .val (.int (6 : Int32)), .val (.ref oMATCH), .val (.int (1 : Int32)), .val (.ref r_99), .val (.int (0 : Int32))]) (pc' := 69) X at_67 rfl rfl ?_
    refine E_aload (v := (.ref r_99)) (pc' := 71) X at_69 rfl rfl rfl ?_
    refine E_alen (n := (0 : Int32)) (pc' := 72) X A_102 rfl at_71 rfl ?_
    refine E_iload (pc' := 74) X at_72 rfl rfl ?_
    refine E_icmp (pcY := 79) (pcN := 77) X (ic_eq _ _) at_74 (by decide) rfl rfl (fun hc74_0 => ?_) (fun hc74_0 => absurd (by decide) hc74_0)
    refine E_iloadN (pc' := 80) X at_79 rfl rfl ?_
    refine E_iconst (v := (1 : Int32)) (pc' := 81) X at_80 rfl rfl ?_
    refine E_icmp (pcY := 102) (pcN := 84) X (ic_ne _ _) at_81 (by decide) rfl rfl (fun hc81_0 => ?_) (fun hc81_0 => absurd (by decide) hc81_0)
    refine E_iconst (v := (1 : Int32)) (pc' := 103) X at_102 rfl rfl ?_
    exact E_retZ (Or.inr rfl) X at_103 (by decide) (by decide) rfl
  · skip
    refine E_eqI (z := (7 : Int32)) q ?_
    refine E_istoreN (Ls' := #[.val (.int i0), .val (.int (7 : Int32)), .unset, .unset, .unset, .unset]) (pc' := 5) X at_4 rfl rfl ?_
    refine E_iloadN (pc' := 6) X at_5 rfl rfl ?_
    refine E_callS (pc' := 9) (W := 0) (cells' := 0) (slots' := 0) (argsL := [(.int (7 : Int32))]) (rest := []) X (rm1 l Z a0 hw (7 : Int32) oFORWARD_U oFORWARD_B oDROP oASK oFUNCTION oSET oMATCH oRADIO_OFF oRADIO_OFF h0 X.ext hS0 hS11 hS9 hS2 hS14 hS16 hS5 hS7 (by simp [ownPick])) (w_0 hw) (w_1 hw) (w_2 hw) (w_3 hw) (by decide) rfl rfl pd_0 rfl rfl at_6 rfl (Nat.le_refl _) (by decide) (by decide) rfl rfl (by decide) (by decide) (fun v104 T h_105 X hQ106 => ?_)
    obtain ⟨rfl, rfl⟩ := hQ106
    show End Z p e below s _ _ _ _ (mkF m 9 #[.val (.int i0), .val (.int (7 : Int32)), .unset, .unset, .unset, .unset] [(.ref oRADIO_OFF)])
    refine E_astoreN (Ls' := #[.val (.int i0), .val (.int (7 : Int32)), .val (.ref oRADIO_OFF), .unset, .unset, .unset]) (pc' := 10) X at_9 rfl rfl rfl ?_
    refine E_iloadN (pc' := 11) X at_10 rfl rfl ?_
    refine E_iconst (v := (1 : Int32)) (pc' := 12) X at_11 rfl rfl ?_
    refine E_icmp (pcY := 31) (pcN := 15) X (ic_eq _ _) at_12 (by decide) rfl rfl (fun hc12_0 => absurd hc12_0 (by decide)) (fun hc12_0 => ?_)
    refine E_iloadN (pc' := 16) X at_15 rfl rfl ?_
    refine E_iconst (v := (2 : Int32)) (pc' := 17) X at_16 rfl rfl ?_
    refine E_icmp (pcY := 31) (pcN := 20) X (ic_eq _ _) at_17 (by decide) rfl rfl (fun hc17_0 => absurd hc17_0 (by decide)) (fun hc17_0 => ?_)
    refine E_iloadN (pc' := 21) X at_20 rfl rfl ?_
    refine E_iconst (v := (3 : Int32)) (pc' := 22) X at_21 rfl rfl ?_
    refine E_icmp (pcY := 31) (pcN := 25) X (ic_eq _ _) at_22 (by decide) rfl rfl (fun hc22_0 => absurd hc22_0 (by decide)) (fun hc22_0 => ?_)
    refine E_iloadN (pc' := 26) X at_25 rfl rfl ?_
    refine E_bipush (v := (6 : Int32)) (pc' := 28) X at_26 rfl rfl ?_
    refine E_icmp (pcY := 35) (pcN := 31) X (ic_ne _ _) at_28 (by decide) rfl rfl (fun hc28_0 => ?_) (fun hc28_0 => absurd (by decide) hc28_0)
    refine E_iconst (v := (0 : Int32)) (pc' := 36) X at_35 rfl rfl ?_
    refine E_istoreN (Ls' := #[.val (.int i0), .val (.int (7 : Int32)), .val (.ref oRADIO_OFF), .val (.int (0 : Int32)), .unset, .unset]) (pc' := 37) X at_36 rfl rfl ?_
    refine E_aloadN (v := (.ref oRADIO_OFF)) (pc' := 38) X at_37 rfl rfl rfl ?_
    have O_111 := hoE8.ext X.ext
    refine E_callV (a := oRADIO_OFF) (pc' := 41) (W := 0) (cells' := 0) (slots' := 0) (argsL := []) (rest := []) X (rm_pn l Z a0 hw oRADIO_OFF h0 X.ext hoF22) O_111 (w_7 hw) (w_8 hw) (w_10 hw) (w_9 hw) (w_5 hw) (w_11 hw) rfl (by decide) rfl rfl pd_1 rfl rfl at_38 rfl (Nat.le_refl _) (by decide) (by decide) rfl rfl (by decide) (by decide) (fun v108 T h_109 X hQ110 => ?_)
    obtain ⟨rfl, rfl⟩ := hQ110
    show End Z p e below s _ _ _ _ (mkF m 41 #[.val (.int i0), .val (.int (7 : Int32)), .val (.ref oRADIO_OFF), .val (.int (0 : Int32)), .unset, .unset] [(.int (0 : Int32))])
    refine E_iloadN (pc' := 42) X at_41 rfl rfl ?_
    refine E_icmp (pcY := 47) (pcN := 45) X (ic_eq _ _) at_42 (by decide) rfl rfl (fun hc42_0 => ?_) (fun hc42_0 => absurd (by decide) hc42_0)
    refine E_iloadN (pc' := 48) X at_47 rfl rfl ?_
    refine E_if (pcY := 102) (pcN := 51) X (i0_eq _) at_48 (by decide) rfl rfl (fun hc48_0 => ?_) (fun hc48_0 => absurd (by decide) hc48_0)
    refine E_iconst (v := (1 : Int32)) (pc' := 103) X at_102 rfl rfl ?_
    exact E_retZ (Or.inr rfl) X at_103 (by decide) (by decide) rfl
set_option maxRecDepth 65536 in
set_option maxHeartbeats 2000000 in
theorem comes_1 {Post : Tables → Env → Array Value → State → Outcome → State → Prop} (hpost : ∀ tb e args s v u, (limb_1_1.after args s (.returned v) u = true ∧ limb_1_2.after args s (.returned v) u = true ∧ True) → FrameEnd s (.returned v) u (Jvm.fieldLocs frame_1_writes args s ++ Jvm.arrayLocs frame_1_arrays args s ++ Jvm.staticLocs frame_1_statics s) 16 128 → Post tb e args s (.returned v) u) :
    ArmFor flags0 classFile x code maxLocals ret World_1 tables_1 room_1 Calls_1 rest_1 Pre_1 Post := by
  intro l hfl _ _ p e ha hc hk s m args below hf hA hF happ hP
  obtain ⟨hcalls, hrest, hpre⟩ := hP
  obtain ⟨-, -, -, hnamed, -, -, -, hat⟩ := (Spec.applies_iff hf).mp happ
  obtain ⟨hg, hn⟩ := and_e (Cond.before_iff.mp (show (Jvm.Cond.and given_1 narrow_1).before args s = true from hpre))
  obtain ⟨hcnt, hrst⟩ := and_e hg
  have hk0 := hrst
  obtain ⟨w0, rfl⟩ : ∃ w0 : Value, args = #[w0] := by
    have hs : args.size = 1 := by simpa [Cond.value, given_1] using hcnt
    obtain ⟨L⟩ := args
    match L, hs with
    | [w0], _ => exact ⟨w0, rfl⟩
  have hw := fun d (hd : d ∈ tables_1) => atoms_spec (ws := Jvm.Cond.code x code maxLocals ret :: tables_1) hat d (List.mem_cons_of_mem _ hd)
  have hfit : Fit s := fun {y c} hc i hi => by
    obtain ⟨ha, rfl⟩ := Array.getElem?_eq_some_iff.mp hc
    have q := List.all_eq_true.mp ((Array.all_eq_true_iff_forall_mem.mp hF) _ (Array.getElem_mem ha)) i (List.mem_range.mpr hi)
    simpa [Array.getElem?_eq_getElem hi] using q
  obtain ⟨i0, e0⟩ := is_v hk0
  obtain rfl : w0 = (.int i0) := Option.some.inj e0
  obtain ⟨c0, hn⟩ := and_e hn
  obtain ⟨c1, hn⟩ := and_e hn
  obtain ⟨c2, hn⟩ := and_e hn
  obtain ⟨c3, hn⟩ := and_e hn
  obtain ⟨c4, hn⟩ := and_e hn
  obtain ⟨c5, hn⟩ := and_e hn
  obtain ⟨c6, hn⟩ := and_e hn
  obtain ⟨c7, hn⟩ := and_e hn
  obtain ⟨c8, hn⟩ := and_e hn
  obtain ⟨c9, hn⟩ := and_e hn
  obtain ⟨c10, hn⟩ := and_e hn
  obtain ⟨c11, hn⟩ := and_e hn
  obtain ⟨c12, hn⟩ := and_e hn
  obtain ⟨c13, hn⟩ := and_e hn
  obtain ⟨c14, hn⟩ := and_e hn
  obtain ⟨c15, hn⟩ := and_e hn
  obtain ⟨c16, hn⟩ := and_e hn
  obtain ⟨c17, hn⟩ := and_e hn
  obtain ⟨c18, hn⟩ := and_e hn
  obtain ⟨c19, hn⟩ := and_e hn
  obtain ⟨c20, hn⟩ := and_e hn
  have c21 := hn
  obtain ⟨oFORWARD_U, ev0, E0⟩ := own_exa c0
  have S0 := Sta.start ev0 (Or.inr ⟨(w_5 hw), (w_6 hw)⟩)
  obtain ⟨oASK, ev2, E2⟩ := own_exa c2
  have S2 := Sta.start ev2 (Or.inr ⟨(w_5 hw), (w_15 hw)⟩)
  obtain ⟨oASK_fixedValue, ev4, E4⟩ := own_exa c4
  obtain ⟨oMATCH, ev6, E6⟩ := own_exa c6
  have S6 := Sta.start ev6 (Or.inr ⟨(w_5 hw), (w_31 hw)⟩)
  obtain ⟨oRADIO_OFF, ev8, E8⟩ := own_exa c8
  have S8 := Sta.start ev8 (Or.inr ⟨(w_5 hw), (w_33 hw)⟩)
  obtain ⟨oDROP, ev10, E10⟩ := own_exa c10
  have S10 := Sta.start ev10 (Or.inr ⟨(w_5 hw), (w_35 hw)⟩)
  obtain ⟨oFORWARD_B, ev12, E12⟩ := own_exa c12
  have S12 := Sta.start ev12 (Or.inr ⟨(w_5 hw), (w_37 hw)⟩)
  obtain ⟨oFORWARD_B_fixedValue, ev14, E14⟩ := own_exa c14
  obtain ⟨oFUNCTION, ev18, E18⟩ := own_exa c18
  have S18 := Sta.start ev18 (Or.inr ⟨(w_5 hw), (w_39 hw)⟩)
  obtain ⟨oSET, ev20, E20⟩ := own_exa c20
  have S20 := Sta.start ev20 (Or.inr ⟨(w_5 hw), (w_41 hw)⟩)
  obtain ⟨cl3, A3, at3⟩ := own_arr ev4 c3
  have F4 := own_fld ev2 ev4
  obtain ⟨cl13, A13, at13⟩ := own_arr ev14 c13
  have F14 := own_fld ev12 ev14
  have F1 := own_fld ev0 (own_eqi c1 rfl)
  have L5 := own_len ev4 at3 (own_eqi c5 (Term.int_eval (0)))
  have F7 := own_fld ev6 (own_eqi c7 ev4)
  have F9 := own_fld ev8 (own_eqi c9 rfl)
  have F11 := own_fld ev10 (own_eqi c11 ev4)
  have L15 := own_len ev14 at13 (own_eqi c15 (Term.int_eval (2)))
  have H16 := own_el ev14 at13 (own_eqi c16 (Term.int_eval (-1)))
  have H17 := own_el ev14 at13 (own_eqi c17 (Term.int_eval (-1)))
  have F19 := own_fld ev18 (own_eqi c19 rfl)
  have F21 := own_fld ev20 (own_eqi c21 rfl)
  have Ar3 : Ar s s.heap oASK_fixedValue .byte [] := own_ar A3 L5 trivial
  have Ar13 : Ar s s.heap oFORWARD_B_fixedValue .byte [(.int (-1 : Int32)), (.int (-1 : Int32))] := own_ar A13 L15 ⟨H16, H17, trivial⟩
  obtain ⟨n, o, h1, h2, h3, _, L, rfl, ⟨N, _, rfl⟩, hq⟩ := rm0 l s _ hw i0 oFORWARD_U oASK oASK_fixedValue oMATCH oRADIO_OFF oDROP oFORWARD_B oFORWARD_B_fixedValue oFUNCTION oSET s.heap (Ext.refl _) S0 E0 S2 E2 E4 S6 E6 S8 E8 S10 E10 S12 E12 E14 S18 E18 S20 E20 F4 F14 F1 F7 F9 F11 F19 F21 Ar3 Ar13 tables_1 p e ha hc hk s m _ below hf ((Spec.applies_iff_loose hf).mp happ).1 ⟨rfl, State.Warmed39.refl s, rfl⟩ trivial
  refine ⟨n, _, h1, h2, h3, hpost _ _ _ _ _ _ ⟨Cond.after_iff.mpr rfl, Cond.after_iff.mpr (eq_i res_at (Term.int_eval (1)) rfl), trivial⟩ ⟨hq.1, hq.2.1, (hq.2.2.sift fun y hy => Or.inr (N y hy)).mono (by decide) (by decide)⟩⟩
theorem main_1_1 : Claimed_1_1 := comes_1 fun _ _ _ _ _ _ h hF => ⟨h.1, hF⟩
theorem main_1_2 : Claimed_1_2 := comes_1 fun _ _ _ _ _ _ h hF => ⟨h.2.1, hF⟩
end Jvm.Pilot.@@N@@
namespace Jvm.Pilot.@@N@@
open Jvm Jvm.ClassFile Sem Op Lib Jvm.Free Jvm.Stand Jvm.Pilot.@@N@@.Jvm.D
/-! MADE BY PROGRAM (witnessworld.py) out of the Statement's table words and the real class files: 12 classes; the members and pool entries that the words name. The judged class is class 1, her method 2. -/
namespace start1
open Jvm.ClassFile
def u (s : String) : CpInfo := .utf8 (stringToUtf16 s)
/-- a pool by its gaps: so many unusable entries, then the entry; so many at the end -/
def gap : Nat → List CpInfo → List CpInfo
  | 0, r => r
  | n + 1, r => .unusable :: gap n r
def poolList (es : List (Nat × CpInfo)) (last : Nat) : List CpInfo := es.foldr (fun e r => gap e.1 (e.2 :: r)) (gap last [])
def pool (es : List (Nat × CpInfo)) (last : Nat) : Array CpInfo := ⟨poolList es last⟩
def fileOf (pool : Array CpInfo) (this : Nat) (attrs : Array Attribute := #[]) (ms : Array MethodInfo := #[]) (fl : Nat := 33) (sup : Nat := 0) (ifs : Array Nat := #[]) (fds : Array FieldInfo := #[]) : ClassFile where
  minorVersion := 0
  majorVersion := 65
  constantPool := pool
  accessFlags := fl
  thisClass := this
  superClass := sup
  interfaces := ifs
  fields := fds
  methods := ms
  attributes := attrs
def plain (name : String) (sup : Option ClassId) : Class where
  name := name
  kind := .ordinary
  loader := none
  accessFlags := 33
  super := sup
  interfaces := #[]
  cf := none
  fields := #[]
  methods := #[]
  instanceTypes := #[]
  staticTypes := #[]
  resolved := #[]
  callSites := []
  init := .initialized
  statics := none
  mirror := none

def pool0 : Array CpInfo := pool [(5, u "<init>"), (0, u "()V"), (1, .class_ 10), (1, u "java/lang/Object"), (85, u "clone"), (0, u "()Ljava/lang/Object;")] 26

def k0m0 : Method := { name := "<init>", desc := "()V", sig := { parameters := [], returnType := none }, accessFlags := 1, code := none }
def k0m1 : Method := { name := "clone", desc := "()Ljava/lang/Object;", sig := { parameters := [], returnType := some (.object "java/lang/Object") }, accessFlags := 260, code := none }
/-- java/lang/Object -/
def k0 : Class := { plain "java/lang/Object" none with
  accessFlags := 33
  interfaces := #[]
  cf := some (fileOf pool0 8 #[] #[{ accessFlags := 1, nameIndex := 5, descriptorIndex := 6, attributes := #[] }, { accessFlags := 260, nameIndex := 96, descriptorIndex := 97, attributes := #[] }] 33 0 #[] #[])
  fields := #[]
  methods := #[k0m0, k0m1]
  instanceTypes := #[]
  staticTypes := #[]
  resolved := Array.replicate 124 none
  statics := none }

def pool1 : Array CpInfo := pool [(2, .class_ 4), (1, u "java/lang/Object"), (0, u "<init>"), (0, u "()V"), (0, .fieldref 8 9), (0, .class_ 10), (0, .nameAndType 11 12), (0, u "com/example/flowmote/flowmote/ActionType"), (0, u "FORWARD_U"), (0, u "Lcom/example/flowmote/flowmote/ActionType;"), (0, .fieldref 8 14), (0, .nameAndType 15 12), (0, u "FORWARD_B"), (0, .fieldref 8 17), (0, .nameAndType 18 12), (0, u "DROP"), (0, .fieldref 8 20), (0, .nameAndType 21 12), (0, u "ASK"), (0, .fieldref 8 23), (0, .nameAndType 24 12), (0, u "FUNCTION"), (0, .fieldref 8 26), (0, .nameAndType 27 12), (0, u "SET"), (0, .fieldref 8 29), (0, .nameAndType 30 12), (0, u "MATCH"), (0, .fieldref 8 32), (0, .nameAndType 33 12), (0, u "RADIO_OFF"), (0, .methodref 35 36), (0, .class_ 37), (0, .nameAndType 38 39), (0, u "com/example/flowmote/flowmote/ActionTypeIsPlainPinLaw"), (0, u "pick"), (0, u "(I)Lcom/example/flowmote/flowmote/ActionType;"), (0, .methodref 8 41), (0, .nameAndType 42 43), (0, u "isPlain"), (0, u "()Z"), (0, .methodref 8 45), (0, .nameAndType 46 47), (0, u "fixedValue"), (0, u "()[B"), (3, u "law"), (0, u "(I)Z")] 4

def k1m0 : Method := { name := "<init>", desc := "()V", sig := { parameters := [], returnType := none }, accessFlags := 2, code := none }
def k1c1 : Code := { maxStack := 2, maxLocals := 1, code := method_2_code, exceptionTable := #[], attributes := #[] }
def k1m1 : Method := { name := "pick", desc := "(I)Lcom/example/flowmote/flowmote/ActionType;", sig := { parameters := [.int], returnType := some (.object "com/example/flowmote/flowmote/ActionType") }, accessFlags := 10, code := some k1c1 }
def k1c2 : Code := { maxStack := 2, maxLocals := 6, code := code, exceptionTable := #[], attributes := #[] }
def k1m2 : Method := { name := "law", desc := "(I)Z", sig := { parameters := [.int], returnType := some .boolean }, accessFlags := 9, code := some k1c2 }
/-- com/example/flowmote/flowmote/ActionTypeIsPlainPinLaw -/
def k1 : Class := { plain "com/example/flowmote/flowmote/ActionTypeIsPlainPinLaw" (some 0) with
  accessFlags := 49
  interfaces := #[]
  cf := some (fileOf pool1 35 #[] #[{ accessFlags := 2, nameIndex := 5, descriptorIndex := 6, attributes := #[] }, { accessFlags := 10, nameIndex := 38, descriptorIndex := 39, attributes := #[] }, { accessFlags := 9, nameIndex := 51, descriptorIndex := 52, attributes := #[] }] 49 2 #[] #[])
  fields := #[]
  methods := #[k1m0, k1m1, k1m2]
  instanceTypes := #[]
  staticTypes := #[]
  resolved := Array.replicate 57 none
  statics := none }

def pool2 : Array CpInfo := pool [(1, .class_ 2), (0, u "java/lang/constant/Constable"), (0, .class_ 4), (0, u "java/lang/Object")] 6

/-- java/lang/constant/Constable -/
def k2 : Class := { plain "java/lang/constant/Constable" (some 0) with
  accessFlags := 1537
  interfaces := #[]
  cf := some (fileOf pool2 1 #[] #[] 1537 3 #[] #[])
  fields := #[]
  methods := #[]
  instanceTypes := #[]
  staticTypes := #[]
  resolved := Array.replicate 11 none
  statics := none }

def pool3 : Array CpInfo := pool [(1, .class_ 2), (0, u "java/lang/Comparable"), (0, .class_ 4), (0, u "java/lang/Object")] 7

/-- java/lang/Comparable -/
def k3 : Class := { plain "java/lang/Comparable" (some 0) with
  accessFlags := 1537
  interfaces := #[]
  cf := some (fileOf pool3 1 #[] #[] 1537 3 #[] #[])
  fields := #[]
  methods := #[]
  instanceTypes := #[]
  staticTypes := #[]
  resolved := Array.replicate 12 none
  statics := none }

def pool4 : Array CpInfo := pool [(1, .class_ 2), (0, u "java/io/Serializable"), (0, .class_ 4), (0, u "java/lang/Object")] 2

/-- java/io/Serializable -/
def k4 : Class := { plain "java/io/Serializable" (some 0) with
  accessFlags := 1537
  interfaces := #[]
  cf := some (fileOf pool4 1 #[] #[] 1537 3 #[] #[])
  fields := #[]
  methods := #[]
  instanceTypes := #[]
  staticTypes := #[]
  resolved := Array.replicate 7 none
  statics := none }

def pool5 : Array CpInfo := pool [(2, .class_ 4), (1, u "java/lang/Enum"), (0, u "name"), (0, u "Ljava/lang/String;"), (2, u "ordinal"), (0, u "I"), (1, .class_ 14), (1, u "java/lang/Object"), (4, u "hash"), (86, .class_ 108), (1, u "java/lang/Enum$EnumDesc"), (2, .class_ 112), (0, u "java/lang/constant/Constable"), (0, .class_ 114), (0, u "java/lang/Comparable"), (0, .class_ 116), (0, u "java/io/Serializable")] 87

/-- java/lang/Enum -/
def k5 : Class := { plain "java/lang/Enum" (some 0) with
  accessFlags := 1057
  interfaces := #[2, 3, 4]
  cf := some (fileOf pool5 2 #[.nestMembers #[106]] #[] 1057 12 #[111, 113, 115] #[{ accessFlags := 18, nameIndex := 5, descriptorIndex := 6, attributes := #[] }, { accessFlags := 18, nameIndex := 9, descriptorIndex := 10, attributes := #[] }, { accessFlags := 2, nameIndex := 19, descriptorIndex := 10, attributes := #[] }])
  fields := #[{ name := "name", type := (.object "java/lang/String"), accessFlags := 18, slot := 0, constantValue := 0 }, { name := "ordinal", type := .int, accessFlags := 18, slot := 1, constantValue := 0 }, { name := "hash", type := .int, accessFlags := 2, slot := 2, constantValue := 0 }]
  methods := #[]
  instanceTypes := #[(.object "java/lang/String"), .int, .int]
  staticTypes := #[]
  resolved := Array.replicate 204 none
  statics := none }

def pool6 : Array CpInfo := pool [(1, .class_ 2), (0, u "com/example/flowmote/flowmote/ActionType"), (2, u "FORWARD_U"), (0, u "Lcom/example/flowmote/flowmote/ActionType;"), (2, u "FORWARD_B"), (2, u "DROP"), (2, u "ASK"), (2, u "FUNCTION"), (2, u "SET"), (2, u "MATCH"), (2, u "RADIO_OFF"), (2, u "$VALUES"), (0, u "[Lcom/example/flowmote/flowmote/ActionType;"), (2, .nameAndType 35 36), (0, u "clone"), (0, u "()Ljava/lang/Object;"), (1, .class_ 40), (1, u "java/lang/Enum"), (8, u "code"), (0, u "I"), (6, .fieldref 1 58), (0, .nameAndType 59 60), (0, u "fixedValue"), (0, u "[B"), (2, u "reader"), (0, u "Lcom/example/flowmote/flowmote/ActionType$ValueReader;"), (2, u "textReader"), (0, u "Lcom/example/flowmote/flowmote/ActionType$TextReader;"), (14, .methodref 84 34), (0, .class_ 60), (2, u "isPlain"), (0, u "()Z"), (32, .class_ 123), (1, u "com/example/flowmote/flowmote/ActionType$ValueReader"), (3, .class_ 129), (1, u "com/example/flowmote/flowmote/ActionType$TextReader"), (46, u "()[B")] 80

def k6c0 : Code := { maxStack := 1, maxLocals := 1, code := prog_2_method_8_code, exceptionTable := #[], attributes := #[] }
def k6m0 : Method := { name := "isPlain", desc := "()Z", sig := { parameters := [], returnType := some .boolean }, accessFlags := 0, code := some k6c0 }
def k6c1 : Code := { maxStack := 1, maxLocals := 1, code := prog_2_method_9_code, exceptionTable := #[], attributes := #[] }
def k6m1 : Method := { name := "fixedValue", desc := "()[B", sig := { parameters := [], returnType := some (.array .byte) }, accessFlags := 0, code := some k6c1 }
/-- com/example/flowmote/flowmote/ActionType -/
def k6 : Class := { plain "com/example/flowmote/flowmote/ActionType" (some 5) with
  accessFlags := 16433
  interfaces := #[]
  cf := some (fileOf pool6 1 #[.nestMembers #[127, 121]] #[{ accessFlags := 0, nameIndex := 87, descriptorIndex := 88, attributes := #[] }, { accessFlags := 0, nameIndex := 59, descriptorIndex := 176, attributes := #[] }] 16433 38 #[] #[{ accessFlags := 16409, nameIndex := 5, descriptorIndex := 6, attributes := #[] }, { accessFlags := 16409, nameIndex := 9, descriptorIndex := 6, attributes := #[] }, { accessFlags := 16409, nameIndex := 12, descriptorIndex := 6, attributes := #[] }, { accessFlags := 16409, nameIndex := 15, descriptorIndex := 6, attributes := #[] }, { accessFlags := 16409, nameIndex := 18, descriptorIndex := 6, attributes := #[] }, { accessFlags := 16409, nameIndex := 21, descriptorIndex := 6, attributes := #[] }, { accessFlags := 16409, nameIndex := 24, descriptorIndex := 6, attributes := #[] }, { accessFlags := 16409, nameIndex := 27, descriptorIndex := 6, attributes := #[] }, { accessFlags := 18, nameIndex := 49, descriptorIndex := 50, attributes := #[] }, { accessFlags := 18, nameIndex := 59, descriptorIndex := 60, attributes := #[] }, { accessFlags := 18, nameIndex := 63, descriptorIndex := 64, attributes := #[] }, { accessFlags := 18, nameIndex := 67, descriptorIndex := 68, attributes := #[] }, { accessFlags := 4122, nameIndex := 30, descriptorIndex := 31, attributes := #[] }])
  fields := #[{ name := "FORWARD_U", type := (.object "com/example/flowmote/flowmote/ActionType"), accessFlags := 16409, slot := 0, constantValue := 0 }, { name := "FORWARD_B", type := (.object "com/example/flowmote/flowmote/ActionType"), accessFlags := 16409, slot := 1, constantValue := 0 }, { name := "DROP", type := (.object "com/example/flowmote/flowmote/ActionType"), accessFlags := 16409, slot := 2, constantValue := 0 }, { name := "ASK", type := (.object "com/example/flowmote/flowmote/ActionType"), accessFlags := 16409, slot := 3, constantValue := 0 }, { name := "FUNCTION", type := (.object "com/example/flowmote/flowmote/ActionType"), accessFlags := 16409, slot := 4, constantValue := 0 }, { name := "SET", type := (.object "com/example/flowmote/flowmote/ActionType"), accessFlags := 16409, slot := 5, constantValue := 0 }, { name := "MATCH", type := (.object "com/example/flowmote/flowmote/ActionType"), accessFlags := 16409, slot := 6, constantValue := 0 }, { name := "RADIO_OFF", type := (.object "com/example/flowmote/flowmote/ActionType"), accessFlags := 16409, slot := 7, constantValue := 0 }, { name := "code", type := .int, accessFlags := 18, slot := 3, constantValue := 0 }, { name := "fixedValue", type := (.array .byte), accessFlags := 18, slot := 4, constantValue := 0 }, { name := "reader", type := (.object "com/example/flowmote/flowmote/ActionType$ValueReader"), accessFlags := 18, slot := 5, constantValue := 0 }, { name := "textReader", type := (.object "com/example/flowmote/flowmote/ActionType$TextReader"), accessFlags := 18, slot := 6, constantValue := 0 }, { name := "$VALUES", type := (.array (.object "com/example/flowmote/flowmote/ActionType")), accessFlags := 4122, slot := 8, constantValue := 0 }]
  methods := #[k6m0, k6m1]
  instanceTypes := #[(.object "java/lang/String"), .int, .int, .int, (.array .byte), (.object "com/example/flowmote/flowmote/ActionType$ValueReader"), (.object "com/example/flowmote/flowmote/ActionType$TextReader")]
  staticTypes := #[(.object "com/example/flowmote/flowmote/ActionType"), (.object "com/example/flowmote/flowmote/ActionType"), (.object "com/example/flowmote/flowmote/ActionType"), (.object "com/example/flowmote/flowmote/ActionType"), (.object "com/example/flowmote/flowmote/ActionType"), (.object "com/example/flowmote/flowmote/ActionType"), (.object "com/example/flowmote/flowmote/ActionType"), (.object "com/example/flowmote/flowmote/ActionType"), (.array (.object "com/example/flowmote/flowmote/ActionType"))]
  resolved := Array.replicate 257 none
  statics := some 0 }

def pool7 : Array CpInfo := pool [(1, .class_ 2), (0, u "java/lang/Cloneable"), (0, .class_ 4), (0, u "java/lang/Object")] 2

/-- java/lang/Cloneable -/
def k7 : Class := { plain "java/lang/Cloneable" (some 0) with
  accessFlags := 1537
  interfaces := #[]
  cf := some (fileOf pool7 1 #[] #[] 1537 3 #[] #[])
  fields := #[]
  methods := #[]
  instanceTypes := #[]
  staticTypes := #[]
  resolved := Array.replicate 7 none
  statics := none }

/-- the primitive byte -/
def k8 : Class := { plain "byte" none with kind := .primitive 'B', accessFlags := 0x411 }
/-- [B -/
def k9 : Class := { plain "[B" (some 0) with kind := .array 8 .byte, interfaces := #[7, 4], accessFlags := 1041 }

/-- the primitive int -/
def k10 : Class := { plain "int" none with kind := .primitive 'I', accessFlags := 0x411 }
/-- [I -/
def k11 : Class := { plain "[I" (some 0) with kind := .array 10 .int, interfaces := #[7, 4], accessFlags := 1041 }

def heap : Heap := #[{ cls := 6, slots := #[.ref 3, .ref 4, .ref 5, .ref 6, .ref 7, .ref 8, .ref 9, .ref 10, .null], vm := .statics 6 },
  { cls := 9, slots := #[], vm := .none },
  { cls := 9, slots := #[.int (-1), .int (-1)], vm := .none },
  { cls := 6, slots := #[.null, .int 0, .int 0, .int 1, .null, .null, .null], vm := .none },
  { cls := 6, slots := #[.null, .int 1, .int 0, .int 2, .ref 2, .null, .null], vm := .none },
  { cls := 6, slots := #[.null, .int 2, .int 0, .int 3, .ref 1, .null, .null], vm := .none },
  { cls := 6, slots := #[.null, .int 3, .int 0, .int 4, .ref 1, .null, .null], vm := .none },
  { cls := 6, slots := #[.null, .int 4, .int 0, .int 5, .null, .null, .null], vm := .none },
  { cls := 6, slots := #[.null, .int 5, .int 0, .int 6, .null, .null, .null], vm := .none },
  { cls := 6, slots := #[.null, .int 6, .int 0, .int 7, .ref 1, .null, .null], vm := .none },
  { cls := 6, slots := #[.null, .int 7, .int 0, .int 8, .null, .null, .null], vm := .none }]
def classes : Array Class := #[k0, k1, k2, k3, k4, k5, k6, k7, k8, k9, k10, k11]
def interned : List (Array UInt16 × Addr) := []
def slotsUsed : Nat := 67
def theMethod : MethodId := ⟨1, 2⟩
def args0 : Array Value := #[.int 3]
def aboutOver (below : List Frame) : State where
  vm := { classes := classes, interned := interned.toArray }
  heap := heap
  slotsUsed := slotsUsed
  threads := #[{ frames := .invoking theMethod args0 :: below }]
def below0 : List Frame := [.native { method := ⟨0, 0⟩, args := #[] }]
def about1 : State := aboutOver below0
def p0 : Program := .bare "" "" ""
def e0 : Env := launch0.env 0 0 0
theorem w_frames : about1.frames = Frame.invoking theMethod args0 :: below0 := rfl
set_option maxRecDepth 65536 in
theorem w_args : argsFit about1.vm theMethod args0 = true := by decide +kernel
set_option maxRecDepth 65536 in
theorem w_heap : heapFits about1 = true := by decide +kernel
set_option maxRecDepth 65536 in
theorem w_runnable : about1.curStatus? = some .runnable := by decide +kernel
set_option maxRecDepth 65536 in
theorem w_alone : about1.alone = true := by decide +kernel
set_option maxRecDepth 65536 in
theorem w_named : about1.methodNamed? x = some theMethod := by decide +kernel
set_option maxRecDepth 65536 in
theorem w_hears : about1.hears theMethod below0 = true := by decide +kernel
set_option maxRecDepth 65536 in
theorem w_ripe : about1.ripe theMethod args0 below0 = true := by decide +kernel
theorem w_running : about1.status = .running := rfl
set_option maxRecDepth 65536 in
theorem w_room : about1.hasRoom e0.platform room_1 = true :=
  launch0.hasRoom_least _ room_1 (by decide +kernel) (by decide +kernel) (by decide +kernel) (by decide +kernel) (by decide +kernel) (by decide +kernel)
theorem allAtoms_all (ts : List Jvm.Cond) (a : Array Jvm.Value) (st : Jvm.State) : (allAtoms ts).before a st = ts.all (fun c => c.before a st) := by
  induction ts with
  | nil => rfl
  | cons c t ih =>
    show (Jvm.Cond.and c (allAtoms t)).before a st = _
    rw [Jvm.Cond.before_and, ih, List.all_cons]
def words1 : List Jvm.Cond := Jvm.Cond.code x code maxLocals ret :: tables_1
/-- a 'code' word, met by the world's own term for the bytes: nothing is compared byte by byte -/
theorem code_word {y : MethodName} {bytes : ByteArray} {mx : Nat} {rt : Option FieldType} {a : Array Value} {s : State} {m : MethodId} {meth : Method} {c : Code} (h1 : s.methodNamed? y = some m) (h2 : s.vm.method? m = some meth) (h3 : meth.code = some c) (h4 : c.code = bytes)
    (h5 : (c.maxLocals == mx && c.exceptionTable.isEmpty && decide (c.maxStack ≤ mostOperands) && decide (meth.sig.returnType = rt) && !meth.locks && decide (parseMethodDescriptor y.desc = some meth.sig)) = true) : (Jvm.Cond.code y bytes mx rt).before a s = true := by
  simp only [Bool.and_eq_true, beq_iff_eq, Bool.not_eq_true', decide_eq_true_eq] at h5
  obtain ⟨⟨⟨⟨⟨g1, g2⟩, g3⟩, g4⟩, g5⟩, g6⟩ := h5
  simp [Cond.before, Cond.holds, Cond.value, h1, h2, h3, h4, g1, g2, g3, g4, g5, g6]
def isCode : Jvm.Cond → Bool
  | .code _ _ _ _ => true
  | _ => false
theorem all_split {L : List Jvm.Cond} {P : Jvm.Cond → Bool} (h1 : L.all (fun c => isCode c || P c) = true) (h2 : ∀ c ∈ L.filter isCode, P c = true) : L.all P = true := by
  refine List.all_eq_true.mpr fun c hc => ?_
  have h := List.all_eq_true.mp h1 c hc
  rcases Bool.eq_false_or_eq_true (isCode c) with hi | hi
  · exact h2 c (List.mem_filter.mpr ⟨hc, hi⟩)
  · simpa [hi] using h
set_option maxRecDepth 65536 in
theorem w_c0 : (Jvm.Cond.code x code maxLocals ret).before args0 about1 = true := code_word (m := ⟨1, 2⟩) (meth := k1m2) (c := k1c2) (by decide +kernel) rfl rfl rfl (by decide +kernel)
set_option maxRecDepth 65536 in
theorem w_c1 : (Jvm.Cond.code ({ cls := "com/example/flowmote/flowmote/ActionTypeIsPlainPinLaw", name := "pick", desc := "(I)Lcom/example/flowmote/flowmote/ActionType;" } : Jvm.MethodName) method_2_code (1 : Nat) (Option.some (Jvm.ClassFile.FieldType.object "com/example/flowmote/flowmote/ActionType"))).before args0 about1 = true := code_word (m := ⟨1, 1⟩) (meth := k1m1) (c := k1c1) (by decide +kernel) rfl rfl rfl (by decide +kernel)
set_option maxRecDepth 65536 in
theorem w_c2 : (Jvm.Cond.code ({ cls := "com/example/flowmote/flowmote/ActionType", name := "isPlain", desc := "()Z" } : Jvm.MethodName) prog_2_method_8_code (1 : Nat) (Option.some Jvm.ClassFile.FieldType.boolean)).before args0 about1 = true := code_word (m := ⟨6, 0⟩) (meth := k6m0) (c := k6c0) (by decide +kernel) rfl rfl rfl (by decide +kernel)
set_option maxRecDepth 65536 in
theorem w_c3 : (Jvm.Cond.code ({ cls := "com/example/flowmote/flowmote/ActionType", name := "fixedValue", desc := "()[B" } : Jvm.MethodName) prog_2_method_9_code (1 : Nat) (Option.some (Jvm.ClassFile.FieldType.array Jvm.ClassFile.FieldType.byte))).before args0 about1 = true := code_word (m := ⟨6, 1⟩) (meth := k6m1) (c := k6c1) (by decide +kernel) rfl rfl rfl (by decide +kernel)
def codes1 : List Jvm.Cond := [Jvm.Cond.code x code maxLocals ret, Jvm.Cond.code ({ cls := "com/example/flowmote/flowmote/ActionTypeIsPlainPinLaw", name := "pick", desc := "(I)Lcom/example/flowmote/flowmote/ActionType;" } : Jvm.MethodName) method_2_code (1 : Nat) (Option.some (Jvm.ClassFile.FieldType.object "com/example/flowmote/flowmote/ActionType")), Jvm.Cond.code ({ cls := "com/example/flowmote/flowmote/ActionType", name := "isPlain", desc := "()Z" } : Jvm.MethodName) prog_2_method_8_code (1 : Nat) (Option.some Jvm.ClassFile.FieldType.boolean), Jvm.Cond.code ({ cls := "com/example/flowmote/flowmote/ActionType", name := "fixedValue", desc := "()[B" } : Jvm.MethodName) prog_2_method_9_code (1 : Nat) (Option.some (Jvm.ClassFile.FieldType.array Jvm.ClassFile.FieldType.byte))]
set_option maxRecDepth 65536 in
theorem codes_eq : words1.filter isCode = codes1 := rfl
theorem w_codes : ∀ c ∈ words1.filter isCode, c.before args0 about1 = true := by
  rw [codes_eq]
  intro c hc
  simp only [codes1, List.mem_cons, List.not_mem_nil, or_false] at hc
  rcases hc with rfl | rfl | rfl | rfl
  · exact w_c0
  · exact w_c1
  · exact w_c2
  · exact w_c3
set_option maxRecDepth 65536 in
theorem w_t1 : (words1.take 24).all (fun c => isCode c || c.before args0 about1) = true := by decide +kernel
set_option maxRecDepth 65536 in
theorem w_t2 : (words1.drop 24).all (fun c => isCode c || c.before args0 about1) = true := by decide +kernel
theorem w_tables : (allAtoms (Jvm.Cond.code x code maxLocals ret :: tables_1)).before args0 about1 = true := by
  rw [allAtoms_all]
  show words1.all (fun c => c.before args0 about1) = true
  refine all_split ?_ w_codes
  rw [← List.take_append_drop 24 words1, List.all_append, w_t1, w_t2]
  rfl
set_option maxRecDepth 65536 in
theorem w_case : (Jvm.Cond.and given_1 narrow_1).before args0 about1 = true := by decide +kernel
theorem w_applies : (headSpec (Jvm.Cond.code x code maxLocals ret :: tables_1) room_1).applies x e0.platform about1 = true :=
  (Spec.applies_iff w_frames).mpr ⟨w_running, w_runnable, w_alone, w_named, w_hears, w_ripe, w_room, w_tables⟩
theorem atStart : AtStart classFile x code maxLocals ret World_1 tables_1 room_1 Calls_1 rest_1 Pre_1 launch0 p0 e0 about1 theMethod args0 below0 :=
  ⟨lists_1, trivial, launch0.admits_env _ _ _, launch0.least_env, fairChoices_fair.cas, fairChoices_fair.clock, w_frames, w_args, w_heap, w_applies, trivial, trivial, w_case⟩
end start1
theorem witness_1 : WitnessClaimed_1 := ⟨start1.p0, start1.e0, start1.about1, start1.theMethod, start1.args0, start1.below0, start1.atStart⟩
end Jvm.Pilot.@@N@@
