import JvmDerived
import JvmDerived.Pilot.@@N@@Statement
import JvmDerived.Pilot.@@N@@Code
set_option linter.unusedVariables false
set_option linter.unusedSimpArgs false
namespace Jvm.RoadKit
open Sem ClassFile Op Lib Jvm.Stand Jvm.Free Jvm.LawKit
section Own
/-- the walk comes to its end from here: it returns, what it returns and the heap are as Q says, nothing old is written -/
def End (Z : State) (p : Program) (e : Env) (below : List Frame) (s : State) (Q : Option Value → Heap → Prop) (kc ks : Nat) (T : State) (g : JFrame) : Prop :=
  ∃ s₂ o, Steps p.tables e below (T.setTop g) s₂ ∧ s₂.status = .running ∧ Ended s₂ below o ∧ ∃ v L, o = .returned v ∧ (Fr Z.heap.size L ∧ Ext Z.heap s₂.heap ∧ Q v s₂.heap) ∧ FrameEnd s o s₂ L kc ks
/-- where the walk stands, with all that is fixed in a body -/
def Sd (l : Launch) (Z : State) (own nm : String) (bytes : ByteArray) (ml : Nat) (ret : Option FieldType) (R : Room) (p : Program) (e : Env) (s : State) (m : MethodId) (args : Array Value) (below : List Frame) (T : State) (h : Heap) (cells slots : Nat) : Prop :=
  ∃ (meth : Method) (c : Code) (locs : List Loc), Stand p l e R s m args below meth c T locs cells slots ∧ Fr Z.heap.size locs ∧ T.heap = h ∧ Ext Z.heap h ∧ p.tables.exec = Jvm.exec ∧ c.code = bytes ∧ c.maxLocals = ml ∧ s.vm.findClass own = some m.cls ∧ meth.name = nm ∧ meth.sig.returnType = ret ∧ meth.locks = false ∧ Z.Warmed39 s.vm
/-- a contract: called with these arguments over the heap h0 the body returns, as Q says -/
def Con (l : Launch) (Z : State) (y : MethodName) (bytes : ByteArray) (ml : Nat) (ret : Option FieldType) (rm : Room) (as : Array Value) (h0 : Heap) (Q : Option Value → Heap → Prop) : Prop :=
  ∀ ws : List Jvm.Cond, MetFree l y (head1 (Jvm.Cond.code y bytes ml ret :: ws) rm) (fun a U => a = as ∧ Z.Warmed39 U.vm ∧ U.heap = h0) (fun _ _ _ _ _ => True) (fun _ U o U' => ∃ v L, o = .returned v ∧ (Fr Z.heap.size L ∧ Ext Z.heap U'.heap ∧ Q v U'.heap) ∧ FrameEnd U o U' L rm.cells rm.slots)
theorem Ext.refl (h : Heap) : Ext h h := ⟨Nat.le_refl _, fun _ _ q => q⟩
theorem Ext.trans {h h' h'' : Heap} (E : Ext h h') (E' : Ext h' h'') : Ext h h'' := ⟨Nat.le_trans E.1 E'.1, fun a c q => E'.2 a c (E.2 a c q)⟩
theorem Ext.keep {h0 h h' : Heap} {ws : List Addr} (E : Ext h0 h) (K : Keep h h' ws) (q : ∀ x ∈ ws, h0.size ≤ x) : Ext h0 h' := ⟨Nat.le_trans E.1 K.1, fun x c r => K.2.1 x c (E.2 x c r) fun z => absurd (Array.getElem?_eq_some_iff.mp r).1 (Nat.not_lt.mpr (q x z))⟩
theorem Ext.wr {h0 h h' : Heap} {a : Addr} {sl : Nat} {v : Value} (E : Ext h0 h) (W : Wr h h' a sl v) (q : h0.size ≤ a) : Ext h0 h' := E.keep (Keep.of_wr W) (allS q all0)
theorem Keep.of_ext {h h' : Heap} (E : Ext h h') (ws : List Addr) : Keep h h' ws := (Keep.refl h ws).ext E
theorem Keep.ext0 {h h' : Heap} (K : Keep h h' []) : Ext h h' := ⟨K.1, fun x c q => K.2.1 x c q nin0⟩
theorem Keep.sub {h h' : Heap} {ws ws' : List Addr} (K : Keep h h' ws) (q : ∀ x ∈ ws, x ∈ ws') : Keep h h' ws' := ⟨K.1, fun x c r n => K.2.1 x c r fun z => n (q x z), K.2.2⟩
theorem Con.of {l : Launch} {Z : State} {y : MethodName} {bytes : ByteArray} {ml : Nat} {ret : Option FieldType} {rm : Room} {as : Array Value} {h0 : Heap} {Q : Option Value → Heap → Prop} (pn : plainFor y = true) (hE : Ext Z.heap h0)
    (body : ∀ (p : Program) (e : Env) (s : State) (m : MethodId) (below : List Frame) (T : State), Sd l Z y.cls y.name bytes ml ret rm p e s m as below T h0 0 0 → End Z p e below s Q rm.cells rm.slots T (entryFrame m as ml)) : Con l Z y bytes ml ret rm as h0 Q := by
  intro ws
  refine MetFree.of_bodySF pn hisR ?_
  intro p e s m args below meth c s₁ Bd hml hP hK
  obtain ⟨rfl, hZ, hh⟩ := hP
  have X : Stand p l e rm s m args below meth c s₁ [] 0 0 := Stand.of_body Bd
  have e0 : s₁.heap = h0 := by rw [← hh, Bd.state]; rfl
  exact body p e s m below s₁ ⟨meth, c, [], X, Fr.nil _, e0, hE, Bd.exec, Bd.bytes, hml, findClass_of_methodNamed Bd.named, (name_of_methodNamed Bd.named Bd.method).1, Bd.returns, Bd.notSynchronized, hZ⟩
variable {l : Launch} {Z : State} {own nm : String} {bytes : ByteArray} {ml : Nat} {ret : Option FieldType} {R : Room} {p : Program} {e : Env} {s : State} {m : MethodId} {args : Array Value} {below : List Frame} {T : State} {h : Heap} {cells slots : Nat} {Q : Option Value → Heap → Prop} {kc ks : Nat} {pc pc' : Nat} {Ls : Array Slot} {st : List Value} {a0 : Array Value}
theorem End.go {T' : State} {g g' : JFrame} (k : End Z p e below s Q kc ks T' g') (stp : ∀ target, Steps p.tables e below (T'.setTop g') target → Steps p.tables e below (T.setTop g) target) : End Z p e below s Q kc ks T g := by
  obtain ⟨s2, o, h1, h2⟩ := k
  exact ⟨s2, o, stp _ h1, h2⟩
theorem End.frame {g g' : JFrame} (q : g = g') (k : End Z p e below s Q kc ks T g') : End Z p e below s Q kc ks T g := q ▸ k
theorem End.of {Q' : Option Value → Heap → Prop} {g : JFrame} (k : End Z p e below s Q kc ks T g) (q : ∀ v h, Q v h → Q' v h) : End Z p e below s Q' kc ks T g := by
  obtain ⟨s2, o, h1, h2, h3, v, L, h4, ⟨h5, h6, h7⟩, h8⟩ := k
  exact ⟨s2, o, h1, h2, h3, v, L, h4, ⟨h5, h6, q _ _ h7⟩, h8⟩
theorem Con.imp {y : MethodName} {rm : Room} {as : Array Value} {h0 : Heap} {Q' : Option Value → Heap → Prop} (C : Con l Z y bytes ml ret rm as h0 Q) (q : ∀ v h, Q v h → Q' v h) : Con l Z y bytes ml ret rm as h0 Q' := by
  intro ws p e ha hc hk s m args below hf happ hP hK
  obtain ⟨n, o, h1, h2, h3, v, L, h4, ⟨h5, h6, h7⟩, h8⟩ := C ws p e ha hc hk s m args below hf happ hP hK
  exact ⟨n, o, h1, h2, h3, v, L, h4, ⟨h5, h6, q _ _ h7⟩, h8⟩
theorem Sd.ext (X : Sd l Z own nm bytes ml ret R p e s m args below T h cells slots) : Ext Z.heap h := by obtain ⟨meth, c, locs, X, N, e0, E, -⟩ := X; exact E
theorem Sd.le (X : Sd l Z own nm bytes ml ret R p e s m args below T h cells slots) : Z.heap.size ≤ h.size := X.ext.1
theorem Sd.more (X : Sd l Z own nm bytes ml ret R p e s m args below T h cells slots) {cells' slots' : Nat} (h1 : cells ≤ cells') (h2 : slots ≤ slots') : Sd l Z own nm bytes ml ret R p e s m args below T h cells' slots' := by
  obtain ⟨meth, c, locs, X, r⟩ := X; exact ⟨meth, c, locs, X.more h1 h2, r⟩
/-! returns -/
theorem E_ret0 (X : Sd l Z own nm bytes ml none R p e s m args below T h cells slots) (hd : decode bytes pc = .ok (.return_, 1)) (h1 : cells ≤ kc) (h2 : slots ≤ ks) (hq : Q none h) : End Z p e below s Q kc ks T (mkF m pc Ls []) := by
  obtain ⟨meth, c, locs, X, N, e0, E, hx, hb, hml, hown, hnm, hret, hlk, hZ⟩ := X
  subst hb
  obtain ⟨fs, hr, hrun, hended, hW, hsame⟩ := X.leave (v := none) (fun _ => rfl)
  exact ⟨_, _, X.returnOut hx hret hd hr, hrun, hended, _, _, rfl, ⟨N, by show Ext Z.heap T.heap; rw [e0]; exact E, by show Q none T.heap; rw [e0]; exact hq⟩, ⟨_, rfl⟩, hW, hsame.mono h1 h2⟩
theorem E_retW {t : FieldType} {w : Value} {i : Instr} (hn : narrow t w = w) (hi : (i = .ireturn ∧ (t = .int ∨ t = .boolean ∨ t = .byte ∨ t = .char ∨ t = .short) ∧ ∃ z, w = .int z) ∨ (i = .lreturn ∧ t = .long ∧ ∃ z, w = .long z) ∨ (i = .dreturn ∧ t = .double ∧ ∃ z, w = .double z) ∨ (i = .freturn ∧ t = .float ∧ ∃ z, w = .float z) ∨ (i = .areturn ∧ t.isReference = true ∧ w.isRef = true))
    (X : Sd l Z own nm bytes ml (some t) R p e s m args below T h cells slots) (hd : decode bytes pc = .ok (i, 1)) (h1 : cells ≤ kc) (h2 : slots ≤ ks) (hq : Q (some w) h) : End Z p e below s Q kc ks T (mkF m pc Ls (w :: st)) := by
  obtain ⟨meth, c, locs, X, N, e0, E, hx, hb, hml, hown, hnm, hret, hlk, hZ⟩ := X
  subst hb
  obtain ⟨fs, hr, hrun, hended, hW, hsame⟩ := X.leave (v := some w) (fun h => by rw [hret] at h; cases h)
  exact ⟨_, _, retOut X hx hret hn hi hd hr, hrun, hended, _, _, rfl, ⟨N, by show Ext Z.heap T.heap; rw [e0]; exact E, by show Q (some w) T.heap; rw [e0]; exact hq⟩, ⟨_, rfl⟩, hW, hsame.mono h1 h2⟩
theorem E_retI {z : Int32} (X : Sd l Z own nm bytes ml (some .int) R p e s m args below T h cells slots) (hd : decode bytes pc = .ok (.ireturn, 1)) (h1 : cells ≤ kc) (h2 : slots ≤ ks) (hq : Q (some (.int z)) h) : End Z p e below s Q kc ks T (mkF m pc Ls (.int z :: st)) :=
  E_retW (t := .int) rfl (Or.inl ⟨rfl, Or.inl rfl, z, rfl⟩) X hd h1 h2 hq
theorem E_retL {z : Int64} (X : Sd l Z own nm bytes ml (some .long) R p e s m args below T h cells slots) (hd : decode bytes pc = .ok (.lreturn, 1)) (h1 : cells ≤ kc) (h2 : slots ≤ ks) (hq : Q (some (.long z)) h) : End Z p e below s Q kc ks T (mkF m pc Ls (.long z :: st)) :=
  E_retW (t := .long) rfl (Or.inr (Or.inl ⟨rfl, rfl, z, rfl⟩)) X hd h1 h2 hq
theorem E_retA {t : FieldType} {w : Value} (X : Sd l Z own nm bytes ml (some t) R p e s m args below T h cells slots) (hd : decode bytes pc = .ok (.areturn, 1)) (ht : t.isReference = true) (hw : w.isRef = true) (h1 : cells ≤ kc) (h2 : slots ≤ ks) (hq : Q (some w) h) : End Z p e below s Q kc ks T (mkF m pc Ls (w :: st)) :=
  E_retW (by rcases ref_cases hw with rfl | ⟨a, rfl⟩ <;> (cases t <;> first | rfl | (simp [FieldType.isReference] at ht))) (Or.inr (Or.inr (Or.inr (Or.inr ⟨rfl, ht, hw⟩)))) X hd h1 h2 hq
theorem E_retZ {z : Int32} (hz : z = 0 ∨ z = 1) (X : Sd l Z own nm bytes ml (some .boolean) R p e s m args below T h cells slots) (hd : decode bytes pc = .ok (.ireturn, 1)) (h1 : cells ≤ kc) (h2 : slots ≤ ks) (hq : Q (some (.int z)) h) : End Z p e below s Q kc ks T (mkF m pc Ls (.int z :: st)) :=
  E_retW (t := .boolean) (by rcases hz with rfl | rfl <;> rfl) (Or.inl ⟨rfl, Or.inr (Or.inl rfl), z, rfl⟩) X hd h1 h2 hq
theorem E_iloadN (X : Sd l Z own nm bytes ml ret R p e s m args below T h cells slots) {i : Fin 4} {v : Int32} (hd : decode bytes pc = .ok (.iload_n i, 1)) (hp : pc + 1 = pc') (hl : Ls[i.val]? = some (.val (.int v))) (k : End Z p e below s Q kc ks T (mkF m pc' Ls (.int v :: st))) : End Z p e below s Q kc ks T (mkF m pc Ls st) := by
  subst hp; obtain ⟨meth, c, locs, X, -, -, -, hx, hb, -⟩ := X; subst hb
  exact k.go fun _ => XS.iloadN X.here hx (g := mkF m pc Ls st) rfl hd hl
theorem E_iload (X : Sd l Z own nm bytes ml ret R p e s m args below T h cells slots) {i : Nat} {v : Int32} (hd : decode bytes pc = .ok (.iload i, 2)) (hp : pc + 2 = pc') (hl : Ls[i]? = some (.val (.int v))) (k : End Z p e below s Q kc ks T (mkF m pc' Ls (.int v :: st))) : End Z p e below s Q kc ks T (mkF m pc Ls st) := by
  subst hp; obtain ⟨meth, c, locs, X, -, -, -, hx, hb, -⟩ := X; subst hb
  exact k.go fun _ => XS.iload X.here hx (g := mkF m pc Ls st) rfl hd hl
theorem E_istoreN (X : Sd l Z own nm bytes ml ret R p e s m args below T h cells slots) {i : Fin 4} {v : Int32} {Ls' : Array Slot} (hd : decode bytes pc = .ok (.istore_n i, 1)) (hp : pc + 1 = pc') (hl : storeLocals Ls i.val (.int v) = some Ls') (k : End Z p e below s Q kc ks T (mkF m pc' Ls' st)) : End Z p e below s Q kc ks T (mkF m pc Ls (.int v :: st)) := by
  subst hp; obtain ⟨meth, c, locs, X, -, -, -, hx, hb, -⟩ := X; subst hb
  exact k.go fun _ => XS.istoreN X.here hx (g := mkF m pc Ls (.int v :: st)) rfl hd rfl hl
theorem E_istore (X : Sd l Z own nm bytes ml ret R p e s m args below T h cells slots) {i : Nat} {v : Int32} {Ls' : Array Slot} (hd : decode bytes pc = .ok (.istore i, 2)) (hp : pc + 2 = pc') (hl : storeLocals Ls i (.int v) = some Ls') (k : End Z p e below s Q kc ks T (mkF m pc' Ls' st)) : End Z p e below s Q kc ks T (mkF m pc Ls (.int v :: st)) := by
  subst hp; obtain ⟨meth, c, locs, X, -, -, -, hx, hb, -⟩ := X; subst hb
  exact k.go fun _ => XS.istore X.here hx (g := mkF m pc Ls (.int v :: st)) rfl hd rfl hl
theorem E_lloadN (X : Sd l Z own nm bytes ml ret R p e s m args below T h cells slots) {i : Fin 4} {v : Int64} (hd : decode bytes pc = .ok (.lload_n i, 1)) (hp : pc + 1 = pc') (hl : Ls[i.val]? = some (.val (.long v))) (k : End Z p e below s Q kc ks T (mkF m pc' Ls (.long v :: st))) : End Z p e below s Q kc ks T (mkF m pc Ls st) := by
  subst hp; obtain ⟨meth, c, locs, X, -, -, -, hx, hb, -⟩ := X; subst hb
  exact k.go fun _ => XS.lloadN X.here hx (g := mkF m pc Ls st) rfl hd hl
theorem E_lload (X : Sd l Z own nm bytes ml ret R p e s m args below T h cells slots) {i : Nat} {v : Int64} (hd : decode bytes pc = .ok (.lload i, 2)) (hp : pc + 2 = pc') (hl : Ls[i]? = some (.val (.long v))) (k : End Z p e below s Q kc ks T (mkF m pc' Ls (.long v :: st))) : End Z p e below s Q kc ks T (mkF m pc Ls st) := by
  subst hp; obtain ⟨meth, c, locs, X, -, -, -, hx, hb, -⟩ := X; subst hb
  exact k.go fun _ => XS.lload X.here hx (g := mkF m pc Ls st) rfl hd hl
theorem E_lstoreN (X : Sd l Z own nm bytes ml ret R p e s m args below T h cells slots) {i : Fin 4} {v : Int64} {Ls' : Array Slot} (hd : decode bytes pc = .ok (.lstore_n i, 1)) (hp : pc + 1 = pc') (hl : storeLocals Ls i.val (.long v) = some Ls') (k : End Z p e below s Q kc ks T (mkF m pc' Ls' st)) : End Z p e below s Q kc ks T (mkF m pc Ls (.long v :: st)) := by
  subst hp; obtain ⟨meth, c, locs, X, -, -, -, hx, hb, -⟩ := X; subst hb
  exact k.go fun _ => XS.lstoreN X.here hx (g := mkF m pc Ls (.long v :: st)) rfl hd rfl hl
theorem E_lstore (X : Sd l Z own nm bytes ml ret R p e s m args below T h cells slots) {i : Nat} {v : Int64} {Ls' : Array Slot} (hd : decode bytes pc = .ok (.lstore i, 2)) (hp : pc + 2 = pc') (hl : storeLocals Ls i (.long v) = some Ls') (k : End Z p e below s Q kc ks T (mkF m pc' Ls' st)) : End Z p e below s Q kc ks T (mkF m pc Ls (.long v :: st)) := by
  subst hp; obtain ⟨meth, c, locs, X, -, -, -, hx, hb, -⟩ := X; subst hb
  exact k.go fun _ => XS.lstore X.here hx (g := mkF m pc Ls (.long v :: st)) rfl hd rfl hl
theorem E_aloadN (X : Sd l Z own nm bytes ml ret R p e s m args below T h cells slots) {i : Fin 4} {v : Value} (hd : decode bytes pc = .ok (.aload_n i, 1)) (hp : pc + 1 = pc') (hl : Ls[i.val]? = some (.val v)) (hv : v.isRef = true) (k : End Z p e below s Q kc ks T (mkF m pc' Ls (v :: st))) : End Z p e below s Q kc ks T (mkF m pc Ls st) := by
  subst hp; obtain ⟨meth, c, locs, X, -, -, -, hx, hb, -⟩ := X; subst hb
  exact k.go fun _ => XS.aloadN X.here hx (g := mkF m pc Ls st) rfl hd hl hv
theorem E_aload (X : Sd l Z own nm bytes ml ret R p e s m args below T h cells slots) {i : Nat} {v : Value} (hd : decode bytes pc = .ok (.aload i, 2)) (hp : pc + 2 = pc') (hl : Ls[i]? = some (.val v)) (hv : v.isRef = true) (k : End Z p e below s Q kc ks T (mkF m pc' Ls (v :: st))) : End Z p e below s Q kc ks T (mkF m pc Ls st) := by
  subst hp; obtain ⟨meth, c, locs, X, -, -, -, hx, hb, -⟩ := X; subst hb
  exact k.go fun _ => XS.aload X.here hx (g := mkF m pc Ls st) rfl hd hl hv
theorem E_astoreN (X : Sd l Z own nm bytes ml ret R p e s m args below T h cells slots) {i : Fin 4} {v : Value} {Ls' : Array Slot} (hd : decode bytes pc = .ok (.astore_n i, 1)) (hp : pc + 1 = pc') (hv : v.isRef = true) (hl : storeLocals Ls i.val v = some Ls') (k : End Z p e below s Q kc ks T (mkF m pc' Ls' st)) : End Z p e below s Q kc ks T (mkF m pc Ls (v :: st)) := by
  subst hp; obtain ⟨meth, c, locs, X, -, -, -, hx, hb, -⟩ := X; subst hb
  exact k.go fun _ => XS.astoreN X.here hx (g := mkF m pc Ls (v :: st)) rfl hd rfl hv hl
theorem E_astore (X : Sd l Z own nm bytes ml ret R p e s m args below T h cells slots) {i : Nat} {v : Value} {Ls' : Array Slot} (hd : decode bytes pc = .ok (.astore i, 2)) (hp : pc + 2 = pc') (hv : v.isRef = true) (hl : storeLocals Ls i v = some Ls') (k : End Z p e below s Q kc ks T (mkF m pc' Ls' st)) : End Z p e below s Q kc ks T (mkF m pc Ls (v :: st)) := by
  subst hp; obtain ⟨meth, c, locs, X, -, -, -, hx, hb, -⟩ := X; subst hb
  exact k.go fun _ => XS.astore X.here hx (g := mkF m pc Ls (v :: st)) rfl hd rfl hv hl
theorem E_iconst (X : Sd l Z own nm bytes ml ret R p e s m args below T h cells slots) {i : Int} {v : Int32} (hd : decode bytes pc = .ok (.iconst i, 1)) (hp : pc + 1 = pc') (hv : Int32.ofInt i = v) (k : End Z p e below s Q kc ks T (mkF m pc' Ls (.int v :: st))) : End Z p e below s Q kc ks T (mkF m pc Ls st) := by
  subst hp; obtain ⟨meth, c, locs, X, -, -, -, hx, hb, -⟩ := X; subst hb
  exact k.go fun _ => by subst hv; exact XS.iconst X.here hx (g := mkF m pc Ls st) rfl hd
theorem E_bipush (X : Sd l Z own nm bytes ml ret R p e s m args below T h cells slots) {i : Int} {v : Int32} (hd : decode bytes pc = .ok (.bipush i, 2)) (hp : pc + 2 = pc') (hv : (Int8.ofInt i).toInt32 = v) (k : End Z p e below s Q kc ks T (mkF m pc' Ls (.int v :: st))) : End Z p e below s Q kc ks T (mkF m pc Ls st) := by
  subst hp; obtain ⟨meth, c, locs, X, -, -, -, hx, hb, -⟩ := X; subst hb
  exact k.go fun _ => by subst hv; exact XS.bipush X.here hx (g := mkF m pc Ls st) rfl hd
theorem E_sipush (X : Sd l Z own nm bytes ml ret R p e s m args below T h cells slots) {i : Int} {v : Int32} (hd : decode bytes pc = .ok (.sipush i, 3)) (hp : pc + 3 = pc') (hv : (Int16.ofInt i).toInt32 = v) (k : End Z p e below s Q kc ks T (mkF m pc' Ls (.int v :: st))) : End Z p e below s Q kc ks T (mkF m pc Ls st) := by
  subst hp; obtain ⟨meth, c, locs, X, -, -, -, hx, hb, -⟩ := X; subst hb
  exact k.go fun _ => by subst hv; exact XS.sipush X.here hx (g := mkF m pc Ls st) rfl hd
theorem E_lconst (X : Sd l Z own nm bytes ml ret R p e s m args below T h cells slots) {i : Fin 2} {v : Int64} (hd : decode bytes pc = .ok (.lconst i, 1)) (hp : pc + 1 = pc') (hv : Int64.ofNat i = v) (k : End Z p e below s Q kc ks T (mkF m pc' Ls (.long v :: st))) : End Z p e below s Q kc ks T (mkF m pc Ls st) := by
  subst hp; obtain ⟨meth, c, locs, X, -, -, -, hx, hb, -⟩ := X; subst hb
  exact k.go fun _ => by subst hv; exact XS.lconst X.here hx (g := mkF m pc Ls st) rfl hd
theorem E_null (X : Sd l Z own nm bytes ml ret R p e s m args below T h cells slots)  (hd : decode bytes pc = .ok (.aconst_null, 1)) (hp : pc + 1 = pc') (k : End Z p e below s Q kc ks T (mkF m pc' Ls (.null :: st))) : End Z p e below s Q kc ks T (mkF m pc Ls st) := by
  subst hp; obtain ⟨meth, c, locs, X, -, -, -, hx, hb, -⟩ := X; subst hb
  exact k.go fun _ => XS.aconstNull X.here hx (g := mkF m pc Ls st) rfl hd
theorem E_iadd (X : Sd l Z own nm bytes ml ret R p e s m args below T h cells slots) {x y : Int32} (hd : decode bytes pc = .ok (.iadd, 1)) (hp : pc + 1 = pc') (k : End Z p e below s Q kc ks T (mkF m pc' Ls (.int (x + y) :: st))) : End Z p e below s Q kc ks T (mkF m pc Ls (.int y :: .int x :: st)) := by
  subst hp; obtain ⟨meth, c, locs, X, -, -, -, hx, hb, -⟩ := X; subst hb
  exact k.go fun _ => XS.iadd X.here hx (g := mkF m pc Ls (.int y :: .int x :: st)) rfl hd rfl
theorem E_isub (X : Sd l Z own nm bytes ml ret R p e s m args below T h cells slots) {x y : Int32} (hd : decode bytes pc = .ok (.isub, 1)) (hp : pc + 1 = pc') (k : End Z p e below s Q kc ks T (mkF m pc' Ls (.int (x - y) :: st))) : End Z p e below s Q kc ks T (mkF m pc Ls (.int y :: .int x :: st)) := by
  subst hp; obtain ⟨meth, c, locs, X, -, -, -, hx, hb, -⟩ := X; subst hb
  exact k.go fun _ => XS.isub X.here hx (g := mkF m pc Ls (.int y :: .int x :: st)) rfl hd rfl
theorem E_imul (X : Sd l Z own nm bytes ml ret R p e s m args below T h cells slots) {x y : Int32} (hd : decode bytes pc = .ok (.imul, 1)) (hp : pc + 1 = pc') (k : End Z p e below s Q kc ks T (mkF m pc' Ls (.int (x * y) :: st))) : End Z p e below s Q kc ks T (mkF m pc Ls (.int y :: .int x :: st)) := by
  subst hp; obtain ⟨meth, c, locs, X, -, -, -, hx, hb, -⟩ := X; subst hb
  exact k.go fun _ => XS.imul X.here hx (g := mkF m pc Ls (.int y :: .int x :: st)) rfl hd rfl
theorem E_iand (X : Sd l Z own nm bytes ml ret R p e s m args below T h cells slots) {x y : Int32} (hd : decode bytes pc = .ok (.iand, 1)) (hp : pc + 1 = pc') (k : End Z p e below s Q kc ks T (mkF m pc' Ls (.int (x &&& y) :: st))) : End Z p e below s Q kc ks T (mkF m pc Ls (.int y :: .int x :: st)) := by
  subst hp; obtain ⟨meth, c, locs, X, -, -, -, hx, hb, -⟩ := X; subst hb
  exact k.go fun _ => XS.iand X.here hx (g := mkF m pc Ls (.int y :: .int x :: st)) rfl hd rfl
theorem E_ior (X : Sd l Z own nm bytes ml ret R p e s m args below T h cells slots) {x y : Int32} (hd : decode bytes pc = .ok (.ior, 1)) (hp : pc + 1 = pc') (k : End Z p e below s Q kc ks T (mkF m pc' Ls (.int (x ||| y) :: st))) : End Z p e below s Q kc ks T (mkF m pc Ls (.int y :: .int x :: st)) := by
  subst hp; obtain ⟨meth, c, locs, X, -, -, -, hx, hb, -⟩ := X; subst hb
  exact k.go fun _ => XS.ior X.here hx (g := mkF m pc Ls (.int y :: .int x :: st)) rfl hd rfl
theorem E_ixor (X : Sd l Z own nm bytes ml ret R p e s m args below T h cells slots) {x y : Int32} (hd : decode bytes pc = .ok (.ixor, 1)) (hp : pc + 1 = pc') (k : End Z p e below s Q kc ks T (mkF m pc' Ls (.int (x ^^^ y) :: st))) : End Z p e below s Q kc ks T (mkF m pc Ls (.int y :: .int x :: st)) := by
  subst hp; obtain ⟨meth, c, locs, X, -, -, -, hx, hb, -⟩ := X; subst hb
  exact k.go fun _ => XS.ixor X.here hx (g := mkF m pc Ls (.int y :: .int x :: st)) rfl hd rfl
theorem E_idiv (X : Sd l Z own nm bytes ml ret R p e s m args below T h cells slots) {x y : Int32} (hd : decode bytes pc = .ok (.idiv, 1)) (hp : pc + 1 = pc') (hy : y ≠ 0) (k : End Z p e below s Q kc ks T (mkF m pc' Ls (.int (x / y) :: st))) : End Z p e below s Q kc ks T (mkF m pc Ls (.int y :: .int x :: st)) := by
  subst hp; obtain ⟨meth, c, locs, X, -, -, -, hx, hb, -⟩ := X; subst hb
  exact k.go fun _ => XS.idiv X.here hx (g := mkF m pc Ls (.int y :: .int x :: st)) rfl hd rfl hy
theorem E_ineg (X : Sd l Z own nm bytes ml ret R p e s m args below T h cells slots) {x : Int32} (hd : decode bytes pc = .ok (.ineg, 1)) (hp : pc + 1 = pc') (k : End Z p e below s Q kc ks T (mkF m pc' Ls (.int (-x) :: st))) : End Z p e below s Q kc ks T (mkF m pc Ls (.int x :: st)) := by
  subst hp; obtain ⟨meth, c, locs, X, -, -, -, hx, hb, -⟩ := X; subst hb
  exact k.go fun _ => XS.ineg X.here hx (g := mkF m pc Ls (.int x :: st)) rfl hd rfl
theorem E_ladd (X : Sd l Z own nm bytes ml ret R p e s m args below T h cells slots) {x y : Int64} (hd : decode bytes pc = .ok (.ladd, 1)) (hp : pc + 1 = pc') (k : End Z p e below s Q kc ks T (mkF m pc' Ls (.long (x + y) :: st))) : End Z p e below s Q kc ks T (mkF m pc Ls (.long y :: .long x :: st)) := by
  subst hp; obtain ⟨meth, c, locs, X, -, -, -, hx, hb, -⟩ := X; subst hb
  exact k.go fun _ => XS.ladd X.here hx (g := mkF m pc Ls (.long y :: .long x :: st)) rfl hd rfl
theorem E_lsub (X : Sd l Z own nm bytes ml ret R p e s m args below T h cells slots) {x y : Int64} (hd : decode bytes pc = .ok (.lsub, 1)) (hp : pc + 1 = pc') (k : End Z p e below s Q kc ks T (mkF m pc' Ls (.long (x - y) :: st))) : End Z p e below s Q kc ks T (mkF m pc Ls (.long y :: .long x :: st)) := by
  subst hp; obtain ⟨meth, c, locs, X, -, -, -, hx, hb, -⟩ := X; subst hb
  exact k.go fun _ => XS.lsub X.here hx (g := mkF m pc Ls (.long y :: .long x :: st)) rfl hd rfl
theorem E_lmul (X : Sd l Z own nm bytes ml ret R p e s m args below T h cells slots) {x y : Int64} (hd : decode bytes pc = .ok (.lmul, 1)) (hp : pc + 1 = pc') (k : End Z p e below s Q kc ks T (mkF m pc' Ls (.long (x * y) :: st))) : End Z p e below s Q kc ks T (mkF m pc Ls (.long y :: .long x :: st)) := by
  subst hp; obtain ⟨meth, c, locs, X, -, -, -, hx, hb, -⟩ := X; subst hb
  exact k.go fun _ => XS.lmul X.here hx (g := mkF m pc Ls (.long y :: .long x :: st)) rfl hd rfl
theorem E_land (X : Sd l Z own nm bytes ml ret R p e s m args below T h cells slots) {x y : Int64} (hd : decode bytes pc = .ok (.land, 1)) (hp : pc + 1 = pc') (k : End Z p e below s Q kc ks T (mkF m pc' Ls (.long (x &&& y) :: st))) : End Z p e below s Q kc ks T (mkF m pc Ls (.long y :: .long x :: st)) := by
  subst hp; obtain ⟨meth, c, locs, X, -, -, -, hx, hb, -⟩ := X; subst hb
  exact k.go fun _ => XS.land X.here hx (g := mkF m pc Ls (.long y :: .long x :: st)) rfl hd rfl
theorem E_lor (X : Sd l Z own nm bytes ml ret R p e s m args below T h cells slots) {x y : Int64} (hd : decode bytes pc = .ok (.lor, 1)) (hp : pc + 1 = pc') (k : End Z p e below s Q kc ks T (mkF m pc' Ls (.long (x ||| y) :: st))) : End Z p e below s Q kc ks T (mkF m pc Ls (.long y :: .long x :: st)) := by
  subst hp; obtain ⟨meth, c, locs, X, -, -, -, hx, hb, -⟩ := X; subst hb
  exact k.go fun _ => XS.lor X.here hx (g := mkF m pc Ls (.long y :: .long x :: st)) rfl hd rfl
theorem E_lxor (X : Sd l Z own nm bytes ml ret R p e s m args below T h cells slots) {x y : Int64} (hd : decode bytes pc = .ok (.lxor, 1)) (hp : pc + 1 = pc') (k : End Z p e below s Q kc ks T (mkF m pc' Ls (.long (x ^^^ y) :: st))) : End Z p e below s Q kc ks T (mkF m pc Ls (.long y :: .long x :: st)) := by
  subst hp; obtain ⟨meth, c, locs, X, -, -, -, hx, hb, -⟩ := X; subst hb
  exact k.go fun _ => XS.lxor X.here hx (g := mkF m pc Ls (.long y :: .long x :: st)) rfl hd rfl
theorem E_ldiv (X : Sd l Z own nm bytes ml ret R p e s m args below T h cells slots) {x y : Int64} (hd : decode bytes pc = .ok (.ldiv, 1)) (hp : pc + 1 = pc') (hy : y ≠ 0) (k : End Z p e below s Q kc ks T (mkF m pc' Ls (.long (x / y) :: st))) : End Z p e below s Q kc ks T (mkF m pc Ls (.long y :: .long x :: st)) := by
  subst hp; obtain ⟨meth, c, locs, X, -, -, -, hx, hb, -⟩ := X; subst hb
  exact k.go fun _ => XS.ldiv X.here hx (g := mkF m pc Ls (.long y :: .long x :: st)) rfl hd rfl hy
theorem E_lneg (X : Sd l Z own nm bytes ml ret R p e s m args below T h cells slots) {x : Int64} (hd : decode bytes pc = .ok (.lneg, 1)) (hp : pc + 1 = pc') (k : End Z p e below s Q kc ks T (mkF m pc' Ls (.long (-x) :: st))) : End Z p e below s Q kc ks T (mkF m pc Ls (.long x :: st)) := by
  subst hp; obtain ⟨meth, c, locs, X, -, -, -, hx, hb, -⟩ := X; subst hb
  exact k.go fun _ => XS.lneg X.here hx (g := mkF m pc Ls (.long x :: st)) rfl hd rfl
theorem E_irem (X : Sd l Z own nm bytes ml ret R p e s m args below T h cells slots) {x y : Int32} (hd : decode bytes pc = .ok (.irem, 1)) (hp : pc + 1 = pc') (hy : y ≠ 0) (k : End Z p e below s Q kc ks T (mkF m pc' Ls (.int (x % y) :: st))) : End Z p e below s Q kc ks T (mkF m pc Ls (.int y :: .int x :: st)) := by
  subst hp; obtain ⟨meth, c, locs, X, -, -, -, hx, hb, -⟩ := X; subst hb
  exact k.go fun _ => iremM X hx (g := mkF m pc Ls (.int y :: .int x :: st)) rfl hd rfl hy
theorem E_lrem (X : Sd l Z own nm bytes ml ret R p e s m args below T h cells slots) {x y : Int64} (hd : decode bytes pc = .ok (.lrem, 1)) (hp : pc + 1 = pc') (hy : y ≠ 0) (k : End Z p e below s Q kc ks T (mkF m pc' Ls (.long (x % y) :: st))) : End Z p e below s Q kc ks T (mkF m pc Ls (.long y :: .long x :: st)) := by
  subst hp; obtain ⟨meth, c, locs, X, -, -, -, hx, hb, -⟩ := X; subst hb
  exact k.go fun _ => fun hr => XS.lrem X.here hx (g := mkF m pc Ls (.long y :: .long x :: st)) rfl hd rfl hy (by rw [lrem_mod x y]; exact hr)
theorem E_ishl (X : Sd l Z own nm bytes ml ret R p e s m args below T h cells slots) {x y : Int32} (hd : decode bytes pc = .ok (.ishl, 1)) (hp : pc + 1 = pc') (k : End Z p e below s Q kc ks T (mkF m pc' Ls (.int (x <<< (y &&& 31)) :: st))) : End Z p e below s Q kc ks T (mkF m pc Ls (.int y :: .int x :: st)) := by
  subst hp; obtain ⟨meth, c, locs, X, -, -, -, hx, hb, -⟩ := X; subst hb
  exact k.go fun _ => XS.ishl X.here hx (g := mkF m pc Ls (.int y :: .int x :: st)) rfl hd rfl
theorem E_ishr (X : Sd l Z own nm bytes ml ret R p e s m args below T h cells slots) {x y : Int32} (hd : decode bytes pc = .ok (.ishr, 1)) (hp : pc + 1 = pc') (k : End Z p e below s Q kc ks T (mkF m pc' Ls (.int (x >>> (y &&& 31)) :: st))) : End Z p e below s Q kc ks T (mkF m pc Ls (.int y :: .int x :: st)) := by
  subst hp; obtain ⟨meth, c, locs, X, -, -, -, hx, hb, -⟩ := X; subst hb
  exact k.go fun _ => XS.ishr X.here hx (g := mkF m pc Ls (.int y :: .int x :: st)) rfl hd rfl
theorem E_iushr (X : Sd l Z own nm bytes ml ret R p e s m args below T h cells slots) {x y : Int32} (hd : decode bytes pc = .ok (.iushr, 1)) (hp : pc + 1 = pc') (k : End Z p e below s Q kc ks T (mkF m pc' Ls (.int ((x.toUInt32 >>> (y &&& 31).toUInt32).toInt32) :: st))) : End Z p e below s Q kc ks T (mkF m pc Ls (.int y :: .int x :: st)) := by
  subst hp; obtain ⟨meth, c, locs, X, -, -, -, hx, hb, -⟩ := X; subst hb
  exact k.go fun _ => XS.iushr X.here hx (g := mkF m pc Ls (.int y :: .int x :: st)) rfl hd rfl
theorem E_lshl (X : Sd l Z own nm bytes ml ret R p e s m args below T h cells slots) {x : Int64} {y : Int32} (hd : decode bytes pc = .ok (.lshl, 1)) (hp : pc + 1 = pc') (k : End Z p e below s Q kc ks T (mkF m pc' Ls (.long (x <<< (y &&& 0x3f).toInt64) :: st))) : End Z p e below s Q kc ks T (mkF m pc Ls (.int y :: .long x :: st)) := by
  subst hp; obtain ⟨meth, c, locs, X, -, -, -, hx, hb, -⟩ := X; subst hb
  exact k.go fun _ => XS.lshl X.here hx (g := mkF m pc Ls (.int y :: .long x :: st)) rfl hd rfl
theorem E_lshr (X : Sd l Z own nm bytes ml ret R p e s m args below T h cells slots) {x : Int64} {y : Int32} (hd : decode bytes pc = .ok (.lshr, 1)) (hp : pc + 1 = pc') (k : End Z p e below s Q kc ks T (mkF m pc' Ls (.long (x >>> (y &&& 0x3f).toInt64) :: st))) : End Z p e below s Q kc ks T (mkF m pc Ls (.int y :: .long x :: st)) := by
  subst hp; obtain ⟨meth, c, locs, X, -, -, -, hx, hb, -⟩ := X; subst hb
  exact k.go fun _ => XS.lshr X.here hx (g := mkF m pc Ls (.int y :: .long x :: st)) rfl hd rfl
theorem E_lushr (X : Sd l Z own nm bytes ml ret R p e s m args below T h cells slots) {x : Int64} {y : Int32} (hd : decode bytes pc = .ok (.lushr, 1)) (hp : pc + 1 = pc') (k : End Z p e below s Q kc ks T (mkF m pc' Ls (.long ((x.toUInt64 >>> (y &&& 0x3f).toInt64.toUInt64).toInt64) :: st))) : End Z p e below s Q kc ks T (mkF m pc Ls (.int y :: .long x :: st)) := by
  subst hp; obtain ⟨meth, c, locs, X, -, -, -, hx, hb, -⟩ := X; subst hb
  exact k.go fun _ => XS.lushr X.here hx (g := mkF m pc Ls (.int y :: .long x :: st)) rfl hd rfl
theorem E_i2l (X : Sd l Z own nm bytes ml ret R p e s m args below T h cells slots) {x : Int32} (hd : decode bytes pc = .ok (.i2l, 1)) (hp : pc + 1 = pc') (k : End Z p e below s Q kc ks T (mkF m pc' Ls (.long (x.toInt64) :: st))) : End Z p e below s Q kc ks T (mkF m pc Ls (.int x :: st)) := by
  subst hp; obtain ⟨meth, c, locs, X, -, -, -, hx, hb, -⟩ := X; subst hb
  exact k.go fun _ => XS.i2l X.here hx (g := mkF m pc Ls (.int x :: st)) rfl hd rfl
theorem E_l2i (X : Sd l Z own nm bytes ml ret R p e s m args below T h cells slots) {x : Int64} (hd : decode bytes pc = .ok (.l2i, 1)) (hp : pc + 1 = pc') (k : End Z p e below s Q kc ks T (mkF m pc' Ls (.int (x.toInt32) :: st))) : End Z p e below s Q kc ks T (mkF m pc Ls (.long x :: st)) := by
  subst hp; obtain ⟨meth, c, locs, X, -, -, -, hx, hb, -⟩ := X; subst hb
  exact k.go fun _ => XS.l2i X.here hx (g := mkF m pc Ls (.long x :: st)) rfl hd rfl
theorem E_i2b (X : Sd l Z own nm bytes ml ret R p e s m args below T h cells slots) {x : Int32} (hd : decode bytes pc = .ok (.i2b, 1)) (hp : pc + 1 = pc') (k : End Z p e below s Q kc ks T (mkF m pc' Ls (.int (x.toInt8.toInt32) :: st))) : End Z p e below s Q kc ks T (mkF m pc Ls (.int x :: st)) := by
  subst hp; obtain ⟨meth, c, locs, X, -, -, -, hx, hb, -⟩ := X; subst hb
  exact k.go fun _ => XS.i2b X.here hx (g := mkF m pc Ls (.int x :: st)) rfl hd rfl
theorem E_i2c (X : Sd l Z own nm bytes ml ret R p e s m args below T h cells slots) {x : Int32} (hd : decode bytes pc = .ok (.i2c, 1)) (hp : pc + 1 = pc') (k : End Z p e below s Q kc ks T (mkF m pc' Ls (.int (x.toUInt32.toUInt16.toUInt32.toInt32) :: st))) : End Z p e below s Q kc ks T (mkF m pc Ls (.int x :: st)) := by
  subst hp; obtain ⟨meth, c, locs, X, -, -, -, hx, hb, -⟩ := X; subst hb
  exact k.go fun _ => XS.i2c X.here hx (g := mkF m pc Ls (.int x :: st)) rfl hd rfl
theorem E_i2s (X : Sd l Z own nm bytes ml ret R p e s m args below T h cells slots) {x : Int32} (hd : decode bytes pc = .ok (.i2s, 1)) (hp : pc + 1 = pc') (k : End Z p e below s Q kc ks T (mkF m pc' Ls (.int (x.toInt16.toInt32) :: st))) : End Z p e below s Q kc ks T (mkF m pc Ls (.int x :: st)) := by
  subst hp; obtain ⟨meth, c, locs, X, -, -, -, hx, hb, -⟩ := X; subst hb
  exact k.go fun _ => XS.i2s X.here hx (g := mkF m pc Ls (.int x :: st)) rfl hd rfl
theorem E_lcmp (X : Sd l Z own nm bytes ml ret R p e s m args below T h cells slots) {x y : Int64} (hd : decode bytes pc = .ok (.lcmp, 1)) (hp : pc + 1 = pc') (k : End Z p e below s Q kc ks T (mkF m pc' Ls (.int (lcmpW x y) :: st))) : End Z p e below s Q kc ks T (mkF m pc Ls (.long y :: .long x :: st)) := by
  subst hp; obtain ⟨meth, c, locs, X, -, -, -, hx, hb, -⟩ := X; subst hb
  exact k.go fun _ => XS.lcmp X.here hx (g := mkF m pc Ls (.long y :: .long x :: st)) rfl hd rfl
theorem E_iinc (X : Sd l Z own nm bytes ml ret R p e s m args below T h cells slots) {i : Nat} {cst : Int} {x z : Int32} {Ls' : Array Slot} (hd : decode bytes pc = .ok (.iinc i cst, 3)) (hp : pc + 3 = pc') (hl : Ls[i]? = some (.val (.int x))) (hz : x + Int32.ofInt cst = z) (hl' : storeLocals Ls i (.int z) = some Ls') (k : End Z p e below s Q kc ks T (mkF m pc' Ls' st)) : End Z p e below s Q kc ks T (mkF m pc Ls st) := by
  subst hp; obtain ⟨meth, c, locs, X, -, -, -, hx, hb, -⟩ := X; subst hb
  exact k.go fun _ => by subst hz; exact XS.iinc X.here hx (g := mkF m pc Ls st) rfl hd hl hl'
theorem E_dup (X : Sd l Z own nm bytes ml ret R p e s m args below T h cells slots) {v : Value} (hd : decode bytes pc = .ok (.dup, 1)) (hp : pc + 1 = pc') (hc : v.category = 1) (k : End Z p e below s Q kc ks T (mkF m pc' Ls (v :: v :: st))) : End Z p e below s Q kc ks T (mkF m pc Ls (v :: st)) := by
  subst hp; obtain ⟨meth, c, locs, X, -, -, -, hx, hb, -⟩ := X; subst hb
  exact k.go fun _ => XS.dup X.here hx (g := mkF m pc Ls (v :: st)) rfl hd rfl hc
theorem E_pop (X : Sd l Z own nm bytes ml ret R p e s m args below T h cells slots) {v : Value} (hd : decode bytes pc = .ok (.pop, 1)) (hp : pc + 1 = pc') (hc : v.category = 1) (k : End Z p e below s Q kc ks T (mkF m pc' Ls st)) : End Z p e below s Q kc ks T (mkF m pc Ls (v :: st)) := by
  subst hp; obtain ⟨meth, c, locs, X, -, -, -, hx, hb, -⟩ := X; subst hb
  exact k.go fun _ => XS.pop X.here hx (g := mkF m pc Ls (v :: st)) rfl hd rfl hc
theorem E_dup_x1 (X : Sd l Z own nm bytes ml ret R p e s m args below T h cells slots) {v w : Value} (hd : decode bytes pc = .ok (.dup_x1, 1)) (hp : pc + 1 = pc') (hc : v.category = 1) (hc' : w.category = 1) (k : End Z p e below s Q kc ks T (mkF m pc' Ls (v :: w :: v :: st))) : End Z p e below s Q kc ks T (mkF m pc Ls (v :: w :: st)) := by
  subst hp; obtain ⟨meth, c, locs, X, -, -, -, hx, hb, -⟩ := X; subst hb
  exact k.go fun _ => XS.dupX1 X.here hx (g := mkF m pc Ls (v :: w :: st)) rfl hd rfl hc hc'
theorem E_dup2 (X : Sd l Z own nm bytes ml ret R p e s m args below T h cells slots) {v w : Value} (hd : decode bytes pc = .ok (.dup2, 1)) (hp : pc + 1 = pc') (hc : v.category = 1) (hc' : w.category = 1) (k : End Z p e below s Q kc ks T (mkF m pc' Ls (v :: w :: v :: w :: st))) : End Z p e below s Q kc ks T (mkF m pc Ls (v :: w :: st)) := by
  subst hp; obtain ⟨meth, c, locs, X, -, -, -, hx, hb, -⟩ := X; subst hb
  exact k.go fun _ => XT.dup2 X.here hx (g := mkF m pc Ls (v :: w :: st)) rfl hd rfl hc hc'
theorem E_dup2L (X : Sd l Z own nm bytes ml ret R p e s m args below T h cells slots) {x : Int64} (hd : decode bytes pc = .ok (.dup2, 1)) (hp : pc + 1 = pc') (k : End Z p e below s Q kc ks T (mkF m pc' Ls (.long x :: .long x :: st))) : End Z p e below s Q kc ks T (mkF m pc Ls (.long x :: st)) := by
  subst hp; obtain ⟨meth, c, locs, X, -, -, -, hx, hb, -⟩ := X; subst hb
  exact k.go fun _ => XT.dup2L X.here hx (g := mkF m pc Ls (.long x :: st)) rfl hd rfl
theorem E_goto (X : Sd l Z own nm bytes ml ret R p e s m args below T h cells slots) {o : Int} (hd : decode bytes pc = .ok (.goto o, 3)) (ho : 0 ≤ (pc : Int) + o) (hp : ((pc : Int) + o).toNat = pc') (k : End Z p e below s Q kc ks T (mkF m pc' Ls st)) : End Z p e below s Q kc ks T (mkF m pc Ls st) := by
  obtain ⟨meth, c, locs, X, -, -, -, hx, hb, -⟩ := X; subst hb
  exact k.go fun _ => XS.goto X.here hx (g := mkF m pc Ls st) rfl rfl hd ho hp
theorem E_if (X : Sd l Z own nm bytes ml ret R p e s m args below T h cells slots) {cd : ClassFile.Cond} {o : Int} {x : Int32} {P : Prop} [Decidable P] (hP : ifCond.holds cd x = decide P) (hd : decode bytes pc = .ok (.ifCond cd o, 3)) {pcY pcN : Nat} (ho : 0 ≤ (pc : Int) + o) (hY : ((pc : Int) + o).toNat = pcY) (hN : pc + 3 = pcN)
    (kY : P → End Z p e below s Q kc ks T (mkF m pcY Ls st)) (kN : ¬ P → End Z p e below s Q kc ks T (mkF m pcN Ls st)) : End Z p e below s Q kc ks T (mkF m pc Ls (.int x :: st)) := by
  obtain ⟨meth, c, locs, X, -, -, -, hx, hb, -⟩ := X; subst hb hN
  by_cases q : P
  · exact (kY q).go fun _ => XS.ifYes X.here hx (g := mkF m pc Ls (.int x :: st)) rfl rfl hd rfl (by rw [hP]; simp [q]) ho hY
  · exact (kN q).go fun _ => XS.ifNo X.here hx (g := mkF m pc Ls (.int x :: st)) rfl hd rfl (by rw [hP]; simp [q])
theorem E_icmp (X : Sd l Z own nm bytes ml ret R p e s m args below T h cells slots) {cd : ClassFile.Cond} {o : Int} {x y : Int32} {P : Prop} [Decidable P] (hP : if_icmp.holds cd x y = decide P) (hd : decode bytes pc = .ok (.if_icmp cd o, 3)) {pcY pcN : Nat} (ho : 0 ≤ (pc : Int) + o) (hY : ((pc : Int) + o).toNat = pcY) (hN : pc + 3 = pcN)
    (kY : P → End Z p e below s Q kc ks T (mkF m pcY Ls st)) (kN : ¬ P → End Z p e below s Q kc ks T (mkF m pcN Ls st)) : End Z p e below s Q kc ks T (mkF m pc Ls (.int y :: .int x :: st)) := by
  obtain ⟨meth, c, locs, X, -, -, -, hx, hb, -⟩ := X; subst hb hN
  by_cases q : P
  · exact (kY q).go fun _ => XS.icmpYes X.here hx (g := mkF m pc Ls (.int y :: .int x :: st)) rfl rfl hd rfl (by rw [hP]; simp [q]) ho hY
  · exact (kN q).go fun _ => XS.icmpNo X.here hx (g := mkF m pc Ls (.int y :: .int x :: st)) rfl hd rfl (by rw [hP]; simp [q])
theorem ic_lt (x y : Int32) : if_icmp.holds .lt x y = decide (x < y) := by
  by_cases q : x < y
  · rw [(tlt q).1]; simp [q]
  · rw [(flt q).1]; simp [q]
theorem ic_ge (x y : Int32) : if_icmp.holds .ge x y = decide (¬ x < y) := by
  by_cases q : x < y
  · rw [(tlt q).2.1]; simp [q]
  · rw [(flt q).2.1]; simp [q]
theorem ic_gt (x y : Int32) : if_icmp.holds .gt x y = decide (y < x) := by
  by_cases q : y < x
  · rw [(tlt q).2.2.1]; simp [q]
  · rw [(flt q).2.2.1]; simp [q]
theorem ic_le (x y : Int32) : if_icmp.holds .le x y = decide (¬ y < x) := by
  by_cases q : y < x
  · rw [(tlt q).2.2.2]; simp [q]
  · rw [(flt q).2.2.2]; simp [q]
theorem ic_eq (x y : Int32) : if_icmp.holds .eq x y = decide (x = y) := by
  by_cases q : x = y
  · rw [(teq q).1]; simp [q]
  · rw [(feq q).1]; simp [q]
theorem ic_ne (x y : Int32) : if_icmp.holds .ne x y = decide (¬ x = y) := by
  by_cases q : x = y
  · rw [(teq q).2]; simp [q]
  · rw [(feq q).2]; simp [q]
theorem i0_lt (x : Int32) : ifCond.holds .lt x = decide (x < 0) := (if0 _ _).trans (ic_lt _ _)
theorem i0_ge (x : Int32) : ifCond.holds .ge x = decide (¬ x < 0) := (if0 _ _).trans (ic_ge _ _)
theorem i0_gt (x : Int32) : ifCond.holds .gt x = decide (0 < x) := (if0 _ _).trans (ic_gt _ _)
theorem i0_le (x : Int32) : ifCond.holds .le x = decide (¬ 0 < x) := (if0 _ _).trans (ic_le _ _)
theorem i0_eq (x : Int32) : ifCond.holds .eq x = decide (x = 0) := (if0 _ _).trans (ic_eq _ _)
theorem i0_ne (x : Int32) : ifCond.holds .ne x = decide (¬ x = 0) := (if0 _ _).trans (ic_ne _ _)
theorem il_lt (x y : Int64) : ifCond.holds .lt (lcmpW x y) = decide (x < y) := (i0_lt _).trans (by simp only [lw_lt])
theorem il_ge (x y : Int64) : ifCond.holds .ge (lcmpW x y) = decide (¬ x < y) := (i0_ge _).trans (by simp only [lw_lt])
theorem il_gt (x y : Int64) : ifCond.holds .gt (lcmpW x y) = decide (y < x) := (i0_gt _).trans (by simp only [lw_gt])
theorem il_le (x y : Int64) : ifCond.holds .le (lcmpW x y) = decide (¬ y < x) := (i0_le _).trans (by simp only [lw_gt])
theorem il_eq (x y : Int64) : ifCond.holds .eq (lcmpW x y) = decide (x = y) := (i0_eq _).trans (by simp only [lw_eq])
theorem il_ne (x y : Int64) : ifCond.holds .ne (lcmpW x y) = decide (¬ x = y) := (i0_ne _).trans (by simp only [lw_eq])
theorem E_acmp (X : Sd l Z own nm bytes ml ret R p e s m args below T h cells slots) {cd : ACond} {o : Int} {x y : Value} {pcE pcU : Nat} (hd : decode bytes pc = .ok (.if_acmp cd o, 3)) (hx1 : x.isRef = true) (hy1 : y.isRef = true) (ho : 0 ≤ (pc : Int) + o) (hE : pcE = if acV cd true = true then ((pc : Int) + o).toNat else pc + 3) (hU : pcU = if acV cd false = true then ((pc : Int) + o).toNat else pc + 3)
    (kE : x = y → End Z p e below s Q kc ks T (mkF m pcE Ls st)) (kU : ¬ x = y → End Z p e below s Q kc ks T (mkF m pcU Ls st)) : End Z p e below s Q kc ks T (mkF m pc Ls (y :: x :: st)) := by
  obtain ⟨meth, c, locs, X, -, -, -, hx, hb, -⟩ := X; subst hb
  by_cases q : x = y
  · exact (kE q).go fun _ => Jvm.RoadKit.acmp (g := mkF m pc Ls (y :: x :: st)) X hx rfl hx1 hy1 (same := true) rfl hd rfl (decide_eq_true q) ho hE
  · exact (kU q).go fun _ => Jvm.RoadKit.acmp (g := mkF m pc Ls (y :: x :: st)) X hx rfl hx1 hy1 (same := false) rfl hd rfl (decide_eq_false q) ho hU
theorem E_ifnullY (X : Sd l Z own nm bytes ml ret R p e s m args below T h cells slots) {o : Int} (hd : decode bytes pc = .ok (.ifnull o, 3)) (ho : 0 ≤ (pc : Int) + o) (hp : ((pc : Int) + o).toNat = pc') (k : End Z p e below s Q kc ks T (mkF m pc' Ls st)) : End Z p e below s Q kc ks T (mkF m pc Ls (.null :: st)) := by
  obtain ⟨meth, c, locs, X, -, -, -, hx, hb, -⟩ := X; subst hb
  exact k.go fun _ => XS.ifnullYes X.here hx (g := mkF m pc Ls (.null :: st)) rfl rfl hd rfl ho hp
theorem E_ifnullN (X : Sd l Z own nm bytes ml ret R p e s m args below T h cells slots) {o : Int} {b : Addr} (hd : decode bytes pc = .ok (.ifnull o, 3)) (hp : pc + 3 = pc') (k : End Z p e below s Q kc ks T (mkF m pc' Ls st)) : End Z p e below s Q kc ks T (mkF m pc Ls (.ref b :: st)) := by
  subst hp; obtain ⟨meth, c, locs, X, -, -, -, hx, hb, -⟩ := X; subst hb
  exact k.go fun _ => XS.ifnullNo X.here hx (g := mkF m pc Ls (.ref b :: st)) rfl hd rfl
theorem E_ifnonnullY (X : Sd l Z own nm bytes ml ret R p e s m args below T h cells slots) {o : Int} {b : Addr} (hd : decode bytes pc = .ok (.ifnonnull o, 3)) (ho : 0 ≤ (pc : Int) + o) (hp : ((pc : Int) + o).toNat = pc') (k : End Z p e below s Q kc ks T (mkF m pc' Ls st)) : End Z p e below s Q kc ks T (mkF m pc Ls (.ref b :: st)) := by
  obtain ⟨meth, c, locs, X, -, -, -, hx, hb, -⟩ := X; subst hb
  exact k.go fun _ => XS.ifnonnullYes X.here hx (g := mkF m pc Ls (.ref b :: st)) rfl rfl hd rfl ho hp
theorem E_ifnonnullN (X : Sd l Z own nm bytes ml ret R p e s m args below T h cells slots) {o : Int} (hd : decode bytes pc = .ok (.ifnonnull o, 3)) (hp : pc + 3 = pc') (k : End Z p e below s Q kc ks T (mkF m pc' Ls st)) : End Z p e below s Q kc ks T (mkF m pc Ls (.null :: st)) := by
  subst hp; obtain ⟨meth, c, locs, X, -, -, -, hx, hb, -⟩ := X; subst hb
  exact k.go fun _ => XS.ifnonnullNo X.here hx (g := mkF m pc Ls (.null :: st)) rfl hd rfl
/-! constants -/
theorem E_ldcI (X : Sd l Z own nm bytes ml ret R p e s m args below T h cells slots) {i : Nat} {v : Int32} (w : (Jvm.Cond.constant own i v).before a0 Z = true) (hd : decode bytes pc = .ok (.ldc i, 2)) (hp : pc + 2 = pc') (k : End Z p e below s Q kc ks T (mkF m pc' Ls (.int v :: st))) : End Z p e below s Q kc ks T (mkF m pc Ls st) := by
  subst hp; obtain ⟨meth, c, locs, X, N, e0, E, hx, hb, hml, hown, hnm, hret, hlk, hZ⟩ := X; subst hb
  exact k.go (X.ldcInt hx hown (mvT hZ w) (g := mkF m pc Ls st) rfl hd)
theorem E_ldcJ (X : Sd l Z own nm bytes ml ret R p e s m args below T h cells slots) {i : Nat} {v : Int64} (w : (Jvm.Cond.constantLong own i v).before a0 Z = true) (hd : decode bytes pc = .ok (.ldc2_w i, 3)) (hp : pc + 3 = pc') (k : End Z p e below s Q kc ks T (mkF m pc' Ls (.long v :: st))) : End Z p e below s Q kc ks T (mkF m pc Ls st) := by
  subst hp; obtain ⟨meth, c, locs, X, N, e0, E, hx, hb, hml, hown, hnm, hret, hlk, hZ⟩ := X; subst hb
  exact k.go (X.ldc2Long hx hown (mvT hZ w) (g := mkF m pc Ls st) rfl hd)
/-! fields, statics -/
theorem E_getF (X : Sd l Z own nm bytes ml ret R p e s m args below T h cells slots) {R0 O n d host : String} {i : Nat} {a : Addr} {v : Value} (w : (Jvm.Cond.fieldLink own i R0 n d).before a0 Z = true ∨ (Jvm.Cond.fieldLinkNest own i R0 n d host).before a0 Z = true) (via : Via Z R0 O n d) (F : Fld Z h a O n d v) (hd : decode bytes pc = .ok (.getfield i, 3)) (hp : pc + 3 = pc')
    (k : ∀ T', Sd l Z own nm bytes ml ret R p e s m args below T' h cells slots → End Z p e below s Q kc ks T' (mkF m pc' Ls (v :: st))) : End Z p e below s Q kc ks T (mkF m pc Ls (.ref a :: st)) := by
  subst hp; obtain ⟨meth, c, locs, X, N, e0, E, hx, hb, hml, hown, r⟩ := X; subst hb
  obtain ⟨T', X', e', stp⟩ := getF X hx r.2.2.2 hown w via e0 F (g := mkF m pc Ls (.ref a :: st)) rfl rfl hd
  exact (k T' ⟨meth, c, locs, X', N, e', E, hx, rfl, hml, hown, r⟩).go stp
theorem E_putF (X : Sd l Z own nm bytes ml ret R p e s m args below T h cells slots) {R0 O n d host C : String} {i kk : Nat} {ty : FieldType} {a : Addr} {v old : Value} (w : (Jvm.Cond.fieldLink own i R0 n d).before a0 Z = true ∨ (Jvm.Cond.fieldLinkNest own i R0 n d host).before a0 Z = true) (via : Via Z R0 O n d) (F : Fld Z h a O n d old) (E1 : Exa Z h a C)
    (L : (Jvm.Cond.lays C O n d).before a0 Z = true ∨ ((Jvm.Cond.laysFinal C O n d).before a0 Z = true ∧ own = O ∧ nm = "<init>")) (wi : (Jvm.Cond.instantiable C kk).before a0 Z = true) (hty : parseFieldDescriptor d = some ty) (hn : narrow ty v = v) (hf : fits ty v = true) (ha : Z.heap.size ≤ a) (hd : decode bytes pc = .ok (.putfield i, 3)) (hp : pc + 3 = pc')
    (k : ∀ T' h', Sd l Z own nm bytes ml ret R p e s m args below T' h' cells slots → Wr h h' a (slotOf Z O n d) v → End Z p e below s Q kc ks T' (mkF m pc' Ls st)) : End Z p e below s Q kc ks T (mkF m pc Ls (v :: .ref a :: st)) := by
  subst hp; obtain ⟨meth, c, locs, X, N, e0, E, hx, hb, hml, hown, hnm, r⟩ := X; subst hb
  obtain ⟨T', h', X', e', W, stp⟩ := putF X hx r.2.2 hown w via e0 F E1 (L.imp id fun q => ⟨q.1, q.2.1, hnm.trans q.2.2⟩) wi hty hn hf (g := mkF m pc Ls (v :: .ref a :: st)) rfl rfl hd
  exact (k T' h' ⟨meth, c, _, X', Fr.snoc X' N ha, e', E.wr W ha, hx, rfl, hml, hown, hnm, r⟩ W).go stp
theorem E_getS (X : Sd l Z own nm bytes ml ret R p e s m args below T h cells slots) {R0 O n d host : String} {i : Nat} {v : Value} (w : (Jvm.Cond.fieldLink own i R0 n d).before a0 Z = true ∨ (Jvm.Cond.fieldLinkNest own i R0 n d host).before a0 Z = true) (via : Via Z R0 O n d) (F : Sta Z Z.heap O n d v) (hd : decode bytes pc = .ok (.getstatic i, 3)) (hp : pc + 3 = pc')
    (k : ∀ T', Sd l Z own nm bytes ml ret R p e s m args below T' h cells slots → End Z p e below s Q kc ks T' (mkF m pc' Ls (v :: st))) : End Z p e below s Q kc ks T (mkF m pc Ls st) := by
  subst hp; obtain ⟨meth, c, locs, X, N, e0, E, hx, hb, hml, hown, r⟩ := X; subst hb
  obtain ⟨T', X', e', stp⟩ := getS2 X hx r.2.2.2 hown w via e0 (F.ext E) (g := mkF m pc Ls st) rfl hd
  exact (k T' ⟨meth, c, locs, X', N, e', E, hx, rfl, hml, hown, r⟩).go stp
/-! new objects -/
theorem E_new (X : Sd l Z own nm bytes ml ret R p e s m args below T h cells slots) {C : String} {i n : Nat} {cells' slots' : Nat} (w : (Jvm.Cond.classLink own i C).before a0 Z = true) (wi : (Jvm.Cond.instantiable C n).before a0 Z = true) (wz : (Jvm.Cond.initialized C).before a0 Z = true) (hd : decode bytes pc = .ok (.new i, 3)) (hp : pc + 3 = pc') (hcc : cells + 1 = cells') (hss : slots + n = slots') (hc : cells' ≤ R.cells) (hl : slots' ≤ R.slots)
    (k : ∀ T' h' a, a = h.size → Sd l Z own nm bytes ml ret R p e s m args below T' h' cells' slots' → Ext h h' → Exa Z h' a C → (∀ {O n d : String} {ty : FieldType}, Laid Z a0 C O n d → parseFieldDescriptor d = some ty → Fld Z h' a O n d (defaultValue ty)) → End Z p e below s Q kc ks T' (mkF m pc' Ls (.ref a :: st))) : End Z p e below s Q kc ks T (mkF m pc Ls st) := by
  subst hp hcc hss; obtain ⟨meth, c, locs, X, N, e0, E, hx, hb, hml, hown, r⟩ := X; subst hb
  obtain ⟨T', h', X', e', E2, A2, D2, -, stp⟩ := newO X hx r.2.2.2 hown w wi wz e0 (g := mkF m pc Ls st) rfl hd hc hl
  exact (k T' h' h.size rfl ⟨meth, c, locs, X', N, e', E.trans E2, hx, rfl, hml, hown, r⟩ E2 A2 (fun q1 q2 => D2 q1 q2)).go stp
theorem E_initO (X : Sd l Z own nm bytes ml ret R p e s m args below T h cells slots) {i : Nat} {a : Addr} (w1 : (Jvm.Cond.methodLink own i Lib.objectInit).before a0 Z = true) (w2 : (Jvm.Cond.instanceMethod Lib.objectInit).before a0 Z = true) (w3 : (Jvm.Cond.code Lib.objectInit ⟨#[0xb1]⟩ 1 none).before a0 Z = true) (hsz : Ls.size = ml) (hd : decode bytes pc = .ok (.invokespecial i, 3)) (hp : pc + 3 = pc') (hf : 1 ≤ R.frames) {W : Nat} (hW : (st.map fun v => v.category).sum ≤ W) (hl : W + 12 ≤ R.locals)
    (k : ∀ T', Sd l Z own nm bytes ml ret R p e s m args below T' h cells slots → End Z p e below s Q kc ks T' (mkF m pc' Ls st)) : End Z p e below s Q kc ks T (mkF m pc Ls (.ref a :: st)) := by
  subst hp; obtain ⟨meth, c, locs, X, N, e0, E, hx, hb, hml, hown, r⟩ := X; subst hb
  obtain ⟨T', X', e', stp⟩ := initO X hx r.2.2.2 hown w1 w2 w3 e0 (g := mkF m pc Ls (.ref a :: st)) rfl (hsz.trans hml.symm) rfl hd hf (W := W) (by show 2 * 0 + _ ≤ _; omega) hl
  exact (k T' ⟨meth, c, locs, X', N, e', E, hx, rfl, hml, hown, r⟩).go stp
/-! calls by a contract -/
theorem E_callS (X : Sd l Z own nm bytes ml ret R p e s m args below T h cells slots) {i : Nat} {y : MethodName} {bytes' : ByteArray} {ml' : Nat} {ret' : Option FieldType} {rm : Room} {Qc : Option Value → Heap → Prop} {as : Array Value} {ps : List FieldType} {rr : Option FieldType} {argsL rest : List Value} {W : Nat} {cells' slots' : Nat} (C : Con l Z y bytes' ml' ret' rm as h Qc)
    (w1 : (Jvm.Cond.methodLink own i y).before a0 Z = true) (w2 : (Jvm.Cond.static y).before a0 Z = true) (w3 : (Jvm.Cond.initialized y.cls).before a0 Z = true) (w4 : (Jvm.Cond.code y bytes' ml' ret').before a0 Z = true) (hy : y.cls ≠ "java/lang/invoke/MethodHandle" ∧ y.cls ≠ "java/lang/invoke/VarHandle") (hsz : Ls.size = ml) (has : argsL.toArray = as) (hpd : parseMethodDescriptor y.desc = some ⟨ps, rr⟩) (hlen : argsL.length = ps.length) (hst : st = argsL.reverse ++ rest)
    (hd : decode bytes pc = .ok (.invokestatic i, 3)) (hp : pc + 3 = pc') (hW : (rest.map fun v => v.category).sum ≤ W) (hf : rm.frames + 1 ≤ R.frames) (hl : W + (ml' + 11) + rm.locals ≤ R.locals) (hcc : cells + rm.cells = cells') (hss : slots + rm.slots = slots') (hc : cells' ≤ R.cells) (hs : slots' ≤ R.slots)
    (k : ∀ v T' h', Sd l Z own nm bytes ml ret R p e s m args below T' h' cells' slots' → Qc v h' → End Z p e below s Q kc ks T' (mkF m pc' Ls (v.toList ++ rest))) : End Z p e below s Q kc ks T (mkF m pc Ls st) := by
  subst hp hst hcc hss; obtain ⟨meth, c, locs, X, N, e0, E, hx, hb, hml, hown, r⟩ := X; subst hb
  obtain ⟨v, _, ⟨T', L', k', n'⟩, -, X', ⟨Lc, hQ, l1, l2, l3⟩, stp⟩ := Jvm.LawKit.callS X hx (y := y) hown (mvT r.2.2.2 w1) (mvT r.2.2.2 w2) (mvT r.2.2.2 w3) (mvT r.2.2.2 w4) hy (backOf (W := W) (Q := fun v h L => Fr Z.heap.size L ∧ Ext Z.heap h ∧ Qc v h) (C []) r.2.2.2 w4 w3 hf hl) (g := mkF m pc Ls (argsL.reverse ++ rest)) rfl (hsz.trans hml.symm) (argsL := argsL) (rest := rest) (lenOf hpd hlen) rfl (by show 2 * 0 + _ ≤ _; omega) hd (fun _ _ => ⟨has, e0, hc, hs⟩)
  dsimp only [Pt.U, Pt.locs, Pt.cells, Pt.slots] at X' l1 l2 l3 stp hQ
  subst l1 l2 l3
  exact (k v T' T'.heap ⟨meth, c, _, X', Fr.app N hQ.1, rfl, hQ.2.1, hx, rfl, hml, hown, r⟩ hQ.2.2).go stp
theorem E_callI (X : Sd l Z own nm bytes ml ret R p e s m args below T h cells slots) {i : Nat} {y : MethodName} {bytes' : ByteArray} {ml' : Nat} {rm : Room} {Qc : Option Value → Heap → Prop} {a : Addr} {as : Array Value} {ps : List FieldType} {rr : Option FieldType} {argsL rest : List Value} {W : Nat} {cells' slots' : Nat} (C : Con l Z y bytes' ml' none rm as h Qc)
    (w1 : (Jvm.Cond.methodLink own i y).before a0 Z = true) (w2 : (Jvm.Cond.instanceMethod y).before a0 Z = true) (w3 : (Jvm.Cond.initialized y.cls).before a0 Z = true) (w4 : (Jvm.Cond.code y bytes' ml' none).before a0 Z = true) (hy1 : y.name = "<init>") (hy : y.cls ≠ "java/lang/invoke/MethodHandle" ∧ y.cls ≠ "java/lang/invoke/VarHandle") (hsz : Ls.size = ml) (has : (.ref a :: argsL).toArray = as) (hpd : parseMethodDescriptor y.desc = some ⟨ps, rr⟩) (hlen : argsL.length = ps.length) (hst : st = argsL.reverse ++ .ref a :: rest)
    (hd : decode bytes pc = .ok (.invokespecial i, 3)) (hp : pc + 3 = pc') (hW : (rest.map fun v => v.category).sum ≤ W) (hf : rm.frames + 1 ≤ R.frames) (hl : W + (ml' + 11) + rm.locals ≤ R.locals) (hcc : cells + rm.cells = cells') (hss : slots + rm.slots = slots') (hc : cells' ≤ R.cells) (hs : slots' ≤ R.slots)
    (k : ∀ v T' h', Sd l Z own nm bytes ml ret R p e s m args below T' h' cells' slots' → Qc v h' → End Z p e below s Q kc ks T' (mkF m pc' Ls (v.toList ++ rest))) : End Z p e below s Q kc ks T (mkF m pc Ls st) := by
  subst hp hst hcc hss; obtain ⟨meth, c, locs, X, N, e0, E, hx, hb, hml, hown, r⟩ := X; subst hb
  obtain ⟨v, _, ⟨T', L', k', n'⟩, -, X', ⟨Lc, hQ, l1, l2, l3⟩, stp⟩ := X.specialBack hx (y := y) hy1 hown (mvT r.2.2.2 w1) (mvT r.2.2.2 w2) (mvT r.2.2.2 w4) hy (backOf (W := W) (Q := fun v h L => Fr Z.heap.size L ∧ Ext Z.heap h ∧ Qc v h) (C []) r.2.2.2 w4 w3 hf hl) (g := mkF m pc Ls (argsL.reverse ++ .ref a :: rest)) rfl (hsz.trans hml.symm) (Steps.refl _) (a := a) (argsL := argsL) (rest := rest) (lenOf hpd hlen) rfl (by show 2 * 0 + _ ≤ _; omega) hd (fun _ _ => ⟨has, e0, hc, hs⟩)
  dsimp only [Pt.U, Pt.locs, Pt.cells, Pt.slots] at X' l1 l2 l3 stp hQ
  subst l1 l2 l3
  exact (k v T' T'.heap ⟨meth, c, _, X', Fr.app N hQ.1, rfl, hQ.2.1, hx, rfl, hml, hown, r⟩ hQ.2.2).go fun _ q => stp.trans q
theorem E_callV (X : Sd l Z own nm bytes ml ret R p e s m args below T h cells slots) {i : Nat} {y : MethodName} {K : String} {bytes' : ByteArray} {ml' : Nat} {ret' : Option FieldType} {rm : Room} {Qc : Option Value → Heap → Prop} {a : Addr} {as : Array Value} {ps : List FieldType} {rr : Option FieldType} {argsL rest : List Value} {W : Nat} {cells' slots' : Nat} (C : Con l Z y bytes' ml' ret' rm as h Qc) (E1 : Exa Z h a K)
    (w1 : (Jvm.Cond.methodLink own i y).before a0 Z = true) (wd : (Jvm.Cond.declares y).before a0 Z = true) (ws : (Jvm.Cond.selects K y y).before a0 Z = true) (w2 : (Jvm.Cond.instanceMethod y).before a0 Z = true) (w3 : (Jvm.Cond.initialized y.cls).before a0 Z = true) (w4 : (Jvm.Cond.code y bytes' ml' ret').before a0 Z = true) (hK : K = y.cls) (hy : y.cls ≠ "java/lang/invoke/MethodHandle" ∧ y.cls ≠ "java/lang/invoke/VarHandle") (hsz : Ls.size = ml) (has : (.ref a :: argsL).toArray = as) (hpd : parseMethodDescriptor y.desc = some ⟨ps, rr⟩) (hlen : argsL.length = ps.length) (hst : st = argsL.reverse ++ .ref a :: rest)
    (hd : decode bytes pc = .ok (.invokevirtual i, 3)) (hp : pc + 3 = pc') (hW : (rest.map fun v => v.category).sum ≤ W) (hf : rm.frames + 1 ≤ R.frames) (hl : W + (ml' + 11) + rm.locals ≤ R.locals) (hcc : cells + rm.cells = cells') (hss : slots + rm.slots = slots') (hc : cells' ≤ R.cells) (hs : slots' ≤ R.slots)
    (k : ∀ v T' h', Sd l Z own nm bytes ml ret R p e s m args below T' h' cells' slots' → Qc v h' → End Z p e below s Q kc ks T' (mkF m pc' Ls (v.toList ++ rest))) : End Z p e below s Q kc ks T (mkF m pc Ls st) := by
  subst hp hst hcc hss; obtain ⟨meth, c, locs, X, N, e0, E, hx, hb, hml, hown, r⟩ := X; subst hb
  subst hK
  obtain ⟨cq, kq, qa, qb, qc⟩ := isOf r.2.2.2 e0 E1
  obtain ⟨v, _, ⟨T', L', k', n'⟩, -, X', ⟨Lc, hQ, l1, l2, l3⟩, stp⟩ := X.virtualBack hx (y := y) (z := y) hown (mvT r.2.2.2 w1) (mvT r.2.2.2 wd) (notFace_of_selects (args := #[]) (mvT r.2.2.2 ws)) (mvT r.2.2.2 ws) (mvT r.2.2.2 w2) hy (backOf (W := W) (Q := fun v h L => Fr Z.heap.size L ∧ Ext Z.heap h ∧ Qc v h) (C []) r.2.2.2 w4 w3 hf hl) qa qc (g := mkF m pc Ls (argsL.reverse ++ .ref a :: rest)) rfl (hsz.trans hml.symm) (Steps.refl _) (argsL := argsL) (rest := rest) (lenOf hpd hlen) rfl (by show 2 * 0 + _ ≤ _; omega) hd (fun _ _ => ⟨has, e0, hc, hs⟩)
  dsimp only [Pt.U, Pt.locs, Pt.cells, Pt.slots] at X' l1 l2 l3 stp hQ
  subst l1 l2 l3
  exact (k v T' T'.heap ⟨meth, c, _, X', Fr.app N hQ.1, rfl, hQ.2.1, hx, rfl, hml, hown, r⟩ hQ.2.2).go fun _ q => stp.trans q
/-! arrays by their list of values -/
def Ar (Z : State) (h : Heap) (a : Addr) (ty : FieldType) (vs : List Value) : Prop := ∃ c : Cell, Arr Z h a c ty ∧ c.slots = vs.toArray
section ArFacts
variable {h' : Heap} {a b : Addr} {ty : FieldType} {vs : List Value} {ws : List Addr} {v : Value} {sl : Nat}
theorem Ar.lt (F : Ar Z h a ty vs) : a < h.size := by obtain ⟨c, A, -⟩ := F; exact A.lt
theorem Ar.ext (F : Ar Z h a ty vs) (E : Ext h h') : Ar Z h' a ty vs := by obtain ⟨c, A, r⟩ := F; exact ⟨c, A.ext E, r⟩
theorem Ar.other (F : Ar Z h b ty vs) (W : Wr h h' a sl v) (q : b ≠ a) : Ar Z h' b ty vs := by obtain ⟨c, A, r⟩ := F; exact ⟨c, A.other W q, r⟩
theorem Ar.keep (F : Ar Z h a ty vs) (K : Keep h h' ws) (q : a ∉ ws) : Ar Z h' a ty vs := by obtain ⟨c, A, r⟩ := F; exact ⟨c, ⟨K.2.1 a c A.1 q, A.2⟩, r⟩
theorem Ar.set (F : Ar Z h a ty vs) (W : Wr h h' a sl v) : Ar Z h' a ty (vs.set sl v) := by
  obtain ⟨c, A, r⟩ := F
  exact ⟨_, A.same W, by simp [Cell.setSlot, r]⟩
theorem Ar.ne_exa {C : String} {k : Nat} (F : Ar Z h b ty vs) (E : Exa Z h a C) (wi : (Jvm.Cond.instantiable C k).before a0 Z = true) : a ≠ b := by obtain ⟨c, A, r⟩ := F; exact ne_arr E wi A
theorem Ar.ne {vs' : List Value} (F : Ar Z h a ty vs) (G : Ar Z h b ty vs') (q : vs ≠ vs') : a ≠ b := fun e => by
  subst e; obtain ⟨c, A, r⟩ := F; obtain ⟨c', A', r'⟩ := G
  cases A.1.symm.trans A'.1
  exact q (by simpa using congrArg Array.toList (r.symm.trans r'))
theorem Ar.at {c : Cell} {j : Int32} (r : c.slots = vs.toArray) (hj : ¬ j < 0) (hv : vs[j.toNatClampNeg]? = some v) : ¬ (j < 0 ∨ c.slots.size ≤ j.toNatClampNeg) ∧ c.slots[j.toNatClampNeg]? = some v := by
  refine ⟨fun q => ?_, by rw [r]; simpa using hv⟩
  rcases q with q | q
  · exact hj q
  · rw [r] at q
    have := (List.getElem?_eq_some_iff.mp hv).1
    simp at q; omega
theorem Ar.inb {c : Cell} {j : Int32} (r : c.slots = vs.toArray) (hj : ¬ j < 0) (hl : j.toNatClampNeg < vs.length) : ¬ (j < 0 ∨ c.slots.size ≤ j.toNatClampNeg) := (Ar.at r hj (List.getElem?_eq_getElem hl)).1
end ArFacts
theorem E_newA (X : Sd l Z own nm bytes ml ret R p e s m args below T h cells slots) {aty : ArrayType} {n : Int32} {cap : Nat} {vs : List Value} {cells' slots' : Nat} (w : (Jvm.Cond.arrayClass (newarray.typeOf aty)).before a0 Z = true) (hd : decode bytes pc = .ok (.newarray aty, 2)) (hp : pc + 2 = pc') (hn : ¬ n < 0) (hcap : n.toNatClampNeg ≤ cap) (hb8 : cap * 8 ≤ 536870912) (hvs : List.replicate n.toNatClampNeg (defaultValue (newarray.typeOf aty)) = vs) (hcc : cells + 1 = cells') (hss : slots + cap = slots') (hc : cells' ≤ R.cells) (hl : slots' ≤ R.slots)
    (k : ∀ T' h' a, a = h.size → Sd l Z own nm bytes ml ret R p e s m args below T' h' cells' slots' → Ext h h' → Ar Z h' a (newarray.typeOf aty) vs → End Z p e below s Q kc ks T' (mkF m pc' Ls (.ref a :: st))) : End Z p e below s Q kc ks T (mkF m pc Ls (.int n :: st)) := by
  subst hp hcc hss hvs; obtain ⟨meth, c, locs, X, N, e0, E, hx, hb, hml, hown, r⟩ := X; subst hb
  obtain ⟨T', h', cA, X', e', E2, A2, stp⟩ := newP X hx r.2.2.2 w e0 (g := mkF m pc Ls (.int n :: st)) rfl hd rfl hn hcap hb8 hc hl
  exact (k T' h' h.size rfl ⟨meth, c, locs, X', N, e', E.trans E2, hx, rfl, hml, hown, r⟩ E2 ⟨_, A2, by simp [newA]⟩).go stp
theorem E_newAE (X : Sd l Z own nm bytes ml ret R p e s m args below T h cells slots) {aty : ArrayType} {n : Int32} {cap : Nat} {vs : List Value} {cells' slots' : Nat} {ad : String} (had : "[" ++ (newarray.typeOf aty).toString = ad) (w : (Jvm.Cond.arrayClass (newarray.typeOf aty)).before a0 Z = true) (hd : decode bytes pc = .ok (.newarray aty, 2)) (hp : pc + 2 = pc') (hn : ¬ n < 0) (hcap : n.toNatClampNeg ≤ cap) (hb8 : cap * 8 ≤ 536870912) (hvs : List.replicate n.toNatClampNeg (defaultValue (newarray.typeOf aty)) = vs) (hcc : cells + 1 = cells') (hss : slots + cap = slots') (hc : cells' ≤ R.cells) (hl : slots' ≤ R.slots)
    (k : ∀ T' h' a, a = h.size → Sd l Z own nm bytes ml ret R p e s m args below T' h' cells' slots' → Ext h h' → Ar Z h' a (newarray.typeOf aty) vs → Exa Z h' a ad → End Z p e below s Q kc ks T' (mkF m pc' Ls (.ref a :: st))) : End Z p e below s Q kc ks T (mkF m pc Ls (.int n :: st)) := by
  subst hp hcc hss hvs; obtain ⟨meth, c, locs, X, N, e0, E, hx, hb, hml, hown, r⟩ := X; subst hb
  obtain ⟨T', h', cA, X', e', E2, A2, A3, stp⟩ := newPE X hx r.2.2.2 w e0 (g := mkF m pc Ls (.int n :: st)) rfl hd rfl hn hcap hb8 hc hl had
  exact (k T' h' h.size rfl ⟨meth, c, locs, X', N, e', E.trans E2, hx, rfl, hml, hown, r⟩ E2 ⟨_, A2, by simp [newA]⟩ A3).go stp
theorem E_alen (X : Sd l Z own nm bytes ml ret R p e s m args below T h cells slots) {a : Addr} {ty : FieldType} {vs : List Value} {n : Int32} (F : Ar Z h a ty vs) (hn : vs.length.toInt32 = n) (hd : decode bytes pc = .ok (.arraylength, 1)) (hp : pc + 1 = pc') (k : End Z p e below s Q kc ks T (mkF m pc' Ls (.int n :: st))) : End Z p e below s Q kc ks T (mkF m pc Ls (.ref a :: st)) := by
  subst hp hn; obtain ⟨meth, c, locs, X, N, e0, E, hx, hb, hml, hown, r⟩ := X; subst hb
  obtain ⟨cl, A, q⟩ := F
  have q2 : cl.slots.size = vs.length := by rw [q]; simp
  rw [← q2] at k
  exact k.go fun t => X.arraylength hx (by rw [e0]; exact A.1) (State.isArrayOf_alike r.2.2.2.alike A.2.1) (g := mkF m pc Ls (.ref a :: st)) rfl rfl hd t
theorem E_iaload (X : Sd l Z own nm bytes ml ret R p e s m args below T h cells slots) {a : Addr} {vs : List Value} {j : Int32} {v : Value} (F : Ar Z h a .int vs) (hj : ¬ j < 0) (hv : vs[j.toNatClampNeg]? = some v) (hd : decode bytes pc = .ok (.iaload, 1)) (hp : pc + 1 = pc') (k : End Z p e below s Q kc ks T (mkF m pc' Ls (v :: st))) : End Z p e below s Q kc ks T (mkF m pc Ls (.int j :: .ref a :: st)) := by
  subst hp; obtain ⟨meth, c, locs, X, N, e0, E, hx, hb, hml, hown, r⟩ := X; subst hb
  obtain ⟨cl, A, q⟩ := F
  obtain ⟨i1, i2⟩ := Ar.at q hj hv
  exact k.go fun t => X.iaload hx (by rw [e0]; exact A.1) (State.isArrayOf_alike r.2.2.2.alike A.2.1) A.2.2 i1 i2 (g := mkF m pc Ls (.int j :: .ref a :: st)) rfl rfl hd t
theorem E_laload (X : Sd l Z own nm bytes ml ret R p e s m args below T h cells slots) {a : Addr} {vs : List Value} {j : Int32} {v : Value} (F : Ar Z h a .long vs) (hj : ¬ j < 0) (hv : vs[j.toNatClampNeg]? = some v) (hd : decode bytes pc = .ok (.laload, 1)) (hp : pc + 1 = pc') (k : End Z p e below s Q kc ks T (mkF m pc' Ls (v :: st))) : End Z p e below s Q kc ks T (mkF m pc Ls (.int j :: .ref a :: st)) := by
  subst hp; obtain ⟨meth, c, locs, X, N, e0, E, hx, hb, hml, hown, r⟩ := X; subst hb
  obtain ⟨cl, A, q⟩ := F
  obtain ⟨i1, i2⟩ := Ar.at q hj hv
  exact k.go fun t => X.laload hx (by rw [e0]; exact A.1) (State.isArrayOf_alike r.2.2.2.alike A.2.1) A.2.2 i1 i2 (g := mkF m pc Ls (.int j :: .ref a :: st)) rfl rfl hd t
theorem E_caload (X : Sd l Z own nm bytes ml ret R p e s m args below T h cells slots) {a : Addr} {vs : List Value} {j : Int32} {v : Value} (F : Ar Z h a .char vs) (hj : ¬ j < 0) (hv : vs[j.toNatClampNeg]? = some v) (hd : decode bytes pc = .ok (.caload, 1)) (hp : pc + 1 = pc') (k : End Z p e below s Q kc ks T (mkF m pc' Ls (v :: st))) : End Z p e below s Q kc ks T (mkF m pc Ls (.int j :: .ref a :: st)) := by
  subst hp; obtain ⟨meth, c, locs, X, N, e0, E, hx, hb, hml, hown, r⟩ := X; subst hb
  obtain ⟨cl, A, q⟩ := F
  obtain ⟨i1, i2⟩ := Ar.at q hj hv
  exact k.go fun t => X.caload hx (by rw [e0]; exact A.1) (State.isArrayOf_alike r.2.2.2.alike A.2.1) A.2.2 i1 i2 (g := mkF m pc Ls (.int j :: .ref a :: st)) rfl rfl hd t
theorem E_baload (X : Sd l Z own nm bytes ml ret R p e s m args below T h cells slots) {a : Addr} {vs : List Value} {j : Int32} {v : Value} (F : Ar Z h a .byte vs) (hj : ¬ j < 0) (hv : vs[j.toNatClampNeg]? = some v) (hd : decode bytes pc = .ok (.baload, 1)) (hp : pc + 1 = pc') (k : End Z p e below s Q kc ks T (mkF m pc' Ls (v :: st))) : End Z p e below s Q kc ks T (mkF m pc Ls (.int j :: .ref a :: st)) := by
  subst hp; obtain ⟨meth, c, locs, X, N, e0, E, hx, hb, hml, hown, r⟩ := X; subst hb
  obtain ⟨cl, A, q⟩ := F
  obtain ⟨i1, i2⟩ := Ar.at q hj hv
  exact k.go fun t => X.baloadBytes hx (by rw [e0]; exact A.1) (State.isArrayOf_alike r.2.2.2.alike A.2.1) A.2.2 i1 i2 (g := mkF m pc Ls (.int j :: .ref a :: st)) rfl rfl hd t
theorem E_baload_Z (X : Sd l Z own nm bytes ml ret R p e s m args below T h cells slots) {a : Addr} {vs : List Value} {j : Int32} {v : Value} (F : Ar Z h a .boolean vs) (hj : ¬ j < 0) (hv : vs[j.toNatClampNeg]? = some v) (hd : decode bytes pc = .ok (.baload, 1)) (hp : pc + 1 = pc') (k : End Z p e below s Q kc ks T (mkF m pc' Ls (v :: st))) : End Z p e below s Q kc ks T (mkF m pc Ls (.int j :: .ref a :: st)) := by
  subst hp; obtain ⟨meth, c, locs, X, N, e0, E, hx, hb, hml, hown, r⟩ := X; subst hb
  obtain ⟨cl, A, q⟩ := F
  obtain ⟨i1, i2⟩ := Ar.at q hj hv
  exact k.go fun t => X.baloadBooleans hx (by rw [e0]; exact A.1) (State.isArrayOf_alike r.2.2.2.alike A.2.1) A.2.2 i1 i2 (g := mkF m pc Ls (.int j :: .ref a :: st)) rfl rfl hd t
theorem E_aaload (X : Sd l Z own nm bytes ml ret R p e s m args below T h cells slots) {a : Addr} {vs : List Value} {j : Int32} {v : Value} {ty : FieldType} (F : Ar Z h a ty vs) (hty : ty.isReference = true) (hj : ¬ j < 0) (hv : vs[j.toNatClampNeg]? = some v) (hd : decode bytes pc = .ok (.aaload, 1)) (hp : pc + 1 = pc') (k : End Z p e below s Q kc ks T (mkF m pc' Ls (v :: st))) : End Z p e below s Q kc ks T (mkF m pc Ls (.int j :: .ref a :: st)) := by
  subst hp; obtain ⟨meth, c, locs, X, N, e0, E, hx, hb, hml, hown, r⟩ := X; subst hb
  obtain ⟨cl, A, q⟩ := F
  obtain ⟨i1, i2⟩ := Ar.at q hj hv
  exact k.go fun t => X.aaload hx (by rw [e0]; exact A.1) (State.isArrayOf_alike r.2.2.2.alike A.2.1) hty A.2.2 i1 i2 (g := mkF m pc Ls (.int j :: .ref a :: st)) rfl rfl hd t
theorem E_iastore (X : Sd l Z own nm bytes ml ret R p e s m args below T h cells slots) {a : Addr} {vs vs' : List Value} {j : Int32} {x : Int32} (F : Ar Z h a .int vs) (hj : ¬ j < 0) (hl : j.toNatClampNeg < vs.length) (hvs : vs.set j.toNatClampNeg (.int x) = vs') (ha : Z.heap.size ≤ a) (hd : decode bytes pc = .ok (.iastore, 1)) (hp : pc + 1 = pc')
    (k : ∀ T' h', Sd l Z own nm bytes ml ret R p e s m args below T' h' cells slots → Wr h h' a j.toNatClampNeg (.int x) → Ar Z h' a .int vs' → End Z p e below s Q kc ks T' (mkF m pc' Ls st)) : End Z p e below s Q kc ks T (mkF m pc Ls (.int x :: .int j :: .ref a :: st)) := by
  subst hp hvs; obtain ⟨meth, c, locs, X, N, e0, E, hx, hb, hml, hown, r⟩ := X; subst hb
  have F0 := F
  obtain ⟨cl, A, q⟩ := F
  obtain ⟨T', h', X', e', W, stp⟩ := stI X hx r.2.2.2 e0 A (Ar.inb q hj hl) (g := mkF m pc Ls (.int x :: .int j :: .ref a :: st)) rfl rfl hd
  exact (k T' h' ⟨meth, c, _, X', Fr.snoc X' N ha, e', E.wr W ha, hx, rfl, hml, hown, r⟩ W (F0.set W)).go stp
theorem E_lastore (X : Sd l Z own nm bytes ml ret R p e s m args below T h cells slots) {a : Addr} {vs vs' : List Value} {j : Int32} {x : Int64} (F : Ar Z h a .long vs) (hj : ¬ j < 0) (hl : j.toNatClampNeg < vs.length) (hvs : vs.set j.toNatClampNeg (.long x) = vs') (ha : Z.heap.size ≤ a) (hd : decode bytes pc = .ok (.lastore, 1)) (hp : pc + 1 = pc')
    (k : ∀ T' h', Sd l Z own nm bytes ml ret R p e s m args below T' h' cells slots → Wr h h' a j.toNatClampNeg (.long x) → Ar Z h' a .long vs' → End Z p e below s Q kc ks T' (mkF m pc' Ls st)) : End Z p e below s Q kc ks T (mkF m pc Ls (.long x :: .int j :: .ref a :: st)) := by
  subst hp hvs; obtain ⟨meth, c, locs, X, N, e0, E, hx, hb, hml, hown, r⟩ := X; subst hb
  have F0 := F
  obtain ⟨cl, A, q⟩ := F
  obtain ⟨T', h', X', e', W, stp⟩ := stJ X hx r.2.2.2 e0 A (Ar.inb q hj hl) (g := mkF m pc Ls (.long x :: .int j :: .ref a :: st)) rfl rfl hd
  exact (k T' h' ⟨meth, c, _, X', Fr.snoc X' N ha, e', E.wr W ha, hx, rfl, hml, hown, r⟩ W (F0.set W)).go stp
theorem E_castore (X : Sd l Z own nm bytes ml ret R p e s m args below T h cells slots) {a : Addr} {vs vs' : List Value} {j : Int32} {x : Int32} (F : Ar Z h a .char vs) (hj : ¬ j < 0) (hl : j.toNatClampNeg < vs.length) (hvs : vs.set j.toNatClampNeg (.int (nar .char x)) = vs') (ha : Z.heap.size ≤ a) (hd : decode bytes pc = .ok (.castore, 1)) (hp : pc + 1 = pc')
    (k : ∀ T' h', Sd l Z own nm bytes ml ret R p e s m args below T' h' cells slots → Wr h h' a j.toNatClampNeg (.int (nar .char x)) → Ar Z h' a .char vs' → End Z p e below s Q kc ks T' (mkF m pc' Ls st)) : End Z p e below s Q kc ks T (mkF m pc Ls (.int x :: .int j :: .ref a :: st)) := by
  subst hp hvs; obtain ⟨meth, c, locs, X, N, e0, E, hx, hb, hml, hown, r⟩ := X; subst hb
  have F0 := F
  obtain ⟨cl, A, q⟩ := F
  obtain ⟨T', h', X', e', W, stp⟩ := stC X hx r.2.2.2 e0 A (Ar.inb q hj hl) (g := mkF m pc Ls (.int x :: .int j :: .ref a :: st)) rfl rfl hd
  exact (k T' h' ⟨meth, c, _, X', Fr.snoc X' N ha, e', E.wr W ha, hx, rfl, hml, hown, r⟩ W (F0.set W)).go stp
theorem E_bastore (X : Sd l Z own nm bytes ml ret R p e s m args below T h cells slots) {a : Addr} {vs vs' : List Value} {j : Int32} {x : Int32} (F : Ar Z h a .byte vs) (hj : ¬ j < 0) (hl : j.toNatClampNeg < vs.length) (hvs : vs.set j.toNatClampNeg (.int (nar .byte x)) = vs') (ha : Z.heap.size ≤ a) (hd : decode bytes pc = .ok (.bastore, 1)) (hp : pc + 1 = pc')
    (k : ∀ T' h', Sd l Z own nm bytes ml ret R p e s m args below T' h' cells slots → Wr h h' a j.toNatClampNeg (.int (nar .byte x)) → Ar Z h' a .byte vs' → End Z p e below s Q kc ks T' (mkF m pc' Ls st)) : End Z p e below s Q kc ks T (mkF m pc Ls (.int x :: .int j :: .ref a :: st)) := by
  subst hp hvs; obtain ⟨meth, c, locs, X, N, e0, E, hx, hb, hml, hown, r⟩ := X; subst hb
  have F0 := F
  obtain ⟨cl, A, q⟩ := F
  obtain ⟨T', h', X', e', W, stp⟩ := stB X hx r.2.2.2 e0 A (Ar.inb q hj hl) (g := mkF m pc Ls (.int x :: .int j :: .ref a :: st)) rfl rfl hd
  exact (k T' h' ⟨meth, c, _, X', Fr.snoc X' N ha, e', E.wr W ha, hx, rfl, hml, hown, r⟩ W (F0.set W)).go stp
theorem E_bastore_Z (X : Sd l Z own nm bytes ml ret R p e s m args below T h cells slots) {a : Addr} {vs vs' : List Value} {j : Int32} {x : Int32} (F : Ar Z h a .boolean vs) (hj : ¬ j < 0) (hl : j.toNatClampNeg < vs.length) (hvs : vs.set j.toNatClampNeg (.int (nar .boolean x)) = vs') (ha : Z.heap.size ≤ a) (hd : decode bytes pc = .ok (.bastore, 1)) (hp : pc + 1 = pc')
    (k : ∀ T' h', Sd l Z own nm bytes ml ret R p e s m args below T' h' cells slots → Wr h h' a j.toNatClampNeg (.int (nar .boolean x)) → Ar Z h' a .boolean vs' → End Z p e below s Q kc ks T' (mkF m pc' Ls st)) : End Z p e below s Q kc ks T (mkF m pc Ls (.int x :: .int j :: .ref a :: st)) := by
  subst hp hvs; obtain ⟨meth, c, locs, X, N, e0, E, hx, hb, hml, hown, r⟩ := X; subst hb
  have F0 := F
  obtain ⟨cl, A, q⟩ := F
  obtain ⟨T', h', X', e', W, stp⟩ := stZ X hx r.2.2.2 e0 A (Ar.inb q hj hl) (g := mkF m pc Ls (.int x :: .int j :: .ref a :: st)) rfl rfl hd
  exact (k T' h' ⟨meth, c, _, X', Fr.snoc X' N ha, e', E.wr W ha, hx, rfl, hml, hown, r⟩ W (F0.set W)).go stp
theorem E_clone (X : Sd l Z own nm bytes ml ret R p e s m args below T h cells slots) {ad : String} {i cap W : Nat} {a : Addr} {ty : FieldType} {vs : List Value} {cells' slots' : Nat} (w1 : (Jvm.Cond.methodLink own i ⟨ad, "clone", "()Ljava/lang/Object;"⟩).before a0 Z = true) (w2 : (Jvm.Cond.sameMethod ad "java/lang/Object" "clone" "()Ljava/lang/Object;").before a0 Z = true) (w3 : (Jvm.Cond.native ⟨"java/lang/Object", "clone", "()Ljava/lang/Object;"⟩).before a0 Z = true)
    (w4 : (Jvm.Cond.instanceMethod ⟨"java/lang/Object", "clone", "()Ljava/lang/Object;"⟩).before a0 Z = true) (w5 : (Jvm.Cond.selects ad ⟨ad, "clone", "()Ljava/lang/Object;"⟩ ⟨"java/lang/Object", "clone", "()Ljava/lang/Object;"⟩).before a0 Z = true) (w6 : (Jvm.Cond.castable ad "java/lang/Cloneable").before a0 Z = true) (F : Ar Z h a ty vs) (E1 : Exa Z h a ad) (hfit : ∀ v ∈ vs, fits ty v = true) (hsz : Ls.size = ml) (hd : decode bytes pc = .ok (.invokevirtual i, 3)) (hp : pc + 3 = pc')
    (hf : 1 ≤ R.frames) (hW : (st.map fun v => v.category).sum ≤ W) (hl : W + 14 ≤ R.locals) (hcap : vs.length ≤ cap) (hcc : cells + 1 = cells') (hss : slots + cap = slots') (hc : cells' ≤ R.cells) (hsl : slots' ≤ R.slots)
    (k : ∀ T' h' b, b = h.size → Sd l Z own nm bytes ml ret R p e s m args below T' h' cells' slots' → Ext h h' → Ar Z h' b ty vs → Exa Z h' b ad → End Z p e below s Q kc ks T' (mkF m pc' Ls (.ref b :: st))) : End Z p e below s Q kc ks T (mkF m pc Ls (.ref a :: st)) := by
  subst hp hcc hss; obtain ⟨meth, c, locs, X, N, e0, E, hx, hb, hml, hown, r⟩ := X; subst hb
  obtain ⟨cl, A, q⟩ := F
  have FC : FitC Z cl := fitC_of A fun i hi v hv => hfit v (by rw [q] at hv; exact List.mem_of_getElem? (by simpa using hv))
  obtain ⟨T', h', X', e', E2, A2, A3, stp⟩ := cloneA X hx r.2.2.2 hown w1 w2 w3 w4 w5 w6 e0 A E1 FC (g := mkF m pc Ls (.ref a :: st)) rfl (hsz.trans hml.symm) rfl hd hf (W := W) (cap := cap) (by show 2 * 0 + _ ≤ _; omega) hl (by rw [q]; simpa using hcap) hc hsl
  exact (k T' h' h.size rfl ⟨meth, c, locs, X', N, e', E.trans E2, hx, rfl, hml, hown, r⟩ E2 ⟨_, A2, q⟩ A3).go stp
theorem E_cast (X : Sd l Z own nm bytes ml ret R p e s m args below T h cells slots) {K : String} {i : Nat} {a : Addr} (w : (Jvm.Cond.classLink own i K).before a0 Z = true) (F : Ins Z h a K true) (hd : decode bytes pc = .ok (.checkcast i, 3)) (hp : pc + 3 = pc')
    (k : ∀ T', Sd l Z own nm bytes ml ret R p e s m args below T' h cells slots → End Z p e below s Q kc ks T' (mkF m pc' Ls (.ref a :: st))) : End Z p e below s Q kc ks T (mkF m pc Ls (.ref a :: st)) := by
  subst hp; obtain ⟨meth, c, locs, X, N, e0, E, hx, hb, hml, hown, r⟩ := X; subst hb
  obtain ⟨T', X', e', stp⟩ := castY X hx r.2.2.2 hown w e0 F (g := mkF m pc Ls (.ref a :: st)) rfl rfl hd
  exact (k T' ⟨meth, c, locs, X', N, e', E, hx, rfl, hml, hown, r⟩).go stp
theorem E_instY (X : Sd l Z own nm bytes ml ret R p e s m args below T h cells slots) {K : String} {i : Nat} {a : Addr} (w : (Jvm.Cond.classLink own i K).before a0 Z = true) (F : Ins Z h a K true) (hd : decode bytes pc = .ok (.instanceof i, 3)) (hp : pc + 3 = pc')
    (k : ∀ T', Sd l Z own nm bytes ml ret R p e s m args below T' h cells slots → End Z p e below s Q kc ks T' (mkF m pc' Ls (.int 1 :: st))) : End Z p e below s Q kc ks T (mkF m pc Ls (.ref a :: st)) := by
  subst hp; obtain ⟨meth, c, locs, X, N, e0, E, hx, hb, hml, hown, r⟩ := X; subst hb
  obtain ⟨T', X', e', stp⟩ := instY X hx r.2.2.2 hown w e0 F (g := mkF m pc Ls (.ref a :: st)) rfl rfl hd
  exact (k T' ⟨meth, c, locs, X', N, e', E, hx, rfl, hml, hown, r⟩).go stp
theorem isref_cat {v : Value} (h : v.isRef = true) : v.category = 1 := by rcases ref_cases h with rfl | ⟨a, rfl⟩ <;> rfl
theorem own_irr (x : Int32) : ¬ x < x := by rw [Int32.lt_iff_toInt_lt]; omega
theorem own_irrL (x : Int64) : ¬ x < x := by rw [Int64.lt_iff_toInt_lt]; omega
theorem E_callP (X : Sd l Z own nm bytes ml ret R p e s m args below T h cells slots) {i : Nat} {y : MethodName} {K : String} {bytes' : ByteArray} {ml' : Nat} {ret' : Option FieldType} {rm : Room} {Qc : Option Value → Heap → Prop} {a : Addr} {as : Array Value} {ps : List FieldType} {rr : Option FieldType} {argsL rest : List Value} {W : Nat} {cells' slots' : Nat} (C : Con l Z y bytes' ml' ret' rm as h Qc) (E1 : Exa Z h a K)
    (w1 : (Jvm.Cond.methodLink own i y).before a0 Z = true) (w2 : (Jvm.Cond.instanceMethod y).before a0 Z = true) (ws : (Jvm.Cond.selects y.cls y y).before a0 Z = true) (wp : (Jvm.Cond.privateMethod y).before a0 Z = true) (w3 : (Jvm.Cond.initialized y.cls).before a0 Z = true) (w4 : (Jvm.Cond.code y bytes' ml' ret').before a0 Z = true) (hy : y.cls ≠ "java/lang/invoke/MethodHandle" ∧ y.cls ≠ "java/lang/invoke/VarHandle") (hsz : Ls.size = ml) (has : (.ref a :: argsL).toArray = as) (hpd : parseMethodDescriptor y.desc = some ⟨ps, rr⟩) (hlen : argsL.length = ps.length) (hst : st = argsL.reverse ++ .ref a :: rest)
    (hd : decode bytes pc = .ok (.invokevirtual i, 3)) (hp : pc + 3 = pc') (hW : (rest.map fun v => v.category).sum ≤ W) (hf : rm.frames + 1 ≤ R.frames) (hl : W + (ml' + 11) + rm.locals ≤ R.locals) (hcc : cells + rm.cells = cells') (hss : slots + rm.slots = slots') (hc : cells' ≤ R.cells) (hs : slots' ≤ R.slots)
    (k : ∀ v T' h', Sd l Z own nm bytes ml ret R p e s m args below T' h' cells' slots' → Qc v h' → End Z p e below s Q kc ks T' (mkF m pc' Ls (v.toList ++ rest))) : End Z p e below s Q kc ks T (mkF m pc Ls st) := by
  subst hp hst hcc hss; obtain ⟨meth, c, locs, X, N, e0, E, hx, hb, hml, hown, r⟩ := X; subst hb
  obtain ⟨cq, q1, q2⟩ := E1.cell
  obtain ⟨v, _, ⟨T', L', k', n'⟩, -, X', ⟨Lc, hQ, l1, l2, l3⟩, stp⟩ := X.privateBack hx (y := y) hown (mvT r.2.2.2 w1) (mvT r.2.2.2 w2) (mvT r.2.2.2 ws) (Cond.privateMethod_at (mvP r.2.2.2 wp (args := #[]))) (mvT r.2.2.2 w4) hy (backOf (W := W) (Q := fun v h L => Fr Z.heap.size L ∧ Ext Z.heap h ∧ Qc v h) (C []) r.2.2.2 w4 w3 hf hl) (g := mkF m pc Ls (argsL.reverse ++ .ref a :: rest)) rfl (hsz.trans hml.symm) (Steps.refl _) (a := a) (by rw [e0]; exact q1) q2 (argsL := argsL) (rest := rest) (lenOf hpd hlen) rfl (by show 2 * 0 + _ ≤ _; omega) hd (fun _ _ => ⟨has, e0, hc, hs⟩)
  dsimp only [Pt.U, Pt.locs, Pt.cells, Pt.slots] at X' l1 l2 l3 stp hQ
  subst l1 l2 l3
  exact (k v T' T'.heap ⟨meth, c, _, X', Fr.app N hQ.1, rfl, hQ.2.1, hx, rfl, hml, hown, r⟩ hQ.2.2).go fun _ q => stp.trans q
theorem E_callU (X : Sd l Z own nm bytes ml ret R p e s m args below T h cells slots) {i : Nat} {x y : MethodName} {K : String} {bytes' : ByteArray} {ml' : Nat} {ret' : Option FieldType} {rm : Room} {Qc : Option Value → Heap → Prop} {a : Addr} {as : Array Value} {ps : List FieldType} {rr : Option FieldType} {argsL rest : List Value} {W : Nat} {cells' slots' : Nat} (C : Con l Z y bytes' ml' ret' rm as h Qc) (E1 : Exa Z h a K)
    (w1 : (Jvm.Cond.methodLink own i x).before a0 Z = true) (wm : (Jvm.Cond.sameMethod x.cls y.cls x.name x.desc).before a0 Z = true) (wd : (Jvm.Cond.declares ⟨y.cls, x.name, x.desc⟩).before a0 Z = true) (ws : (Jvm.Cond.selects K x y).before a0 Z = true) (w2 : (Jvm.Cond.instanceMethod y).before a0 Z = true) (w3 : (Jvm.Cond.initialized y.cls).before a0 Z = true) (w4 : (Jvm.Cond.code y bytes' ml' ret').before a0 Z = true) (hy : y.cls ≠ "java/lang/invoke/MethodHandle" ∧ y.cls ≠ "java/lang/invoke/VarHandle") (hsz : Ls.size = ml) (has : (.ref a :: argsL).toArray = as) (hpd : parseMethodDescriptor x.desc = some ⟨ps, rr⟩) (hlen : argsL.length = ps.length) (hst : st = argsL.reverse ++ .ref a :: rest)
    (hd : decode bytes pc = .ok (.invokevirtual i, 3)) (hp : pc + 3 = pc') (hW : (rest.map fun v => v.category).sum ≤ W) (hf : rm.frames + 1 ≤ R.frames) (hl : W + (ml' + 11) + rm.locals ≤ R.locals) (hcc : cells + rm.cells = cells') (hss : slots + rm.slots = slots') (hc : cells' ≤ R.cells) (hs : slots' ≤ R.slots)
    (k : ∀ v T' h', Sd l Z own nm bytes ml ret R p e s m args below T' h' cells' slots' → Qc v h' → End Z p e below s Q kc ks T' (mkF m pc' Ls (v.toList ++ rest))) : End Z p e below s Q kc ks T (mkF m pc Ls st) := by
  subst hp hst hcc hss; obtain ⟨meth, c, locs, X, N, e0, E, hx, hb, hml, hown, r⟩ := X; subst hb
  obtain ⟨cq, kq, qa, qb, qc⟩ := isOf r.2.2.2 e0 E1
  obtain ⟨v, _, ⟨T', L', k', n'⟩, -, X', ⟨Lc, hQ, l1, l2, l3⟩, stp⟩ := X.virtualBackUp hx (x := x) (y := y) (owner := y.cls) hown (mvT r.2.2.2 w1) (mvT r.2.2.2 wm) (mvT r.2.2.2 wd) hy (mvT r.2.2.2 ws) (mvT r.2.2.2 w2) (backOf (W := W) (Q := fun v h L => Fr Z.heap.size L ∧ Ext Z.heap h ∧ Qc v h) (C []) r.2.2.2 w4 w3 hf hl) qa qc (g := mkF m pc Ls (argsL.reverse ++ .ref a :: rest)) rfl (hsz.trans hml.symm) (Steps.refl _) (argsL := argsL) (rest := rest) (lenOf hpd hlen) rfl (by show 2 * 0 + _ ≤ _; omega) hd (fun _ _ => ⟨has, e0, hc, hs⟩)
  dsimp only [Pt.U, Pt.locs, Pt.cells, Pt.slots] at X' l1 l2 l3 stp hQ
  subst l1 l2 l3
  exact (k v T' T'.heap ⟨meth, c, _, X', Fr.app N hQ.1, rfl, hQ.2.1, hx, rfl, hml, hown, r⟩ hQ.2.2).go fun _ q => stp.trans q
theorem E_eqI {x z : Int32} (q : x = z) (k : End Z p e below s Q kc ks T (mkF m pc Ls (.int z :: st))) : End Z p e below s Q kc ks T (mkF m pc Ls (.int x :: st)) := by subst q; exact k
theorem E_eqJ {x z : Int64} (q : x = z) (k : End Z p e below s Q kc ks T (mkF m pc Ls (.long z :: st))) : End Z p e below s Q kc ks T (mkF m pc Ls (.long x :: st)) := by subst q; exact k
theorem E_eqV {x z : Value} (q : x = z) (k : End Z p e below s Q kc ks T (mkF m pc Ls (z :: st))) : End Z p e below s Q kc ks T (mkF m pc Ls (x :: st)) := by subst q; exact k
/-! from the case's words -/
theorem own_eq {first : State} {o : Option Outcome} {idx : List Nat} {a b : Term} (h : (Jvm.Cond.eq a b).value args first o s idx = some true) : ∃ v, a.eval args first o idx s = some v ∧ b.eval args first o idx s = some v := by
  simp only [Cond.value] at h
  split at h <;> simp_all
theorem own_exa {t : Term} {K : String} (h : (Jvm.Cond.exactly t K).value args s none s [] = some true) : ∃ a, t.eval args s none [] s = some (.ref a) ∧ Exa s s.heap a K := by
  obtain ⟨a, c, cell, k, e1, r⟩ := Cond.exactly_spec (Cond.before_iff.mpr h)
  exact ⟨a, e1, Exa.start e1 h⟩
theorem own_eqi {t u : Term} {v : Value} (h : (Jvm.Cond.eq t u).value args s none s [] = some true) (hu : u.eval args s none [] s = some v) : t.eval args s none [] s = some v := by
  obtain ⟨w, h1, h2⟩ := own_eq h
  rw [h1, ← h2, hu]
theorem own_fld {t : Term} {C n d : String} {v : Value} {a : Addr} (ev : t.eval args s none [] s = some (.ref a)) (h : (Term.field t C n d).eval args s none [] s = some v) : Fld s s.heap a C n d v :=
  Fld.start (by simpa [Term.eval, ev] using h)
theorem own_arr {t : Term} {ty : FieldType} {a : Addr} (ev : t.eval args s none [] s = some (.ref a)) (h : (Jvm.Cond.arrayOf t ty).value args s none s [] = some true) : ∃ c, Arr s s.heap a c ty ∧ s.arrayAt? a = some c := by
  obtain ⟨c, A⟩ := Arr.start ev h
  exact ⟨c, A, A.fin (Vm.Alike.refl _)⟩
theorem own_len {t : Term} {a : Addr} {c : Cell} {n : Int32} (ev : t.eval args s none [] s = some (.ref a)) (hc : s.arrayAt? a = some c) (h : (Term.length t).eval args s none [] s = some (.int n)) : c.slots.size = n.toNatClampNeg := by
  simp only [Term.eval, ev, hc, Option.bind_eq_bind, Option.bind_some] at h
  split at h
  · rename_i q
    have h := Value.int.inj (Option.some.inj h)
    rw [← h]
    have h2 := len_toInt q
    show _ = (Int32.toInt _).toNat
    rw [h2]; rfl
  · cases h
theorem own_el {t : Term} {a : Addr} {c : Cell} {k : Int32} {v : Value} (ev : t.eval args s none [] s = some (.ref a)) (hc : s.arrayAt? a = some c) (h : (Term.elem t (.int k)).eval args s none [] s = some v) : c.slots[k.toNatClampNeg]? = some v := by
  simp only [Term.eval, ev, hc, Option.bind_eq_bind, Option.bind_some] at h
  split at h
  · cases h
  · exact h
theorem own_ar {a : Addr} {c : Cell} {ty : FieldType} {vs : List Value} (A : Arr Z h a c ty) (hs : c.slots.size = vs.length) (H : HasL c 0 vs) : Ar Z h a ty vs := by
  refine ⟨c, A, ?_⟩
  apply Array.ext'
  apply List.ext_getElem?
  intro i
  by_cases hi : i < vs.length
  · have := HasL.at (dv := .null) vs 0 H i hi
    rw [Nat.zero_add] at this
    simp only [List.getElem?_toArray, Array.getElem?_toList] at *
    rw [this, List.getD_eq_getElem?_getD, List.getElem?_eq_getElem hi]; rfl
  · rw [List.getElem?_eq_none (by simpa [hs] using Nat.le_of_not_lt hi), List.getElem?_eq_none (by simpa using Nat.le_of_not_lt hi)]
theorem E_ldcF (X : Sd l Z own nm bytes ml ret R p e s m args below T h cells slots) {i : Nat} {b : UInt32} (w : (Jvm.Cond.constantFloat own i b).before a0 Z = true) (hd : decode bytes pc = .ok (.ldc i, 2)) (hp : pc + 2 = pc') (k : End Z p e below s Q kc ks T (mkF m pc' Ls (.float b :: st))) : End Z p e below s Q kc ks T (mkF m pc Ls st) := by
  subst hp; obtain ⟨meth, c, locs, X, N, e0, E, hx, hb, hml, hown, hnm, hret, hlk, hZ⟩ := X; subst hb
  obtain ⟨kk, cf, hk, hcf, hc⟩ := Cond.constantFloat_spec hown (mvT (args := args) hZ w)
  exact k.go (X.ldcFloat hx hk hcf hc (g := mkF m pc Ls st) rfl hd)
/-! arrays of references, with what they take -/
def ArR (Z : State) (h : Heap) (a : Addr) (ty : FieldType) (C : String) (vs : List Value) : Prop := ∃ c : Cell, Arr Z h a c ty ∧ c.slots = vs.toArray ∧ (Ovr Z c.cls C ∨ ∃ t, OvrA Z c.cls t C)
section ArRFacts
variable {h' : Heap} {a b y : Addr} {ty : FieldType} {C : String} {vs : List Value} {ws : List Addr} {v : Value} {sl : Nat}
theorem ArR.ar (F : ArR Z h a ty C vs) : Ar Z h a ty vs := by obtain ⟨c, A, r, -⟩ := F; exact ⟨c, A, r⟩
theorem ArR.lt (F : ArR Z h a ty C vs) : a < h.size := F.ar.lt
theorem ArR.ext (F : ArR Z h a ty C vs) (E : Ext h h') : ArR Z h' a ty C vs := by obtain ⟨c, A, r⟩ := F; exact ⟨c, A.ext E, r⟩
theorem ArR.other (F : ArR Z h b ty C vs) (W : Wr h h' a sl v) (q : b ≠ a) : ArR Z h' b ty C vs := by obtain ⟨c, A, r⟩ := F; exact ⟨c, A.other W q, r⟩
theorem ArR.keep (F : ArR Z h a ty C vs) (K : Keep h h' ws) (q : a ∉ ws) : ArR Z h' a ty C vs := by obtain ⟨c, A, r⟩ := F; exact ⟨c, ⟨K.2.1 a c A.1 q, A.2⟩, r⟩
theorem ArR.set (F : ArR Z h a ty C vs) (W : Wr h h' a sl v) : ArR Z h' a ty C (vs.set sl v) := by
  obtain ⟨c, A, r, O⟩ := F
  exact ⟨_, A.same W, by simp [Cell.setSlot, r], O⟩
theorem ArR.sto (F : ArR Z h a ty C vs) (I : Ins Z h y C true) : Sto Z h a (.ref y) := by
  obtain ⟨c, A, -, O | ⟨t, O⟩⟩ := F
  · exact Sto.of A O I
  · exact Sto.ofVA A rfl O I
end ArRFacts
theorem E_newRA (X : Sd l Z own nm bytes ml ret R p e s m args below T h cells slots) {C : String} {ty : FieldType} {i cap : Nat} {n : Int32} {vs : List Value} {cells' slots' : Nat} (hC : (FieldType.array ty).toString = C) (w1 : (Jvm.Cond.classLink own i C).before a0 Z = true) (w2 : (Jvm.Cond.arrayOver (.array ty)).before a0 Z = true) (hd : decode bytes pc = .ok (.anewarray i, 3)) (hp : pc + 3 = pc') (hn : ¬ n < 0) (hcap : n.toNatClampNeg ≤ cap) (hb8 : cap * 8 ≤ 536870912) (hvs : List.replicate n.toNatClampNeg Value.null = vs) (hcc : cells + 1 = cells') (hss : slots + cap = slots') (hc : cells' ≤ R.cells) (hl : slots' ≤ R.slots)
    (k : ∀ T' h' a, a = h.size → Sd l Z own nm bytes ml ret R p e s m args below T' h' cells' slots' → Ext h h' → ArR Z h' a (.array ty) C vs → End Z p e below s Q kc ks T' (mkF m pc' Ls (.ref a :: st))) : End Z p e below s Q kc ks T (mkF m pc Ls (.int n :: st)) := by
  subst hp hcc hss hvs; obtain ⟨meth, c, locs, X, N, e0, E, hx, hb, hml, hown, r⟩ := X; subst hb
  obtain ⟨T', h', cA, X', e', E2, A2, -, O2, stp⟩ := newRA X hx r.2.2.2 hown hC w1 w2 e0 (g := mkF m pc Ls (.int n :: st)) rfl hd rfl hn hcap hb8 hc hl rfl
  exact (k T' h' h.size rfl ⟨meth, c, locs, X', N, e', E.trans E2, hx, rfl, hml, hown, r⟩ E2 ⟨_, A2, by simp [newA, defaultValue], Or.inr ⟨_, O2⟩⟩).go stp
theorem E_newR (X : Sd l Z own nm bytes ml ret R p e s m args below T h cells slots) {C : String} {i cap : Nat} {n : Int32} {vs : List Value} {cells' slots' : Nat} (w1 : (Jvm.Cond.classLink own i C).before a0 Z = true) (w2 : (Jvm.Cond.arrayOver (.object C)).before a0 Z = true) (hd : decode bytes pc = .ok (.anewarray i, 3)) (hp : pc + 3 = pc') (hn : ¬ n < 0) (hcap : n.toNatClampNeg ≤ cap) (hb8 : cap * 8 ≤ 536870912) (hvs : List.replicate n.toNatClampNeg Value.null = vs) (hcc : cells + 1 = cells') (hss : slots + cap = slots') (hc : cells' ≤ R.cells) (hl : slots' ≤ R.slots)
    (k : ∀ T' h' a, a = h.size → Sd l Z own nm bytes ml ret R p e s m args below T' h' cells' slots' → Ext h h' → ArR Z h' a (.object C) C vs → End Z p e below s Q kc ks T' (mkF m pc' Ls (.ref a :: st))) : End Z p e below s Q kc ks T (mkF m pc Ls (.int n :: st)) := by
  subst hp hcc hss hvs; obtain ⟨meth, c, locs, X, N, e0, E, hx, hb, hml, hown, r⟩ := X; subst hb
  obtain ⟨T', h', cA, X', e', E2, A2, O2, stp⟩ := newR X hx r.2.2.2 hown w1 w2 e0 (g := mkF m pc Ls (.int n :: st)) rfl hd rfl hn hcap hb8 hc hl
  exact (k T' h' h.size rfl ⟨meth, c, locs, X', N, e', E.trans E2, hx, rfl, hml, hown, r⟩ E2 ⟨_, A2, by simp [newA, defaultValue], Or.inl O2⟩).go stp
theorem E_aastore (X : Sd l Z own nm bytes ml ret R p e s m args below T h cells slots) {a y : Addr} {ty : FieldType} {C : String} {vs vs' : List Value} {j : Int32} (F : ArR Z h a ty C vs) (I : Ins Z h y C true) (hty : ty.isReference = true) (hj : ¬ j < 0) (hl : j.toNatClampNeg < vs.length) (hvs : vs.set j.toNatClampNeg (.ref y) = vs') (ha : Z.heap.size ≤ a) (hd : decode bytes pc = .ok (.aastore, 1)) (hp : pc + 1 = pc')
    (k : ∀ T' h', Sd l Z own nm bytes ml ret R p e s m args below T' h' cells slots → Wr h h' a j.toNatClampNeg (.ref y) → ArR Z h' a ty C vs' → End Z p e below s Q kc ks T' (mkF m pc' Ls st)) : End Z p e below s Q kc ks T (mkF m pc Ls (.ref y :: .int j :: .ref a :: st)) := by
  subst hp hvs; obtain ⟨meth, c, locs, X, N, e0, E, hx, hb, hml, hown, r⟩ := X; subst hb
  have F0 := F
  have S := F.sto I
  obtain ⟨cl, A, q, -⟩ := F
  obtain ⟨T', h', X', e', W, stp⟩ := stR X hx r.2.2.2 e0 A (Ar.inb q hj hl) hty S (g := mkF m pc Ls (.ref y :: .int j :: .ref a :: st)) rfl rfl hd
  exact (k T' h' ⟨meth, c, _, X', Fr.snoc X' N ha, e', E.wr W ha, hx, rfl, hml, hown, r⟩ W (F0.set W)).go stp
theorem E_ldcwI (X : Sd l Z own nm bytes ml ret R p e s m args below T h cells slots) {i : Nat} {v : Int32} (w : (Jvm.Cond.constant own i v).before a0 Z = true) (hd : decode bytes pc = .ok (.ldc_w i, 3)) (hp : pc + 3 = pc') (k : End Z p e below s Q kc ks T (mkF m pc' Ls (.int v :: st))) : End Z p e below s Q kc ks T (mkF m pc Ls st) := by
  subst hp; obtain ⟨meth, c, locs, X, N, e0, E, hx, hb, hml, hown, hnm, hret, hlk, hZ⟩ := X; subst hb
  exact k.go (X.ldcwInt hx hown (mvT hZ w) (g := mkF m pc Ls st) rfl hd)
theorem Ar.arv {a : Addr} {ty : FieldType} {vs : List Value} {z : Int32} (dv : Value) (F : Ar Z h a ty vs) (hf : ∀ v ∈ vs, fits ty v = true) (hn : vs.length = z.toNatClampNeg) (hz : ¬ z < 0) : ∃ k, Arv Z h a k ty z vs dv := by
  obtain ⟨c, A, r⟩ := F
  have hs : c.slots.size = vs.length := by rw [r]; simp
  refine ⟨c.cls, c, A, rfl, by rw [hs]; exact hn, hz, fun i hi => ?_, fun i hi => ?_⟩
  · rw [hs] at hi
    rw [r, List.getD_eq_getElem?_getD]; simp [hi]
  · rw [hs] at hi
    rw [List.getD_eq_getElem?_getD, List.getElem?_eq_getElem hi]
    exact hf _ (List.getElem_mem hi)
theorem Ar.of_arv {a : Addr} {ty : FieldType} {vs : List Value} {z : Int32} {dv : Value} {k : ClassId} (F : Arv Z h a k ty z vs dv) (hn : vs.length = z.toNatClampNeg) : Ar Z h a ty vs := by
  obtain ⟨c, A, -, hs, -, H, -⟩ := F
  refine ⟨c, A, ?_⟩
  apply Array.ext'
  apply List.ext_getElem?
  intro i
  by_cases hi : i < vs.length
  · have := H i (by omega)
    rw [Array.getElem?_toList, this, List.getD_eq_getElem?_getD, List.getElem?_eq_getElem hi]
    simp [hi]
  · rw [List.getElem?_eq_none (by rw [Array.length_toList]; omega), List.getElem?_eq_none (by simpa using Nat.le_of_not_lt hi)]
theorem E_acopy (X : Sd l Z own nm bytes ml ret R p e s m args below T h cells slots) {i W : Nat} {a b : Addr} {ty : FieldType} {vs vd vd2 : List Value} {sp dp nn z z' : Int32} (w1 : (Jvm.Cond.methodLink own i Jvm.Stand.acN).before a0 Z = true) (w2 : (Jvm.Cond.native Jvm.Stand.acN).before a0 Z = true) (w3 : (Jvm.Cond.static Jvm.Stand.acN).before a0 Z = true) (w4 : (Jvm.Cond.initialized "java/lang/System").before a0 Z = true)
    (A : Ar Z h a ty vs) (B : Ar Z h b ty vd) (hty : refKind ty = false) (fa : ∀ v ∈ vs, fits ty v = true) (fb : ∀ v ∈ vd, fits ty v = true) (za : vs.length = z.toNatClampNeg) (hz : ¬ z < 0) (zb : vd.length = z'.toNatClampNeg) (hz' : ¬ z' < 0) (h1 : ¬ sp < 0) (h2 : ¬ dp < 0) (h3 : ¬ nn < 0) (h4 : sp.toNatClampNeg + nn.toNatClampNeg ≤ vs.length) (h5 : dp.toNatClampNeg + nn.toNatClampNeg ≤ vd.length)
    (hvd : vd.take dp.toNatClampNeg ++ ((List.range nn.toNatClampNeg).map fun i => vs.getD (sp.toNatClampNeg + i) .null) ++ vd.drop (dp.toNatClampNeg + nn.toNatClampNeg) = vd2) (hb0 : Z.heap.size ≤ b) (hsz : Ls.size = ml) (hd : decode bytes pc = .ok (.invokestatic i, 3)) (hp : pc + 3 = pc') (hf : 1 ≤ R.frames) (hW : (st.map fun v => v.category).sum ≤ W) (hlo : W + (nativeFrameWords "java/lang/System" "arraycopy" 5 + 11) ≤ R.locals)
    (k : ∀ T' h', Sd l Z own nm bytes ml ret R p e s m args below T' h' cells slots → Keep h h' [b] → Ar Z h' b ty vd2 → End Z p e below s Q kc ks T' (mkF m pc' Ls st)) : End Z p e below s Q kc ks T (mkF m pc Ls (.int nn :: .int dp :: .ref b :: .int sp :: .ref a :: st)) := by
  subst hp hvd; obtain ⟨meth, c, locs, X, N, e0, E, hx, hb, hml, hown, r⟩ := X; subst hb
  obtain ⟨k1, A1⟩ := A.arv .null fa za hz
  obtain ⟨k2, B1⟩ := B.arv .null fb zb hz'
  obtain ⟨T', h', L, X', e', N', K, B2, stp⟩ := cpA X hx r.2.2.2 hown w1 w2 w3 w4 e0 A1 B1 (Or.inl ⟨rfl, hty⟩) h1 h2 h3 (by rw [← za]; exact h4) (by rw [← zb]; exact h5) rfl h5 N hb0 (g := mkF m pc Ls (.int nn :: .int dp :: .ref b :: .int sp :: .ref a :: st)) rfl (hsz.trans hml.symm) rfl hd hf (W := W) (by show 2 * 0 + _ ≤ _; omega) hlo
  refine (k T' h' ⟨meth, c, _, X', N', e', E.keep K (allS hb0 all0), hx, rfl, hml, hown, r⟩ K (Ar.of_arv B2 ?_)).go stp
  simp; omega
end Own
end Jvm.RoadKit
namespace Jvm.Pilot.@@N@@
open Jvm Jvm.ClassFile Sem Op Lib Jvm.Free Jvm.Stand Jvm.LawKit Jvm.RoadKit Bundle Jvm.Pilot.@@N@@.Jvm.D
theorem w_0 {a0 : Array Value} {Z : State} (hw : ∀ d ∈ tables_1, d.before a0 Z = true) : (Jvm.Cond.classLink "com/example/damctl/damctl/policy/FlowGraphCallPinLaw" (7 : Nat) "com/example/damctl/damctl/policy/FlowGraph").before a0 Z = true := hw _ (List.mem_of_getElem? (i := 0) rfl)
theorem w_1 {a0 : Array Value} {Z : State} (hw : ∀ d ∈ tables_1, d.before a0 Z = true) : (Jvm.Cond.instantiable "com/example/damctl/damctl/policy/FlowGraph" (12 : Nat)).before a0 Z = true := hw _ (List.mem_of_getElem? (i := 1) rfl)
theorem w_2 {a0 : Array Value} {Z : State} (hw : ∀ d ∈ tables_1, d.before a0 Z = true) : (Jvm.Cond.initialized "com/example/damctl/damctl/policy/FlowGraph").before a0 Z = true := hw _ (List.mem_of_getElem? (i := 2) rfl)
theorem w_3 {a0 : Array Value} {Z : State} (hw : ∀ d ∈ tables_1, d.before a0 Z = true) : (Jvm.Cond.methodLink "com/example/damctl/damctl/policy/FlowGraphCallPinLaw" (9 : Nat) ({ cls := "com/example/damctl/damctl/policy/FlowGraph", name := "<init>", desc := "()V" } : Jvm.MethodName)).before a0 Z = true := hw _ (List.mem_of_getElem? (i := 3) rfl)
theorem w_4 {a0 : Array Value} {Z : State} (hw : ∀ d ∈ tables_1, d.before a0 Z = true) : (Jvm.Cond.instanceMethod ({ cls := "com/example/damctl/damctl/policy/FlowGraph", name := "<init>", desc := "()V" } : Jvm.MethodName)).before a0 Z = true := hw _ (List.mem_of_getElem? (i := 4) rfl)
theorem w_5 {a0 : Array Value} {Z : State} (hw : ∀ d ∈ tables_1, d.before a0 Z = true) : (Jvm.Cond.code ({ cls := "com/example/damctl/damctl/policy/FlowGraph", name := "<init>", desc := "()V" } : Jvm.MethodName) prog_35_method_1_code (1 : Nat) (Option.none : Option Jvm.ClassFile.FieldType)).before a0 Z = true := hw _ (List.mem_of_getElem? (i := 5) rfl)
theorem w_6 {a0 : Array Value} {Z : State} (hw : ∀ d ∈ tables_1, d.before a0 Z = true) : (Jvm.Cond.methodLink "com/example/damctl/damctl/policy/FlowGraph" (1 : Nat) ({ cls := "java/lang/Object", name := "<init>", desc := "()V" } : Jvm.MethodName)).before a0 Z = true := hw _ (List.mem_of_getElem? (i := 6) rfl)
theorem w_7 {a0 : Array Value} {Z : State} (hw : ∀ d ∈ tables_1, d.before a0 Z = true) : (Jvm.Cond.instanceMethod ({ cls := "java/lang/Object", name := "<init>", desc := "()V" } : Jvm.MethodName)).before a0 Z = true := hw _ (List.mem_of_getElem? (i := 7) rfl)
theorem w_8 {a0 : Array Value} {Z : State} (hw : ∀ d ∈ tables_1, d.before a0 Z = true) : (Jvm.Cond.code ({ cls := "java/lang/Object", name := "<init>", desc := "()V" } : Jvm.MethodName) object_method_1_code (1 : Nat) (Option.none : Option Jvm.ClassFile.FieldType)).before a0 Z = true := hw _ (List.mem_of_getElem? (i := 8) rfl)
theorem w_9 {a0 : Array Value} {Z : State} (hw : ∀ d ∈ tables_1, d.before a0 Z = true) : (Jvm.Cond.classLink "com/example/damctl/damctl/policy/FlowGraph" (7 : Nat) "java/util/BitSet").before a0 Z = true := hw _ (List.mem_of_getElem? (i := 9) rfl)
theorem w_10 {a0 : Array Value} {Z : State} (hw : ∀ d ∈ tables_1, d.before a0 Z = true) : (Jvm.Cond.instantiable "java/util/BitSet" (3 : Nat)).before a0 Z = true := hw _ (List.mem_of_getElem? (i := 10) rfl)
theorem w_11 {a0 : Array Value} {Z : State} (hw : ∀ d ∈ tables_1, d.before a0 Z = true) : (Jvm.Cond.initialized "java/util/BitSet").before a0 Z = true := hw _ (List.mem_of_getElem? (i := 11) rfl)
theorem w_12 {a0 : Array Value} {Z : State} (hw : ∀ d ∈ tables_1, d.before a0 Z = true) : (Jvm.Cond.methodLink "com/example/damctl/damctl/policy/FlowGraph" (9 : Nat) ({ cls := "java/util/BitSet", name := "<init>", desc := "()V" } : Jvm.MethodName)).before a0 Z = true := hw _ (List.mem_of_getElem? (i := 12) rfl)
theorem w_13 {a0 : Array Value} {Z : State} (hw : ∀ d ∈ tables_1, d.before a0 Z = true) : (Jvm.Cond.instanceMethod ({ cls := "java/util/BitSet", name := "<init>", desc := "()V" } : Jvm.MethodName)).before a0 Z = true := hw _ (List.mem_of_getElem? (i := 13) rfl)
theorem w_14 {a0 : Array Value} {Z : State} (hw : ∀ d ∈ tables_1, d.before a0 Z = true) : (Jvm.Cond.code ({ cls := "java/util/BitSet", name := "<init>", desc := "()V" } : Jvm.MethodName) jdk_92_method_4_code (1 : Nat) (Option.none : Option Jvm.ClassFile.FieldType)).before a0 Z = true := hw _ (List.mem_of_getElem? (i := 14) rfl)
theorem w_15 {a0 : Array Value} {Z : State} (hw : ∀ d ∈ tables_1, d.before a0 Z = true) : (Jvm.Cond.methodLink "java/util/BitSet" (21 : Nat) ({ cls := "java/lang/Object", name := "<init>", desc := "()V" } : Jvm.MethodName)).before a0 Z = true := hw _ (List.mem_of_getElem? (i := 15) rfl)
theorem w_16 {a0 : Array Value} {Z : State} (hw : ∀ d ∈ tables_1, d.before a0 Z = true) : (Jvm.Cond.fieldLink "java/util/BitSet" (7 : Nat) "java/util/BitSet" "wordsInUse" "I").before a0 Z = true := hw _ (List.mem_of_getElem? (i := 16) rfl)
theorem w_17 {a0 : Array Value} {Z : State} (hw : ∀ d ∈ tables_1, d.before a0 Z = true) : (Jvm.Cond.lays "java/util/BitSet" "java/util/BitSet" "wordsInUse" "I").before a0 Z = true := hw _ (List.mem_of_getElem? (i := 17) rfl)
theorem w_18 {a0 : Array Value} {Z : State} (hw : ∀ d ∈ tables_1, d.before a0 Z = true) : (Jvm.Cond.fieldLink "java/util/BitSet" (24 : Nat) "java/util/BitSet" "sizeIsSticky" "Z").before a0 Z = true := hw _ (List.mem_of_getElem? (i := 18) rfl)
theorem w_19 {a0 : Array Value} {Z : State} (hw : ∀ d ∈ tables_1, d.before a0 Z = true) : (Jvm.Cond.lays "java/util/BitSet" "java/util/BitSet" "sizeIsSticky" "Z").before a0 Z = true := hw _ (List.mem_of_getElem? (i := 19) rfl)
theorem w_20 {a0 : Array Value} {Z : State} (hw : ∀ d ∈ tables_1, d.before a0 Z = true) : (Jvm.Cond.methodLink "java/util/BitSet" (27 : Nat) ({ cls := "java/util/BitSet", name := "initWords", desc := "(I)V" } : Jvm.MethodName)).before a0 Z = true := hw _ (List.mem_of_getElem? (i := 20) rfl)
theorem w_21 {a0 : Array Value} {Z : State} (hw : ∀ d ∈ tables_1, d.before a0 Z = true) : (Jvm.Cond.instanceMethod ({ cls := "java/util/BitSet", name := "initWords", desc := "(I)V" } : Jvm.MethodName)).before a0 Z = true := hw _ (List.mem_of_getElem? (i := 21) rfl)
theorem w_22 {a0 : Array Value} {Z : State} (hw : ∀ d ∈ tables_1, d.before a0 Z = true) : (Jvm.Cond.privateMethod ({ cls := "java/util/BitSet", name := "initWords", desc := "(I)V" } : Jvm.MethodName)).before a0 Z = true := hw _ (List.mem_of_getElem? (i := 22) rfl)
theorem w_23 {a0 : Array Value} {Z : State} (hw : ∀ d ∈ tables_1, d.before a0 Z = true) : (Jvm.Cond.selects "java/util/BitSet" ({ cls := "java/util/BitSet", name := "initWords", desc := "(I)V" } : Jvm.MethodName) ({ cls := "java/util/BitSet", name := "initWords", desc := "(I)V" } : Jvm.MethodName)).before a0 Z = true := hw _ (List.mem_of_getElem? (i := 23) rfl)
theorem w_24 {a0 : Array Value} {Z : State} (hw : ∀ d ∈ tables_1, d.before a0 Z = true) : (Jvm.Cond.code ({ cls := "java/util/BitSet", name := "initWords", desc := "(I)V" } : Jvm.MethodName) jdk_92_method_6_code (2 : Nat) (Option.none : Option Jvm.ClassFile.FieldType)).before a0 Z = true := hw _ (List.mem_of_getElem? (i := 24) rfl)
theorem w_25 {a0 : Array Value} {Z : State} (hw : ∀ d ∈ tables_1, d.before a0 Z = true) : (Jvm.Cond.methodLink "java/util/BitSet" (52 : Nat) ({ cls := "java/util/BitSet", name := "wordIndex", desc := "(I)I" } : Jvm.MethodName)).before a0 Z = true := hw _ (List.mem_of_getElem? (i := 25) rfl)
theorem w_26 {a0 : Array Value} {Z : State} (hw : ∀ d ∈ tables_1, d.before a0 Z = true) : (Jvm.Cond.static ({ cls := "java/util/BitSet", name := "wordIndex", desc := "(I)I" } : Jvm.MethodName)).before a0 Z = true := hw _ (List.mem_of_getElem? (i := 26) rfl)
theorem w_27 {a0 : Array Value} {Z : State} (hw : ∀ d ∈ tables_1, d.before a0 Z = true) : (Jvm.Cond.code ({ cls := "java/util/BitSet", name := "wordIndex", desc := "(I)I" } : Jvm.MethodName) jdk_92_method_1_code (1 : Nat) (Option.some Jvm.ClassFile.FieldType.int)).before a0 Z = true := hw _ (List.mem_of_getElem? (i := 27) rfl)
theorem w_28 {a0 : Array Value} {Z : State} (hw : ∀ d ∈ tables_1, d.before a0 Z = true) : (Jvm.Cond.arrayClass Jvm.ClassFile.FieldType.long).before a0 Z = true := hw _ (List.mem_of_getElem? (i := 28) rfl)
theorem w_29 {a0 : Array Value} {Z : State} (hw : ∀ d ∈ tables_1, d.before a0 Z = true) : (Jvm.Cond.fieldLink "java/util/BitSet" (11 : Nat) "java/util/BitSet" "words" "[J").before a0 Z = true := hw _ (List.mem_of_getElem? (i := 29) rfl)
theorem w_30 {a0 : Array Value} {Z : State} (hw : ∀ d ∈ tables_1, d.before a0 Z = true) : (Jvm.Cond.lays "java/util/BitSet" "java/util/BitSet" "words" "[J").before a0 Z = true := hw _ (List.mem_of_getElem? (i := 30) rfl)
theorem w_31 {a0 : Array Value} {Z : State} (hw : ∀ d ∈ tables_1, d.before a0 Z = true) : (Jvm.Cond.fieldLink "com/example/damctl/damctl/policy/FlowGraph" (10 : Nat) "com/example/damctl/damctl/policy/FlowGraph" "locals" "Ljava/util/BitSet;").before a0 Z = true := hw _ (List.mem_of_getElem? (i := 31) rfl)
theorem w_32 {a0 : Array Value} {Z : State} (hw : ∀ d ∈ tables_1, d.before a0 Z = true) : (Jvm.Cond.laysFinal "com/example/damctl/damctl/policy/FlowGraph" "com/example/damctl/damctl/policy/FlowGraph" "locals" "Ljava/util/BitSet;").before a0 Z = true := hw _ (List.mem_of_getElem? (i := 32) rfl)
theorem w_33 {a0 : Array Value} {Z : State} (hw : ∀ d ∈ tables_1, d.before a0 Z = true) : (Jvm.Cond.arrayClass Jvm.ClassFile.FieldType.int).before a0 Z = true := hw _ (List.mem_of_getElem? (i := 33) rfl)
theorem w_34 {a0 : Array Value} {Z : State} (hw : ∀ d ∈ tables_1, d.before a0 Z = true) : (Jvm.Cond.fieldLink "com/example/damctl/damctl/policy/FlowGraph" (16 : Nat) "com/example/damctl/damctl/policy/FlowGraph" "edgeFrom" "[I").before a0 Z = true := hw _ (List.mem_of_getElem? (i := 34) rfl)
theorem w_35 {a0 : Array Value} {Z : State} (hw : ∀ d ∈ tables_1, d.before a0 Z = true) : (Jvm.Cond.lays "com/example/damctl/damctl/policy/FlowGraph" "com/example/damctl/damctl/policy/FlowGraph" "edgeFrom" "[I").before a0 Z = true := hw _ (List.mem_of_getElem? (i := 35) rfl)
theorem w_36 {a0 : Array Value} {Z : State} (hw : ∀ d ∈ tables_1, d.before a0 Z = true) : (Jvm.Cond.fieldLink "com/example/damctl/damctl/policy/FlowGraph" (20 : Nat) "com/example/damctl/damctl/policy/FlowGraph" "edgeTo" "[I").before a0 Z = true := hw _ (List.mem_of_getElem? (i := 36) rfl)
theorem w_37 {a0 : Array Value} {Z : State} (hw : ∀ d ∈ tables_1, d.before a0 Z = true) : (Jvm.Cond.lays "com/example/damctl/damctl/policy/FlowGraph" "com/example/damctl/damctl/policy/FlowGraph" "edgeTo" "[I").before a0 Z = true := hw _ (List.mem_of_getElem? (i := 37) rfl)
theorem w_38 {a0 : Array Value} {Z : State} (hw : ∀ d ∈ tables_1, d.before a0 Z = true) : (Jvm.Cond.arrayClass Jvm.ClassFile.FieldType.byte).before a0 Z = true := hw _ (List.mem_of_getElem? (i := 38) rfl)
theorem w_39 {a0 : Array Value} {Z : State} (hw : ∀ d ∈ tables_1, d.before a0 Z = true) : (Jvm.Cond.fieldLink "com/example/damctl/damctl/policy/FlowGraph" (23 : Nat) "com/example/damctl/damctl/policy/FlowGraph" "edgeKind" "[B").before a0 Z = true := hw _ (List.mem_of_getElem? (i := 39) rfl)
theorem w_40 {a0 : Array Value} {Z : State} (hw : ∀ d ∈ tables_1, d.before a0 Z = true) : (Jvm.Cond.lays "com/example/damctl/damctl/policy/FlowGraph" "com/example/damctl/damctl/policy/FlowGraph" "edgeKind" "[B").before a0 Z = true := hw _ (List.mem_of_getElem? (i := 40) rfl)
theorem w_41 {a0 : Array Value} {Z : State} (hw : ∀ d ∈ tables_1, d.before a0 Z = true) : (Jvm.Cond.fieldLink "com/example/damctl/damctl/policy/FlowGraph" (27 : Nat) "com/example/damctl/damctl/policy/FlowGraph" "edgeCall" "[I").before a0 Z = true := hw _ (List.mem_of_getElem? (i := 41) rfl)
theorem w_42 {a0 : Array Value} {Z : State} (hw : ∀ d ∈ tables_1, d.before a0 Z = true) : (Jvm.Cond.lays "com/example/damctl/damctl/policy/FlowGraph" "com/example/damctl/damctl/policy/FlowGraph" "edgeCall" "[I").before a0 Z = true := hw _ (List.mem_of_getElem? (i := 42) rfl)
theorem w_43 {a0 : Array Value} {Z : State} (hw : ∀ d ∈ tables_1, d.before a0 Z = true) : (Jvm.Cond.classLink "com/example/damctl/damctl/policy/FlowGraph" (30 : Nat) "java/util/HashMap").before a0 Z = true := hw _ (List.mem_of_getElem? (i := 43) rfl)
theorem w_44 {a0 : Array Value} {Z : State} (hw : ∀ d ∈ tables_1, d.before a0 Z = true) : (Jvm.Cond.instantiable "java/util/HashMap" (8 : Nat)).before a0 Z = true := hw _ (List.mem_of_getElem? (i := 44) rfl)
theorem w_45 {a0 : Array Value} {Z : State} (hw : ∀ d ∈ tables_1, d.before a0 Z = true) : (Jvm.Cond.initialized "java/util/HashMap").before a0 Z = true := hw _ (List.mem_of_getElem? (i := 45) rfl)
theorem w_46 {a0 : Array Value} {Z : State} (hw : ∀ d ∈ tables_1, d.before a0 Z = true) : (Jvm.Cond.methodLink "com/example/damctl/damctl/policy/FlowGraph" (32 : Nat) ({ cls := "java/util/HashMap", name := "<init>", desc := "()V" } : Jvm.MethodName)).before a0 Z = true := hw _ (List.mem_of_getElem? (i := 46) rfl)
theorem w_47 {a0 : Array Value} {Z : State} (hw : ∀ d ∈ tables_1, d.before a0 Z = true) : (Jvm.Cond.instanceMethod ({ cls := "java/util/HashMap", name := "<init>", desc := "()V" } : Jvm.MethodName)).before a0 Z = true := hw _ (List.mem_of_getElem? (i := 47) rfl)
theorem w_48 {a0 : Array Value} {Z : State} (hw : ∀ d ∈ tables_1, d.before a0 Z = true) : (Jvm.Cond.code ({ cls := "java/util/HashMap", name := "<init>", desc := "()V" } : Jvm.MethodName) jdk_69_method_7_code (1 : Nat) (Option.none : Option Jvm.ClassFile.FieldType)).before a0 Z = true := hw _ (List.mem_of_getElem? (i := 48) rfl)
theorem w_49 {a0 : Array Value} {Z : State} (hw : ∀ d ∈ tables_1, d.before a0 Z = true) : (Jvm.Cond.methodLink "java/util/HashMap" (43 : Nat) ({ cls := "java/util/AbstractMap", name := "<init>", desc := "()V" } : Jvm.MethodName)).before a0 Z = true := hw _ (List.mem_of_getElem? (i := 49) rfl)
theorem w_50 {a0 : Array Value} {Z : State} (hw : ∀ d ∈ tables_1, d.before a0 Z = true) : (Jvm.Cond.instanceMethod ({ cls := "java/util/AbstractMap", name := "<init>", desc := "()V" } : Jvm.MethodName)).before a0 Z = true := hw _ (List.mem_of_getElem? (i := 50) rfl)
theorem w_53 {a0 : Array Value} {Z : State} (hw : ∀ d ∈ tables_1, d.before a0 Z = true) : (Jvm.Cond.initialized "java/util/AbstractMap").before a0 Z = true := hw _ (List.mem_of_getElem? (i := 53) rfl)
theorem w_54 {a0 : Array Value} {Z : State} (hw : ∀ d ∈ tables_1, d.before a0 Z = true) : (Jvm.Cond.code ({ cls := "java/util/AbstractMap", name := "<init>", desc := "()V" } : Jvm.MethodName) jdk_71_method_1_code (1 : Nat) (Option.none : Option Jvm.ClassFile.FieldType)).before a0 Z = true := hw _ (List.mem_of_getElem? (i := 54) rfl)
theorem w_55 {a0 : Array Value} {Z : State} (hw : ∀ d ∈ tables_1, d.before a0 Z = true) : (Jvm.Cond.methodLink "java/util/AbstractMap" (1 : Nat) ({ cls := "java/lang/Object", name := "<init>", desc := "()V" } : Jvm.MethodName)).before a0 Z = true := hw _ (List.mem_of_getElem? (i := 55) rfl)
theorem w_56 {a0 : Array Value} {Z : State} (hw : ∀ d ∈ tables_1, d.before a0 Z = true) : (Jvm.Cond.constantFloat "java/util/HashMap" (92 : Nat) (1061158912 : UInt32)).before a0 Z = true := hw _ (List.mem_of_getElem? (i := 56) rfl)
theorem w_57 {a0 : Array Value} {Z : State} (hw : ∀ d ∈ tables_1, d.before a0 Z = true) : (Jvm.Cond.fieldLink "java/util/HashMap" (81 : Nat) "java/util/HashMap" "loadFactor" "F").before a0 Z = true := hw _ (List.mem_of_getElem? (i := 57) rfl)
theorem w_58 {a0 : Array Value} {Z : State} (hw : ∀ d ∈ tables_1, d.before a0 Z = true) : (Jvm.Cond.laysFinal "java/util/HashMap" "java/util/HashMap" "loadFactor" "F").before a0 Z = true := hw _ (List.mem_of_getElem? (i := 58) rfl)
theorem w_59 {a0 : Array Value} {Z : State} (hw : ∀ d ∈ tables_1, d.before a0 Z = true) : (Jvm.Cond.fieldLink "com/example/damctl/damctl/policy/FlowGraph" (33 : Nat) "com/example/damctl/damctl/policy/FlowGraph" "edgeSteps" "Ljava/util/Map;").before a0 Z = true := hw _ (List.mem_of_getElem? (i := 59) rfl)
theorem w_60 {a0 : Array Value} {Z : State} (hw : ∀ d ∈ tables_1, d.before a0 Z = true) : (Jvm.Cond.laysFinal "com/example/damctl/damctl/policy/FlowGraph" "com/example/damctl/damctl/policy/FlowGraph" "edgeSteps" "Ljava/util/Map;").before a0 Z = true := hw _ (List.mem_of_getElem? (i := 60) rfl)
theorem w_61 {a0 : Array Value} {Z : State} (hw : ∀ d ∈ tables_1, d.before a0 Z = true) : (Jvm.Cond.classLink "com/example/damctl/damctl/policy/FlowGraph" (37 : Nat) "java/util/ArrayList").before a0 Z = true := hw _ (List.mem_of_getElem? (i := 61) rfl)
theorem w_62 {a0 : Array Value} {Z : State} (hw : ∀ d ∈ tables_1, d.before a0 Z = true) : (Jvm.Cond.instantiable "java/util/ArrayList" (3 : Nat)).before a0 Z = true := hw _ (List.mem_of_getElem? (i := 62) rfl)
theorem w_63 {a0 : Array Value} {Z : State} (hw : ∀ d ∈ tables_1, d.before a0 Z = true) : (Jvm.Cond.initialized "java/util/ArrayList").before a0 Z = true := hw _ (List.mem_of_getElem? (i := 63) rfl)
theorem w_64 {a0 : Array Value} {Z : State} (hw : ∀ d ∈ tables_1, d.before a0 Z = true) : (Jvm.Cond.methodLink "com/example/damctl/damctl/policy/FlowGraph" (39 : Nat) ({ cls := "java/util/ArrayList", name := "<init>", desc := "()V" } : Jvm.MethodName)).before a0 Z = true := hw _ (List.mem_of_getElem? (i := 64) rfl)
theorem w_65 {a0 : Array Value} {Z : State} (hw : ∀ d ∈ tables_1, d.before a0 Z = true) : (Jvm.Cond.instanceMethod ({ cls := "java/util/ArrayList", name := "<init>", desc := "()V" } : Jvm.MethodName)).before a0 Z = true := hw _ (List.mem_of_getElem? (i := 65) rfl)
theorem w_66 {a0 : Array Value} {Z : State} (hw : ∀ d ∈ tables_1, d.before a0 Z = true) : (Jvm.Cond.code ({ cls := "java/util/ArrayList", name := "<init>", desc := "()V" } : Jvm.MethodName) jdk_38_method_2_code (1 : Nat) (Option.none : Option Jvm.ClassFile.FieldType)).before a0 Z = true := hw _ (List.mem_of_getElem? (i := 66) rfl)
theorem w_67 {a0 : Array Value} {Z : State} (hw : ∀ d ∈ tables_1, d.before a0 Z = true) : (Jvm.Cond.methodLink "java/util/ArrayList" (1 : Nat) ({ cls := "java/util/AbstractList", name := "<init>", desc := "()V" } : Jvm.MethodName)).before a0 Z = true := hw _ (List.mem_of_getElem? (i := 67) rfl)
theorem w_68 {a0 : Array Value} {Z : State} (hw : ∀ d ∈ tables_1, d.before a0 Z = true) : (Jvm.Cond.instanceMethod ({ cls := "java/util/AbstractList", name := "<init>", desc := "()V" } : Jvm.MethodName)).before a0 Z = true := hw _ (List.mem_of_getElem? (i := 68) rfl)
theorem w_71 {a0 : Array Value} {Z : State} (hw : ∀ d ∈ tables_1, d.before a0 Z = true) : (Jvm.Cond.initialized "java/util/AbstractList").before a0 Z = true := hw _ (List.mem_of_getElem? (i := 71) rfl)
theorem w_72 {a0 : Array Value} {Z : State} (hw : ∀ d ∈ tables_1, d.before a0 Z = true) : (Jvm.Cond.code ({ cls := "java/util/AbstractList", name := "<init>", desc := "()V" } : Jvm.MethodName) jdk_39_method_1_code (1 : Nat) (Option.none : Option Jvm.ClassFile.FieldType)).before a0 Z = true := hw _ (List.mem_of_getElem? (i := 72) rfl)
theorem w_73 {a0 : Array Value} {Z : State} (hw : ∀ d ∈ tables_1, d.before a0 Z = true) : (Jvm.Cond.methodLink "java/util/AbstractList" (1 : Nat) ({ cls := "java/util/AbstractCollection", name := "<init>", desc := "()V" } : Jvm.MethodName)).before a0 Z = true := hw _ (List.mem_of_getElem? (i := 73) rfl)
theorem w_74 {a0 : Array Value} {Z : State} (hw : ∀ d ∈ tables_1, d.before a0 Z = true) : (Jvm.Cond.instanceMethod ({ cls := "java/util/AbstractCollection", name := "<init>", desc := "()V" } : Jvm.MethodName)).before a0 Z = true := hw _ (List.mem_of_getElem? (i := 74) rfl)
theorem w_77 {a0 : Array Value} {Z : State} (hw : ∀ d ∈ tables_1, d.before a0 Z = true) : (Jvm.Cond.initialized "java/util/AbstractCollection").before a0 Z = true := hw _ (List.mem_of_getElem? (i := 77) rfl)
theorem w_78 {a0 : Array Value} {Z : State} (hw : ∀ d ∈ tables_1, d.before a0 Z = true) : (Jvm.Cond.code ({ cls := "java/util/AbstractCollection", name := "<init>", desc := "()V" } : Jvm.MethodName) jdk_22_method_1_code (1 : Nat) (Option.none : Option Jvm.ClassFile.FieldType)).before a0 Z = true := hw _ (List.mem_of_getElem? (i := 78) rfl)
theorem w_79 {a0 : Array Value} {Z : State} (hw : ∀ d ∈ tables_1, d.before a0 Z = true) : (Jvm.Cond.methodLink "java/util/AbstractCollection" (1 : Nat) ({ cls := "java/lang/Object", name := "<init>", desc := "()V" } : Jvm.MethodName)).before a0 Z = true := hw _ (List.mem_of_getElem? (i := 79) rfl)
theorem w_80 {a0 : Array Value} {Z : State} (hw : ∀ d ∈ tables_1, d.before a0 Z = true) : (Jvm.Cond.fieldLink "java/util/AbstractList" (7 : Nat) "java/util/AbstractList" "modCount" "I").before a0 Z = true := hw _ (List.mem_of_getElem? (i := 80) rfl)
theorem w_81 {a0 : Array Value} {Z : State} (hw : ∀ d ∈ tables_1, d.before a0 Z = true) : (Jvm.Cond.lays "java/util/ArrayList" "java/util/AbstractList" "modCount" "I").before a0 Z = true := hw _ (List.mem_of_getElem? (i := 81) rfl)
theorem w_82 {a0 : Array Value} {Z : State} (hw : ∀ d ∈ tables_1, d.before a0 Z = true) : (Jvm.Cond.fieldLink "java/util/ArrayList" (39 : Nat) "java/util/ArrayList" "DEFAULTCAPACITY_EMPTY_ELEMENTDATA" "[Ljava/lang/Object;").before a0 Z = true := hw _ (List.mem_of_getElem? (i := 82) rfl)
theorem w_83 {a0 : Array Value} {Z : State} (hw : ∀ d ∈ tables_1, d.before a0 Z = true) : (Jvm.Cond.fieldLink "java/util/ArrayList" (9 : Nat) "java/util/ArrayList" "elementData" "[Ljava/lang/Object;").before a0 Z = true := hw _ (List.mem_of_getElem? (i := 83) rfl)
theorem w_84 {a0 : Array Value} {Z : State} (hw : ∀ d ∈ tables_1, d.before a0 Z = true) : (Jvm.Cond.lays "java/util/ArrayList" "java/util/ArrayList" "elementData" "[Ljava/lang/Object;").before a0 Z = true := hw _ (List.mem_of_getElem? (i := 84) rfl)
theorem w_85 {a0 : Array Value} {Z : State} (hw : ∀ d ∈ tables_1, d.before a0 Z = true) : (Jvm.Cond.fieldLink "com/example/damctl/damctl/policy/FlowGraph" (40 : Nat) "com/example/damctl/damctl/policy/FlowGraph" "sources" "Ljava/util/List;").before a0 Z = true := hw _ (List.mem_of_getElem? (i := 85) rfl)
theorem w_86 {a0 : Array Value} {Z : State} (hw : ∀ d ∈ tables_1, d.before a0 Z = true) : (Jvm.Cond.laysFinal "com/example/damctl/damctl/policy/FlowGraph" "com/example/damctl/damctl/policy/FlowGraph" "sources" "Ljava/util/List;").before a0 Z = true := hw _ (List.mem_of_getElem? (i := 86) rfl)
theorem w_87 {a0 : Array Value} {Z : State} (hw : ∀ d ∈ tables_1, d.before a0 Z = true) : (Jvm.Cond.fieldLink "com/example/damctl/damctl/policy/FlowGraph" (44 : Nat) "com/example/damctl/damctl/policy/FlowGraph" "sinks" "Ljava/util/List;").before a0 Z = true := hw _ (List.mem_of_getElem? (i := 87) rfl)
theorem w_88 {a0 : Array Value} {Z : State} (hw : ∀ d ∈ tables_1, d.before a0 Z = true) : (Jvm.Cond.laysFinal "com/example/damctl/damctl/policy/FlowGraph" "com/example/damctl/damctl/policy/FlowGraph" "sinks" "Ljava/util/List;").before a0 Z = true := hw _ (List.mem_of_getElem? (i := 88) rfl)
theorem w_89 {a0 : Array Value} {Z : State} (hw : ∀ d ∈ tables_1, d.before a0 Z = true) : (Jvm.Cond.fieldLink "com/example/damctl/damctl/policy/FlowGraph" (47 : Nat) "com/example/damctl/damctl/policy/FlowGraph" "crossings" "Ljava/util/List;").before a0 Z = true := hw _ (List.mem_of_getElem? (i := 89) rfl)
theorem w_90 {a0 : Array Value} {Z : State} (hw : ∀ d ∈ tables_1, d.before a0 Z = true) : (Jvm.Cond.laysFinal "com/example/damctl/damctl/policy/FlowGraph" "com/example/damctl/damctl/policy/FlowGraph" "crossings" "Ljava/util/List;").before a0 Z = true := hw _ (List.mem_of_getElem? (i := 90) rfl)
theorem w_91 {a0 : Array Value} {Z : State} (hw : ∀ d ∈ tables_1, d.before a0 Z = true) : (Jvm.Cond.methodLink "com/example/damctl/damctl/policy/FlowGraphCallPinLaw" (10 : Nat) ({ cls := "com/example/damctl/damctl/policy/FlowGraph", name := "call", desc := "()I" } : Jvm.MethodName)).before a0 Z = true := hw _ (List.mem_of_getElem? (i := 91) rfl)
theorem w_92 {a0 : Array Value} {Z : State} (hw : ∀ d ∈ tables_1, d.before a0 Z = true) : (Jvm.Cond.declares ({ cls := "com/example/damctl/damctl/policy/FlowGraph", name := "call", desc := "()I" } : Jvm.MethodName)).before a0 Z = true := hw _ (List.mem_of_getElem? (i := 92) rfl)
theorem w_93 {a0 : Array Value} {Z : State} (hw : ∀ d ∈ tables_1, d.before a0 Z = true) : (Jvm.Cond.instanceMethod ({ cls := "com/example/damctl/damctl/policy/FlowGraph", name := "call", desc := "()I" } : Jvm.MethodName)).before a0 Z = true := hw _ (List.mem_of_getElem? (i := 93) rfl)
theorem w_94 {a0 : Array Value} {Z : State} (hw : ∀ d ∈ tables_1, d.before a0 Z = true) : (Jvm.Cond.selects "com/example/damctl/damctl/policy/FlowGraph" ({ cls := "com/example/damctl/damctl/policy/FlowGraph", name := "call", desc := "()I" } : Jvm.MethodName) ({ cls := "com/example/damctl/damctl/policy/FlowGraph", name := "call", desc := "()I" } : Jvm.MethodName)).before a0 Z = true := hw _ (List.mem_of_getElem? (i := 94) rfl)
theorem w_95 {a0 : Array Value} {Z : State} (hw : ∀ d ∈ tables_1, d.before a0 Z = true) : (Jvm.Cond.code ({ cls := "com/example/damctl/damctl/policy/FlowGraph", name := "call", desc := "()I" } : Jvm.MethodName) prog_35_method_5_code (1 : Nat) (Option.some Jvm.ClassFile.FieldType.int)).before a0 Z = true := hw _ (List.mem_of_getElem? (i := 95) rfl)
theorem w_96 {a0 : Array Value} {Z : State} (hw : ∀ d ∈ tables_1, d.before a0 Z = true) : (Jvm.Cond.fieldLink "com/example/damctl/damctl/policy/FlowGraph" (76 : Nat) "com/example/damctl/damctl/policy/FlowGraph" "calls" "I").before a0 Z = true := hw _ (List.mem_of_getElem? (i := 96) rfl)
theorem w_97 {a0 : Array Value} {Z : State} (hw : ∀ d ∈ tables_1, d.before a0 Z = true) : (Jvm.Cond.lays "com/example/damctl/damctl/policy/FlowGraph" "com/example/damctl/damctl/policy/FlowGraph" "calls" "I").before a0 Z = true := hw _ (List.mem_of_getElem? (i := 97) rfl)
theorem w_98 {a0 : Array Value} {Z : State} (hw : ∀ d ∈ tables_1, d.before a0 Z = true) : (Jvm.Cond.methodLink "com/example/damctl/damctl/policy/FlowGraphCallPinLaw" (14 : Nat) ({ cls := "com/example/damctl/damctl/policy/FlowGraph", name := "nodes", desc := "(I)I" } : Jvm.MethodName)).before a0 Z = true := hw _ (List.mem_of_getElem? (i := 98) rfl)
theorem w_99 {a0 : Array Value} {Z : State} (hw : ∀ d ∈ tables_1, d.before a0 Z = true) : (Jvm.Cond.declares ({ cls := "com/example/damctl/damctl/policy/FlowGraph", name := "nodes", desc := "(I)I" } : Jvm.MethodName)).before a0 Z = true := hw _ (List.mem_of_getElem? (i := 99) rfl)
theorem w_100 {a0 : Array Value} {Z : State} (hw : ∀ d ∈ tables_1, d.before a0 Z = true) : (Jvm.Cond.instanceMethod ({ cls := "com/example/damctl/damctl/policy/FlowGraph", name := "nodes", desc := "(I)I" } : Jvm.MethodName)).before a0 Z = true := hw _ (List.mem_of_getElem? (i := 100) rfl)
theorem w_101 {a0 : Array Value} {Z : State} (hw : ∀ d ∈ tables_1, d.before a0 Z = true) : (Jvm.Cond.selects "com/example/damctl/damctl/policy/FlowGraph" ({ cls := "com/example/damctl/damctl/policy/FlowGraph", name := "nodes", desc := "(I)I" } : Jvm.MethodName) ({ cls := "com/example/damctl/damctl/policy/FlowGraph", name := "nodes", desc := "(I)I" } : Jvm.MethodName)).before a0 Z = true := hw _ (List.mem_of_getElem? (i := 101) rfl)
theorem w_102 {a0 : Array Value} {Z : State} (hw : ∀ d ∈ tables_1, d.before a0 Z = true) : (Jvm.Cond.code ({ cls := "com/example/damctl/damctl/policy/FlowGraph", name := "nodes", desc := "(I)I" } : Jvm.MethodName) prog_35_method_3_code (3 : Nat) (Option.some Jvm.ClassFile.FieldType.int)).before a0 Z = true := hw _ (List.mem_of_getElem? (i := 102) rfl)
theorem w_103 {a0 : Array Value} {Z : State} (hw : ∀ d ∈ tables_1, d.before a0 Z = true) : (Jvm.Cond.fieldLink "com/example/damctl/damctl/policy/FlowGraph" (63 : Nat) "com/example/damctl/damctl/policy/FlowGraph" "nodes" "I").before a0 Z = true := hw _ (List.mem_of_getElem? (i := 103) rfl)
theorem w_104 {a0 : Array Value} {Z : State} (hw : ∀ d ∈ tables_1, d.before a0 Z = true) : (Jvm.Cond.lays "com/example/damctl/damctl/policy/FlowGraph" "com/example/damctl/damctl/policy/FlowGraph" "nodes" "I").before a0 Z = true := hw _ (List.mem_of_getElem? (i := 104) rfl)
theorem w_105 {a0 : Array Value} {Z : State} (hw : ∀ d ∈ tables_1, d.before a0 Z = true) : (Jvm.Cond.methodLink "com/example/damctl/damctl/policy/FlowGraph" (66 : Nat) ({ cls := "java/lang/Math", name := "addExact", desc := "(II)I" } : Jvm.MethodName)).before a0 Z = true := hw _ (List.mem_of_getElem? (i := 105) rfl)
theorem w_106 {a0 : Array Value} {Z : State} (hw : ∀ d ∈ tables_1, d.before a0 Z = true) : (Jvm.Cond.static ({ cls := "java/lang/Math", name := "addExact", desc := "(II)I" } : Jvm.MethodName)).before a0 Z = true := hw _ (List.mem_of_getElem? (i := 106) rfl)
theorem w_107 {a0 : Array Value} {Z : State} (hw : ∀ d ∈ tables_1, d.before a0 Z = true) : (Jvm.Cond.initialized "java/lang/Math").before a0 Z = true := hw _ (List.mem_of_getElem? (i := 107) rfl)
theorem w_108 {a0 : Array Value} {Z : State} (hw : ∀ d ∈ tables_1, d.before a0 Z = true) : (Jvm.Cond.code ({ cls := "java/lang/Math", name := "addExact", desc := "(II)I" } : Jvm.MethodName) jdk_29_method_24_code (3 : Nat) (Option.some Jvm.ClassFile.FieldType.int)).before a0 Z = true := hw _ (List.mem_of_getElem? (i := 108) rfl)
theorem w_109 {a0 : Array Value} {Z : State} (hw : ∀ d ∈ tables_1, d.before a0 Z = true) : (Jvm.Cond.methodLink "com/example/damctl/damctl/policy/FlowGraphCallPinLaw" (18 : Nat) ({ cls := "com/example/damctl/damctl/policy/FlowGraph", name := "node", desc := "()I" } : Jvm.MethodName)).before a0 Z = true := hw _ (List.mem_of_getElem? (i := 109) rfl)
theorem w_110 {a0 : Array Value} {Z : State} (hw : ∀ d ∈ tables_1, d.before a0 Z = true) : (Jvm.Cond.declares ({ cls := "com/example/damctl/damctl/policy/FlowGraph", name := "node", desc := "()I" } : Jvm.MethodName)).before a0 Z = true := hw _ (List.mem_of_getElem? (i := 110) rfl)
theorem w_111 {a0 : Array Value} {Z : State} (hw : ∀ d ∈ tables_1, d.before a0 Z = true) : (Jvm.Cond.instanceMethod ({ cls := "com/example/damctl/damctl/policy/FlowGraph", name := "node", desc := "()I" } : Jvm.MethodName)).before a0 Z = true := hw _ (List.mem_of_getElem? (i := 111) rfl)
theorem w_112 {a0 : Array Value} {Z : State} (hw : ∀ d ∈ tables_1, d.before a0 Z = true) : (Jvm.Cond.selects "com/example/damctl/damctl/policy/FlowGraph" ({ cls := "com/example/damctl/damctl/policy/FlowGraph", name := "node", desc := "()I" } : Jvm.MethodName) ({ cls := "com/example/damctl/damctl/policy/FlowGraph", name := "node", desc := "()I" } : Jvm.MethodName)).before a0 Z = true := hw _ (List.mem_of_getElem? (i := 112) rfl)
theorem w_113 {a0 : Array Value} {Z : State} (hw : ∀ d ∈ tables_1, d.before a0 Z = true) : (Jvm.Cond.code ({ cls := "com/example/damctl/damctl/policy/FlowGraph", name := "node", desc := "()I" } : Jvm.MethodName) prog_35_method_2_code (1 : Nat) (Option.some Jvm.ClassFile.FieldType.int)).before a0 Z = true := hw _ (List.mem_of_getElem? (i := 113) rfl)
theorem w_114 {a0 : Array Value} {Z : State} (hw : ∀ d ∈ tables_1, d.before a0 Z = true) : (Jvm.Cond.methodLink "com/example/damctl/damctl/policy/FlowGraph" (50 : Nat) ({ cls := "com/example/damctl/damctl/policy/FlowGraph", name := "nodes", desc := "(I)I" } : Jvm.MethodName)).before a0 Z = true := hw _ (List.mem_of_getElem? (i := 114) rfl)
theorem own_ae (x y : Int32) (h1 : 0 ≤ y.toInt) (h2 : 0 ≤ (x + y).toInt) : ¬ ((x ^^^ (x + y)) &&& (y ^^^ (x + y))) < 0 := by
  have a := (c_xorS y (x + y)).2.2.2 h1 h2
  have b := (c_andS (x ^^^ (x + y)) (y ^^^ (x + y))).2.2 a
  rw [Int32.lt_iff_toInt_lt]
  have z : (0 : Int32).toInt = 0 := rfl
  omega
theorem own_7 (x : Int32) : 0 ≤ (x &&& (7 : Int32)).toInt ∧ (x &&& (7 : Int32)).toInt ≤ 7 := c_and x 7 (by decide)
theorem own_nl {x : Int32} (h : 0 ≤ x.toInt) : ¬ x < 0 := by
  rw [Int32.lt_iff_toInt_lt]
  have z : (0 : Int32).toInt = 0 := rfl
  omega
theorem own_ad {x y : Int32} (h1 : 0 ≤ x.toInt) (h2 : x.toInt ≤ 1000) (h3 : 0 ≤ y.toInt) (h4 : y.toInt ≤ 1000) : 0 ≤ (x + y).toInt ∧ (x + y).toInt = x.toInt + y.toInt := by
  have a := c_iadd x y
  have b := rng32 (x + y)
  omega
theorem d5_0 : decode jdk_92_method_1_code 0 = .ok (.iload_n 0, 1) := by decide +kernel
theorem d5_1 : decode jdk_92_method_1_code 1 = .ok (.bipush 6, 2) := by decide +kernel
theorem d5_3 : decode jdk_92_method_1_code 3 = .ok (.ishr, 1) := by decide +kernel
theorem d5_4 : decode jdk_92_method_1_code 4 = .ok (.ireturn, 1) := by decide +kernel
theorem ef_rm5 (m : MethodId) (x0 : Int32) : entryFrame m #[(.int x0)] 1 = mkF m 0 #[.val (.int x0)] [] := by first | (simp [entryFrame, mkF, argsToLocals, Value.category]; done) | (simp [entryFrame, mkF, argsToLocals, *]; done) | rfl
set_option maxRecDepth 65536 in
set_option maxHeartbeats 2000000 in
theorem rm5 (l : Launch) (Z : State) (a0 : Array Value) (hw : ∀ d ∈ tables_1, d.before a0 Z = true) (h0 : Heap) (hE : Ext Z.heap h0) :
    Con l Z (⟨"java/util/BitSet", "wordIndex", "(I)I"⟩ : MethodName) jdk_92_method_1_code 1 (some .int) ({ frames := 0, cells := 0, slots := 0, locals := 0 } : Room) #[(.int (63 : Int32))] h0 (fun vv hh => vv = some (.int (0 : Int32)) ∧ h0 = hh) := by
  refine Con.of (plainFor_of_name (by first | (simp [plainName, overriddenIn]; done) | decide +kernel)) hE ?_
  intro p e s m below T (X : Sd l Z "java/util/BitSet" "wordIndex" jdk_92_method_1_code 1 (some .int) ({ frames := 0, cells := 0, slots := 0, locals := 0 } : Room) p e s m #[(.int (63 : Int32))] below T h0 0 0)
  refine End.frame (ef_rm5 m (63 : Int32)) ?_
  show End Z p e below s _ _ _ _ (mkF m 0 #[.val (.int (63 : Int32))] [])
  refine E_iloadN (pc' := 1) X d5_0 rfl rfl ?_
  refine E_bipush (v := (6 : Int32)) (pc' := 3) X d5_1 rfl rfl ?_
  refine E_ishr (pc' := 4) X d5_3 rfl ?_
  refine E_eqI (z := (0 : Int32)) (by decide) ?_
  exact E_retI X d5_4 (by decide) (by decide) ⟨rfl, rfl⟩
theorem d4_0 : decode jdk_92_method_6_code 0 = .ok (.aload_n 0, 1) := by decide +kernel
theorem d4_1 : decode jdk_92_method_6_code 1 = .ok (.iload_n 1, 1) := by decide +kernel
theorem d4_2 : decode jdk_92_method_6_code 2 = .ok (.iconst 1, 1) := by decide +kernel
theorem d4_3 : decode jdk_92_method_6_code 3 = .ok (.isub, 1) := by decide +kernel
theorem d4_4 : decode jdk_92_method_6_code 4 = .ok (.invokestatic 52, 3) := by decide +kernel
theorem d4_7 : decode jdk_92_method_6_code 7 = .ok (.iconst 1, 1) := by decide +kernel
theorem d4_8 : decode jdk_92_method_6_code 8 = .ok (.iadd, 1) := by decide +kernel
theorem d4_9 : decode jdk_92_method_6_code 9 = .ok (.newarray .long, 2) := by decide +kernel
theorem d4_11 : decode jdk_92_method_6_code 11 = .ok (.putfield 11, 3) := by decide +kernel
theorem d4_14 : decode jdk_92_method_6_code 14 = .ok (.return_, 1) := by decide +kernel
theorem pd_0 : parseMethodDescriptor "(I)I" = some ⟨[.int], some .int⟩ := by decide +kernel
theorem ef_rm4 (m : MethodId) (x0 : Addr) (x1 : Int32) : entryFrame m #[(.ref x0), (.int x1)] 2 = mkF m 0 #[.val (.ref x0), .val (.int x1)] [] := by first | (simp [entryFrame, mkF, argsToLocals, Value.category]; done) | (simp [entryFrame, mkF, argsToLocals, *]; done) | rfl
set_option maxRecDepth 65536 in
set_option maxHeartbeats 2000000 in
theorem rm4 (l : Launch) (Z : State) (a0 : Array Value) (hw : ∀ d ∈ tables_1, d.before a0 Z = true) (a : Addr) (h0 : Heap) (hE : Ext Z.heap h0) (hE0 : Exa Z h0 a "java/util/BitSet") (hF1 : Fld Z h0 a "java/util/BitSet" "words" "[J" .null) (hF2 : Fld Z h0 a "java/util/BitSet" "sizeIsSticky" "Z" (.int (0 : Int32))) (hfr3 : Z.heap.size ≤ a) :
    Con l Z (⟨"java/util/BitSet", "initWords", "(I)V"⟩ : MethodName) jdk_92_method_6_code 2 none ({ frames := 1, cells := 1, slots := 1, locals := 13 } : Room) #[(.ref a), (.int (64 : Int32))] h0 (fun vv hh => vv = none ∧ Keep h0 hh [a] ∧ Exa Z hh a "java/util/BitSet" ∧ Fld Z hh a "java/util/BitSet" "sizeIsSticky" "Z" (.int (0 : Int32))) := by
  refine Con.of (plainFor_of_name (by first | (simp [plainName, overriddenIn]; done) | decide +kernel)) hE ?_
  intro p e s m below T (X : Sd l Z "java/util/BitSet" "initWords" jdk_92_method_6_code 2 none ({ frames := 1, cells := 1, slots := 1, locals := 13 } : Room) p e s m #[(.ref a), (.int (64 : Int32))] below T h0 0 0)
  refine End.frame (ef_rm4 m a (64 : Int32)) ?_
  have K_0 : Keep h0 h0 [a] := Keep.refl _ _
  show End Z p e below s _ _ _ _ (mkF m 0 #[.val (.ref a), .val (.int (64 : Int32))] [])
  refine E_aloadN (v := (.ref a)) (pc' := 1) X d4_0 rfl rfl rfl ?_
  refine E_iloadN (pc' := 2) X d4_1 rfl rfl ?_
  refine E_iconst (v := (1 : Int32)) (pc' := 3) X d4_2 rfl rfl ?_
  refine E_isub (pc' := 4) X d4_3 rfl ?_
  refine E_eqI (z := (63 : Int32)) (by decide) ?_
  refine E_callS (pc' := 7) (W := 1) (cells' := 0) (slots' := 0) (argsL := [(.int (63 : Int32))]) (rest := [(.ref a)]) X (rm5 l Z a0 hw h0 X.ext) (w_25 hw) (w_26 hw) (w_11 hw) (w_27 hw) (by decide) rfl rfl pd_0 rfl rfl d4_4 rfl (Nat.le_refl _) (by decide) (by decide) rfl rfl (by decide) (by decide) (fun v1 T h_2 X hQ3 => ?_)
  obtain ⟨rfl, rfl⟩ := hQ3
  show End Z p e below s _ _ _ _ (mkF m 7 #[.val (.ref a), .val (.int (64 : Int32))] [(.int (0 : Int32)), (.ref a)])
  refine E_iconst (v := (1 : Int32)) (pc' := 8) X d4_7 rfl rfl ?_
  refine E_iadd (pc' := 9) X d4_8 rfl ?_
  refine E_eqI (z := (1 : Int32)) (by decide) ?_
  have le_o5 := X.le
  refine E_newA (pc' := 11) X (aty := .long) (n := (1 : Int32)) (cap := 1) (vs := [(.long (0 : Int64))]) (cells' := 1) (slots' := 1) (w_28 hw) d4_9 rfl (by decide) (by decide) (by decide) rfl rfl rfl (by decide) (by decide) (fun T h_6 o5 g_9 X Ex_7 Aa_8 => ?_)
  have b_10 : h0.size ≤ o5 := by rw [g_9]; exact K_0.1
  have K_11 : Keep h0 h_6 [a] := K_0.ext Ex_7
  have fr_12 : Z.heap.size ≤ o5 := by rw [g_9]; exact le_o5
  have ne_13 : a ≠ o5 := Nat.ne_of_lt (by rw [g_9]; exact hE0.lt)
  have F_14 : Fld Z h_6 a "java/util/BitSet" "words" "[J" .null := (hF1.ext Ex_7)
  have E_15 : Exa Z h_6 a "java/util/BitSet" := (hE0.ext Ex_7)
  refine E_putF (pc' := 14) X (host := "") (Or.inl (w_29 hw)) Via.refl F_14 E_15 (Or.inl (w_30 hw)) (w_10 hw) (ty := (.array .long)) (by decide) rfl rfl hfr3 d4_11 rfl (fun T h_17 X W_16 => ?_)
  have K_18 : Keep h0 h_17 [a] := K_11.wr W_16 (Or.inl (List.mem_of_getElem? (i := 0) rfl))
  have E_19 : Exa Z h_17 a "java/util/BitSet" := (E_15.wr W_16)
  have F_20 : Fld Z h_17 a "java/util/BitSet" "sizeIsSticky" "Z" (.int (0 : Int32)) := ((hF2.ext Ex_7).other W_16 (Or.inr (slot_ne (Or.inl (w_19 hw)) (Or.inl (w_30 hw)) (by decide) (t := .boolean) (t' := (.array .long)) (by decide) (by decide))))
  exact E_ret0 X d4_14 (by decide) (by decide) ⟨rfl, K_18, E_19, F_20⟩
theorem d3_0 : decode jdk_92_method_4_code 0 = .ok (.aload_n 0, 1) := by decide +kernel
theorem d3_1 : decode jdk_92_method_4_code 1 = .ok (.invokespecial 21, 3) := by decide +kernel
theorem d3_4 : decode jdk_92_method_4_code 4 = .ok (.aload_n 0, 1) := by decide +kernel
theorem d3_5 : decode jdk_92_method_4_code 5 = .ok (.iconst 0, 1) := by decide +kernel
theorem d3_6 : decode jdk_92_method_4_code 6 = .ok (.putfield 7, 3) := by decide +kernel
theorem d3_9 : decode jdk_92_method_4_code 9 = .ok (.aload_n 0, 1) := by decide +kernel
theorem d3_10 : decode jdk_92_method_4_code 10 = .ok (.iconst 0, 1) := by decide +kernel
theorem d3_11 : decode jdk_92_method_4_code 11 = .ok (.putfield 24, 3) := by decide +kernel
theorem d3_14 : decode jdk_92_method_4_code 14 = .ok (.aload_n 0, 1) := by decide +kernel
theorem d3_15 : decode jdk_92_method_4_code 15 = .ok (.bipush 64, 2) := by decide +kernel
theorem d3_17 : decode jdk_92_method_4_code 17 = .ok (.invokevirtual 27, 3) := by decide +kernel
theorem d3_20 : decode jdk_92_method_4_code 20 = .ok (.aload_n 0, 1) := by decide +kernel
theorem d3_21 : decode jdk_92_method_4_code 21 = .ok (.iconst 0, 1) := by decide +kernel
theorem d3_22 : decode jdk_92_method_4_code 22 = .ok (.putfield 24, 3) := by decide +kernel
theorem d3_25 : decode jdk_92_method_4_code 25 = .ok (.return_, 1) := by decide +kernel
theorem pd_1 : parseMethodDescriptor "(I)V" = some ⟨[.int], none⟩ := by decide +kernel
theorem ef_rm3 (m : MethodId) (x0 : Addr) : entryFrame m #[(.ref x0)] 1 = mkF m 0 #[.val (.ref x0)] [] := by first | (simp [entryFrame, mkF, argsToLocals, Value.category]; done) | (simp [entryFrame, mkF, argsToLocals, *]; done) | rfl
set_option maxRecDepth 65536 in
set_option maxHeartbeats 2000000 in
theorem rm3 (l : Launch) (Z : State) (a0 : Array Value) (hw : ∀ d ∈ tables_1, d.before a0 Z = true) (a : Addr) (h0 : Heap) (hE : Ext Z.heap h0) (hE0 : Exa Z h0 a "java/util/BitSet") (hF1 : Fld Z h0 a "java/util/BitSet" "wordsInUse" "I" (.int (0 : Int32))) (hF2 : Fld Z h0 a "java/util/BitSet" "sizeIsSticky" "Z" (.int (0 : Int32))) (hF3 : Fld Z h0 a "java/util/BitSet" "words" "[J" .null) (hfr4 : Z.heap.size ≤ a) :
    Con l Z (⟨"java/util/BitSet", "<init>", "()V"⟩ : MethodName) jdk_92_method_4_code 1 none ({ frames := 2, cells := 1, slots := 1, locals := 26 } : Room) #[(.ref a)] h0 (fun vv hh => vv = none ∧ Keep h0 hh [a]) := by
  refine Con.of (plainFor_of_name (by first | (simp [plainName, overriddenIn]; done) | decide +kernel)) hE ?_
  intro p e s m below T (X : Sd l Z "java/util/BitSet" "<init>" jdk_92_method_4_code 1 none ({ frames := 2, cells := 1, slots := 1, locals := 26 } : Room) p e s m #[(.ref a)] below T h0 0 0)
  refine End.frame (ef_rm3 m a) ?_
  have K_0 : Keep h0 h0 [a] := Keep.refl _ _
  show End Z p e below s _ _ _ _ (mkF m 0 #[.val (.ref a)] [])
  refine E_aloadN (v := (.ref a)) (pc' := 1) X d3_0 rfl rfl rfl ?_
  refine E_initO (pc' := 4) X (w_15 hw) (w_7 hw) (w_8 hw) rfl d3_1 rfl (by decide) (W := 0) (Nat.le_refl _) (by decide) (fun T X => ?_)
  refine E_aloadN (v := (.ref a)) (pc' := 5) X d3_4 rfl rfl rfl ?_
  refine E_iconst (v := (0 : Int32)) (pc' := 6) X d3_5 rfl rfl ?_
  refine E_putF (pc' := 9) X (host := "") (Or.inl (w_16 hw)) Via.refl hF1 hE0 (Or.inl (w_17 hw)) (w_10 hw) (ty := .int) (by decide) rfl rfl hfr4 d3_6 rfl (fun T h_2 X W_1 => ?_)
  have K_3 : Keep h0 h_2 [a] := K_0.wr W_1 (Or.inl (List.mem_of_getElem? (i := 0) rfl))
  refine E_aloadN (v := (.ref a)) (pc' := 10) X d3_9 rfl rfl rfl ?_
  refine E_iconst (v := (0 : Int32)) (pc' := 11) X d3_10 rfl rfl ?_
  have F_4 : Fld Z h_2 a "java/util/BitSet" "sizeIsSticky" "Z" (.int (0 : Int32)) := (hF2.other W_1 (Or.inr (slot_ne (Or.inl (w_19 hw)) (Or.inl (w_17 hw)) (by decide) (t := .boolean) (t' := .int) (by decide) (by decide))))
  have E_5 : Exa Z h_2 a "java/util/BitSet" := (hE0.wr W_1)
  refine E_putF (pc' := 14) X (host := "") (Or.inl (w_18 hw)) Via.refl F_4 E_5 (Or.inl (w_19 hw)) (w_10 hw) (ty := .boolean) (by decide) rfl rfl hfr4 d3_11 rfl (fun T h_7 X W_6 => ?_)
  have K_8 : Keep h0 h_7 [a] := K_3.wr W_6 (Or.inl (List.mem_of_getElem? (i := 0) rfl))
  refine E_aloadN (v := (.ref a)) (pc' := 15) X d3_14 rfl rfl rfl ?_
  refine E_bipush (v := (64 : Int32)) (pc' := 17) X d3_15 rfl rfl ?_
  have F_9 : Fld Z h_7 a "java/util/BitSet" "words" "[J" .null := ((hF3.other W_1 (Or.inr (slot_ne (Or.inl (w_30 hw)) (Or.inl (w_17 hw)) (by decide) (t := (.array .long)) (t' := .int) (by decide) (by decide)))).other W_6 (Or.inr (slot_ne (Or.inl (w_30 hw)) (Or.inl (w_19 hw)) (by decide) (t := (.array .long)) (t' := .boolean) (by decide) (by decide))))
  have F_10 : Fld Z h_7 a "java/util/BitSet" "sizeIsSticky" "Z" (.int (0 : Int32)) := (F_4.same W_6)
  have E_11 : Exa Z h_7 a "java/util/BitSet" := (E_5.wr W_6)
  refine E_callP (a := a) (pc' := 20) (W := 0) (cells' := 1) (slots' := 1) (argsL := [(.int (64 : Int32))]) (rest := []) X (rm4 l Z a0 hw a h_7 X.ext E_11 F_9 F_10 hfr4) E_11 (w_20 hw) (w_21 hw) (w_23 hw) (w_22 hw) (w_11 hw) (w_24 hw) (by decide) rfl rfl pd_1 rfl rfl d3_17 rfl (Nat.le_refl _) (by decide) (by decide) rfl rfl (by decide) (by decide) (fun v12 T h_13 X hQ14 => ?_)
  obtain ⟨rfl, Kc_15, E_16, F_17⟩ := hQ14
  have K_18 : Keep h0 h_13 [a] := K_8.trans Kc_15 (allS (Or.inl (List.mem_of_getElem? (i := 0) rfl)) all0)
  show End Z p e below s _ _ _ _ (mkF m 20 #[.val (.ref a)] [])
  refine E_aloadN (v := (.ref a)) (pc' := 21) X d3_20 rfl rfl rfl ?_
  refine E_iconst (v := (0 : Int32)) (pc' := 22) X d3_21 rfl rfl ?_
  refine E_putF (pc' := 25) X (host := "") (Or.inl (w_18 hw)) Via.refl F_17 E_16 (Or.inl (w_19 hw)) (w_10 hw) (ty := .boolean) (by decide) rfl rfl hfr4 d3_22 rfl (fun T h_20 X W_19 => ?_)
  have K_21 : Keep h0 h_20 [a] := K_18.wr W_19 (Or.inl (List.mem_of_getElem? (i := 0) rfl))
  exact E_ret0 X d3_25 (by decide) (by decide) ⟨rfl, K_21⟩
theorem d7_0 : decode jdk_71_method_1_code 0 = .ok (.aload_n 0, 1) := by decide +kernel
theorem d7_1 : decode jdk_71_method_1_code 1 = .ok (.invokespecial 1, 3) := by decide +kernel
theorem d7_4 : decode jdk_71_method_1_code 4 = .ok (.return_, 1) := by decide +kernel
theorem ef_rm7 (m : MethodId) (x0 : Addr) : entryFrame m #[(.ref x0)] 1 = mkF m 0 #[.val (.ref x0)] [] := by first | (simp [entryFrame, mkF, argsToLocals, Value.category]; done) | (simp [entryFrame, mkF, argsToLocals, *]; done) | rfl
set_option maxRecDepth 65536 in
set_option maxHeartbeats 2000000 in
theorem rm7 (l : Launch) (Z : State) (a0 : Array Value) (hw : ∀ d ∈ tables_1, d.before a0 Z = true) (a : Addr) (h0 : Heap) (hE : Ext Z.heap h0) :
    Con l Z (⟨"java/util/AbstractMap", "<init>", "()V"⟩ : MethodName) jdk_71_method_1_code 1 none ({ frames := 1, cells := 0, slots := 0, locals := 12 } : Room) #[(.ref a)] h0 (fun vv hh => vv = none ∧ h0 = hh) := by
  refine Con.of (plainFor_of_name (by first | (simp [plainName, overriddenIn]; done) | decide +kernel)) hE ?_
  intro p e s m below T (X : Sd l Z "java/util/AbstractMap" "<init>" jdk_71_method_1_code 1 none ({ frames := 1, cells := 0, slots := 0, locals := 12 } : Room) p e s m #[(.ref a)] below T h0 0 0)
  refine End.frame (ef_rm7 m a) ?_
  show End Z p e below s _ _ _ _ (mkF m 0 #[.val (.ref a)] [])
  refine E_aloadN (v := (.ref a)) (pc' := 1) X d7_0 rfl rfl rfl ?_
  refine E_initO (pc' := 4) X (w_55 hw) (w_7 hw) (w_8 hw) rfl d7_1 rfl (by decide) (W := 0) (Nat.le_refl _) (by decide) (fun T X => ?_)
  exact E_ret0 X d7_4 (by decide) (by decide) ⟨rfl, rfl⟩
theorem d6_0 : decode jdk_69_method_7_code 0 = .ok (.aload_n 0, 1) := by decide +kernel
theorem d6_1 : decode jdk_69_method_7_code 1 = .ok (.invokespecial 43, 3) := by decide +kernel
theorem d6_4 : decode jdk_69_method_7_code 4 = .ok (.aload_n 0, 1) := by decide +kernel
theorem d6_5 : decode jdk_69_method_7_code 5 = .ok (.ldc 92, 2) := by decide +kernel
theorem d6_7 : decode jdk_69_method_7_code 7 = .ok (.putfield 81, 3) := by decide +kernel
theorem d6_10 : decode jdk_69_method_7_code 10 = .ok (.return_, 1) := by decide +kernel
theorem pd_2 : parseMethodDescriptor "()V" = some ⟨[], none⟩ := by decide +kernel
theorem ef_rm6 (m : MethodId) (x0 : Addr) : entryFrame m #[(.ref x0)] 1 = mkF m 0 #[.val (.ref x0)] [] := by first | (simp [entryFrame, mkF, argsToLocals, Value.category]; done) | (simp [entryFrame, mkF, argsToLocals, *]; done) | rfl
set_option maxRecDepth 65536 in
set_option maxHeartbeats 2000000 in
theorem rm6 (l : Launch) (Z : State) (a0 : Array Value) (hw : ∀ d ∈ tables_1, d.before a0 Z = true) (a : Addr) (h0 : Heap) (hE : Ext Z.heap h0) (hE0 : Exa Z h0 a "java/util/HashMap") (hF1 : Fld Z h0 a "java/util/HashMap" "loadFactor" "F" (.float 0)) (hfr2 : Z.heap.size ≤ a) :
    Con l Z (⟨"java/util/HashMap", "<init>", "()V"⟩ : MethodName) jdk_69_method_7_code 1 none ({ frames := 2, cells := 0, slots := 0, locals := 24 } : Room) #[(.ref a)] h0 (fun vv hh => vv = none ∧ Keep h0 hh [a]) := by
  refine Con.of (plainFor_of_name (by first | (simp [plainName, overriddenIn]; done) | decide +kernel)) hE ?_
  intro p e s m below T (X : Sd l Z "java/util/HashMap" "<init>" jdk_69_method_7_code 1 none ({ frames := 2, cells := 0, slots := 0, locals := 24 } : Room) p e s m #[(.ref a)] below T h0 0 0)
  refine End.frame (ef_rm6 m a) ?_
  have K_0 : Keep h0 h0 [a] := Keep.refl _ _
  show End Z p e below s _ _ _ _ (mkF m 0 #[.val (.ref a)] [])
  refine E_aloadN (v := (.ref a)) (pc' := 1) X d6_0 rfl rfl rfl ?_
  refine E_callI (a := a) (pc' := 4) (W := 0) (cells' := 0) (slots' := 0) (argsL := []) (rest := []) X (rm7 l Z a0 hw a h0 X.ext) (w_49 hw) (w_50 hw) (w_53 hw) (w_54 hw) rfl (by decide) rfl rfl pd_2 rfl rfl d6_1 rfl (Nat.le_refl _) (by decide) (by decide) rfl rfl (by decide) (by decide) (fun v1 T h_2 X hQ3 => ?_)
  obtain ⟨rfl, rfl⟩ := hQ3
  show End Z p e below s _ _ _ _ (mkF m 4 #[.val (.ref a)] [])
  refine E_aloadN (v := (.ref a)) (pc' := 5) X d6_4 rfl rfl rfl ?_
  refine E_ldcF (b := (1061158912 : UInt32)) (pc' := 7) X (w_56 hw) d6_5 rfl ?_
  refine E_putF (pc' := 10) X (host := "") (Or.inl (w_57 hw)) Via.refl hF1 hE0 (Or.inr ⟨(w_58 hw), rfl, rfl⟩) (w_44 hw) (ty := .float) (by decide) rfl rfl hfr2 d6_7 rfl (fun T h_6 X W_5 => ?_)
  have K_7 : Keep h0 h_6 [a] := K_0.wr W_5 (Or.inl (List.mem_of_getElem? (i := 0) rfl))
  exact E_ret0 X d6_10 (by decide) (by decide) ⟨rfl, K_7⟩
theorem d10_0 : decode jdk_22_method_1_code 0 = .ok (.aload_n 0, 1) := by decide +kernel
theorem d10_1 : decode jdk_22_method_1_code 1 = .ok (.invokespecial 1, 3) := by decide +kernel
theorem d10_4 : decode jdk_22_method_1_code 4 = .ok (.return_, 1) := by decide +kernel
theorem ef_rm10 (m : MethodId) (x0 : Addr) : entryFrame m #[(.ref x0)] 1 = mkF m 0 #[.val (.ref x0)] [] := by first | (simp [entryFrame, mkF, argsToLocals, Value.category]; done) | (simp [entryFrame, mkF, argsToLocals, *]; done) | rfl
set_option maxRecDepth 65536 in
set_option maxHeartbeats 2000000 in
theorem rm10 (l : Launch) (Z : State) (a0 : Array Value) (hw : ∀ d ∈ tables_1, d.before a0 Z = true) (a : Addr) (h0 : Heap) (hE : Ext Z.heap h0) :
    Con l Z (⟨"java/util/AbstractCollection", "<init>", "()V"⟩ : MethodName) jdk_22_method_1_code 1 none ({ frames := 1, cells := 0, slots := 0, locals := 12 } : Room) #[(.ref a)] h0 (fun vv hh => vv = none ∧ h0 = hh) := by
  refine Con.of (plainFor_of_name (by first | (simp [plainName, overriddenIn]; done) | decide +kernel)) hE ?_
  intro p e s m below T (X : Sd l Z "java/util/AbstractCollection" "<init>" jdk_22_method_1_code 1 none ({ frames := 1, cells := 0, slots := 0, locals := 12 } : Room) p e s m #[(.ref a)] below T h0 0 0)
  refine End.frame (ef_rm10 m a) ?_
  show End Z p e below s _ _ _ _ (mkF m 0 #[.val (.ref a)] [])
  refine E_aloadN (v := (.ref a)) (pc' := 1) X d10_0 rfl rfl rfl ?_
  refine E_initO (pc' := 4) X (w_79 hw) (w_7 hw) (w_8 hw) rfl d10_1 rfl (by decide) (W := 0) (Nat.le_refl _) (by decide) (fun T X => ?_)
  exact E_ret0 X d10_4 (by decide) (by decide) ⟨rfl, rfl⟩
theorem d9_0 : decode jdk_39_method_1_code 0 = .ok (.aload_n 0, 1) := by decide +kernel
theorem d9_1 : decode jdk_39_method_1_code 1 = .ok (.invokespecial 1, 3) := by decide +kernel
theorem d9_4 : decode jdk_39_method_1_code 4 = .ok (.aload_n 0, 1) := by decide +kernel
theorem d9_5 : decode jdk_39_method_1_code 5 = .ok (.iconst 0, 1) := by decide +kernel
theorem d9_6 : decode jdk_39_method_1_code 6 = .ok (.putfield 7, 3) := by decide +kernel
theorem d9_9 : decode jdk_39_method_1_code 9 = .ok (.return_, 1) := by decide +kernel
theorem ef_rm9 (m : MethodId) (x0 : Addr) : entryFrame m #[(.ref x0)] 1 = mkF m 0 #[.val (.ref x0)] [] := by first | (simp [entryFrame, mkF, argsToLocals, Value.category]; done) | (simp [entryFrame, mkF, argsToLocals, *]; done) | rfl
set_option maxRecDepth 65536 in
set_option maxHeartbeats 2000000 in
theorem rm9 (l : Launch) (Z : State) (a0 : Array Value) (hw : ∀ d ∈ tables_1, d.before a0 Z = true) (a : Addr) (h0 : Heap) (hE : Ext Z.heap h0) (hE0 : Exa Z h0 a "java/util/ArrayList") (hF1 : Fld Z h0 a "java/util/AbstractList" "modCount" "I" (.int (0 : Int32))) (hF2 : Fld Z h0 a "java/util/ArrayList" "elementData" "[Ljava/lang/Object;" .null) (hfr3 : Z.heap.size ≤ a) :
    Con l Z (⟨"java/util/AbstractList", "<init>", "()V"⟩ : MethodName) jdk_39_method_1_code 1 none ({ frames := 2, cells := 0, slots := 0, locals := 24 } : Room) #[(.ref a)] h0 (fun vv hh => vv = none ∧ Keep h0 hh [a] ∧ Fld Z hh a "java/util/ArrayList" "elementData" "[Ljava/lang/Object;" .null) := by
  refine Con.of (plainFor_of_name (by first | (simp [plainName, overriddenIn]; done) | decide +kernel)) hE ?_
  intro p e s m below T (X : Sd l Z "java/util/AbstractList" "<init>" jdk_39_method_1_code 1 none ({ frames := 2, cells := 0, slots := 0, locals := 24 } : Room) p e s m #[(.ref a)] below T h0 0 0)
  refine End.frame (ef_rm9 m a) ?_
  have K_0 : Keep h0 h0 [a] := Keep.refl _ _
  show End Z p e below s _ _ _ _ (mkF m 0 #[.val (.ref a)] [])
  refine E_aloadN (v := (.ref a)) (pc' := 1) X d9_0 rfl rfl rfl ?_
  refine E_callI (a := a) (pc' := 4) (W := 0) (cells' := 0) (slots' := 0) (argsL := []) (rest := []) X (rm10 l Z a0 hw a h0 X.ext) (w_73 hw) (w_74 hw) (w_77 hw) (w_78 hw) rfl (by decide) rfl rfl pd_2 rfl rfl d9_1 rfl (Nat.le_refl _) (by decide) (by decide) rfl rfl (by decide) (by decide) (fun v1 T h_2 X hQ3 => ?_)
  obtain ⟨rfl, rfl⟩ := hQ3
  show End Z p e below s _ _ _ _ (mkF m 4 #[.val (.ref a)] [])
  refine E_aloadN (v := (.ref a)) (pc' := 5) X d9_4 rfl rfl rfl ?_
  refine E_iconst (v := (0 : Int32)) (pc' := 6) X d9_5 rfl rfl ?_
  refine E_putF (pc' := 9) X (host := "") (Or.inl (w_80 hw)) Via.refl hF1 hE0 (Or.inl (w_81 hw)) (w_62 hw) (ty := .int) (by decide) rfl rfl hfr3 d9_6 rfl (fun T h_6 X W_5 => ?_)
  have K_7 : Keep h0 h_6 [a] := K_0.wr W_5 (Or.inl (List.mem_of_getElem? (i := 0) rfl))
  have F_8 : Fld Z h_6 a "java/util/ArrayList" "elementData" "[Ljava/lang/Object;" .null := (hF2.other W_5 (Or.inr (slot_ne (Or.inl (w_84 hw)) (Or.inl (w_81 hw)) (by decide) (t := (.array (.object "java/lang/Object"))) (t' := .int) (by decide) (by decide))))
  exact E_ret0 X d9_9 (by decide) (by decide) ⟨rfl, K_7, F_8⟩
theorem d8_0 : decode jdk_38_method_2_code 0 = .ok (.aload_n 0, 1) := by decide +kernel
theorem d8_1 : decode jdk_38_method_2_code 1 = .ok (.invokespecial 1, 3) := by decide +kernel
theorem d8_4 : decode jdk_38_method_2_code 4 = .ok (.aload_n 0, 1) := by decide +kernel
theorem d8_5 : decode jdk_38_method_2_code 5 = .ok (.getstatic 39, 3) := by decide +kernel
theorem d8_8 : decode jdk_38_method_2_code 8 = .ok (.putfield 9, 3) := by decide +kernel
theorem d8_11 : decode jdk_38_method_2_code 11 = .ok (.return_, 1) := by decide +kernel
theorem ef_rm8 (m : MethodId) (x0 : Addr) : entryFrame m #[(.ref x0)] 1 = mkF m 0 #[.val (.ref x0)] [] := by first | (simp [entryFrame, mkF, argsToLocals, Value.category]; done) | (simp [entryFrame, mkF, argsToLocals, *]; done) | rfl
set_option maxRecDepth 65536 in
set_option maxHeartbeats 2000000 in
theorem rm8 (l : Launch) (Z : State) (a0 : Array Value) (hw : ∀ d ∈ tables_1, d.before a0 Z = true) (a : Addr) (oD : Addr) (h0 : Heap) (hE : Ext Z.heap h0) (hS0 : Sta Z Z.heap "java/util/ArrayList" "DEFAULTCAPACITY_EMPTY_ELEMENTDATA" "[Ljava/lang/Object;" (.ref oD)) (hE1 : Exa Z h0 a "java/util/ArrayList") (hF2 : Fld Z h0 a "java/util/AbstractList" "modCount" "I" (.int (0 : Int32))) (hF3 : Fld Z h0 a "java/util/ArrayList" "elementData" "[Ljava/lang/Object;" .null) (hfr4 : Z.heap.size ≤ a) :
    Con l Z (⟨"java/util/ArrayList", "<init>", "()V"⟩ : MethodName) jdk_38_method_2_code 1 none ({ frames := 3, cells := 0, slots := 0, locals := 36 } : Room) #[(.ref a)] h0 (fun vv hh => vv = none ∧ Keep h0 hh [a]) := by
  refine Con.of (plainFor_of_name (by first | (simp [plainName, overriddenIn]; done) | decide +kernel)) hE ?_
  intro p e s m below T (X : Sd l Z "java/util/ArrayList" "<init>" jdk_38_method_2_code 1 none ({ frames := 3, cells := 0, slots := 0, locals := 36 } : Room) p e s m #[(.ref a)] below T h0 0 0)
  refine End.frame (ef_rm8 m a) ?_
  have K_0 : Keep h0 h0 [a] := Keep.refl _ _
  show End Z p e below s _ _ _ _ (mkF m 0 #[.val (.ref a)] [])
  refine E_aloadN (v := (.ref a)) (pc' := 1) X d8_0 rfl rfl rfl ?_
  refine E_callI (a := a) (pc' := 4) (W := 0) (cells' := 0) (slots' := 0) (argsL := []) (rest := []) X (rm9 l Z a0 hw a h0 X.ext hE1 hF2 hF3 hfr4) (w_67 hw) (w_68 hw) (w_71 hw) (w_72 hw) rfl (by decide) rfl rfl pd_2 rfl rfl d8_1 rfl (Nat.le_refl _) (by decide) (by decide) rfl rfl (by decide) (by decide) (fun v1 T h_2 X hQ3 => ?_)
  obtain ⟨rfl, Kc_4, F_5⟩ := hQ3
  have K_6 : Keep h0 h_2 [a] := K_0.trans Kc_4 (allS (Or.inl (List.mem_of_getElem? (i := 0) rfl)) all0)
  show End Z p e below s _ _ _ _ (mkF m 4 #[.val (.ref a)] [])
  refine E_aloadN (v := (.ref a)) (pc' := 5) X d8_4 rfl rfl rfl ?_
  refine E_getS (pc' := 8) X (host := "") (Or.inl (w_82 hw)) Via.refl hS0 d8_5 rfl (fun T X => ?_)
  have E_7 : Exa Z h_2 a "java/util/ArrayList" := (hE1.keep Kc_4)
  refine E_putF (pc' := 11) X (host := "") (Or.inl (w_83 hw)) Via.refl F_5 E_7 (Or.inl (w_84 hw)) (w_62 hw) (ty := (.array (.object "java/lang/Object"))) (by decide) rfl rfl hfr4 d8_8 rfl (fun T h_9 X W_8 => ?_)
  have K_10 : Keep h0 h_9 [a] := K_6.wr W_8 (Or.inl (List.mem_of_getElem? (i := 0) rfl))
  exact E_ret0 X d8_11 (by decide) (by decide) ⟨rfl, K_10⟩
theorem d1_0 : decode prog_35_method_1_code 0 = .ok (.aload_n 0, 1) := by decide +kernel
theorem d1_1 : decode prog_35_method_1_code 1 = .ok (.invokespecial 1, 3) := by decide +kernel
theorem d1_4 : decode prog_35_method_1_code 4 = .ok (.aload_n 0, 1) := by decide +kernel
theorem d1_5 : decode prog_35_method_1_code 5 = .ok (.new 7, 3) := by decide +kernel
theorem d1_8 : decode prog_35_method_1_code 8 = .ok (.dup, 1) := by decide +kernel
theorem d1_9 : decode prog_35_method_1_code 9 = .ok (.invokespecial 9, 3) := by decide +kernel
theorem d1_12 : decode prog_35_method_1_code 12 = .ok (.putfield 10, 3) := by decide +kernel
theorem d1_15 : decode prog_35_method_1_code 15 = .ok (.aload_n 0, 1) := by decide +kernel
theorem d1_16 : decode prog_35_method_1_code 16 = .ok (.bipush 64, 2) := by decide +kernel
theorem d1_18 : decode prog_35_method_1_code 18 = .ok (.newarray .int, 2) := by decide +kernel
theorem d1_20 : decode prog_35_method_1_code 20 = .ok (.putfield 16, 3) := by decide +kernel
theorem d1_23 : decode prog_35_method_1_code 23 = .ok (.aload_n 0, 1) := by decide +kernel
theorem d1_24 : decode prog_35_method_1_code 24 = .ok (.bipush 64, 2) := by decide +kernel
theorem d1_26 : decode prog_35_method_1_code 26 = .ok (.newarray .int, 2) := by decide +kernel
theorem d1_28 : decode prog_35_method_1_code 28 = .ok (.putfield 20, 3) := by decide +kernel
theorem d1_31 : decode prog_35_method_1_code 31 = .ok (.aload_n 0, 1) := by decide +kernel
theorem d1_32 : decode prog_35_method_1_code 32 = .ok (.bipush 64, 2) := by decide +kernel
theorem d1_34 : decode prog_35_method_1_code 34 = .ok (.newarray .byte, 2) := by decide +kernel
theorem d1_36 : decode prog_35_method_1_code 36 = .ok (.putfield 23, 3) := by decide +kernel
theorem d1_39 : decode prog_35_method_1_code 39 = .ok (.aload_n 0, 1) := by decide +kernel
theorem d1_40 : decode prog_35_method_1_code 40 = .ok (.bipush 64, 2) := by decide +kernel
theorem d1_42 : decode prog_35_method_1_code 42 = .ok (.newarray .int, 2) := by decide +kernel
theorem d1_44 : decode prog_35_method_1_code 44 = .ok (.putfield 27, 3) := by decide +kernel
theorem d1_47 : decode prog_35_method_1_code 47 = .ok (.aload_n 0, 1) := by decide +kernel
theorem d1_48 : decode prog_35_method_1_code 48 = .ok (.new 30, 3) := by decide +kernel
theorem d1_51 : decode prog_35_method_1_code 51 = .ok (.dup, 1) := by decide +kernel
theorem d1_52 : decode prog_35_method_1_code 52 = .ok (.invokespecial 32, 3) := by decide +kernel
theorem d1_55 : decode prog_35_method_1_code 55 = .ok (.putfield 33, 3) := by decide +kernel
theorem d1_58 : decode prog_35_method_1_code 58 = .ok (.aload_n 0, 1) := by decide +kernel
theorem d1_59 : decode prog_35_method_1_code 59 = .ok (.new 37, 3) := by decide +kernel
theorem d1_62 : decode prog_35_method_1_code 62 = .ok (.dup, 1) := by decide +kernel
theorem d1_63 : decode prog_35_method_1_code 63 = .ok (.invokespecial 39, 3) := by decide +kernel
theorem d1_66 : decode prog_35_method_1_code 66 = .ok (.putfield 40, 3) := by decide +kernel
theorem d1_69 : decode prog_35_method_1_code 69 = .ok (.aload_n 0, 1) := by decide +kernel
theorem d1_70 : decode prog_35_method_1_code 70 = .ok (.new 37, 3) := by decide +kernel
theorem d1_73 : decode prog_35_method_1_code 73 = .ok (.dup, 1) := by decide +kernel
theorem d1_74 : decode prog_35_method_1_code 74 = .ok (.invokespecial 39, 3) := by decide +kernel
theorem d1_77 : decode prog_35_method_1_code 77 = .ok (.putfield 44, 3) := by decide +kernel
theorem d1_80 : decode prog_35_method_1_code 80 = .ok (.aload_n 0, 1) := by decide +kernel
theorem d1_81 : decode prog_35_method_1_code 81 = .ok (.new 37, 3) := by decide +kernel
theorem d1_84 : decode prog_35_method_1_code 84 = .ok (.dup, 1) := by decide +kernel
theorem d1_85 : decode prog_35_method_1_code 85 = .ok (.invokespecial 39, 3) := by decide +kernel
theorem d1_88 : decode prog_35_method_1_code 88 = .ok (.putfield 47, 3) := by decide +kernel
theorem d1_91 : decode prog_35_method_1_code 91 = .ok (.return_, 1) := by decide +kernel
theorem ef_rm1 (m : MethodId) (x0 : Addr) : entryFrame m #[(.ref x0)] 1 = mkF m 0 #[.val (.ref x0)] [] := by first | (simp [entryFrame, mkF, argsToLocals, Value.category]; done) | (simp [entryFrame, mkF, argsToLocals, *]; done) | rfl
set_option maxRecDepth 65536 in
set_option maxHeartbeats 2000000 in
theorem rm1 (l : Launch) (Z : State) (a0 : Array Value) (hw : ∀ d ∈ tables_1, d.before a0 Z = true) (a : Addr) (oD : Addr) (h0 : Heap) (hE : Ext Z.heap h0) (hS0 : Sta Z Z.heap "java/util/ArrayList" "DEFAULTCAPACITY_EMPTY_ELEMENTDATA" "[Ljava/lang/Object;" (.ref oD)) (hE1 : Exa Z h0 a "com/example/damctl/damctl/policy/FlowGraph") (hF2 : Fld Z h0 a "com/example/damctl/damctl/policy/FlowGraph" "locals" "Ljava/util/BitSet;" .null) (hF3 : Fld Z h0 a "com/example/damctl/damctl/policy/FlowGraph" "edgeFrom" "[I" .null) (hF4 : Fld Z h0 a "com/example/damctl/damctl/policy/FlowGraph" "edgeTo" "[I" .null) (hF5 : Fld Z h0 a "com/example/damctl/damctl/policy/FlowGraph" "edgeKind" "[B" .null) (hF6 : Fld Z h0 a "com/example/damctl/damctl/policy/FlowGraph" "edgeCall" "[I" .null) (hF7 : Fld Z h0 a "com/example/damctl/damctl/policy/FlowGraph" "edgeSteps" "Ljava/util/Map;" .null) (hF8 : Fld Z h0 a "com/example/damctl/damctl/policy/FlowGraph" "sources" "Ljava/util/List;" .null) (hF9 : Fld Z h0 a "com/example/damctl/damctl/policy/FlowGraph" "sinks" "Ljava/util/List;" .null) (hF10 : Fld Z h0 a "com/example/damctl/damctl/policy/FlowGraph" "crossings" "Ljava/util/List;" .null) (hF11 : Fld Z h0 a "com/example/damctl/damctl/policy/FlowGraph" "calls" "I" (.int (0 : Int32))) (hF12 : Fld Z h0 a "com/example/damctl/damctl/policy/FlowGraph" "nodes" "I" (.int (0 : Int32))) (hfr13 : Z.heap.size ≤ a) :
    Con l Z (⟨"com/example/damctl/damctl/policy/FlowGraph", "<init>", "()V"⟩ : MethodName) prog_35_method_1_code 1 none ({ frames := 4, cells := 10, slots := 277, locals := 50 } : Room) #[(.ref a)] h0 (fun vv hh => vv = none ∧ Keep h0 hh [a] ∧ Exa Z hh a "com/example/damctl/damctl/policy/FlowGraph" ∧ Fld Z hh a "com/example/damctl/damctl/policy/FlowGraph" "calls" "I" (.int (0 : Int32)) ∧ Fld Z hh a "com/example/damctl/damctl/policy/FlowGraph" "nodes" "I" (.int (0 : Int32))) := by
  refine Con.of (plainFor_of_name (by first | (simp [plainName, overriddenIn]; done) | decide +kernel)) hE ?_
  intro p e s m below T (X : Sd l Z "com/example/damctl/damctl/policy/FlowGraph" "<init>" prog_35_method_1_code 1 none ({ frames := 4, cells := 10, slots := 277, locals := 50 } : Room) p e s m #[(.ref a)] below T h0 0 0)
  refine End.frame (ef_rm1 m a) ?_
  have K_0 : Keep h0 h0 [a] := Keep.refl _ _
  show End Z p e below s _ _ _ _ (mkF m 0 #[.val (.ref a)] [])
  refine E_aloadN (v := (.ref a)) (pc' := 1) X d1_0 rfl rfl rfl ?_
  refine E_initO (pc' := 4) X (w_6 hw) (w_7 hw) (w_8 hw) rfl d1_1 rfl (by decide) (W := 0) (Nat.le_refl _) (by decide) (fun T X => ?_)
  refine E_aloadN (v := (.ref a)) (pc' := 5) X d1_4 rfl rfl rfl ?_
  have le_o1 := X.le
  refine E_new (pc' := 8) X (cells' := 1) (slots' := 3) (w_9 hw) (w_10 hw) (w_11 hw) d1_5 rfl rfl rfl (by decide) (by decide) (fun T h_2 o1 g_6 X Ex_3 Ea_4 D_5 => ?_)
  have b_7 : h0.size ≤ o1 := by rw [g_6]; exact K_0.1
  have K_8 : Keep h0 h_2 [a] := K_0.ext Ex_3
  have fr_9 : Z.heap.size ≤ o1 := by rw [g_6]; exact le_o1
  have ne_10 : a ≠ o1 := Nat.ne_of_lt (by rw [g_6]; exact hE1.lt)
  refine E_dup (pc' := 9) X d1_8 rfl rfl ?_
  have F_11 : Fld Z h_2 o1 "java/util/BitSet" "wordsInUse" "I" (.int (0 : Int32)) := (D_5 (Or.inl (w_17 hw)) (ty := .int) (by decide))
  have F_12 : Fld Z h_2 o1 "java/util/BitSet" "sizeIsSticky" "Z" (.int (0 : Int32)) := (D_5 (Or.inl (w_19 hw)) (ty := .boolean) (by decide))
  have F_13 : Fld Z h_2 o1 "java/util/BitSet" "words" "[J" .null := (D_5 (Or.inl (w_30 hw)) (ty := (.array .long)) (by decide))
  refine E_callI (a := o1) (pc' := 12) (W := 2) (cells' := 2) (slots' := 4) (argsL := []) (rest := [(.ref o1), (.ref a)]) X (rm3 l Z a0 hw o1 h_2 X.ext Ea_4 F_11 F_12 F_13 fr_9) (w_12 hw) (w_13 hw) (w_11 hw) (w_14 hw) rfl (by decide) rfl rfl pd_2 rfl rfl d1_9 rfl (Nat.le_refl _) (by decide) (by decide) rfl rfl (by decide) (by decide) (fun v14 T h_15 X hQ16 => ?_)
  obtain ⟨rfl, Kc_17⟩ := hQ16
  have K_18 : Keep h0 h_15 [a] := K_8.trans Kc_17 (allS (Or.inr b_7) all0)
  show End Z p e below s _ _ _ _ (mkF m 12 #[.val (.ref a)] [(.ref o1), (.ref a)])
  have F_19 : Fld Z h_15 a "com/example/damctl/damctl/policy/FlowGraph" "locals" "Ljava/util/BitSet;" .null := ((hF2.ext Ex_3).keep Kc_17 (ninS ne_10 nin0))
  have E_20 : Exa Z h_15 a "com/example/damctl/damctl/policy/FlowGraph" := ((hE1.ext Ex_3).keep Kc_17)
  refine E_putF (pc' := 15) X (host := "") (Or.inl (w_31 hw)) Via.refl F_19 E_20 (Or.inr ⟨(w_32 hw), rfl, rfl⟩) (w_1 hw) (ty := (.object "java/util/BitSet")) (by decide) rfl rfl hfr13 d1_12 rfl (fun T h_22 X W_21 => ?_)
  have K_23 : Keep h0 h_22 [a] := K_18.wr W_21 (Or.inl (List.mem_of_getElem? (i := 0) rfl))
  refine E_aloadN (v := (.ref a)) (pc' := 16) X d1_15 rfl rfl rfl ?_
  refine E_bipush (v := (64 : Int32)) (pc' := 18) X d1_16 rfl rfl ?_
  have E_29 : Exa Z h_22 a "com/example/damctl/damctl/policy/FlowGraph" := (E_20.wr W_21)
  have E_30 : Exa Z h_22 o1 "java/util/BitSet" := ((Ea_4.keep Kc_17).wr W_21)
  have le_o24 := X.le
  refine E_newA (pc' := 20) X (aty := .int) (n := (64 : Int32)) (cap := 64) (vs := [(.int (0 : Int32)), (.int (0 : Int32)), (.int (0 : Int32)), (.int (0 : Int32)), (.int (0 : Int32)), (.int (0 : Int32)), (.int (0 : Int32)), (.int (0 : Int32)), (.int (0 : Int32)), (.int (0 : Int32)), (.int (0 : Int32)), (.int (0 : Int32)), (.int (0 : Int32)), (.int (0 : Int32)), (.int (0 : Int32)), (.int (0 : Int32)), (.int (0 : Int32)), (.int (0 : Int32)), (.int (0 : Int32)), (.int (0 : Int32)), (.int (0 : Int32)), (.int (0 : Int32)), (.int (0 : Int32)), (.int (0 : Int32)), (.int (0 : Int32)), (.int (0 : Int32)), (.int (0 : Int32)), (.int (0 : Int32)), (.int (0 : Int32)), (.int (0 : Int32)), (.int (0 : Int32)), (.int (0 : Int32)), (.int (0 : Int32)), (.int (0 : Int32)), (.int (0 : Int32)), (.int (0 : Int32)), (.int (0 : Int32)), (.int (0 : Int32)), (.int (0 : Int32)), (.int (0 : Int32)), (.int (0 : Int32)), (.int (0 : Int32)), (.int (0 : Int32)), (.int (0 : Int32)), (.int (0 : Int32)), (.int (0 : Int32)), (.int (0 : Int32)), (.int (0 : Int32)), (.int (0 : Int32)), (.int (0 : Int32)), (.int (0 : Int32)), (.int (0 : Int32)), (.int (0 : Int32)), (.int (0 : Int32)), (.int (0 : Int32)), (.int (0 : Int32)), (.int (0 : Int32)), (.int (0 : Int32)), (.int (0 : Int32)), (.int (0 : Int32)), (.int (0 : Int32)), (.int (0 : Int32)), (.int (0 : Int32)), (.int (0 : Int32))]) (cells' := 3) (slots' := 68) (w_33 hw) d1_18 rfl (by decide) (by decide) (by decide) rfl rfl rfl (by decide) (by decide) (fun T h_25 o24 g_28 X Ex_26 Aa_27 => ?_)
  have b_31 : h0.size ≤ o24 := by rw [g_28]; exact K_23.1
  have K_32 : Keep h0 h_25 [a] := K_23.ext Ex_26
  have fr_33 : Z.heap.size ≤ o24 := by rw [g_28]; exact le_o24
  have ne_34 : a ≠ o24 := Nat.ne_of_lt (by rw [g_28]; exact E_29.lt)
  have ne_35 : o1 ≠ o24 := Nat.ne_of_lt (by rw [g_28]; exact E_30.lt)
  have F_36 : Fld Z h_25 a "com/example/damctl/damctl/policy/FlowGraph" "edgeFrom" "[I" .null := ((((hF3.ext Ex_3).keep Kc_17 (ninS ne_10 nin0)).other W_21 (Or.inr (slot_ne (Or.inl (w_35 hw)) (Or.inr (w_32 hw)) (by decide) (t := (.array .int)) (t' := (.object "java/util/BitSet")) (by decide) (by decide)))).ext Ex_26)
  have E_37 : Exa Z h_25 a "com/example/damctl/damctl/policy/FlowGraph" := (E_29.ext Ex_26)
  refine E_putF (pc' := 23) X (host := "") (Or.inl (w_34 hw)) Via.refl F_36 E_37 (Or.inl (w_35 hw)) (w_1 hw) (ty := (.array .int)) (by decide) rfl rfl hfr13 d1_20 rfl (fun T h_39 X W_38 => ?_)
  have K_40 : Keep h0 h_39 [a] := K_32.wr W_38 (Or.inl (List.mem_of_getElem? (i := 0) rfl))
  refine E_aloadN (v := (.ref a)) (pc' := 24) X d1_23 rfl rfl rfl ?_
  refine E_bipush (v := (64 : Int32)) (pc' := 26) X d1_24 rfl rfl ?_
  have E_46 : Exa Z h_39 a "com/example/damctl/damctl/policy/FlowGraph" := (E_37.wr W_38)
  have E_47 : Exa Z h_39 o1 "java/util/BitSet" := ((E_30.ext Ex_26).wr W_38)
  have A_48 : Ar Z h_39 o24 .int [(.int (0 : Int32)), (.int (0 : Int32)), (.int (0 : Int32)), (.int (0 : Int32)), (.int (0 : Int32)), (.int (0 : Int32)), (.int (0 : Int32)), (.int (0 : Int32)), (.int (0 : Int32)), (.int (0 : Int32)), (.int (0 : Int32)), (.int (0 : Int32)), (.int (0 : Int32)), (.int (0 : Int32)), (.int (0 : Int32)), (.int (0 : Int32)), (.int (0 : Int32)), (.int (0 : Int32)), (.int (0 : Int32)), (.int (0 : Int32)), (.int (0 : Int32)), (.int (0 : Int32)), (.int (0 : Int32)), (.int (0 : Int32)), (.int (0 : Int32)), (.int (0 : Int32)), (.int (0 : Int32)), (.int (0 : Int32)), (.int (0 : Int32)), (.int (0 : Int32)), (.int (0 : Int32)), (.int (0 : Int32)), (.int (0 : Int32)), (.int (0 : Int32)), (.int (0 : Int32)), (.int (0 : Int32)), (.int (0 : Int32)), (.int (0 : Int32)), (.int (0 : Int32)), (.int (0 : Int32)), (.int (0 : Int32)), (.int (0 : Int32)), (.int (0 : Int32)), (.int (0 : Int32)), (.int (0 : Int32)), (.int (0 : Int32)), (.int (0 : Int32)), (.int (0 : Int32)), (.int (0 : Int32)), (.int (0 : Int32)), (.int (0 : Int32)), (.int (0 : Int32)), (.int (0 : Int32)), (.int (0 : Int32)), (.int (0 : Int32)), (.int (0 : Int32)), (.int (0 : Int32)), (.int (0 : Int32)), (.int (0 : Int32)), (.int (0 : Int32)), (.int (0 : Int32)), (.int (0 : Int32)), (.int (0 : Int32)), (.int (0 : Int32))] := (Aa_27.other W_38 (Ne.symm ne_34))
  have le_o41 := X.le
  refine E_newA (pc' := 28) X (aty := .int) (n := (64 : Int32)) (cap := 64) (vs := [(.int (0 : Int32)), (.int (0 : Int32)), (.int (0 : Int32)), (.int (0 : Int32)), (.int (0 : Int32)), (.int (0 : Int32)), (.int (0 : Int32)), (.int (0 : Int32)), (.int (0 : Int32)), (.int (0 : Int32)), (.int (0 : Int32)), (.int (0 : Int32)), (.int (0 : Int32)), (.int (0 : Int32)), (.int (0 : Int32)), (.int (0 : Int32)), (.int (0 : Int32)), (.int (0 : Int32)), (.int (0 : Int32)), (.int (0 : Int32)), (.int (0 : Int32)), (.int (0 : Int32)), (.int (0 : Int32)), (.int (0 : Int32)), (.int (0 : Int32)), (.int (0 : Int32)), (.int (0 : Int32)), (.int (0 : Int32)), (.int (0 : Int32)), (.int (0 : Int32)), (.int (0 : Int32)), (.int (0 : Int32)), (.int (0 : Int32)), (.int (0 : Int32)), (.int (0 : Int32)), (.int (0 : Int32)), (.int (0 : Int32)), (.int (0 : Int32)), (.int (0 : Int32)), (.int (0 : Int32)), (.int (0 : Int32)), (.int (0 : Int32)), (.int (0 : Int32)), (.int (0 : Int32)), (.int (0 : Int32)), (.int (0 : Int32)), (.int (0 : Int32)), (.int (0 : Int32)), (.int (0 : Int32)), (.int (0 : Int32)), (.int (0 : Int32)), (.int (0 : Int32)), (.int (0 : Int32)), (.int (0 : Int32)), (.int (0 : Int32)), (.int (0 : Int32)), (.int (0 : Int32)), (.int (0 : Int32)), (.int (0 : Int32)), (.int (0 : Int32)), (.int (0 : Int32)), (.int (0 : Int32)), (.int (0 : Int32)), (.int (0 : Int32))]) (cells' := 4) (slots' := 132) (w_33 hw) d1_26 rfl (by decide) (by decide) (by decide) rfl rfl rfl (by decide) (by decide) (fun T h_42 o41 g_45 X Ex_43 Aa_44 => ?_)
  have b_49 : h0.size ≤ o41 := by rw [g_45]; exact K_40.1
  have K_50 : Keep h0 h_42 [a] := K_40.ext Ex_43
  have fr_51 : Z.heap.size ≤ o41 := by rw [g_45]; exact le_o41
  have ne_52 : a ≠ o41 := Nat.ne_of_lt (by rw [g_45]; exact E_46.lt)
  have ne_53 : o1 ≠ o41 := Nat.ne_of_lt (by rw [g_45]; exact E_47.lt)
  have ne_54 : o24 ≠ o41 := Nat.ne_of_lt (by rw [g_45]; exact A_48.lt)
  have F_55 : Fld Z h_42 a "com/example/damctl/damctl/policy/FlowGraph" "edgeTo" "[I" .null := ((((((hF4.ext Ex_3).keep Kc_17 (ninS ne_10 nin0)).other W_21 (Or.inr (slot_ne (Or.inl (w_37 hw)) (Or.inr (w_32 hw)) (by decide) (t := (.array .int)) (t' := (.object "java/util/BitSet")) (by decide) (by decide)))).ext Ex_26).other W_38 (Or.inr (slot_ne (Or.inl (w_37 hw)) (Or.inl (w_35 hw)) (by decide) (t := (.array .int)) (t' := (.array .int)) (by decide) (by decide)))).ext Ex_43)
  have E_56 : Exa Z h_42 a "com/example/damctl/damctl/policy/FlowGraph" := (E_46.ext Ex_43)
  refine E_putF (pc' := 31) X (host := "") (Or.inl (w_36 hw)) Via.refl F_55 E_56 (Or.inl (w_37 hw)) (w_1 hw) (ty := (.array .int)) (by decide) rfl rfl hfr13 d1_28 rfl (fun T h_58 X W_57 => ?_)
  have K_59 : Keep h0 h_58 [a] := K_50.wr W_57 (Or.inl (List.mem_of_getElem? (i := 0) rfl))
  refine E_aloadN (v := (.ref a)) (pc' := 32) X d1_31 rfl rfl rfl ?_
  refine E_bipush (v := (64 : Int32)) (pc' := 34) X d1_32 rfl rfl ?_
  have E_65 : Exa Z h_58 a "com/example/damctl/damctl/policy/FlowGraph" := (E_56.wr W_57)
  have E_66 : Exa Z h_58 o1 "java/util/BitSet" := ((E_47.ext Ex_43).wr W_57)
  have A_67 : Ar Z h_58 o24 .int [(.int (0 : Int32)), (.int (0 : Int32)), (.int (0 : Int32)), (.int (0 : Int32)), (.int (0 : Int32)), (.int (0 : Int32)), (.int (0 : Int32)), (.int (0 : Int32)), (.int (0 : Int32)), (.int (0 : Int32)), (.int (0 : Int32)), (.int (0 : Int32)), (.int (0 : Int32)), (.int (0 : Int32)), (.int (0 : Int32)), (.int (0 : Int32)), (.int (0 : Int32)), (.int (0 : Int32)), (.int (0 : Int32)), (.int (0 : Int32)), (.int (0 : Int32)), (.int (0 : Int32)), (.int (0 : Int32)), (.int (0 : Int32)), (.int (0 : Int32)), (.int (0 : Int32)), (.int (0 : Int32)), (.int (0 : Int32)), (.int (0 : Int32)), (.int (0 : Int32)), (.int (0 : Int32)), (.int (0 : Int32)), (.int (0 : Int32)), (.int (0 : Int32)), (.int (0 : Int32)), (.int (0 : Int32)), (.int (0 : Int32)), (.int (0 : Int32)), (.int (0 : Int32)), (.int (0 : Int32)), (.int (0 : Int32)), (.int (0 : Int32)), (.int (0 : Int32)), (.int (0 : Int32)), (.int (0 : Int32)), (.int (0 : Int32)), (.int (0 : Int32)), (.int (0 : Int32)), (.int (0 : Int32)), (.int (0 : Int32)), (.int (0 : Int32)), (.int (0 : Int32)), (.int (0 : Int32)), (.int (0 : Int32)), (.int (0 : Int32)), (.int (0 : Int32)), (.int (0 : Int32)), (.int (0 : Int32)), (.int (0 : Int32)), (.int (0 : Int32)), (.int (0 : Int32)), (.int (0 : Int32)), (.int (0 : Int32)), (.int (0 : Int32))] := ((A_48.ext Ex_43).other W_57 (Ne.symm ne_34))
  have A_68 : Ar Z h_58 o41 .int [(.int (0 : Int32)), (.int (0 : Int32)), (.int (0 : Int32)), (.int (0 : Int32)), (.int (0 : Int32)), (.int (0 : Int32)), (.int (0 : Int32)), (.int (0 : Int32)), (.int (0 : Int32)), (.int (0 : Int32)), (.int (0 : Int32)), (.int (0 : Int32)), (.int (0 : Int32)), (.int (0 : Int32)), (.int (0 : Int32)), (.int (0 : Int32)), (.int (0 : Int32)), (.int (0 : Int32)), (.int (0 : Int32)), (.int (0 : Int32)), (.int (0 : Int32)), (.int (0 : Int32)), (.int (0 : Int32)), (.int (0 : Int32)), (.int (0 : Int32)), (.int (0 : Int32)), (.int (0 : Int32)), (.int (0 : Int32)), (.int (0 : Int32)), (.int (0 : Int32)), (.int (0 : Int32)), (.int (0 : Int32)), (.int (0 : Int32)), (.int (0 : Int32)), (.int (0 : Int32)), (.int (0 : Int32)), (.int (0 : Int32)), (.int (0 : Int32)), (.int (0 : Int32)), (.int (0 : Int32)), (.int (0 : Int32)), (.int (0 : Int32)), (.int (0 : Int32)), (.int (0 : Int32)), (.int (0 : Int32)), (.int (0 : Int32)), (.int (0 : Int32)), (.int (0 : Int32)), (.int (0 : Int32)), (.int (0 : Int32)), (.int (0 : Int32)), (.int (0 : Int32)), (.int (0 : Int32)), (.int (0 : Int32)), (.int (0 : Int32)), (.int (0 : Int32)), (.int (0 : Int32)), (.int (0 : Int32)), (.int (0 : Int32)), (.int (0 : Int32)), (.int (0 : Int32)), (.int (0 : Int32)), (.int (0 : Int32)), (.int (0 : Int32))] := (Aa_44.other W_57 (Ne.symm ne_52))
  have le_o60 := X.le
  refine E_newA (pc' := 36) X (aty := .byte) (n := (64 : Int32)) (cap := 64) (vs := [(.int (0 : Int32)), (.int (0 : Int32)), (.int (0 : Int32)), (.int (0 : Int32)), (.int (0 : Int32)), (.int (0 : Int32)), (.int (0 : Int32)), (.int (0 : Int32)), (.int (0 : Int32)), (.int (0 : Int32)), (.int (0 : Int32)), (.int (0 : Int32)), (.int (0 : Int32)), (.int (0 : Int32)), (.int (0 : Int32)), (.int (0 : Int32)), (.int (0 : Int32)), (.int (0 : Int32)), (.int (0 : Int32)), (.int (0 : Int32)), (.int (0 : Int32)), (.int (0 : Int32)), (.int (0 : Int32)), (.int (0 : Int32)), (.int (0 : Int32)), (.int (0 : Int32)), (.int (0 : Int32)), (.int (0 : Int32)), (.int (0 : Int32)), (.int (0 : Int32)), (.int (0 : Int32)), (.int (0 : Int32)), (.int (0 : Int32)), (.int (0 : Int32)), (.int (0 : Int32)), (.int (0 : Int32)), (.int (0 : Int32)), (.int (0 : Int32)), (.int (0 : Int32)), (.int (0 : Int32)), (.int (0 : Int32)), (.int (0 : Int32)), (.int (0 : Int32)), (.int (0 : Int32)), (.int (0 : Int32)), (.int (0 : Int32)), (.int (0 : Int32)), (.int (0 : Int32)), (.int (0 : Int32)), (.int (0 : Int32)), (.int (0 : Int32)), (.int (0 : Int32)), (.int (0 : Int32)), (.int (0 : Int32)), (.int (0 : Int32)), (.int (0 : Int32)), (.int (0 : Int32)), (.int (0 : Int32)), (.int (0 : Int32)), (.int (0 : Int32)), (.int (0 : Int32)), (.int (0 : Int32)), (.int (0 : Int32)), (.int (0 : Int32))]) (cells' := 5) (slots' := 196) (w_38 hw) d1_34 rfl (by decide) (by decide) (by decide) rfl rfl rfl (by decide) (by decide) (fun T h_61 o60 g_64 X Ex_62 Aa_63 => ?_)
  have b_69 : h0.size ≤ o60 := by rw [g_64]; exact K_59.1
  have K_70 : Keep h0 h_61 [a] := K_59.ext Ex_62
  have fr_71 : Z.heap.size ≤ o60 := by rw [g_64]; exact le_o60
  have ne_72 : a ≠ o60 := Nat.ne_of_lt (by rw [g_64]; exact E_65.lt)
  have ne_73 : o1 ≠ o60 := Nat.ne_of_lt (by rw [g_64]; exact E_66.lt)
  have ne_74 : o24 ≠ o60 := Nat.ne_of_lt (by rw [g_64]; exact A_67.lt)
  have ne_75 : o41 ≠ o60 := Nat.ne_of_lt (by rw [g_64]; exact A_68.lt)
  have F_76 : Fld Z h_61 a "com/example/damctl/damctl/policy/FlowGraph" "edgeKind" "[B" .null := ((((((((hF5.ext Ex_3).keep Kc_17 (ninS ne_10 nin0)).other W_21 (Or.inr (slot_ne (Or.inl (w_40 hw)) (Or.inr (w_32 hw)) (by decide) (t := (.array .byte)) (t' := (.object "java/util/BitSet")) (by decide) (by decide)))).ext Ex_26).other W_38 (Or.inr (slot_ne (Or.inl (w_40 hw)) (Or.inl (w_35 hw)) (by decide) (t := (.array .byte)) (t' := (.array .int)) (by decide) (by decide)))).ext Ex_43).other W_57 (Or.inr (slot_ne (Or.inl (w_40 hw)) (Or.inl (w_37 hw)) (by decide) (t := (.array .byte)) (t' := (.array .int)) (by decide) (by decide)))).ext Ex_62)
  have E_77 : Exa Z h_61 a "com/example/damctl/damctl/policy/FlowGraph" := (E_65.ext Ex_62)
  refine E_putF (pc' := 39) X (host := "") (Or.inl (w_39 hw)) Via.refl F_76 E_77 (Or.inl (w_40 hw)) (w_1 hw) (ty := (.array .byte)) (by decide) rfl rfl hfr13 d1_36 rfl (fun T h_79 X W_78 => ?_)
  have K_80 : Keep h0 h_79 [a] := K_70.wr W_78 (Or.inl (List.mem_of_getElem? (i := 0) rfl))
  refine E_aloadN (v := (.ref a)) (pc' := 40) X d1_39 rfl rfl rfl ?_
  refine E_bipush (v := (64 : Int32)) (pc' := 42) X d1_40 rfl rfl ?_
  have E_86 : Exa Z h_79 a "com/example/damctl/damctl/policy/FlowGraph" := (E_77.wr W_78)
  have E_87 : Exa Z h_79 o1 "java/util/BitSet" := ((E_66.ext Ex_62).wr W_78)
  have A_88 : Ar Z h_79 o24 .int [(.int (0 : Int32)), (.int (0 : Int32)), (.int (0 : Int32)), (.int (0 : Int32)), (.int (0 : Int32)), (.int (0 : Int32)), (.int (0 : Int32)), (.int (0 : Int32)), (.int (0 : Int32)), (.int (0 : Int32)), (.int (0 : Int32)), (.int (0 : Int32)), (.int (0 : Int32)), (.int (0 : Int32)), (.int (0 : Int32)), (.int (0 : Int32)), (.int (0 : Int32)), (.int (0 : Int32)), (.int (0 : Int32)), (.int (0 : Int32)), (.int (0 : Int32)), (.int (0 : Int32)), (.int (0 : Int32)), (.int (0 : Int32)), (.int (0 : Int32)), (.int (0 : Int32)), (.int (0 : Int32)), (.int (0 : Int32)), (.int (0 : Int32)), (.int (0 : Int32)), (.int (0 : Int32)), (.int (0 : Int32)), (.int (0 : Int32)), (.int (0 : Int32)), (.int (0 : Int32)), (.int (0 : Int32)), (.int (0 : Int32)), (.int (0 : Int32)), (.int (0 : Int32)), (.int (0 : Int32)), (.int (0 : Int32)), (.int (0 : Int32)), (.int (0 : Int32)), (.int (0 : Int32)), (.int (0 : Int32)), (.int (0 : Int32)), (.int (0 : Int32)), (.int (0 : Int32)), (.int (0 : Int32)), (.int (0 : Int32)), (.int (0 : Int32)), (.int (0 : Int32)), (.int (0 : Int32)), (.int (0 : Int32)), (.int (0 : Int32)), (.int (0 : Int32)), (.int (0 : Int32)), (.int (0 : Int32)), (.int (0 : Int32)), (.int (0 : Int32)), (.int (0 : Int32)), (.int (0 : Int32)), (.int (0 : Int32)), (.int (0 : Int32))] := ((A_67.ext Ex_62).other W_78 (Ne.symm ne_34))
  have A_89 : Ar Z h_79 o41 .int [(.int (0 : Int32)), (.int (0 : Int32)), (.int (0 : Int32)), (.int (0 : Int32)), (.int (0 : Int32)), (.int (0 : Int32)), (.int (0 : Int32)), (.int (0 : Int32)), (.int (0 : Int32)), (.int (0 : Int32)), (.int (0 : Int32)), (.int (0 : Int32)), (.int (0 : Int32)), (.int (0 : Int32)), (.int (0 : Int32)), (.int (0 : Int32)), (.int (0 : Int32)), (.int (0 : Int32)), (.int (0 : Int32)), (.int (0 : Int32)), (.int (0 : Int32)), (.int (0 : Int32)), (.int (0 : Int32)), (.int (0 : Int32)), (.int (0 : Int32)), (.int (0 : Int32)), (.int (0 : Int32)), (.int (0 : Int32)), (.int (0 : Int32)), (.int (0 : Int32)), (.int (0 : Int32)), (.int (0 : Int32)), (.int (0 : Int32)), (.int (0 : Int32)), (.int (0 : Int32)), (.int (0 : Int32)), (.int (0 : Int32)), (.int (0 : Int32)), (.int (0 : Int32)), (.int (0 : Int32)), (.int (0 : Int32)), (.int (0 : Int32)), (.int (0 : Int32)), (.int (0 : Int32)), (.int (0 : Int32)), (.int (0 : Int32)), (.int (0 : Int32)), (.int (0 : Int32)), (.int (0 : Int32)), (.int (0 : Int32)), (.int (0 : Int32)), (.int (0 : Int32)), (.int (0 : Int32)), (.int (0 : Int32)), (.int (0 : Int32)), (.int (0 : Int32)), (.int (0 : Int32)), (.int (0 : Int32)), (.int (0 : Int32)), (.int (0 : Int32)), (.int (0 : Int32)), (.int (0 : Int32)), (.int (0 : Int32)), (.int (0 : Int32))] := ((A_68.ext Ex_62).other W_78 (Ne.symm ne_52))
  have A_90 : Ar Z h_79 o60 .byte [(.int (0 : Int32)), (.int (0 : Int32)), (.int (0 : Int32)), (.int (0 : Int32)), (.int (0 : Int32)), (.int (0 : Int32)), (.int (0 : Int32)), (.int (0 : Int32)), (.int (0 : Int32)), (.int (0 : Int32)), (.int (0 : Int32)), (.int (0 : Int32)), (.int (0 : Int32)), (.int (0 : Int32)), (.int (0 : Int32)), (.int (0 : Int32)), (.int (0 : Int32)), (.int (0 : Int32)), (.int (0 : Int32)), (.int (0 : Int32)), (.int (0 : Int32)), (.int (0 : Int32)), (.int (0 : Int32)), (.int (0 : Int32)), (.int (0 : Int32)), (.int (0 : Int32)), (.int (0 : Int32)), (.int (0 : Int32)), (.int (0 : Int32)), (.int (0 : Int32)), (.int (0 : Int32)), (.int (0 : Int32)), (.int (0 : Int32)), (.int (0 : Int32)), (.int (0 : Int32)), (.int (0 : Int32)), (.int (0 : Int32)), (.int (0 : Int32)), (.int (0 : Int32)), (.int (0 : Int32)), (.int (0 : Int32)), (.int (0 : Int32)), (.int (0 : Int32)), (.int (0 : Int32)), (.int (0 : Int32)), (.int (0 : Int32)), (.int (0 : Int32)), (.int (0 : Int32)), (.int (0 : Int32)), (.int (0 : Int32)), (.int (0 : Int32)), (.int (0 : Int32)), (.int (0 : Int32)), (.int (0 : Int32)), (.int (0 : Int32)), (.int (0 : Int32)), (.int (0 : Int32)), (.int (0 : Int32)), (.int (0 : Int32)), (.int (0 : Int32)), (.int (0 : Int32)), (.int (0 : Int32)), (.int (0 : Int32)), (.int (0 : Int32))] := (Aa_63.other W_78 (Ne.symm ne_72))
  have le_o81 := X.le
  refine E_newA (pc' := 44) X (aty := .int) (n := (64 : Int32)) (cap := 64) (vs := [(.int (0 : Int32)), (.int (0 : Int32)), (.int (0 : Int32)), (.int (0 : Int32)), (.int (0 : Int32)), (.int (0 : Int32)), (.int (0 : Int32)), (.int (0 : Int32)), (.int (0 : Int32)), (.int (0 : Int32)), (.int (0 : Int32)), (.int (0 : Int32)), (.int (0 : Int32)), (.int (0 : Int32)), (.int (0 : Int32)), (.int (0 : Int32)), (.int (0 : Int32)), (.int (0 : Int32)), (.int (0 : Int32)), (.int (0 : Int32)), (.int (0 : Int32)), (.int (0 : Int32)), (.int (0 : Int32)), (.int (0 : Int32)), (.int (0 : Int32)), (.int (0 : Int32)), (.int (0 : Int32)), (.int (0 : Int32)), (.int (0 : Int32)), (.int (0 : Int32)), (.int (0 : Int32)), (.int (0 : Int32)), (.int (0 : Int32)), (.int (0 : Int32)), (.int (0 : Int32)), (.int (0 : Int32)), (.int (0 : Int32)), (.int (0 : Int32)), (.int (0 : Int32)), (.int (0 : Int32)), (.int (0 : Int32)), (.int (0 : Int32)), (.int (0 : Int32)), (.int (0 : Int32)), (.int (0 : Int32)), (.int (0 : Int32)), (.int (0 : Int32)), (.int (0 : Int32)), (.int (0 : Int32)), (.int (0 : Int32)), (.int (0 : Int32)), (.int (0 : Int32)), (.int (0 : Int32)), (.int (0 : Int32)), (.int (0 : Int32)), (.int (0 : Int32)), (.int (0 : Int32)), (.int (0 : Int32)), (.int (0 : Int32)), (.int (0 : Int32)), (.int (0 : Int32)), (.int (0 : Int32)), (.int (0 : Int32)), (.int (0 : Int32))]) (cells' := 6) (slots' := 260) (w_33 hw) d1_42 rfl (by decide) (by decide) (by decide) rfl rfl rfl (by decide) (by decide) (fun T h_82 o81 g_85 X Ex_83 Aa_84 => ?_)
  have b_91 : h0.size ≤ o81 := by rw [g_85]; exact K_80.1
  have K_92 : Keep h0 h_82 [a] := K_80.ext Ex_83
  have fr_93 : Z.heap.size ≤ o81 := by rw [g_85]; exact le_o81
  have ne_94 : a ≠ o81 := Nat.ne_of_lt (by rw [g_85]; exact E_86.lt)
  have ne_95 : o1 ≠ o81 := Nat.ne_of_lt (by rw [g_85]; exact E_87.lt)
  have ne_96 : o24 ≠ o81 := Nat.ne_of_lt (by rw [g_85]; exact A_88.lt)
  have ne_97 : o41 ≠ o81 := Nat.ne_of_lt (by rw [g_85]; exact A_89.lt)
  have ne_98 : o60 ≠ o81 := Nat.ne_of_lt (by rw [g_85]; exact A_90.lt)
  have F_99 : Fld Z h_82 a "com/example/damctl/damctl/policy/FlowGraph" "edgeCall" "[I" .null := ((((((((((hF6.ext Ex_3).keep Kc_17 (ninS ne_10 nin0)).other W_21 (Or.inr (slot_ne (Or.inl (w_42 hw)) (Or.inr (w_32 hw)) (by decide) (t := (.array .int)) (t' := (.object "java/util/BitSet")) (by decide) (by decide)))).ext Ex_26).other W_38 (Or.inr (slot_ne (Or.inl (w_42 hw)) (Or.inl (w_35 hw)) (by decide) (t := (.array .int)) (t' := (.array .int)) (by decide) (by decide)))).ext Ex_43).other W_57 (Or.inr (slot_ne (Or.inl (w_42 hw)) (Or.inl (w_37 hw)) (by decide) (t := (.array .int)) (t' := (.array .int)) (by decide) (by decide)))).ext Ex_62).other W_78 (Or.inr (slot_ne (Or.inl (w_42 hw)) (Or.inl (w_40 hw)) (by decide) (t := (.array .int)) (t' := (.array .byte)) (by decide) (by decide)))).ext Ex_83)
  have E_100 : Exa Z h_82 a "com/example/damctl/damctl/policy/FlowGraph" := (E_86.ext Ex_83)
  refine E_putF (pc' := 47) X (host := "") (Or.inl (w_41 hw)) Via.refl F_99 E_100 (Or.inl (w_42 hw)) (w_1 hw) (ty := (.array .int)) (by decide) rfl rfl hfr13 d1_44 rfl (fun T h_102 X W_101 => ?_)
  have K_103 : Keep h0 h_102 [a] := K_92.wr W_101 (Or.inl (List.mem_of_getElem? (i := 0) rfl))
  refine E_aloadN (v := (.ref a)) (pc' := 48) X d1_47 rfl rfl rfl ?_
  have E_110 : Exa Z h_102 a "com/example/damctl/damctl/policy/FlowGraph" := (E_100.wr W_101)
  have E_111 : Exa Z h_102 o1 "java/util/BitSet" := ((E_87.ext Ex_83).wr W_101)
  have A_112 : Ar Z h_102 o24 .int [(.int (0 : Int32)), (.int (0 : Int32)), (.int (0 : Int32)), (.int (0 : Int32)), (.int (0 : Int32)), (.int (0 : Int32)), (.int (0 : Int32)), (.int (0 : Int32)), (.int (0 : Int32)), (.int (0 : Int32)), (.int (0 : Int32)), (.int (0 : Int32)), (.int (0 : Int32)), (.int (0 : Int32)), (.int (0 : Int32)), (.int (0 : Int32)), (.int (0 : Int32)), (.int (0 : Int32)), (.int (0 : Int32)), (.int (0 : Int32)), (.int (0 : Int32)), (.int (0 : Int32)), (.int (0 : Int32)), (.int (0 : Int32)), (.int (0 : Int32)), (.int (0 : Int32)), (.int (0 : Int32)), (.int (0 : Int32)), (.int (0 : Int32)), (.int (0 : Int32)), (.int (0 : Int32)), (.int (0 : Int32)), (.int (0 : Int32)), (.int (0 : Int32)), (.int (0 : Int32)), (.int (0 : Int32)), (.int (0 : Int32)), (.int (0 : Int32)), (.int (0 : Int32)), (.int (0 : Int32)), (.int (0 : Int32)), (.int (0 : Int32)), (.int (0 : Int32)), (.int (0 : Int32)), (.int (0 : Int32)), (.int (0 : Int32)), (.int (0 : Int32)), (.int (0 : Int32)), (.int (0 : Int32)), (.int (0 : Int32)), (.int (0 : Int32)), (.int (0 : Int32)), (.int (0 : Int32)), (.int (0 : Int32)), (.int (0 : Int32)), (.int (0 : Int32)), (.int (0 : Int32)), (.int (0 : Int32)), (.int (0 : Int32)), (.int (0 : Int32)), (.int (0 : Int32)), (.int (0 : Int32)), (.int (0 : Int32)), (.int (0 : Int32))] := ((A_88.ext Ex_83).other W_101 (Ne.symm ne_34))
  have A_113 : Ar Z h_102 o41 .int [(.int (0 : Int32)), (.int (0 : Int32)), (.int (0 : Int32)), (.int (0 : Int32)), (.int (0 : Int32)), (.int (0 : Int32)), (.int (0 : Int32)), (.int (0 : Int32)), (.int (0 : Int32)), (.int (0 : Int32)), (.int (0 : Int32)), (.int (0 : Int32)), (.int (0 : Int32)), (.int (0 : Int32)), (.int (0 : Int32)), (.int (0 : Int32)), (.int (0 : Int32)), (.int (0 : Int32)), (.int (0 : Int32)), (.int (0 : Int32)), (.int (0 : Int32)), (.int (0 : Int32)), (.int (0 : Int32)), (.int (0 : Int32)), (.int (0 : Int32)), (.int (0 : Int32)), (.int (0 : Int32)), (.int (0 : Int32)), (.int (0 : Int32)), (.int (0 : Int32)), (.int (0 : Int32)), (.int (0 : Int32)), (.int (0 : Int32)), (.int (0 : Int32)), (.int (0 : Int32)), (.int (0 : Int32)), (.int (0 : Int32)), (.int (0 : Int32)), (.int (0 : Int32)), (.int (0 : Int32)), (.int (0 : Int32)), (.int (0 : Int32)), (.int (0 : Int32)), (.int (0 : Int32)), (.int (0 : Int32)), (.int (0 : Int32)), (.int (0 : Int32)), (.int (0 : Int32)), (.int (0 : Int32)), (.int (0 : Int32)), (.int (0 : Int32)), (.int (0 : Int32)), (.int (0 : Int32)), (.int (0 : Int32)), (.int (0 : Int32)), (.int (0 : Int32)), (.int (0 : Int32)), (.int (0 : Int32)), (.int (0 : Int32)), (.int (0 : Int32)), (.int (0 : Int32)), (.int (0 : Int32)), (.int (0 : Int32)), (.int (0 : Int32))] := ((A_89.ext Ex_83).other W_101 (Ne.symm ne_52))
  have A_114 : Ar Z h_102 o60 .byte [(.int (0 : Int32)), (.int (0 : Int32)), (.int (0 : Int32)), (.int (0 : Int32)), (.int (0 : Int32)), (.int (0 : Int32)), (.int (0 : Int32)), (.int (0 : Int32)), (.int (0 : Int32)), (.int (0 : Int32)), (.int (0 : Int32)), (.int (0 : Int32)), (.int (0 : Int32)), (.int (0 : Int32)), (.int (0 : Int32)), (.int (0 : Int32)), (.int (0 : Int32)), (.int (0 : Int32)), (.int (0 : Int32)), (.int (0 : Int32)), (.int (0 : Int32)), (.int (0 : Int32)), (.int (0 : Int32)), (.int (0 : Int32)), (.int (0 : Int32)), (.int (0 : Int32)), (.int (0 : Int32)), (.int (0 : Int32)), (.int (0 : Int32)), (.int (0 : Int32)), (.int (0 : Int32)), (.int (0 : Int32)), (.int (0 : Int32)), (.int (0 : Int32)), (.int (0 : Int32)), (.int (0 : Int32)), (.int (0 : Int32)), (.int (0 : Int32)), (.int (0 : Int32)), (.int (0 : Int32)), (.int (0 : Int32)), (.int (0 : Int32)), (.int (0 : Int32)), (.int (0 : Int32)), (.int (0 : Int32)), (.int (0 : Int32)), (.int (0 : Int32)), (.int (0 : Int32)), (.int (0 : Int32)), (.int (0 : Int32)), (.int (0 : Int32)), (.int (0 : Int32)), (.int (0 : Int32)), (.int (0 : Int32)), (.int (0 : Int32)), (.int (0 : Int32)), (.int (0 : Int32)), (.int (0 : Int32)), (.int (0 : Int32)), (.int (0 : Int32)), (.int (0 : Int32)), (.int (0 : Int32)), (.int (0 : Int32)), (.int (0 : Int32))] := ((A_90.ext Ex_83).other W_101 (Ne.symm ne_72))
  have A_115 : Ar Z h_102 o81 .int [(.int (0 : Int32)), (.int (0 : Int32)), (.int (0 : Int32)), (.int (0 : Int32)), (.int (0 : Int32)), (.int (0 : Int32)), (.int (0 : Int32)), (.int (0 : Int32)), (.int (0 : Int32)), (.int (0 : Int32)), (.int (0 : Int32)), (.int (0 : Int32)), (.int (0 : Int32)), (.int (0 : Int32)), (.int (0 : Int32)), (.int (0 : Int32)), (.int (0 : Int32)), (.int (0 : Int32)), (.int (0 : Int32)), (.int (0 : Int32)), (.int (0 : Int32)), (.int (0 : Int32)), (.int (0 : Int32)), (.int (0 : Int32)), (.int (0 : Int32)), (.int (0 : Int32)), (.int (0 : Int32)), (.int (0 : Int32)), (.int (0 : Int32)), (.int (0 : Int32)), (.int (0 : Int32)), (.int (0 : Int32)), (.int (0 : Int32)), (.int (0 : Int32)), (.int (0 : Int32)), (.int (0 : Int32)), (.int (0 : Int32)), (.int (0 : Int32)), (.int (0 : Int32)), (.int (0 : Int32)), (.int (0 : Int32)), (.int (0 : Int32)), (.int (0 : Int32)), (.int (0 : Int32)), (.int (0 : Int32)), (.int (0 : Int32)), (.int (0 : Int32)), (.int (0 : Int32)), (.int (0 : Int32)), (.int (0 : Int32)), (.int (0 : Int32)), (.int (0 : Int32)), (.int (0 : Int32)), (.int (0 : Int32)), (.int (0 : Int32)), (.int (0 : Int32)), (.int (0 : Int32)), (.int (0 : Int32)), (.int (0 : Int32)), (.int (0 : Int32)), (.int (0 : Int32)), (.int (0 : Int32)), (.int (0 : Int32)), (.int (0 : Int32))] := (Aa_84.other W_101 (Ne.symm ne_94))
  have le_o104 := X.le
  refine E_new (pc' := 51) X (cells' := 7) (slots' := 268) (w_43 hw) (w_44 hw) (w_45 hw) d1_48 rfl rfl rfl (by decide) (by decide) (fun T h_105 o104 g_109 X Ex_106 Ea_107 D_108 => ?_)
  have b_116 : h0.size ≤ o104 := by rw [g_109]; exact K_103.1
  have K_117 : Keep h0 h_105 [a] := K_103.ext Ex_106
  have fr_118 : Z.heap.size ≤ o104 := by rw [g_109]; exact le_o104
  have ne_119 : a ≠ o104 := Nat.ne_of_lt (by rw [g_109]; exact E_110.lt)
  have ne_120 : o1 ≠ o104 := Nat.ne_of_lt (by rw [g_109]; exact E_111.lt)
  have ne_121 : o24 ≠ o104 := Nat.ne_of_lt (by rw [g_109]; exact A_112.lt)
  have ne_122 : o41 ≠ o104 := Nat.ne_of_lt (by rw [g_109]; exact A_113.lt)
  have ne_123 : o60 ≠ o104 := Nat.ne_of_lt (by rw [g_109]; exact A_114.lt)
  have ne_124 : o81 ≠ o104 := Nat.ne_of_lt (by rw [g_109]; exact A_115.lt)
  refine E_dup (pc' := 52) X d1_51 rfl rfl ?_
  have F_125 : Fld Z h_105 o104 "java/util/HashMap" "loadFactor" "F" (.float 0) := (D_108 (Or.inr (w_58 hw)) (ty := .float) (by decide))
  refine E_callI (a := o104) (pc' := 55) (W := 2) (cells' := 7) (slots' := 268) (argsL := []) (rest := [(.ref o104), (.ref a)]) X (rm6 l Z a0 hw o104 h_105 X.ext Ea_107 F_125 fr_118) (w_46 hw) (w_47 hw) (w_45 hw) (w_48 hw) rfl (by decide) rfl rfl pd_2 rfl rfl d1_52 rfl (Nat.le_refl _) (by decide) (by decide) rfl rfl (by decide) (by decide) (fun v126 T h_127 X hQ128 => ?_)
  obtain ⟨rfl, Kc_129⟩ := hQ128
  have K_130 : Keep h0 h_127 [a] := K_117.trans Kc_129 (allS (Or.inr b_116) all0)
  show End Z p e below s _ _ _ _ (mkF m 55 #[.val (.ref a)] [(.ref o104), (.ref a)])
  have F_131 : Fld Z h_127 a "com/example/damctl/damctl/policy/FlowGraph" "edgeSteps" "Ljava/util/Map;" .null := (((((((((((((hF7.ext Ex_3).keep Kc_17 (ninS ne_10 nin0)).other W_21 (Or.inr (slot_ne (Or.inr (w_60 hw)) (Or.inr (w_32 hw)) (by decide) (t := (.object "java/util/Map")) (t' := (.object "java/util/BitSet")) (by decide) (by decide)))).ext Ex_26).other W_38 (Or.inr (slot_ne (Or.inr (w_60 hw)) (Or.inl (w_35 hw)) (by decide) (t := (.object "java/util/Map")) (t' := (.array .int)) (by decide) (by decide)))).ext Ex_43).other W_57 (Or.inr (slot_ne (Or.inr (w_60 hw)) (Or.inl (w_37 hw)) (by decide) (t := (.object "java/util/Map")) (t' := (.array .int)) (by decide) (by decide)))).ext Ex_62).other W_78 (Or.inr (slot_ne (Or.inr (w_60 hw)) (Or.inl (w_40 hw)) (by decide) (t := (.object "java/util/Map")) (t' := (.array .byte)) (by decide) (by decide)))).ext Ex_83).other W_101 (Or.inr (slot_ne (Or.inr (w_60 hw)) (Or.inl (w_42 hw)) (by decide) (t := (.object "java/util/Map")) (t' := (.array .int)) (by decide) (by decide)))).ext Ex_106).keep Kc_129 (ninS ne_119 nin0))
  have E_132 : Exa Z h_127 a "com/example/damctl/damctl/policy/FlowGraph" := ((E_110.ext Ex_106).keep Kc_129)
  refine E_putF (pc' := 58) X (host := "") (Or.inl (w_59 hw)) Via.refl F_131 E_132 (Or.inr ⟨(w_60 hw), rfl, rfl⟩) (w_1 hw) (ty := (.object "java/util/Map")) (by decide) rfl rfl hfr13 d1_55 rfl (fun T h_134 X W_133 => ?_)
  have K_135 : Keep h0 h_134 [a] := K_130.wr W_133 (Or.inl (List.mem_of_getElem? (i := 0) rfl))
  refine E_aloadN (v := (.ref a)) (pc' := 59) X d1_58 rfl rfl rfl ?_
  have E_142 : Exa Z h_134 a "com/example/damctl/damctl/policy/FlowGraph" := (E_132.wr W_133)
  have E_143 : Exa Z h_134 o1 "java/util/BitSet" := (((E_111.ext Ex_106).keep Kc_129).wr W_133)
  have E_144 : Exa Z h_134 o104 "java/util/HashMap" := ((Ea_107.keep Kc_129).wr W_133)
  have A_145 : Ar Z h_134 o24 .int [(.int (0 : Int32)), (.int (0 : Int32)), (.int (0 : Int32)), (.int (0 : Int32)), (.int (0 : Int32)), (.int (0 : Int32)), (.int (0 : Int32)), (.int (0 : Int32)), (.int (0 : Int32)), (.int (0 : Int32)), (.int (0 : Int32)), (.int (0 : Int32)), (.int (0 : Int32)), (.int (0 : Int32)), (.int (0 : Int32)), (.int (0 : Int32)), (.int (0 : Int32)), (.int (0 : Int32)), (.int (0 : Int32)), (.int (0 : Int32)), (.int (0 : Int32)), (.int (0 : Int32)), (.int (0 : Int32)), (.int (0 : Int32)), (.int (0 : Int32)), (.int (0 : Int32)), (.int (0 : Int32)), (.int (0 : Int32)), (.int (0 : Int32)), (.int (0 : Int32)), (.int (0 : Int32)), (.int (0 : Int32)), (.int (0 : Int32)), (.int (0 : Int32)), (.int (0 : Int32)), (.int (0 : Int32)), (.int (0 : Int32)), (.int (0 : Int32)), (.int (0 : Int32)), (.int (0 : Int32)), (.int (0 : Int32)), (.int (0 : Int32)), (.int (0 : Int32)), (.int (0 : Int32)), (.int (0 : Int32)), (.int (0 : Int32)), (.int (0 : Int32)), (.int (0 : Int32)), (.int (0 : Int32)), (.int (0 : Int32)), (.int (0 : Int32)), (.int (0 : Int32)), (.int (0 : Int32)), (.int (0 : Int32)), (.int (0 : Int32)), (.int (0 : Int32)), (.int (0 : Int32)), (.int (0 : Int32)), (.int (0 : Int32)), (.int (0 : Int32)), (.int (0 : Int32)), (.int (0 : Int32)), (.int (0 : Int32)), (.int (0 : Int32))] := (((A_112.ext Ex_106).keep Kc_129 (ninS ne_121 nin0)).other W_133 (Ne.symm ne_34))
  have A_146 : Ar Z h_134 o41 .int [(.int (0 : Int32)), (.int (0 : Int32)), (.int (0 : Int32)), (.int (0 : Int32)), (.int (0 : Int32)), (.int (0 : Int32)), (.int (0 : Int32)), (.int (0 : Int32)), (.int (0 : Int32)), (.int (0 : Int32)), (.int (0 : Int32)), (.int (0 : Int32)), (.int (0 : Int32)), (.int (0 : Int32)), (.int (0 : Int32)), (.int (0 : Int32)), (.int (0 : Int32)), (.int (0 : Int32)), (.int (0 : Int32)), (.int (0 : Int32)), (.int (0 : Int32)), (.int (0 : Int32)), (.int (0 : Int32)), (.int (0 : Int32)), (.int (0 : Int32)), (.int (0 : Int32)), (.int (0 : Int32)), (.int (0 : Int32)), (.int (0 : Int32)), (.int (0 : Int32)), (.int (0 : Int32)), (.int (0 : Int32)), (.int (0 : Int32)), (.int (0 : Int32)), (.int (0 : Int32)), (.int (0 : Int32)), (.int (0 : Int32)), (.int (0 : Int32)), (.int (0 : Int32)), (.int (0 : Int32)), (.int (0 : Int32)), (.int (0 : Int32)), (.int (0 : Int32)), (.int (0 : Int32)), (.int (0 : Int32)), (.int (0 : Int32)), (.int (0 : Int32)), (.int (0 : Int32)), (.int (0 : Int32)), (.int (0 : Int32)), (.int (0 : Int32)), (.int (0 : Int32)), (.int (0 : Int32)), (.int (0 : Int32)), (.int (0 : Int32)), (.int (0 : Int32)), (.int (0 : Int32)), (.int (0 : Int32)), (.int (0 : Int32)), (.int (0 : Int32)), (.int (0 : Int32)), (.int (0 : Int32)), (.int (0 : Int32)), (.int (0 : Int32))] := (((A_113.ext Ex_106).keep Kc_129 (ninS ne_122 nin0)).other W_133 (Ne.symm ne_52))
  have A_147 : Ar Z h_134 o60 .byte [(.int (0 : Int32)), (.int (0 : Int32)), (.int (0 : Int32)), (.int (0 : Int32)), (.int (0 : Int32)), (.int (0 : Int32)), (.int (0 : Int32)), (.int (0 : Int32)), (.int (0 : Int32)), (.int (0 : Int32)), (.int (0 : Int32)), (.int (0 : Int32)), (.int (0 : Int32)), (.int (0 : Int32)), (.int (0 : Int32)), (.int (0 : Int32)), (.int (0 : Int32)), (.int (0 : Int32)), (.int (0 : Int32)), (.int (0 : Int32)), (.int (0 : Int32)), (.int (0 : Int32)), (.int (0 : Int32)), (.int (0 : Int32)), (.int (0 : Int32)), (.int (0 : Int32)), (.int (0 : Int32)), (.int (0 : Int32)), (.int (0 : Int32)), (.int (0 : Int32)), (.int (0 : Int32)), (.int (0 : Int32)), (.int (0 : Int32)), (.int (0 : Int32)), (.int (0 : Int32)), (.int (0 : Int32)), (.int (0 : Int32)), (.int (0 : Int32)), (.int (0 : Int32)), (.int (0 : Int32)), (.int (0 : Int32)), (.int (0 : Int32)), (.int (0 : Int32)), (.int (0 : Int32)), (.int (0 : Int32)), (.int (0 : Int32)), (.int (0 : Int32)), (.int (0 : Int32)), (.int (0 : Int32)), (.int (0 : Int32)), (.int (0 : Int32)), (.int (0 : Int32)), (.int (0 : Int32)), (.int (0 : Int32)), (.int (0 : Int32)), (.int (0 : Int32)), (.int (0 : Int32)), (.int (0 : Int32)), (.int (0 : Int32)), (.int (0 : Int32)), (.int (0 : Int32)), (.int (0 : Int32)), (.int (0 : Int32)), (.int (0 : Int32))] := (((A_114.ext Ex_106).keep Kc_129 (ninS ne_123 nin0)).other W_133 (Ne.symm ne_72))
  have A_148 : Ar Z h_134 o81 .int [(.int (0 : Int32)), (.int (0 : Int32)), (.int (0 : Int32)), (.int (0 : Int32)), (.int (0 : Int32)), (.int (0 : Int32)), (.int (0 : Int32)), (.int (0 : Int32)), (.int (0 : Int32)), (.int (0 : Int32)), (.int (0 : Int32)), (.int (0 : Int32)), (.int (0 : Int32)), (.int (0 : Int32)), (.int (0 : Int32)), (.int (0 : Int32)), (.int (0 : Int32)), (.int (0 : Int32)), (.int (0 : Int32)), (.int (0 : Int32)), (.int (0 : Int32)), (.int (0 : Int32)), (.int (0 : Int32)), (.int (0 : Int32)), (.int (0 : Int32)), (.int (0 : Int32)), (.int (0 : Int32)), (.int (0 : Int32)), (.int (0 : Int32)), (.int (0 : Int32)), (.int (0 : Int32)), (.int (0 : Int32)), (.int (0 : Int32)), (.int (0 : Int32)), (.int (0 : Int32)), (.int (0 : Int32)), (.int (0 : Int32)), (.int (0 : Int32)), (.int (0 : Int32)), (.int (0 : Int32)), (.int (0 : Int32)), (.int (0 : Int32)), (.int (0 : Int32)), (.int (0 : Int32)), (.int (0 : Int32)), (.int (0 : Int32)), (.int (0 : Int32)), (.int (0 : Int32)), (.int (0 : Int32)), (.int (0 : Int32)), (.int (0 : Int32)), (.int (0 : Int32)), (.int (0 : Int32)), (.int (0 : Int32)), (.int (0 : Int32)), (.int (0 : Int32)), (.int (0 : Int32)), (.int (0 : Int32)), (.int (0 : Int32)), (.int (0 : Int32)), (.int (0 : Int32)), (.int (0 : Int32)), (.int (0 : Int32)), (.int (0 : Int32))] := (((A_115.ext Ex_106).keep Kc_129 (ninS ne_124 nin0)).other W_133 (Ne.symm ne_94))
  have le_o136 := X.le
  refine E_new (pc' := 62) X (cells' := 8) (slots' := 271) (w_61 hw) (w_62 hw) (w_63 hw) d1_59 rfl rfl rfl (by decide) (by decide) (fun T h_137 o136 g_141 X Ex_138 Ea_139 D_140 => ?_)
  have b_149 : h0.size ≤ o136 := by rw [g_141]; exact K_135.1
  have K_150 : Keep h0 h_137 [a] := K_135.ext Ex_138
  have fr_151 : Z.heap.size ≤ o136 := by rw [g_141]; exact le_o136
  have ne_152 : a ≠ o136 := Nat.ne_of_lt (by rw [g_141]; exact E_142.lt)
  have ne_153 : o1 ≠ o136 := Nat.ne_of_lt (by rw [g_141]; exact E_143.lt)
  have ne_154 : o104 ≠ o136 := Nat.ne_of_lt (by rw [g_141]; exact E_144.lt)
  have ne_155 : o24 ≠ o136 := Nat.ne_of_lt (by rw [g_141]; exact A_145.lt)
  have ne_156 : o41 ≠ o136 := Nat.ne_of_lt (by rw [g_141]; exact A_146.lt)
  have ne_157 : o60 ≠ o136 := Nat.ne_of_lt (by rw [g_141]; exact A_147.lt)
  have ne_158 : o81 ≠ o136 := Nat.ne_of_lt (by rw [g_141]; exact A_148.lt)
  refine E_dup (pc' := 63) X d1_62 rfl rfl ?_
  have F_159 : Fld Z h_137 o136 "java/util/AbstractList" "modCount" "I" (.int (0 : Int32)) := (D_140 (Or.inl (w_81 hw)) (ty := .int) (by decide))
  have F_160 : Fld Z h_137 o136 "java/util/ArrayList" "elementData" "[Ljava/lang/Object;" .null := (D_140 (Or.inl (w_84 hw)) (ty := (.array (.object "java/lang/Object"))) (by decide))
  refine E_callI (a := o136) (pc' := 66) (W := 2) (cells' := 8) (slots' := 271) (argsL := []) (rest := [(.ref o136), (.ref a)]) X (rm8 l Z a0 hw o136 oD h_137 X.ext hS0 Ea_139 F_159 F_160 fr_151) (w_64 hw) (w_65 hw) (w_63 hw) (w_66 hw) rfl (by decide) rfl rfl pd_2 rfl rfl d1_63 rfl (Nat.le_refl _) (by decide) (by decide) rfl rfl (by decide) (by decide) (fun v161 T h_162 X hQ163 => ?_)
  obtain ⟨rfl, Kc_164⟩ := hQ163
  have K_165 : Keep h0 h_162 [a] := K_150.trans Kc_164 (allS (Or.inr b_149) all0)
  show End Z p e below s _ _ _ _ (mkF m 66 #[.val (.ref a)] [(.ref o136), (.ref a)])
  have F_166 : Fld Z h_162 a "com/example/damctl/damctl/policy/FlowGraph" "sources" "Ljava/util/List;" .null := ((((((((((((((((hF8.ext Ex_3).keep Kc_17 (ninS ne_10 nin0)).other W_21 (Or.inr (slot_ne (Or.inr (w_86 hw)) (Or.inr (w_32 hw)) (by decide) (t := (.object "java/util/List")) (t' := (.object "java/util/BitSet")) (by decide) (by decide)))).ext Ex_26).other W_38 (Or.inr (slot_ne (Or.inr (w_86 hw)) (Or.inl (w_35 hw)) (by decide) (t := (.object "java/util/List")) (t' := (.array .int)) (by decide) (by decide)))).ext Ex_43).other W_57 (Or.inr (slot_ne (Or.inr (w_86 hw)) (Or.inl (w_37 hw)) (by decide) (t := (.object "java/util/List")) (t' := (.array .int)) (by decide) (by decide)))).ext Ex_62).other W_78 (Or.inr (slot_ne (Or.inr (w_86 hw)) (Or.inl (w_40 hw)) (by decide) (t := (.object "java/util/List")) (t' := (.array .byte)) (by decide) (by decide)))).ext Ex_83).other W_101 (Or.inr (slot_ne (Or.inr (w_86 hw)) (Or.inl (w_42 hw)) (by decide) (t := (.object "java/util/List")) (t' := (.array .int)) (by decide) (by decide)))).ext Ex_106).keep Kc_129 (ninS ne_119 nin0)).other W_133 (Or.inr (slot_ne (Or.inr (w_86 hw)) (Or.inr (w_60 hw)) (by decide) (t := (.object "java/util/List")) (t' := (.object "java/util/Map")) (by decide) (by decide)))).ext Ex_138).keep Kc_164 (ninS ne_152 nin0))
  have E_167 : Exa Z h_162 a "com/example/damctl/damctl/policy/FlowGraph" := ((E_142.ext Ex_138).keep Kc_164)
  refine E_putF (pc' := 69) X (host := "") (Or.inl (w_85 hw)) Via.refl F_166 E_167 (Or.inr ⟨(w_86 hw), rfl, rfl⟩) (w_1 hw) (ty := (.object "java/util/List")) (by decide) rfl rfl hfr13 d1_66 rfl (fun T h_169 X W_168 => ?_)
  have K_170 : Keep h0 h_169 [a] := K_165.wr W_168 (Or.inl (List.mem_of_getElem? (i := 0) rfl))
  refine E_aloadN (v := (.ref a)) (pc' := 70) X d1_69 rfl rfl rfl ?_
  have E_177 : Exa Z h_169 a "com/example/damctl/damctl/policy/FlowGraph" := (E_167.wr W_168)
  have E_178 : Exa Z h_169 o1 "java/util/BitSet" := (((E_143.ext Ex_138).keep Kc_164).wr W_168)
  have E_179 : Exa Z h_169 o104 "java/util/HashMap" := (((E_144.ext Ex_138).keep Kc_164).wr W_168)
  have E_180 : Exa Z h_169 o136 "java/util/ArrayList" := ((Ea_139.keep Kc_164).wr W_168)
  have A_181 : Ar Z h_169 o24 .int [(.int (0 : Int32)), (.int (0 : Int32)), (.int (0 : Int32)), (.int (0 : Int32)), (.int (0 : Int32)), (.int (0 : Int32)), (.int (0 : Int32)), (.int (0 : Int32)), (.int (0 : Int32)), (.int (0 : Int32)), (.int (0 : Int32)), (.int (0 : Int32)), (.int (0 : Int32)), (.int (0 : Int32)), (.int (0 : Int32)), (.int (0 : Int32)), (.int (0 : Int32)), (.int (0 : Int32)), (.int (0 : Int32)), (.int (0 : Int32)), (.int (0 : Int32)), (.int (0 : Int32)), (.int (0 : Int32)), (.int (0 : Int32)), (.int (0 : Int32)), (.int (0 : Int32)), (.int (0 : Int32)), (.int (0 : Int32)), (.int (0 : Int32)), (.int (0 : Int32)), (.int (0 : Int32)), (.int (0 : Int32)), (.int (0 : Int32)), (.int (0 : Int32)), (.int (0 : Int32)), (.int (0 : Int32)), (.int (0 : Int32)), (.int (0 : Int32)), (.int (0 : Int32)), (.int (0 : Int32)), (.int (0 : Int32)), (.int (0 : Int32)), (.int (0 : Int32)), (.int (0 : Int32)), (.int (0 : Int32)), (.int (0 : Int32)), (.int (0 : Int32)), (.int (0 : Int32)), (.int (0 : Int32)), (.int (0 : Int32)), (.int (0 : Int32)), (.int (0 : Int32)), (.int (0 : Int32)), (.int (0 : Int32)), (.int (0 : Int32)), (.int (0 : Int32)), (.int (0 : Int32)), (.int (0 : Int32)), (.int (0 : Int32)), (.int (0 : Int32)), (.int (0 : Int32)), (.int (0 : Int32)), (.int (0 : Int32)), (.int (0 : Int32))] := (((A_145.ext Ex_138).keep Kc_164 (ninS ne_155 nin0)).other W_168 (Ne.symm ne_34))
  have A_182 : Ar Z h_169 o41 .int [(.int (0 : Int32)), (.int (0 : Int32)), (.int (0 : Int32)), (.int (0 : Int32)), (.int (0 : Int32)), (.int (0 : Int32)), (.int (0 : Int32)), (.int (0 : Int32)), (.int (0 : Int32)), (.int (0 : Int32)), (.int (0 : Int32)), (.int (0 : Int32)), (.int (0 : Int32)), (.int (0 : Int32)), (.int (0 : Int32)), (.int (0 : Int32)), (.int (0 : Int32)), (.int (0 : Int32)), (.int (0 : Int32)), (.int (0 : Int32)), (.int (0 : Int32)), (.int (0 : Int32)), (.int (0 : Int32)), (.int (0 : Int32)), (.int (0 : Int32)), (.int (0 : Int32)), (.int (0 : Int32)), (.int (0 : Int32)), (.int (0 : Int32)), (.int (0 : Int32)), (.int (0 : Int32)), (.int (0 : Int32)), (.int (0 : Int32)), (.int (0 : Int32)), (.int (0 : Int32)), (.int (0 : Int32)), (.int (0 : Int32)), (.int (0 : Int32)), (.int (0 : Int32)), (.int (0 : Int32)), (.int (0 : Int32)), (.int (0 : Int32)), (.int (0 : Int32)), (.int (0 : Int32)), (.int (0 : Int32)), (.int (0 : Int32)), (.int (0 : Int32)), (.int (0 : Int32)), (.int (0 : Int32)), (.int (0 : Int32)), (.int (0 : Int32)), (.int (0 : Int32)), (.int (0 : Int32)), (.int (0 : Int32)), (.int (0 : Int32)), (.int (0 : Int32)), (.int (0 : Int32)), (.int (0 : Int32)), (.int (0 : Int32)), (.int (0 : Int32)), (.int (0 : Int32)), (.int (0 : Int32)), (.int (0 : Int32)), (.int (0 : Int32))] := (((A_146.ext Ex_138).keep Kc_164 (ninS ne_156 nin0)).other W_168 (Ne.symm ne_52))
  have A_183 : Ar Z h_169 o60 .byte [(.int (0 : Int32)), (.int (0 : Int32)), (.int (0 : Int32)), (.int (0 : Int32)), (.int (0 : Int32)), (.int (0 : Int32)), (.int (0 : Int32)), (.int (0 : Int32)), (.int (0 : Int32)), (.int (0 : Int32)), (.int (0 : Int32)), (.int (0 : Int32)), (.int (0 : Int32)), (.int (0 : Int32)), (.int (0 : Int32)), (.int (0 : Int32)), (.int (0 : Int32)), (.int (0 : Int32)), (.int (0 : Int32)), (.int (0 : Int32)), (.int (0 : Int32)), (.int (0 : Int32)), (.int (0 : Int32)), (.int (0 : Int32)), (.int (0 : Int32)), (.int (0 : Int32)), (.int (0 : Int32)), (.int (0 : Int32)), (.int (0 : Int32)), (.int (0 : Int32)), (.int (0 : Int32)), (.int (0 : Int32)), (.int (0 : Int32)), (.int (0 : Int32)), (.int (0 : Int32)), (.int (0 : Int32)), (.int (0 : Int32)), (.int (0 : Int32)), (.int (0 : Int32)), (.int (0 : Int32)), (.int (0 : Int32)), (.int (0 : Int32)), (.int (0 : Int32)), (.int (0 : Int32)), (.int (0 : Int32)), (.int (0 : Int32)), (.int (0 : Int32)), (.int (0 : Int32)), (.int (0 : Int32)), (.int (0 : Int32)), (.int (0 : Int32)), (.int (0 : Int32)), (.int (0 : Int32)), (.int (0 : Int32)), (.int (0 : Int32)), (.int (0 : Int32)), (.int (0 : Int32)), (.int (0 : Int32)), (.int (0 : Int32)), (.int (0 : Int32)), (.int (0 : Int32)), (.int (0 : Int32)), (.int (0 : Int32)), (.int (0 : Int32))] := (((A_147.ext Ex_138).keep Kc_164 (ninS ne_157 nin0)).other W_168 (Ne.symm ne_72))
  have A_184 : Ar Z h_169 o81 .int [(.int (0 : Int32)), (.int (0 : Int32)), (.int (0 : Int32)), (.int (0 : Int32)), (.int (0 : Int32)), (.int (0 : Int32)), (.int (0 : Int32)), (.int (0 : Int32)), (.int (0 : Int32)), (.int (0 : Int32)), (.int (0 : Int32)), (.int (0 : Int32)), (.int (0 : Int32)), (.int (0 : Int32)), (.int (0 : Int32)), (.int (0 : Int32)), (.int (0 : Int32)), (.int (0 : Int32)), (.int (0 : Int32)), (.int (0 : Int32)), (.int (0 : Int32)), (.int (0 : Int32)), (.int (0 : Int32)), (.int (0 : Int32)), (.int (0 : Int32)), (.int (0 : Int32)), (.int (0 : Int32)), (.int (0 : Int32)), (.int (0 : Int32)), (.int (0 : Int32)), (.int (0 : Int32)), (.int (0 : Int32)), (.int (0 : Int32)), (.int (0 : Int32)), (.int (0 : Int32)), (.int (0 : Int32)), (.int (0 : Int32)), (.int (0 : Int32)), (.int (0 : Int32)), (.int (0 : Int32)), (.int (0 : Int32)), (.int (0 : Int32)), (.int (0 : Int32)), (.int (0 : Int32)), (.int (0 : Int32)), (.int (0 : Int32)), (.int (0 : Int32)), (.int (0 : Int32)), (.int (0 : Int32)), (.int (0 : Int32)), (.int (0 : Int32)), (.int (0 : Int32)), (.int (0 : Int32)), (.int (0 : Int32)), (.int (0 : Int32)), (.int (0 : Int32)), (.int (0 : Int32)), (.int (0 : Int32)), (.int (0 : Int32)), (.int (0 : Int32)), (.int (0 : Int32)), (.int (0 : Int32)), (.int (0 : Int32)), (.int (0 : Int32))] := (((A_148.ext Ex_138).keep Kc_164 (ninS ne_158 nin0)).other W_168 (Ne.symm ne_94))
  have le_o171 := X.le
  refine E_new (pc' := 73) X (cells' := 9) (slots' := 274) (w_61 hw) (w_62 hw) (w_63 hw) d1_70 rfl rfl rfl (by decide) (by decide) (fun T h_172 o171 g_176 X Ex_173 Ea_174 D_175 => ?_)
  have b_185 : h0.size ≤ o171 := by rw [g_176]; exact K_170.1
  have K_186 : Keep h0 h_172 [a] := K_170.ext Ex_173
  have fr_187 : Z.heap.size ≤ o171 := by rw [g_176]; exact le_o171
  have ne_188 : a ≠ o171 := Nat.ne_of_lt (by rw [g_176]; exact E_177.lt)
  have ne_189 : o1 ≠ o171 := Nat.ne_of_lt (by rw [g_176]; exact E_178.lt)
  have ne_190 : o104 ≠ o171 := Nat.ne_of_lt (by rw [g_176]; exact E_179.lt)
  have ne_191 : o136 ≠ o171 := Nat.ne_of_lt (by rw [g_176]; exact E_180.lt)
  have ne_192 : o24 ≠ o171 := Nat.ne_of_lt (by rw [g_176]; exact A_181.lt)
  have ne_193 : o41 ≠ o171 := Nat.ne_of_lt (by rw [g_176]; exact A_182.lt)
  have ne_194 : o60 ≠ o171 := Nat.ne_of_lt (by rw [g_176]; exact A_183.lt)
  have ne_195 : o81 ≠ o171 := Nat.ne_of_lt (by rw [g_176]; exact A_184.lt)
  refine E_dup (pc' := 74) X d1_73 rfl rfl ?_
  have F_196 : Fld Z h_172 o171 "java/util/AbstractList" "modCount" "I" (.int (0 : Int32)) := (D_175 (Or.inl (w_81 hw)) (ty := .int) (by decide))
  have F_197 : Fld Z h_172 o171 "java/util/ArrayList" "elementData" "[Ljava/lang/Object;" .null := (D_175 (Or.inl (w_84 hw)) (ty := (.array (.object "java/lang/Object"))) (by decide))
  refine E_callI (a := o171) (pc' := 77) (W := 2) (cells' := 9) (slots' := 274) (argsL := []) (rest := [(.ref o171), (.ref a)]) X (rm8 l Z a0 hw o171 oD h_172 X.ext hS0 Ea_174 F_196 F_197 fr_187) (w_64 hw) (w_65 hw) (w_63 hw) (w_66 hw) rfl (by decide) rfl rfl pd_2 rfl rfl d1_74 rfl (Nat.le_refl _) (by decide) (by decide) rfl rfl (by decide) (by decide) (fun v198 T h_199 X hQ200 => ?_)
  obtain ⟨rfl, Kc_201⟩ := hQ200
  have K_202 : Keep h0 h_199 [a] := K_186.trans Kc_201 (allS (Or.inr b_185) all0)
  show End Z p e below s _ _ _ _ (mkF m 77 #[.val (.ref a)] [(.ref o171), (.ref a)])
  have F_203 : Fld Z h_199 a "com/example/damctl/damctl/policy/FlowGraph" "sinks" "Ljava/util/List;" .null := (((((((((((((((((((hF9.ext Ex_3).keep Kc_17 (ninS ne_10 nin0)).other W_21 (Or.inr (slot_ne (Or.inr (w_88 hw)) (Or.inr (w_32 hw)) (by decide) (t := (.object "java/util/List")) (t' := (.object "java/util/BitSet")) (by decide) (by decide)))).ext Ex_26).other W_38 (Or.inr (slot_ne (Or.inr (w_88 hw)) (Or.inl (w_35 hw)) (by decide) (t := (.object "java/util/List")) (t' := (.array .int)) (by decide) (by decide)))).ext Ex_43).other W_57 (Or.inr (slot_ne (Or.inr (w_88 hw)) (Or.inl (w_37 hw)) (by decide) (t := (.object "java/util/List")) (t' := (.array .int)) (by decide) (by decide)))).ext Ex_62).other W_78 (Or.inr (slot_ne (Or.inr (w_88 hw)) (Or.inl (w_40 hw)) (by decide) (t := (.object "java/util/List")) (t' := (.array .byte)) (by decide) (by decide)))).ext Ex_83).other W_101 (Or.inr (slot_ne (Or.inr (w_88 hw)) (Or.inl (w_42 hw)) (by decide) (t := (.object "java/util/List")) (t' := (.array .int)) (by decide) (by decide)))).ext Ex_106).keep Kc_129 (ninS ne_119 nin0)).other W_133 (Or.inr (slot_ne (Or.inr (w_88 hw)) (Or.inr (w_60 hw)) (by decide) (t := (.object "java/util/List")) (t' := (.object "java/util/Map")) (by decide) (by decide)))).ext Ex_138).keep Kc_164 (ninS ne_152 nin0)).other W_168 (Or.inr (slot_ne (Or.inr (w_88 hw)) (Or.inr (w_86 hw)) (by decide) (t := (.object "java/util/List")) (t' := (.object "java/util/List")) (by decide) (by decide)))).ext Ex_173).keep Kc_201 (ninS ne_188 nin0))
  have E_204 : Exa Z h_199 a "com/example/damctl/damctl/policy/FlowGraph" := ((E_177.ext Ex_173).keep Kc_201)
  refine E_putF (pc' := 80) X (host := "") (Or.inl (w_87 hw)) Via.refl F_203 E_204 (Or.inr ⟨(w_88 hw), rfl, rfl⟩) (w_1 hw) (ty := (.object "java/util/List")) (by decide) rfl rfl hfr13 d1_77 rfl (fun T h_206 X W_205 => ?_)
  have K_207 : Keep h0 h_206 [a] := K_202.wr W_205 (Or.inl (List.mem_of_getElem? (i := 0) rfl))
  refine E_aloadN (v := (.ref a)) (pc' := 81) X d1_80 rfl rfl rfl ?_
  have E_214 : Exa Z h_206 a "com/example/damctl/damctl/policy/FlowGraph" := (E_204.wr W_205)
  have E_215 : Exa Z h_206 o1 "java/util/BitSet" := (((E_178.ext Ex_173).keep Kc_201).wr W_205)
  have E_216 : Exa Z h_206 o104 "java/util/HashMap" := (((E_179.ext Ex_173).keep Kc_201).wr W_205)
  have E_217 : Exa Z h_206 o136 "java/util/ArrayList" := (((E_180.ext Ex_173).keep Kc_201).wr W_205)
  have E_218 : Exa Z h_206 o171 "java/util/ArrayList" := ((Ea_174.keep Kc_201).wr W_205)
  have A_219 : Ar Z h_206 o24 .int [(.int (0 : Int32)), (.int (0 : Int32)), (.int (0 : Int32)), (.int (0 : Int32)), (.int (0 : Int32)), (.int (0 : Int32)), (.int (0 : Int32)), (.int (0 : Int32)), (.int (0 : Int32)), (.int (0 : Int32)), (.int (0 : Int32)), (.int (0 : Int32)), (.int (0 : Int32)), (.int (0 : Int32)), (.int (0 : Int32)), (.int (0 : Int32)), (.int (0 : Int32)), (.int (0 : Int32)), (.int (0 : Int32)), (.int (0 : Int32)), (.int (0 : Int32)), (.int (0 : Int32)), (.int (0 : Int32)), (.int (0 : Int32)), (.int (0 : Int32)), (.int (0 : Int32)), (.int (0 : Int32)), (.int (0 : Int32)), (.int (0 : Int32)), (.int (0 : Int32)), (.int (0 : Int32)), (.int (0 : Int32)), (.int (0 : Int32)), (.int (0 : Int32)), (.int (0 : Int32)), (.int (0 : Int32)), (.int (0 : Int32)), (.int (0 : Int32)), (.int (0 : Int32)), (.int (0 : Int32)), (.int (0 : Int32)), (.int (0 : Int32)), (.int (0 : Int32)), (.int (0 : Int32)), (.int (0 : Int32)), (.int (0 : Int32)), (.int (0 : Int32)), (.int (0 : Int32)), (.int (0 : Int32)), (.int (0 : Int32)), (.int (0 : Int32)), (.int (0 : Int32)), (.int (0 : Int32)), (.int (0 : Int32)), (.int (0 : Int32)), (.int (0 : Int32)), (.int (0 : Int32)), (.int (0 : Int32)), (.int (0 : Int32)), (.int (0 : Int32)), (.int (0 : Int32)), (.int (0 : Int32)), (.int (0 : Int32)), (.int (0 : Int32))] := (((A_181.ext Ex_173).keep Kc_201 (ninS ne_192 nin0)).other W_205 (Ne.symm ne_34))
  have A_220 : Ar Z h_206 o41 .int [(.int (0 : Int32)), (.int (0 : Int32)), (.int (0 : Int32)), (.int (0 : Int32)), (.int (0 : Int32)), (.int (0 : Int32)), (.int (0 : Int32)), (.int (0 : Int32)), (.int (0 : Int32)), (.int (0 : Int32)), (.int (0 : Int32)), (.int (0 : Int32)), (.int (0 : Int32)), (.int (0 : Int32)), (.int (0 : Int32)), (.int (0 : Int32)), (.int (0 : Int32)), (.int (0 : Int32)), (.int (0 : Int32)), (.int (0 : Int32)), (.int (0 : Int32)), (.int (0 : Int32)), (.int (0 : Int32)), (.int (0 : Int32)), (.int (0 : Int32)), (.int (0 : Int32)), (.int (0 : Int32)), (.int (0 : Int32)), (.int (0 : Int32)), (.int (0 : Int32)), (.int (0 : Int32)), (.int (0 : Int32)), (.int (0 : Int32)), (.int (0 : Int32)), (.int (0 : Int32)), (.int (0 : Int32)), (.int (0 : Int32)), (.int (0 : Int32)), (.int (0 : Int32)), (.int (0 : Int32)), (.int (0 : Int32)), (.int (0 : Int32)), (.int (0 : Int32)), (.int (0 : Int32)), (.int (0 : Int32)), (.int (0 : Int32)), (.int (0 : Int32)), (.int (0 : Int32)), (.int (0 : Int32)), (.int (0 : Int32)), (.int (0 : Int32)), (.int (0 : Int32)), (.int (0 : Int32)), (.int (0 : Int32)), (.int (0 : Int32)), (.int (0 : Int32)), (.int (0 : Int32)), (.int (0 : Int32)), (.int (0 : Int32)), (.int (0 : Int32)), (.int (0 : Int32)), (.int (0 : Int32)), (.int (0 : Int32)), (.int (0 : Int32))] := (((A_182.ext Ex_173).keep Kc_201 (ninS ne_193 nin0)).other W_205 (Ne.symm ne_52))
  have A_221 : Ar Z h_206 o60 .byte [(.int (0 : Int32)), (.int (0 : Int32)), (.int (0 : Int32)), (.int (0 : Int32)), (.int (0 : Int32)), (.int (0 : Int32)), (.int (0 : Int32)), (.int (0 : Int32)), (.int (0 : Int32)), (.int (0 : Int32)), (.int (0 : Int32)), (.int (0 : Int32)), (.int (0 : Int32)), (.int (0 : Int32)), (.int (0 : Int32)), (.int (0 : Int32)), (.int (0 : Int32)), (.int (0 : Int32)), (.int (0 : Int32)), (.int (0 : Int32)), (.int (0 : Int32)), (.int (0 : Int32)), (.int (0 : Int32)), (.int (0 : Int32)), (.int (0 : Int32)), (.int (0 : Int32)), (.int (0 : Int32)), (.int (0 : Int32)), (.int (0 : Int32)), (.int (0 : Int32)), (.int (0 : Int32)), (.int (0 : Int32)), (.int (0 : Int32)), (.int (0 : Int32)), (.int (0 : Int32)), (.int (0 : Int32)), (.int (0 : Int32)), (.int (0 : Int32)), (.int (0 : Int32)), (.int (0 : Int32)), (.int (0 : Int32)), (.int (0 : Int32)), (.int (0 : Int32)), (.int (0 : Int32)), (.int (0 : Int32)), (.int (0 : Int32)), (.int (0 : Int32)), (.int (0 : Int32)), (.int (0 : Int32)), (.int (0 : Int32)), (.int (0 : Int32)), (.int (0 : Int32)), (.int (0 : Int32)), (.int (0 : Int32)), (.int (0 : Int32)), (.int (0 : Int32)), (.int (0 : Int32)), (.int (0 : Int32)), (.int (0 : Int32)), (.int (0 : Int32)), (.int (0 : Int32)), (.int (0 : Int32)), (.int (0 : Int32)), (.int (0 : Int32))] := (((A_183.ext Ex_173).keep Kc_201 (ninS ne_194 nin0)).other W_205 (Ne.symm ne_72))
  have A_222 : Ar Z h_206 o81 .int [(.int (0 : Int32)), (.int (0 : Int32)), (.int (0 : Int32)), (.int (0 : Int32)), (.int (0 : Int32)), (.int (0 : Int32)), (.int (0 : Int32)), (.int (0 : Int32)), (.int (0 : Int32)), (.int (0 : Int32)), (.int (0 : Int32)), (.int (0 : Int32)), (.int (0 : Int32)), (.int (0 : Int32)), (.int (0 : Int32)), (.int (0 : Int32)), (.int (0 : Int32)), (.int (0 : Int32)), (.int (0 : Int32)), (.int (0 : Int32)), (.int (0 : Int32)), (.int (0 : Int32)), (.int (0 : Int32)), (.int (0 : Int32)), (.int (0 : Int32)), (.int (0 : Int32)), (.int (0 : Int32)), (.int (0 : Int32)), (.int (0 : Int32)), (.int (0 : Int32)), (.int (0 : Int32)), (.int (0 : Int32)), (.int (0 : Int32)), (.int (0 : Int32)), (.int (0 : Int32)), (.int (0 : Int32)), (.int (0 : Int32)), (.int (0 : Int32)), (.int (0 : Int32)), (.int (0 : Int32)), (.int (0 : Int32)), (.int (0 : Int32)), (.int (0 : Int32)), (.int (0 : Int32)), (.int (0 : Int32)), (.int (0 : Int32)), (.int (0 : Int32)), (.int (0 : Int32)), (.int (0 : Int32)), (.int (0 : Int32)), (.int (0 : Int32)), (.int (0 : Int32)), (.int (0 : Int32)), (.int (0 : Int32)), (.int (0 : Int32)), (.int (0 : Int32)), (.int (0 : Int32)), (.int (0 : Int32)), (.int (0 : Int32)), (.int (0 : Int32)), (.int (0 : Int32)), (.int (0 : Int32)), (.int (0 : Int32)), (.int (0 : Int32))] := (((A_184.ext Ex_173).keep Kc_201 (ninS ne_195 nin0)).other W_205 (Ne.symm ne_94))
  have le_o208 := X.le
  refine E_new (pc' := 84) X (cells' := 10) (slots' := 277) (w_61 hw) (w_62 hw) (w_63 hw) d1_81 rfl rfl rfl (by decide) (by decide) (fun T h_209 o208 g_213 X Ex_210 Ea_211 D_212 => ?_)
  have b_223 : h0.size ≤ o208 := by rw [g_213]; exact K_207.1
  have K_224 : Keep h0 h_209 [a] := K_207.ext Ex_210
  have fr_225 : Z.heap.size ≤ o208 := by rw [g_213]; exact le_o208
  have ne_226 : a ≠ o208 := Nat.ne_of_lt (by rw [g_213]; exact E_214.lt)
  have ne_227 : o1 ≠ o208 := Nat.ne_of_lt (by rw [g_213]; exact E_215.lt)
  have ne_228 : o104 ≠ o208 := Nat.ne_of_lt (by rw [g_213]; exact E_216.lt)
  have ne_229 : o136 ≠ o208 := Nat.ne_of_lt (by rw [g_213]; exact E_217.lt)
  have ne_230 : o171 ≠ o208 := Nat.ne_of_lt (by rw [g_213]; exact E_218.lt)
  have ne_231 : o24 ≠ o208 := Nat.ne_of_lt (by rw [g_213]; exact A_219.lt)
  have ne_232 : o41 ≠ o208 := Nat.ne_of_lt (by rw [g_213]; exact A_220.lt)
  have ne_233 : o60 ≠ o208 := Nat.ne_of_lt (by rw [g_213]; exact A_221.lt)
  have ne_234 : o81 ≠ o208 := Nat.ne_of_lt (by rw [g_213]; exact A_222.lt)
  refine E_dup (pc' := 85) X d1_84 rfl rfl ?_
  have F_235 : Fld Z h_209 o208 "java/util/AbstractList" "modCount" "I" (.int (0 : Int32)) := (D_212 (Or.inl (w_81 hw)) (ty := .int) (by decide))
  have F_236 : Fld Z h_209 o208 "java/util/ArrayList" "elementData" "[Ljava/lang/Object;" .null := (D_212 (Or.inl (w_84 hw)) (ty := (.array (.object "java/lang/Object"))) (by decide))
  refine E_callI (a := o208) (pc' := 88) (W := 2) (cells' := 10) (slots' := 277) (argsL := []) (rest := [(.ref o208), (.ref a)]) X (rm8 l Z a0 hw o208 oD h_209 X.ext hS0 Ea_211 F_235 F_236 fr_225) (w_64 hw) (w_65 hw) (w_63 hw) (w_66 hw) rfl (by decide) rfl rfl pd_2 rfl rfl d1_85 rfl (Nat.le_refl _) (by decide) (by decide) rfl rfl (by decide) (by decide) (fun v237 T h_238 X hQ239 => ?_)
  obtain ⟨rfl, Kc_240⟩ := hQ239
  have K_241 : Keep h0 h_238 [a] := K_224.trans Kc_240 (allS (Or.inr b_223) all0)
  show End Z p e below s _ _ _ _ (mkF m 88 #[.val (.ref a)] [(.ref o208), (.ref a)])
  have F_242 : Fld Z h_238 a "com/example/damctl/damctl/policy/FlowGraph" "crossings" "Ljava/util/List;" .null := ((((((((((((((((((((((hF10.ext Ex_3).keep Kc_17 (ninS ne_10 nin0)).other W_21 (Or.inr (slot_ne (Or.inr (w_90 hw)) (Or.inr (w_32 hw)) (by decide) (t := (.object "java/util/List")) (t' := (.object "java/util/BitSet")) (by decide) (by decide)))).ext Ex_26).other W_38 (Or.inr (slot_ne (Or.inr (w_90 hw)) (Or.inl (w_35 hw)) (by decide) (t := (.object "java/util/List")) (t' := (.array .int)) (by decide) (by decide)))).ext Ex_43).other W_57 (Or.inr (slot_ne (Or.inr (w_90 hw)) (Or.inl (w_37 hw)) (by decide) (t := (.object "java/util/List")) (t' := (.array .int)) (by decide) (by decide)))).ext Ex_62).other W_78 (Or.inr (slot_ne (Or.inr (w_90 hw)) (Or.inl (w_40 hw)) (by decide) (t := (.object "java/util/List")) (t' := (.array .byte)) (by decide) (by decide)))).ext Ex_83).other W_101 (Or.inr (slot_ne (Or.inr (w_90 hw)) (Or.inl (w_42 hw)) (by decide) (t := (.object "java/util/List")) (t' := (.array .int)) (by decide) (by decide)))).ext Ex_106).keep Kc_129 (ninS ne_119 nin0)).other W_133 (Or.inr (slot_ne (Or.inr (w_90 hw)) (Or.inr (w_60 hw)) (by decide) (t := (.object "java/util/List")) (t' := (.object "java/util/Map")) (by decide) (by decide)))).ext Ex_138).keep Kc_164 (ninS ne_152 nin0)).other W_168 (Or.inr (slot_ne (Or.inr (w_90 hw)) (Or.inr (w_86 hw)) (by decide) (t := (.object "java/util/List")) (t' := (.object "java/util/List")) (by decide) (by decide)))).ext Ex_173).keep Kc_201 (ninS ne_188 nin0)).other W_205 (Or.inr (slot_ne (Or.inr (w_90 hw)) (Or.inr (w_88 hw)) (by decide) (t := (.object "java/util/List")) (t' := (.object "java/util/List")) (by decide) (by decide)))).ext Ex_210).keep Kc_240 (ninS ne_226 nin0))
  have E_243 : Exa Z h_238 a "com/example/damctl/damctl/policy/FlowGraph" := ((E_214.ext Ex_210).keep Kc_240)
  refine E_putF (pc' := 91) X (host := "") (Or.inl (w_89 hw)) Via.refl F_242 E_243 (Or.inr ⟨(w_90 hw), rfl, rfl⟩) (w_1 hw) (ty := (.object "java/util/List")) (by decide) rfl rfl hfr13 d1_88 rfl (fun T h_245 X W_244 => ?_)
  have K_246 : Keep h0 h_245 [a] := K_241.wr W_244 (Or.inl (List.mem_of_getElem? (i := 0) rfl))
  have E_247 : Exa Z h_245 a "com/example/damctl/damctl/policy/FlowGraph" := (E_243.wr W_244)
  have F_248 : Fld Z h_245 a "com/example/damctl/damctl/policy/FlowGraph" "calls" "I" (.int (0 : Int32)) := (((((((((((((((((((((((hF11.ext Ex_3).keep Kc_17 (ninS ne_10 nin0)).other W_21 (Or.inr (slot_ne (Or.inl (w_97 hw)) (Or.inr (w_32 hw)) (by decide) (t := .int) (t' := (.object "java/util/BitSet")) (by decide) (by decide)))).ext Ex_26).other W_38 (Or.inr (slot_ne (Or.inl (w_97 hw)) (Or.inl (w_35 hw)) (by decide) (t := .int) (t' := (.array .int)) (by decide) (by decide)))).ext Ex_43).other W_57 (Or.inr (slot_ne (Or.inl (w_97 hw)) (Or.inl (w_37 hw)) (by decide) (t := .int) (t' := (.array .int)) (by decide) (by decide)))).ext Ex_62).other W_78 (Or.inr (slot_ne (Or.inl (w_97 hw)) (Or.inl (w_40 hw)) (by decide) (t := .int) (t' := (.array .byte)) (by decide) (by decide)))).ext Ex_83).other W_101 (Or.inr (slot_ne (Or.inl (w_97 hw)) (Or.inl (w_42 hw)) (by decide) (t := .int) (t' := (.array .int)) (by decide) (by decide)))).ext Ex_106).keep Kc_129 (ninS ne_119 nin0)).other W_133 (Or.inr (slot_ne (Or.inl (w_97 hw)) (Or.inr (w_60 hw)) (by decide) (t := .int) (t' := (.object "java/util/Map")) (by decide) (by decide)))).ext Ex_138).keep Kc_164 (ninS ne_152 nin0)).other W_168 (Or.inr (slot_ne (Or.inl (w_97 hw)) (Or.inr (w_86 hw)) (by decide) (t := .int) (t' := (.object "java/util/List")) (by decide) (by decide)))).ext Ex_173).keep Kc_201 (ninS ne_188 nin0)).other W_205 (Or.inr (slot_ne (Or.inl (w_97 hw)) (Or.inr (w_88 hw)) (by decide) (t := .int) (t' := (.object "java/util/List")) (by decide) (by decide)))).ext Ex_210).keep Kc_240 (ninS ne_226 nin0)).other W_244 (Or.inr (slot_ne (Or.inl (w_97 hw)) (Or.inr (w_90 hw)) (by decide) (t := .int) (t' := (.object "java/util/List")) (by decide) (by decide))))
  have F_249 : Fld Z h_245 a "com/example/damctl/damctl/policy/FlowGraph" "nodes" "I" (.int (0 : Int32)) := (((((((((((((((((((((((hF12.ext Ex_3).keep Kc_17 (ninS ne_10 nin0)).other W_21 (Or.inr (slot_ne (Or.inl (w_104 hw)) (Or.inr (w_32 hw)) (by decide) (t := .int) (t' := (.object "java/util/BitSet")) (by decide) (by decide)))).ext Ex_26).other W_38 (Or.inr (slot_ne (Or.inl (w_104 hw)) (Or.inl (w_35 hw)) (by decide) (t := .int) (t' := (.array .int)) (by decide) (by decide)))).ext Ex_43).other W_57 (Or.inr (slot_ne (Or.inl (w_104 hw)) (Or.inl (w_37 hw)) (by decide) (t := .int) (t' := (.array .int)) (by decide) (by decide)))).ext Ex_62).other W_78 (Or.inr (slot_ne (Or.inl (w_104 hw)) (Or.inl (w_40 hw)) (by decide) (t := .int) (t' := (.array .byte)) (by decide) (by decide)))).ext Ex_83).other W_101 (Or.inr (slot_ne (Or.inl (w_104 hw)) (Or.inl (w_42 hw)) (by decide) (t := .int) (t' := (.array .int)) (by decide) (by decide)))).ext Ex_106).keep Kc_129 (ninS ne_119 nin0)).other W_133 (Or.inr (slot_ne (Or.inl (w_104 hw)) (Or.inr (w_60 hw)) (by decide) (t := .int) (t' := (.object "java/util/Map")) (by decide) (by decide)))).ext Ex_138).keep Kc_164 (ninS ne_152 nin0)).other W_168 (Or.inr (slot_ne (Or.inl (w_104 hw)) (Or.inr (w_86 hw)) (by decide) (t := .int) (t' := (.object "java/util/List")) (by decide) (by decide)))).ext Ex_173).keep Kc_201 (ninS ne_188 nin0)).other W_205 (Or.inr (slot_ne (Or.inl (w_104 hw)) (Or.inr (w_88 hw)) (by decide) (t := .int) (t' := (.object "java/util/List")) (by decide) (by decide)))).ext Ex_210).keep Kc_240 (ninS ne_226 nin0)).other W_244 (Or.inr (slot_ne (Or.inl (w_104 hw)) (Or.inr (w_90 hw)) (by decide) (t := .int) (t' := (.object "java/util/List")) (by decide) (by decide))))
  exact E_ret0 X d1_91 (by decide) (by decide) ⟨rfl, K_246, E_247, F_248, F_249⟩
theorem d11_0 : decode prog_35_method_5_code 0 = .ok (.aload_n 0, 1) := by decide +kernel
theorem d11_1 : decode prog_35_method_5_code 1 = .ok (.dup, 1) := by decide +kernel
theorem d11_2 : decode prog_35_method_5_code 2 = .ok (.getfield 76, 3) := by decide +kernel
theorem d11_5 : decode prog_35_method_5_code 5 = .ok (.dup_x1, 1) := by decide +kernel
theorem d11_6 : decode prog_35_method_5_code 6 = .ok (.iconst 1, 1) := by decide +kernel
theorem d11_7 : decode prog_35_method_5_code 7 = .ok (.iadd, 1) := by decide +kernel
theorem d11_8 : decode prog_35_method_5_code 8 = .ok (.putfield 76, 3) := by decide +kernel
theorem d11_11 : decode prog_35_method_5_code 11 = .ok (.ireturn, 1) := by decide +kernel
theorem ef_rm11 (m : MethodId) (x0 : Addr) : entryFrame m #[(.ref x0)] 1 = mkF m 0 #[.val (.ref x0)] [] := by first | (simp [entryFrame, mkF, argsToLocals, Value.category]; done) | (simp [entryFrame, mkF, argsToLocals, *]; done) | rfl
set_option maxRecDepth 65536 in
set_option maxHeartbeats 2000000 in
theorem rm11 (l : Launch) (Z : State) (a0 : Array Value) (hw : ∀ d ∈ tables_1, d.before a0 Z = true) (a : Addr) (c : Int32) (k : Int32) (c2 : Int32) (h0 : Heap) (hE : Ext Z.heap h0) (hE0 : Exa Z h0 a "com/example/damctl/damctl/policy/FlowGraph") (hF1 : Fld Z h0 a "com/example/damctl/damctl/policy/FlowGraph" "calls" "I" (.int c)) (hF2 : Fld Z h0 a "com/example/damctl/damctl/policy/FlowGraph" "nodes" "I" (.int k)) (hfr3 : Z.heap.size ≤ a) (hc2 : c + 1 = c2) :
    Con l Z (⟨"com/example/damctl/damctl/policy/FlowGraph", "call", "()I"⟩ : MethodName) prog_35_method_5_code 1 (some .int) ({ frames := 0, cells := 0, slots := 0, locals := 0 } : Room) #[(.ref a)] h0 (fun vv hh => vv = some (.int c) ∧ Keep h0 hh [a] ∧ Exa Z hh a "com/example/damctl/damctl/policy/FlowGraph" ∧ Fld Z hh a "com/example/damctl/damctl/policy/FlowGraph" "calls" "I" (.int c2) ∧ Fld Z hh a "com/example/damctl/damctl/policy/FlowGraph" "nodes" "I" (.int k)) := by
  refine Con.of (plainFor_of_name (by first | (simp [plainName, overriddenIn]; done) | decide +kernel)) hE ?_
  intro p e s m below T (X : Sd l Z "com/example/damctl/damctl/policy/FlowGraph" "call" prog_35_method_5_code 1 (some .int) ({ frames := 0, cells := 0, slots := 0, locals := 0 } : Room) p e s m #[(.ref a)] below T h0 0 0)
  refine End.frame (ef_rm11 m a) ?_
  have K_0 : Keep h0 h0 [a] := Keep.refl _ _
  show End Z p e below s _ _ _ _ (mkF m 0 #[.val (.ref a)] [])
  refine E_aloadN (v := (.ref a)) (pc' := 1) X d11_0 rfl rfl rfl ?_
  refine E_dup (pc' := 2) X d11_1 rfl rfl ?_
  refine E_getF (pc' := 5) X (host := "") (Or.inl (w_96 hw)) Via.refl hF1 d11_2 rfl (fun T X => ?_)
  refine E_dup_x1 (pc' := 6) X d11_5 rfl rfl rfl ?_
  refine E_iconst (v := (1 : Int32)) (pc' := 7) X d11_6 rfl rfl ?_
  refine E_iadd (pc' := 8) X d11_7 rfl ?_
  refine E_eqI (z := c2) hc2 ?_
  refine E_putF (pc' := 11) X (host := "") (Or.inl (w_96 hw)) Via.refl hF1 hE0 (Or.inl (w_97 hw)) (w_1 hw) (ty := .int) (by decide) rfl rfl hfr3 d11_8 rfl (fun T h_2 X W_1 => ?_)
  have K_3 : Keep h0 h_2 [a] := K_0.wr W_1 (Or.inl (List.mem_of_getElem? (i := 0) rfl))
  have E_4 : Exa Z h_2 a "com/example/damctl/damctl/policy/FlowGraph" := (hE0.wr W_1)
  have F_5 : Fld Z h_2 a "com/example/damctl/damctl/policy/FlowGraph" "calls" "I" (.int c2) := (hF1.same W_1)
  have F_6 : Fld Z h_2 a "com/example/damctl/damctl/policy/FlowGraph" "nodes" "I" (.int k) := (hF2.other W_1 (Or.inr (slot_ne (Or.inl (w_104 hw)) (Or.inl (w_97 hw)) (by decide) (t := .int) (t' := .int) (by decide) (by decide))))
  exact E_retI X d11_11 (by decide) (by decide) ⟨rfl, K_3, E_4, F_5, F_6⟩
theorem d13_0 : decode jdk_29_method_24_code 0 = .ok (.iload_n 0, 1) := by decide +kernel
theorem d13_1 : decode jdk_29_method_24_code 1 = .ok (.iload_n 1, 1) := by decide +kernel
theorem d13_2 : decode jdk_29_method_24_code 2 = .ok (.iadd, 1) := by decide +kernel
theorem d13_3 : decode jdk_29_method_24_code 3 = .ok (.istore_n 2, 1) := by decide +kernel
theorem d13_4 : decode jdk_29_method_24_code 4 = .ok (.iload_n 0, 1) := by decide +kernel
theorem d13_5 : decode jdk_29_method_24_code 5 = .ok (.iload_n 2, 1) := by decide +kernel
theorem d13_6 : decode jdk_29_method_24_code 6 = .ok (.ixor, 1) := by decide +kernel
theorem d13_7 : decode jdk_29_method_24_code 7 = .ok (.iload_n 1, 1) := by decide +kernel
theorem d13_8 : decode jdk_29_method_24_code 8 = .ok (.iload_n 2, 1) := by decide +kernel
theorem d13_9 : decode jdk_29_method_24_code 9 = .ok (.ixor, 1) := by decide +kernel
theorem d13_10 : decode jdk_29_method_24_code 10 = .ok (.iand, 1) := by decide +kernel
theorem d13_11 : decode jdk_29_method_24_code 11 = .ok (.ifCond .ge 13, 3) := by decide +kernel
theorem d13_24 : decode jdk_29_method_24_code 24 = .ok (.iload_n 2, 1) := by decide +kernel
theorem d13_25 : decode jdk_29_method_24_code 25 = .ok (.ireturn, 1) := by decide +kernel
theorem ef_rm13 (m : MethodId) (x0 : Int32) (x1 : Int32) : entryFrame m #[(.int x0), (.int x1)] 3 = mkF m 0 #[.val (.int x0), .val (.int x1), .unset] [] := by first | (simp [entryFrame, mkF, argsToLocals, Value.category]; done) | (simp [entryFrame, mkF, argsToLocals, *]; done) | rfl
set_option maxRecDepth 65536 in
set_option maxHeartbeats 2000000 in
theorem rm13 (l : Launch) (Z : State) (a0 : Array Value) (hw : ∀ d ∈ tables_1, d.before a0 Z = true) (x : Int32) (y : Int32) (h0 : Heap) (hE : Ext Z.heap h0) (hov : ¬ ((x ^^^ (x + y)) &&& (y ^^^ (x + y))) < 0) :
    Con l Z (⟨"java/lang/Math", "addExact", "(II)I"⟩ : MethodName) jdk_29_method_24_code 3 (some .int) ({ frames := 0, cells := 0, slots := 0, locals := 0 } : Room) #[(.int x), (.int y)] h0 (fun vv hh => vv = some (.int (x + y)) ∧ h0 = hh) := by
  refine Con.of (by decide +kernel) hE ?_
  intro p e s m below T (X : Sd l Z "java/lang/Math" "addExact" jdk_29_method_24_code 3 (some .int) ({ frames := 0, cells := 0, slots := 0, locals := 0 } : Room) p e s m #[(.int x), (.int y)] below T h0 0 0)
  refine End.frame (ef_rm13 m x y) ?_
  show End Z p e below s _ _ _ _ (mkF m 0 #[.val (.int x), .val (.int y), .unset] [])
  refine E_iloadN (pc' := 1) X d13_0 rfl rfl ?_
  refine E_iloadN (pc' := 2) X d13_1 rfl rfl ?_
  refine E_iadd (pc' := 3) X d13_2 rfl ?_
  refine E_istoreN (Ls' := #[.val (.int x), .val (.int y), .val (.int (x + y))]) (pc' := 4) X d13_3 rfl rfl ?_
  refine E_iloadN (pc' := 5) X d13_4 rfl rfl ?_
  refine E_iloadN (pc' := 6) X d13_5 rfl rfl ?_
  refine E_ixor (pc' := 7) X d13_6 rfl ?_
  refine E_iloadN (pc' := 8) X d13_7 rfl rfl ?_
  refine E_iloadN (pc' := 9) X d13_8 rfl rfl ?_
  refine E_ixor (pc' := 10) X d13_9 rfl ?_
  refine E_iand (pc' := 11) X d13_10 rfl ?_
  refine E_if (pcY := 24) (pcN := 14) X (i0_ge _) d13_11 (by decide) rfl rfl (fun hc11_0 => ?_) (fun hc11_0 => absurd hov hc11_0)
  refine E_iloadN (pc' := 25) X d13_24 rfl rfl ?_
  exact E_retI X d13_25 (by decide) (by decide) ⟨rfl, rfl⟩
theorem d12_0 : decode prog_35_method_3_code 0 = .ok (.iload_n 1, 1) := by decide +kernel
theorem d12_1 : decode prog_35_method_3_code 1 = .ok (.ifCond .ge 17, 3) := by decide +kernel
theorem d12_18 : decode prog_35_method_3_code 18 = .ok (.aload_n 0, 1) := by decide +kernel
theorem d12_19 : decode prog_35_method_3_code 19 = .ok (.getfield 63, 3) := by decide +kernel
theorem d12_22 : decode prog_35_method_3_code 22 = .ok (.istore_n 2, 1) := by decide +kernel
theorem d12_23 : decode prog_35_method_3_code 23 = .ok (.aload_n 0, 1) := by decide +kernel
theorem d12_24 : decode prog_35_method_3_code 24 = .ok (.aload_n 0, 1) := by decide +kernel
theorem d12_25 : decode prog_35_method_3_code 25 = .ok (.getfield 63, 3) := by decide +kernel
theorem d12_28 : decode prog_35_method_3_code 28 = .ok (.iload_n 1, 1) := by decide +kernel
theorem d12_29 : decode prog_35_method_3_code 29 = .ok (.invokestatic 66, 3) := by decide +kernel
theorem d12_32 : decode prog_35_method_3_code 32 = .ok (.putfield 63, 3) := by decide +kernel
theorem d12_35 : decode prog_35_method_3_code 35 = .ok (.iload_n 2, 1) := by decide +kernel
theorem d12_36 : decode prog_35_method_3_code 36 = .ok (.ireturn, 1) := by decide +kernel
theorem pd_3 : parseMethodDescriptor "(II)I" = some ⟨[.int, .int], some .int⟩ := by decide +kernel
theorem ef_rm12 (m : MethodId) (x0 : Addr) (x1 : Int32) : entryFrame m #[(.ref x0), (.int x1)] 3 = mkF m 0 #[.val (.ref x0), .val (.int x1), .unset] [] := by first | (simp [entryFrame, mkF, argsToLocals, Value.category]; done) | (simp [entryFrame, mkF, argsToLocals, *]; done) | rfl
set_option maxRecDepth 65536 in
set_option maxHeartbeats 2000000 in
theorem rm12 (l : Launch) (Z : State) (a0 : Array Value) (hw : ∀ d ∈ tables_1, d.before a0 Z = true) (a : Addr) (y : Int32) (c : Int32) (k : Int32) (k2 : Int32) (h0 : Heap) (hE : Ext Z.heap h0) (hE0 : Exa Z h0 a "com/example/damctl/damctl/policy/FlowGraph") (hF1 : Fld Z h0 a "com/example/damctl/damctl/policy/FlowGraph" "calls" "I" (.int c)) (hF2 : Fld Z h0 a "com/example/damctl/damctl/policy/FlowGraph" "nodes" "I" (.int k)) (hfr3 : Z.heap.size ≤ a) (hy : ¬ y < 0) (hov : ¬ ((k ^^^ (k + y)) &&& (y ^^^ (k + y))) < 0) (hk2 : k + y = k2) :
    Con l Z (⟨"com/example/damctl/damctl/policy/FlowGraph", "nodes", "(I)I"⟩ : MethodName) prog_35_method_3_code 3 (some .int) ({ frames := 1, cells := 0, slots := 0, locals := 15 } : Room) #[(.ref a), (.int y)] h0 (fun vv hh => vv = some (.int k) ∧ Keep h0 hh [a] ∧ Exa Z hh a "com/example/damctl/damctl/policy/FlowGraph" ∧ Fld Z hh a "com/example/damctl/damctl/policy/FlowGraph" "calls" "I" (.int c) ∧ Fld Z hh a "com/example/damctl/damctl/policy/FlowGraph" "nodes" "I" (.int k2)) := by
  refine Con.of (plainFor_of_name (by first | (simp [plainName, overriddenIn]; done) | decide +kernel)) hE ?_
  intro p e s m below T (X : Sd l Z "com/example/damctl/damctl/policy/FlowGraph" "nodes" prog_35_method_3_code 3 (some .int) ({ frames := 1, cells := 0, slots := 0, locals := 15 } : Room) p e s m #[(.ref a), (.int y)] below T h0 0 0)
  refine End.frame (ef_rm12 m a y) ?_
  have K_0 : Keep h0 h0 [a] := Keep.refl _ _
  show End Z p e below s _ _ _ _ (mkF m 0 #[.val (.ref a), .val (.int y), .unset] [])
  refine E_iloadN (pc' := 1) X d12_0 rfl rfl ?_
  refine E_if (pcY := 18) (pcN := 4) X (i0_ge _) d12_1 (by decide) rfl rfl (fun hc1_0 => ?_) (fun hc1_0 => absurd hy hc1_0)
  refine E_aloadN (v := (.ref a)) (pc' := 19) X d12_18 rfl rfl rfl ?_
  refine E_getF (pc' := 22) X (host := "") (Or.inl (w_103 hw)) Via.refl hF2 d12_19 rfl (fun T X => ?_)
  refine E_istoreN (Ls' := #[.val (.ref a), .val (.int y), .val (.int k)]) (pc' := 23) X d12_22 rfl rfl ?_
  refine E_aloadN (v := (.ref a)) (pc' := 24) X d12_23 rfl rfl rfl ?_
  refine E_aloadN (v := (.ref a)) (pc' := 25) X d12_24 rfl rfl rfl ?_
  refine E_getF (pc' := 28) X (host := "") (Or.inl (w_103 hw)) Via.refl hF2 d12_25 rfl (fun T X => ?_)
  refine E_iloadN (pc' := 29) X d12_28 rfl rfl ?_
  refine E_callS (pc' := 32) (W := 1) (cells' := 0) (slots' := 0) (argsL := [(.int k), (.int y)]) (rest := [(.ref a)]) X (rm13 l Z a0 hw k y h0 X.ext hov) (w_105 hw) (w_106 hw) (w_107 hw) (w_108 hw) (by decide) rfl rfl pd_3 rfl rfl d12_29 rfl (Nat.le_refl _) (by decide) (by decide) rfl rfl (by decide) (by decide) (fun v1 T h_2 X hQ3 => ?_)
  obtain ⟨rfl, rfl⟩ := hQ3
  show End Z p e below s _ _ _ _ (mkF m 32 #[.val (.ref a), .val (.int y), .val (.int k)] [(.int (k + y)), (.ref a)])
  refine E_eqI (z := k2) hk2 ?_
  refine E_putF (pc' := 35) X (host := "") (Or.inl (w_103 hw)) Via.refl hF2 hE0 (Or.inl (w_104 hw)) (w_1 hw) (ty := .int) (by decide) rfl rfl hfr3 d12_32 rfl (fun T h_6 X W_5 => ?_)
  have K_7 : Keep h0 h_6 [a] := K_0.wr W_5 (Or.inl (List.mem_of_getElem? (i := 0) rfl))
  refine E_iloadN (pc' := 36) X d12_35 rfl rfl ?_
  have E_8 : Exa Z h_6 a "com/example/damctl/damctl/policy/FlowGraph" := (hE0.wr W_5)
  have F_9 : Fld Z h_6 a "com/example/damctl/damctl/policy/FlowGraph" "calls" "I" (.int c) := (hF1.other W_5 (Or.inr (slot_ne (Or.inl (w_97 hw)) (Or.inl (w_104 hw)) (by decide) (t := .int) (t' := .int) (by decide) (by decide))))
  have F_10 : Fld Z h_6 a "com/example/damctl/damctl/policy/FlowGraph" "nodes" "I" (.int k2) := (hF2.same W_5)
  exact E_retI X d12_36 (by decide) (by decide) ⟨rfl, K_7, E_8, F_9, F_10⟩
theorem d14_0 : decode prog_35_method_2_code 0 = .ok (.aload_n 0, 1) := by decide +kernel
theorem d14_1 : decode prog_35_method_2_code 1 = .ok (.iconst 1, 1) := by decide +kernel
theorem d14_2 : decode prog_35_method_2_code 2 = .ok (.invokevirtual 50, 3) := by decide +kernel
theorem d14_5 : decode prog_35_method_2_code 5 = .ok (.ireturn, 1) := by decide +kernel
theorem ef_rm14 (m : MethodId) (x0 : Addr) : entryFrame m #[(.ref x0)] 1 = mkF m 0 #[.val (.ref x0)] [] := by first | (simp [entryFrame, mkF, argsToLocals, Value.category]; done) | (simp [entryFrame, mkF, argsToLocals, *]; done) | rfl
set_option maxRecDepth 65536 in
set_option maxHeartbeats 2000000 in
theorem rm14 (l : Launch) (Z : State) (a0 : Array Value) (hw : ∀ d ∈ tables_1, d.before a0 Z = true) (a : Addr) (c : Int32) (k : Int32) (k2 : Int32) (h0 : Heap) (hE : Ext Z.heap h0) (hE0 : Exa Z h0 a "com/example/damctl/damctl/policy/FlowGraph") (hF1 : Fld Z h0 a "com/example/damctl/damctl/policy/FlowGraph" "calls" "I" (.int c)) (hF2 : Fld Z h0 a "com/example/damctl/damctl/policy/FlowGraph" "nodes" "I" (.int k)) (hfr3 : Z.heap.size ≤ a) (hov : ¬ ((k ^^^ (k + 1)) &&& (1 ^^^ (k + 1))) < 0) (hk2 : k + 1 = k2) :
    Con l Z (⟨"com/example/damctl/damctl/policy/FlowGraph", "node", "()I"⟩ : MethodName) prog_35_method_2_code 1 (some .int) ({ frames := 2, cells := 0, slots := 0, locals := 29 } : Room) #[(.ref a)] h0 (fun vv hh => vv = some (.int k) ∧ Keep h0 hh [a] ∧ Exa Z hh a "com/example/damctl/damctl/policy/FlowGraph" ∧ Fld Z hh a "com/example/damctl/damctl/policy/FlowGraph" "calls" "I" (.int c) ∧ Fld Z hh a "com/example/damctl/damctl/policy/FlowGraph" "nodes" "I" (.int k2)) := by
  refine Con.of (plainFor_of_name (by first | (simp [plainName, overriddenIn]; done) | decide +kernel)) hE ?_
  intro p e s m below T (X : Sd l Z "com/example/damctl/damctl/policy/FlowGraph" "node" prog_35_method_2_code 1 (some .int) ({ frames := 2, cells := 0, slots := 0, locals := 29 } : Room) p e s m #[(.ref a)] below T h0 0 0)
  refine End.frame (ef_rm14 m a) ?_
  have K_0 : Keep h0 h0 [a] := Keep.refl _ _
  show End Z p e below s _ _ _ _ (mkF m 0 #[.val (.ref a)] [])
  refine E_aloadN (v := (.ref a)) (pc' := 1) X d14_0 rfl rfl rfl ?_
  refine E_iconst (v := (1 : Int32)) (pc' := 2) X d14_1 rfl rfl ?_
  refine E_callV (a := a) (pc' := 5) (W := 0) (cells' := 0) (slots' := 0) (argsL := [(.int (1 : Int32))]) (rest := []) X (rm12 l Z a0 hw a (1 : Int32) c k k2 h0 X.ext hE0 hF1 hF2 hfr3 (by decide) hov hk2) hE0 (w_114 hw) (w_99 hw) (w_101 hw) (w_100 hw) (w_2 hw) (w_102 hw) rfl (by decide) rfl rfl pd_0 rfl rfl d14_2 rfl (Nat.le_refl _) (by decide) (by decide) rfl rfl (by decide) (by decide) (fun v1 T h_2 X hQ3 => ?_)
  obtain ⟨rfl, Kc_4, E_5, F_6, F_7⟩ := hQ3
  have K_8 : Keep h0 h_2 [a] := K_0.trans Kc_4 (allS (Or.inl (List.mem_of_getElem? (i := 0) rfl)) all0)
  show End Z p e below s _ _ _ _ (mkF m 5 #[.val (.ref a)] [(.int k)])
  exact E_retI X d14_5 (by decide) (by decide) ⟨rfl, K_8, E_5, F_6, F_7⟩
theorem pd_4 : parseMethodDescriptor "()I" = some ⟨[], some .int⟩ := by decide +kernel
theorem ef_rm0 (m : MethodId) (x0 : Int32) (x1 : Int32) (x2 : Int32) : entryFrame m #[(.int x0), (.int x1), (.int x2)] 10 = mkF m 0 #[.val (.int x0), .val (.int x1), .val (.int x2), .unset, .unset, .unset, .unset, .unset, .unset, .unset] [] := by first | (simp [entryFrame, mkF, argsToLocals, Value.category]; done) | (simp [entryFrame, mkF, argsToLocals, *]; done) | rfl
set_option maxRecDepth 65536 in
set_option maxHeartbeats 2000000 in
theorem rm0 (l : Launch) (Z : State) (a0 : Array Value) (hw : ∀ d ∈ tables_1, d.before a0 Z = true) (i0 : Int32) (i1 : Int32) (i2 : Int32) (oD : Addr) (h0 : Heap) (hE : Ext Z.heap h0) (hS0 : Sta Z Z.heap "java/util/ArrayList" "DEFAULTCAPACITY_EMPTY_ELEMENTDATA" "[Ljava/lang/Object;" (.ref oD)) :
    Con l Z x code maxLocals ret room_1 #[(.int i0), (.int i1), (.int i2)] h0 (fun vv hh => vv = some (.int (1 : Int32))) := by
  refine Con.of (plainFor_of_name (by first | (simp [plainName, overriddenIn]; done) | decide +kernel)) hE ?_
  intro p e s m below T (X : Sd l Z "com/example/damctl/damctl/policy/FlowGraphCallPinLaw" "law" code 10 (some .boolean) room_1 p e s m #[(.int i0), (.int i1), (.int i2)] below T h0 0 0)
  refine End.frame (ef_rm0 m i0 i1 i2) ?_
  show End Z p e below s _ _ _ _ (mkF m 0 #[.val (.int i0), .val (.int i1), .val (.int i2), .unset, .unset, .unset, .unset, .unset, .unset, .unset] [])
  have le_o1 := X.le
  refine E_new (pc' := 3) X (cells' := 1) (slots' := 12) (w_0 hw) (w_1 hw) (w_2 hw) at_0 rfl rfl rfl (by decide) (by decide) (fun T h_2 o1 g_6 X Ex_3 Ea_4 D_5 => ?_)
  have fr_7 : Z.heap.size ≤ o1 := by rw [g_6]; exact le_o1
  refine E_dup (pc' := 4) X at_3 rfl rfl ?_
  have F_8 : Fld Z h_2 o1 "com/example/damctl/damctl/policy/FlowGraph" "locals" "Ljava/util/BitSet;" .null := (D_5 (Or.inr (w_32 hw)) (ty := (.object "java/util/BitSet")) (by decide))
  have F_9 : Fld Z h_2 o1 "com/example/damctl/damctl/policy/FlowGraph" "edgeFrom" "[I" .null := (D_5 (Or.inl (w_35 hw)) (ty := (.array .int)) (by decide))
  have F_10 : Fld Z h_2 o1 "com/example/damctl/damctl/policy/FlowGraph" "edgeTo" "[I" .null := (D_5 (Or.inl (w_37 hw)) (ty := (.array .int)) (by decide))
  have F_11 : Fld Z h_2 o1 "com/example/damctl/damctl/policy/FlowGraph" "edgeKind" "[B" .null := (D_5 (Or.inl (w_40 hw)) (ty := (.array .byte)) (by decide))
  have F_12 : Fld Z h_2 o1 "com/example/damctl/damctl/policy/FlowGraph" "edgeCall" "[I" .null := (D_5 (Or.inl (w_42 hw)) (ty := (.array .int)) (by decide))
  have F_13 : Fld Z h_2 o1 "com/example/damctl/damctl/policy/FlowGraph" "edgeSteps" "Ljava/util/Map;" .null := (D_5 (Or.inr (w_60 hw)) (ty := (.object "java/util/Map")) (by decide))
  have F_14 : Fld Z h_2 o1 "com/example/damctl/damctl/policy/FlowGraph" "sources" "Ljava/util/List;" .null := (D_5 (Or.inr (w_86 hw)) (ty := (.object "java/util/List")) (by decide))
  have F_15 : Fld Z h_2 o1 "com/example/damctl/damctl/policy/FlowGraph" "sinks" "Ljava/util/List;" .null := (D_5 (Or.inr (w_88 hw)) (ty := (.object "java/util/List")) (by decide))
  have F_16 : Fld Z h_2 o1 "com/example/damctl/damctl/policy/FlowGraph" "crossings" "Ljava/util/List;" .null := (D_5 (Or.inr (w_90 hw)) (ty := (.object "java/util/List")) (by decide))
  have F_17 : Fld Z h_2 o1 "com/example/damctl/damctl/policy/FlowGraph" "calls" "I" (.int (0 : Int32)) := (D_5 (Or.inl (w_97 hw)) (ty := .int) (by decide))
  have F_18 : Fld Z h_2 o1 "com/example/damctl/damctl/policy/FlowGraph" "nodes" "I" (.int (0 : Int32)) := (D_5 (Or.inl (w_104 hw)) (ty := .int) (by decide))
  refine E_callI (a := o1) (pc' := 7) (W := 1) (cells' := 11) (slots' := 289) (argsL := []) (rest := [(.ref o1)]) X (rm1 l Z a0 hw o1 oD h_2 X.ext hS0 Ea_4 F_8 F_9 F_10 F_11 F_12 F_13 F_14 F_15 F_16 F_17 F_18 fr_7) (w_3 hw) (w_4 hw) (w_2 hw) (w_5 hw) rfl (by decide) rfl rfl pd_2 rfl rfl at_4 rfl (Nat.le_refl _) (by decide) (by decide) rfl rfl (by decide) (by decide) (fun v19 T h_20 X hQ21 => ?_)
  obtain ⟨rfl, Kc_22, E_23, F_24, F_25⟩ := hQ21
  show End Z p e below s _ _ _ _ (mkF m 7 #[.val (.int i0), .val (.int i1), .val (.int i2), .unset, .unset, .unset, .unset, .unset, .unset, .unset] [(.ref o1)])
  refine E_astoreN (Ls' := #[.val (.int i0), .val (.int i1), .val (.int i2), .val (.ref o1), .unset, .unset, .unset, .unset, .unset, .unset]) (pc' := 8) X at_7 rfl rfl rfl ?_
  refine E_iloadN (pc' := 9) X at_8 rfl rfl ?_
  refine E_iconst (v := (2 : Int32)) (pc' := 10) X at_9 rfl rfl ?_
  refine E_iand (pc' := 11) X at_10 rfl ?_
  refine E_if (pcY := 18) (pcN := 14) X (i0_eq _) at_11 (by decide) rfl rfl (fun hc11_0 => ?_) (fun hc11_0 => ?_)
  · skip
    refine E_iconst (v := (0 : Int32)) (pc' := 19) X at_18 rfl rfl ?_
    refine E_istore (Ls' := #[.val (.int i0), .val (.int i1), .val (.int i2), .val (.ref o1), .val (.int (0 : Int32)), .unset, .unset, .unset, .unset, .unset]) (pc' := 21) X at_19 rfl rfl ?_
    refine E_iconst (v := (1 : Int32)) (pc' := 22) X at_21 rfl rfl ?_
    refine E_istore (Ls' := #[.val (.int i0), .val (.int i1), .val (.int i2), .val (.ref o1), .val (.int (0 : Int32)), .val (.int (1 : Int32)), .unset, .unset, .unset, .unset]) (pc' := 24) X at_22 rfl rfl ?_
    refine E_iconst (v := (0 : Int32)) (pc' := 25) X at_24 rfl rfl ?_
    refine E_istore (Ls' := #[.val (.int i0), .val (.int i1), .val (.int i2), .val (.ref o1), .val (.int (0 : Int32)), .val (.int (1 : Int32)), .val (.int (0 : Int32)), .unset, .unset, .unset]) (pc' := 27) X at_25 rfl rfl ?_
    refine E_iload (pc' := 29) X at_27 rfl rfl ?_
    refine E_if (pcY := 52) (pcN := 32) X (i0_eq _) at_29 (by decide) rfl rfl (fun hc29_0 => ?_) (fun hc29_0 => absurd (by decide) hc29_0)
    refine E_iloadN (pc' := 53) X at_52 rfl rfl ?_
    refine E_bipush (v := (7 : Int32)) (pc' := 55) X at_53 rfl rfl ?_
    refine E_iand (pc' := 56) X at_55 rfl ?_
    obtain ⟨n0, q_n0⟩ : ∃ z : Int32, (i0 &&& (7 : Int32)) = z := ⟨_, rfl⟩
    refine E_eqI (z := n0) q_n0 ?_
    refine E_istore (Ls' := #[.val (.int i0), .val (.int i1), .val (.int i2), .val (.ref o1), .val (.int (0 : Int32)), .val (.int (1 : Int32)), .val (.int (0 : Int32)), .val (.int n0), .unset, .unset]) (pc' := 58) X at_56 rfl rfl ?_
    have b0 : 0 ≤ n0.toInt ∧ n0.toInt ≤ 7 := by rw [← q_n0]; exact own_7 i0
    refine E_iload (pc' := 60) X at_58 rfl rfl ?_
    refine E_aloadN (v := (.ref o1)) (pc' := 61) X at_60 rfl rfl rfl ?_
    refine E_iload (pc' := 63) X at_61 rfl rfl ?_
    refine E_callV (a := o1) (pc' := 66) (W := 1) (cells' := 11) (slots' := 289) (argsL := [(.int n0)]) (rest := [(.int (1 : Int32))]) X (rm12 l Z a0 hw o1 n0 (0 : Int32) (0 : Int32) n0 h_20 X.ext E_23 F_24 F_25 fr_7 (own_nl b0.1) (own_ae _ _ b0.1 (by rw [Int32.zero_add]; exact b0.1)) (Int32.zero_add _)) E_23 (w_98 hw) (w_99 hw) (w_101 hw) (w_100 hw) (w_2 hw) (w_102 hw) rfl (by decide) rfl rfl pd_0 rfl rfl at_63 rfl (Nat.le_refl _) (by decide) (by decide) rfl rfl (by decide) (by decide) (fun v26 T h_27 X hQ28 => ?_)
    obtain ⟨rfl, Kc_29, E_30, F_31, F_32⟩ := hQ28
    show End Z p e below s _ _ _ _ (mkF m 66 #[.val (.int i0), .val (.int i1), .val (.int i2), .val (.ref o1), .val (.int (0 : Int32)), .val (.int (1 : Int32)), .val (.int (0 : Int32)), .val (.int n0), .unset, .unset] [(.int (0 : Int32)), (.int (1 : Int32))])
    refine E_if (pcY := 73) (pcN := 69) X (i0_ne _) at_66 (by decide) rfl rfl (fun hc66_0 => absurd hc66_0 (by decide)) (fun hc66_0 => ?_)
    refine E_iconst (v := (1 : Int32)) (pc' := 70) X at_69 rfl rfl ?_
    refine E_goto (pc' := 74) X at_70 (by decide) rfl ?_
    refine E_iand (pc' := 75) X at_74 rfl ?_
    refine E_eqI (z := (1 : Int32)) (by decide) ?_
    refine E_istore (Ls' := #[.val (.int i0), .val (.int i1), .val (.int i2), .val (.ref o1), .val (.int (0 : Int32)), .val (.int (1 : Int32)), .val (.int (0 : Int32)), .val (.int n0), .unset, .unset]) (pc' := 77) X at_75 rfl rfl ?_
    refine E_iload (pc' := 79) X at_77 rfl rfl ?_
    refine E_aloadN (v := (.ref o1)) (pc' := 80) X at_79 rfl rfl rfl ?_
    refine E_callV (a := o1) (pc' := 83) (W := 1) (cells' := 11) (slots' := 289) (argsL := []) (rest := [(.int (1 : Int32))]) X (rm11 l Z a0 hw o1 (0 : Int32) n0 (1 : Int32) h_27 X.ext E_30 F_31 F_32 fr_7 (by decide)) E_30 (w_91 hw) (w_92 hw) (w_94 hw) (w_93 hw) (w_2 hw) (w_95 hw) rfl (by decide) rfl rfl pd_4 rfl rfl at_80 rfl (Nat.le_refl _) (by decide) (by decide) rfl rfl (by decide) (by decide) (fun v33 T h_34 X hQ35 => ?_)
    obtain ⟨rfl, Kc_36, E_37, F_38, F_39⟩ := hQ35
    show End Z p e below s _ _ _ _ (mkF m 83 #[.val (.int i0), .val (.int i1), .val (.int i2), .val (.ref o1), .val (.int (0 : Int32)), .val (.int (1 : Int32)), .val (.int (0 : Int32)), .val (.int n0), .unset, .unset] [(.int (0 : Int32)), (.int (1 : Int32))])
    refine E_iload (pc' := 85) X at_83 rfl rfl ?_
    refine E_icmp (pcY := 92) (pcN := 88) X (ic_ne _ _) at_85 (by decide) rfl rfl (fun hc85_0 => absurd hc85_0 (by decide)) (fun hc85_0 => ?_)
    refine E_iconst (v := (1 : Int32)) (pc' := 89) X at_88 rfl rfl ?_
    refine E_goto (pc' := 93) X at_89 (by decide) rfl ?_
    refine E_iand (pc' := 94) X at_93 rfl ?_
    refine E_eqI (z := (1 : Int32)) (by decide) ?_
    refine E_istore (Ls' := #[.val (.int i0), .val (.int i1), .val (.int i2), .val (.ref o1), .val (.int (0 : Int32)), .val (.int (1 : Int32)), .val (.int (0 : Int32)), .val (.int n0), .unset, .unset]) (pc' := 96) X at_94 rfl rfl ?_
    refine E_iloadN (pc' := 97) X at_96 rfl rfl ?_
    refine E_bipush (v := (7 : Int32)) (pc' := 99) X at_97 rfl rfl ?_
    refine E_iand (pc' := 100) X at_99 rfl ?_
    obtain ⟨n1, q_n1⟩ : ∃ z : Int32, (i1 &&& (7 : Int32)) = z := ⟨_, rfl⟩
    refine E_eqI (z := n1) q_n1 ?_
    refine E_istore (Ls' := #[.val (.int i0), .val (.int i1), .val (.int i2), .val (.ref o1), .val (.int (0 : Int32)), .val (.int (1 : Int32)), .val (.int (0 : Int32)), .val (.int n0), .val (.int n1), .unset]) (pc' := 102) X at_100 rfl rfl ?_
    have b1 : 0 ≤ n1.toInt ∧ n1.toInt ≤ 7 := by rw [← q_n1]; exact own_7 i1
    have s2 := own_ad b0.1 (by omega) b1.1 (by omega)
    have s3 := own_ad (y := (1 : Int32)) s2.1 (by omega) (by decide) (by decide)
    have s4 := own_ad (y := (1 : Int32)) s3.1 (by have e1 : (1 : Int32).toInt = 1 := rfl; omega) (by decide) (by decide)
    refine E_iload (pc' := 104) X at_102 rfl rfl ?_
    refine E_aloadN (v := (.ref o1)) (pc' := 105) X at_104 rfl rfl rfl ?_
    refine E_iload (pc' := 107) X at_105 rfl rfl ?_
    refine E_callV (a := o1) (pc' := 110) (W := 1) (cells' := 11) (slots' := 289) (argsL := [(.int n1)]) (rest := [(.int (1 : Int32))]) X (rm12 l Z a0 hw o1 n1 (1 : Int32) n0 (n0 + n1) h_34 X.ext E_37 F_38 F_39 fr_7 (own_nl b1.1) (own_ae _ _ b1.1 s2.1) rfl) E_37 (w_98 hw) (w_99 hw) (w_101 hw) (w_100 hw) (w_2 hw) (w_102 hw) rfl (by decide) rfl rfl pd_0 rfl rfl at_107 rfl (Nat.le_refl _) (by decide) (by decide) rfl rfl (by decide) (by decide) (fun v40 T h_41 X hQ42 => ?_)
    obtain ⟨rfl, Kc_43, E_44, F_45, F_46⟩ := hQ42
    show End Z p e below s _ _ _ _ (mkF m 110 #[.val (.int i0), .val (.int i1), .val (.int i2), .val (.ref o1), .val (.int (0 : Int32)), .val (.int (1 : Int32)), .val (.int (0 : Int32)), .val (.int n0), .val (.int n1), .unset] [(.int n0), (.int (1 : Int32))])
    refine E_iload (pc' := 112) X at_110 rfl rfl ?_
    refine E_icmp (pcY := 119) (pcN := 115) X (ic_ne _ _) at_112 (by decide) rfl rfl (fun hc112_0 => absurd hc112_0 (fun q => q rfl)) (fun hc112_0 => ?_)
    refine E_iconst (v := (1 : Int32)) (pc' := 116) X at_115 rfl rfl ?_
    refine E_goto (pc' := 120) X at_116 (by decide) rfl ?_
    refine E_iand (pc' := 121) X at_120 rfl ?_
    refine E_eqI (z := (1 : Int32)) (by decide) ?_
    refine E_istore (Ls' := #[.val (.int i0), .val (.int i1), .val (.int i2), .val (.ref o1), .val (.int (0 : Int32)), .val (.int (1 : Int32)), .val (.int (0 : Int32)), .val (.int n0), .val (.int n1), .unset]) (pc' := 123) X at_121 rfl rfl ?_
    refine E_iload (pc' := 125) X at_123 rfl rfl ?_
    refine E_aloadN (v := (.ref o1)) (pc' := 126) X at_125 rfl rfl rfl ?_
    refine E_callV (a := o1) (pc' := 129) (W := 1) (cells' := 11) (slots' := 289) (argsL := []) (rest := [(.int (1 : Int32))]) X (rm11 l Z a0 hw o1 (1 : Int32) (n0 + n1) (2 : Int32) h_41 X.ext E_44 F_45 F_46 fr_7 (by decide)) E_44 (w_91 hw) (w_92 hw) (w_94 hw) (w_93 hw) (w_2 hw) (w_95 hw) rfl (by decide) rfl rfl pd_4 rfl rfl at_126 rfl (Nat.le_refl _) (by decide) (by decide) rfl rfl (by decide) (by decide) (fun v47 T h_48 X hQ49 => ?_)
    obtain ⟨rfl, Kc_50, E_51, F_52, F_53⟩ := hQ49
    show End Z p e below s _ _ _ _ (mkF m 129 #[.val (.int i0), .val (.int i1), .val (.int i2), .val (.ref o1), .val (.int (0 : Int32)), .val (.int (1 : Int32)), .val (.int (0 : Int32)), .val (.int n0), .val (.int n1), .unset] [(.int (1 : Int32)), (.int (1 : Int32))])
    refine E_iload (pc' := 131) X at_129 rfl rfl ?_
    refine E_iconst (v := (1 : Int32)) (pc' := 132) X at_131 rfl rfl ?_
    refine E_iadd (pc' := 133) X at_132 rfl ?_
    refine E_eqI (z := (1 : Int32)) (by decide) ?_
    refine E_icmp (pcY := 140) (pcN := 136) X (ic_ne _ _) at_133 (by decide) rfl rfl (fun hc133_0 => absurd hc133_0 (by decide)) (fun hc133_0 => ?_)
    refine E_iconst (v := (1 : Int32)) (pc' := 137) X at_136 rfl rfl ?_
    refine E_goto (pc' := 141) X at_137 (by decide) rfl ?_
    refine E_iand (pc' := 142) X at_141 rfl ?_
    refine E_eqI (z := (1 : Int32)) (by decide) ?_
    refine E_istore (Ls' := #[.val (.int i0), .val (.int i1), .val (.int i2), .val (.ref o1), .val (.int (0 : Int32)), .val (.int (1 : Int32)), .val (.int (0 : Int32)), .val (.int n0), .val (.int n1), .unset]) (pc' := 144) X at_142 rfl rfl ?_
    refine E_iconst (v := (0 : Int32)) (pc' := 145) X at_144 rfl rfl ?_
    refine E_istore (Ls' := #[.val (.int i0), .val (.int i1), .val (.int i2), .val (.ref o1), .val (.int (0 : Int32)), .val (.int (1 : Int32)), .val (.int (0 : Int32)), .val (.int n0), .val (.int n1), .val (.int (0 : Int32))]) (pc' := 147) X at_145 rfl rfl ?_
    refine E_iloadN (pc' := 148) X at_147 rfl rfl ?_
    refine E_iconst (v := (1 : Int32)) (pc' := 149) X at_148 rfl rfl ?_
    refine E_iand (pc' := 150) X at_149 rfl ?_
    refine E_if (pcY := 178) (pcN := 153) X (i0_eq _) at_150 (by decide) rfl rfl (fun hc150_0 => ?_) (fun hc150_0 => ?_)
    · skip
      refine E_iload (pc' := 180) X at_178 rfl rfl ?_
      refine E_aloadN (v := (.ref o1)) (pc' := 181) X at_180 rfl rfl rfl ?_
      refine E_callV (a := o1) (pc' := 184) (W := 1) (cells' := 11) (slots' := 289) (argsL := []) (rest := [(.int (1 : Int32))]) X (rm11 l Z a0 hw o1 (2 : Int32) (n0 + n1) (3 : Int32) h_48 X.ext E_51 F_52 F_53 fr_7 (by decide)) E_51 (w_91 hw) (w_92 hw) (w_94 hw) (w_93 hw) (w_2 hw) (w_95 hw) rfl (by decide) rfl rfl pd_4 rfl rfl at_181 rfl (Nat.le_refl _) (by decide) (by decide) rfl rfl (by decide) (by decide) (fun v54 T h_55 X hQ56 => ?_)
      obtain ⟨rfl, Kc_57, E_58, F_59, F_60⟩ := hQ56
      show End Z p e below s _ _ _ _ (mkF m 184 #[.val (.int i0), .val (.int i1), .val (.int i2), .val (.ref o1), .val (.int (0 : Int32)), .val (.int (1 : Int32)), .val (.int (0 : Int32)), .val (.int n0), .val (.int n1), .val (.int (0 : Int32))] [(.int (2 : Int32)), (.int (1 : Int32))])
      refine E_iload (pc' := 186) X at_184 rfl rfl ?_
      refine E_iconst (v := (2 : Int32)) (pc' := 187) X at_186 rfl rfl ?_
      refine E_iadd (pc' := 188) X at_187 rfl ?_
      refine E_eqI (z := (2 : Int32)) (by decide) ?_
      refine E_icmp (pcY := 195) (pcN := 191) X (ic_ne _ _) at_188 (by decide) rfl rfl (fun hc188_0 => absurd hc188_0 (by decide)) (fun hc188_0 => ?_)
      refine E_iconst (v := (1 : Int32)) (pc' := 192) X at_191 rfl rfl ?_
      refine E_goto (pc' := 196) X at_192 (by decide) rfl ?_
      refine E_iand (pc' := 197) X at_196 rfl ?_
      refine E_eqI (z := (1 : Int32)) (by decide) ?_
      refine E_istore (Ls' := #[.val (.int i0), .val (.int i1), .val (.int i2), .val (.ref o1), .val (.int (0 : Int32)), .val (.int (1 : Int32)), .val (.int (0 : Int32)), .val (.int n0), .val (.int n1), .val (.int (0 : Int32))]) (pc' := 199) X at_197 rfl rfl ?_
      refine E_iload (pc' := 201) X at_199 rfl rfl ?_
      refine E_aloadN (v := (.ref o1)) (pc' := 202) X at_201 rfl rfl rfl ?_
      refine E_callV (a := o1) (pc' := 205) (W := 1) (cells' := 11) (slots' := 289) (argsL := []) (rest := [(.int (1 : Int32))]) X (rm14 l Z a0 hw o1 (3 : Int32) (n0 + n1) ((n0 + n1) + (1 : Int32)) h_55 X.ext E_58 F_59 F_60 fr_7 (own_ae _ _ (by decide) s3.1) rfl) E_58 (w_109 hw) (w_110 hw) (w_112 hw) (w_111 hw) (w_2 hw) (w_113 hw) rfl (by decide) rfl rfl pd_4 rfl rfl at_202 rfl (Nat.le_refl _) (by decide) (by decide) rfl rfl (by decide) (by decide) (fun v61 T h_62 X hQ63 => ?_)
      obtain ⟨rfl, Kc_64, E_65, F_66, F_67⟩ := hQ63
      show End Z p e below s _ _ _ _ (mkF m 205 #[.val (.int i0), .val (.int i1), .val (.int i2), .val (.ref o1), .val (.int (0 : Int32)), .val (.int (1 : Int32)), .val (.int (0 : Int32)), .val (.int n0), .val (.int n1), .val (.int (0 : Int32))] [(.int (n0 + n1)), (.int (1 : Int32))])
      refine E_iload (pc' := 207) X at_205 rfl rfl ?_
      refine E_iload (pc' := 209) X at_207 rfl rfl ?_
      refine E_iadd (pc' := 210) X at_209 rfl ?_
      refine E_iload (pc' := 212) X at_210 rfl rfl ?_
      refine E_iadd (pc' := 213) X at_212 rfl ?_
      refine E_icmp (pcY := 220) (pcN := 216) X (ic_ne _ _) at_213 (by decide) rfl rfl (fun hc213_0 => absurd hc213_0 (fun q => q (Int32.add_zero _).symm)) (fun hc213_0 => ?_)
      refine E_iconst (v := (1 : Int32)) (pc' := 217) X at_216 rfl rfl ?_
      refine E_goto (pc' := 221) X at_217 (by decide) rfl ?_
      refine E_iand (pc' := 222) X at_221 rfl ?_
      refine E_eqI (z := (1 : Int32)) (by decide) ?_
      refine E_istore (Ls' := #[.val (.int i0), .val (.int i1), .val (.int i2), .val (.ref o1), .val (.int (0 : Int32)), .val (.int (1 : Int32)), .val (.int (0 : Int32)), .val (.int n0), .val (.int n1), .val (.int (0 : Int32))]) (pc' := 224) X at_222 rfl rfl ?_
      refine E_iload (pc' := 226) X at_224 rfl rfl ?_
      exact E_retZ (Or.inr rfl) X at_226 (by decide) (by decide) rfl
    · skip
      refine E_iload (pc' := 155) X at_153 rfl rfl ?_
      refine E_aloadN (v := (.ref o1)) (pc' := 156) X at_155 rfl rfl rfl ?_
      refine E_callV (a := o1) (pc' := 159) (W := 1) (cells' := 11) (slots' := 289) (argsL := []) (rest := [(.int (1 : Int32))]) X (rm14 l Z a0 hw o1 (2 : Int32) (n0 + n1) ((n0 + n1) + (1 : Int32)) h_48 X.ext E_51 F_52 F_53 fr_7 (own_ae _ _ (by decide) s3.1) rfl) E_51 (w_109 hw) (w_110 hw) (w_112 hw) (w_111 hw) (w_2 hw) (w_113 hw) rfl (by decide) rfl rfl pd_4 rfl rfl at_156 rfl (Nat.le_refl _) (by decide) (by decide) rfl rfl (by decide) (by decide) (fun v68 T h_69 X hQ70 => ?_)
      obtain ⟨rfl, Kc_71, E_72, F_73, F_74⟩ := hQ70
      show End Z p e below s _ _ _ _ (mkF m 159 #[.val (.int i0), .val (.int i1), .val (.int i2), .val (.ref o1), .val (.int (0 : Int32)), .val (.int (1 : Int32)), .val (.int (0 : Int32)), .val (.int n0), .val (.int n1), .val (.int (0 : Int32))] [(.int (n0 + n1)), (.int (1 : Int32))])
      refine E_iload (pc' := 161) X at_159 rfl rfl ?_
      refine E_iload (pc' := 163) X at_161 rfl rfl ?_
      refine E_iadd (pc' := 164) X at_163 rfl ?_
      refine E_icmp (pcY := 171) (pcN := 167) X (ic_ne _ _) at_164 (by decide) rfl rfl (fun hc164_0 => absurd hc164_0 (fun q => q rfl)) (fun hc164_0 => ?_)
      refine E_iconst (v := (1 : Int32)) (pc' := 168) X at_167 rfl rfl ?_
      refine E_goto (pc' := 172) X at_168 (by decide) rfl ?_
      refine E_iand (pc' := 173) X at_172 rfl ?_
      refine E_eqI (z := (1 : Int32)) (by decide) ?_
      refine E_istore (Ls' := #[.val (.int i0), .val (.int i1), .val (.int i2), .val (.ref o1), .val (.int (0 : Int32)), .val (.int (1 : Int32)), .val (.int (0 : Int32)), .val (.int n0), .val (.int n1), .val (.int (0 : Int32))]) (pc' := 175) X at_173 rfl rfl ?_
      refine E_iconst (v := (1 : Int32)) (pc' := 176) X at_175 rfl rfl ?_
      refine E_istore (Ls' := #[.val (.int i0), .val (.int i1), .val (.int i2), .val (.ref o1), .val (.int (0 : Int32)), .val (.int (1 : Int32)), .val (.int (0 : Int32)), .val (.int n0), .val (.int n1), .val (.int (1 : Int32))]) (pc' := 178) X at_176 rfl rfl ?_
      refine E_iload (pc' := 180) X at_178 rfl rfl ?_
      refine E_aloadN (v := (.ref o1)) (pc' := 181) X at_180 rfl rfl rfl ?_
      refine E_callV (a := o1) (pc' := 184) (W := 1) (cells' := 11) (slots' := 289) (argsL := []) (rest := [(.int (1 : Int32))]) X (rm11 l Z a0 hw o1 (2 : Int32) ((n0 + n1) + (1 : Int32)) (3 : Int32) h_69 X.ext E_72 F_73 F_74 fr_7 (by decide)) E_72 (w_91 hw) (w_92 hw) (w_94 hw) (w_93 hw) (w_2 hw) (w_95 hw) rfl (by decide) rfl rfl pd_4 rfl rfl at_181 rfl (Nat.le_refl _) (by decide) (by decide) rfl rfl (by decide) (by decide) (fun v75 T h_76 X hQ77 => ?_)
      obtain ⟨rfl, Kc_78, E_79, F_80, F_81⟩ := hQ77
      show End Z p e below s _ _ _ _ (mkF m 184 #[.val (.int i0), .val (.int i1), .val (.int i2), .val (.ref o1), .val (.int (0 : Int32)), .val (.int (1 : Int32)), .val (.int (0 : Int32)), .val (.int n0), .val (.int n1), .val (.int (1 : Int32))] [(.int (2 : Int32)), (.int (1 : Int32))])
      refine E_iload (pc' := 186) X at_184 rfl rfl ?_
      refine E_iconst (v := (2 : Int32)) (pc' := 187) X at_186 rfl rfl ?_
      refine E_iadd (pc' := 188) X at_187 rfl ?_
      refine E_eqI (z := (2 : Int32)) (by decide) ?_
      refine E_icmp (pcY := 195) (pcN := 191) X (ic_ne _ _) at_188 (by decide) rfl rfl (fun hc188_0 => absurd hc188_0 (by decide)) (fun hc188_0 => ?_)
      refine E_iconst (v := (1 : Int32)) (pc' := 192) X at_191 rfl rfl ?_
      refine E_goto (pc' := 196) X at_192 (by decide) rfl ?_
      refine E_iand (pc' := 197) X at_196 rfl ?_
      refine E_eqI (z := (1 : Int32)) (by decide) ?_
      refine E_istore (Ls' := #[.val (.int i0), .val (.int i1), .val (.int i2), .val (.ref o1), .val (.int (0 : Int32)), .val (.int (1 : Int32)), .val (.int (0 : Int32)), .val (.int n0), .val (.int n1), .val (.int (1 : Int32))]) (pc' := 199) X at_197 rfl rfl ?_
      refine E_iload (pc' := 201) X at_199 rfl rfl ?_
      refine E_aloadN (v := (.ref o1)) (pc' := 202) X at_201 rfl rfl rfl ?_
      refine E_callV (a := o1) (pc' := 205) (W := 1) (cells' := 11) (slots' := 289) (argsL := []) (rest := [(.int (1 : Int32))]) X (rm14 l Z a0 hw o1 (3 : Int32) ((n0 + n1) + (1 : Int32)) (((n0 + n1) + (1 : Int32)) + (1 : Int32)) h_76 X.ext E_79 F_80 F_81 fr_7 (own_ae _ _ (by decide) s4.1) rfl) E_79 (w_109 hw) (w_110 hw) (w_112 hw) (w_111 hw) (w_2 hw) (w_113 hw) rfl (by decide) rfl rfl pd_4 rfl rfl at_202 rfl (Nat.le_refl _) (by decide) (by decide) rfl rfl (by decide) (by decide) (fun v82 T h_83 X hQ84 => ?_)
      obtain ⟨rfl, Kc_85, E_86, F_87, F_88⟩ := hQ84
      show End Z p e below s _ _ _ _ (mkF m 205 #[.val (.int i0), .val (.int i1), .val (.int i2), .val (.ref o1), .val (.int (0 : Int32)), .val (.int (1 : Int32)), .val (.int (0 : Int32)), .val (.int n0), .val (.int n1), .val (.int (1 : Int32))] [(.int ((n0 + n1) + (1 : Int32))), (.int (1 : Int32))])
      refine E_iload (pc' := 207) X at_205 rfl rfl ?_
      refine E_iload (pc' := 209) X at_207 rfl rfl ?_
      refine E_iadd (pc' := 210) X at_209 rfl ?_
      refine E_iload (pc' := 212) X at_210 rfl rfl ?_
      refine E_iadd (pc' := 213) X at_212 rfl ?_
      refine E_icmp (pcY := 220) (pcN := 216) X (ic_ne _ _) at_213 (by decide) rfl rfl (fun hc213_0 => absurd hc213_0 (fun q => q rfl)) (fun hc213_0 => ?_)
      refine E_iconst (v := (1 : Int32)) (pc' := 217) X at_216 rfl rfl ?_
      refine E_goto (pc' := 221) X at_217 (by decide) rfl ?_
      refine E_iand (pc' := 222) X at_221 rfl ?_
      refine E_eqI (z := (1 : Int32)) (by decide) ?_
      refine E_istore (Ls' := #[.val (.int i0), .val (.int i1), .val (.int i2), .val (.ref o1), .val (.int (0 : Int32)), .val (.int (1 : Int32)), .val (.int (0 : Int32)), .val (.int n0), .val (.int n1), .val (.int (1 : Int32))]) (pc' := 224) X at_222 rfl rfl ?_
      refine E_iload (pc' := 226) X at_224 rfl rfl ?_
      exact E_retZ (Or.inr rfl) X at_226 (by decide) (by decide) rfl
  · skip
    refine E_iconst (v := (1 : Int32)) (pc' := 15) X at_14 rfl rfl ?_
    refine E_goto (pc' := 19) X at_15 (by decide) rfl ?_
    refine E_istore (Ls' := #[.val (.int i0), .val (.int i1), .val (.int i2), .val (.ref o1), .val (.int (1 : Int32)), .unset, .unset, .unset, .unset, .unset]) (pc' := 21) X at_19 rfl rfl ?_
    refine E_iconst (v := (1 : Int32)) (pc' := 22) X at_21 rfl rfl ?_
    refine E_istore (Ls' := #[.val (.int i0), .val (.int i1), .val (.int i2), .val (.ref o1), .val (.int (1 : Int32)), .val (.int (1 : Int32)), .unset, .unset, .unset, .unset]) (pc' := 24) X at_22 rfl rfl ?_
    refine E_iconst (v := (0 : Int32)) (pc' := 25) X at_24 rfl rfl ?_
    refine E_istore (Ls' := #[.val (.int i0), .val (.int i1), .val (.int i2), .val (.ref o1), .val (.int (1 : Int32)), .val (.int (1 : Int32)), .val (.int (0 : Int32)), .unset, .unset, .unset]) (pc' := 27) X at_25 rfl rfl ?_
    refine E_iload (pc' := 29) X at_27 rfl rfl ?_
    refine E_if (pcY := 52) (pcN := 32) X (i0_eq _) at_29 (by decide) rfl rfl (fun hc29_0 => absurd hc29_0 (by decide)) (fun hc29_0 => ?_)
    refine E_iload (pc' := 34) X at_32 rfl rfl ?_
    refine E_aloadN (v := (.ref o1)) (pc' := 35) X at_34 rfl rfl rfl ?_
    refine E_callV (a := o1) (pc' := 38) (W := 1) (cells' := 11) (slots' := 289) (argsL := []) (rest := [(.int (1 : Int32))]) X (rm11 l Z a0 hw o1 (0 : Int32) (0 : Int32) (1 : Int32) h_20 X.ext E_23 F_24 F_25 fr_7 (by decide)) E_23 (w_91 hw) (w_92 hw) (w_94 hw) (w_93 hw) (w_2 hw) (w_95 hw) rfl (by decide) rfl rfl pd_4 rfl rfl at_35 rfl (Nat.le_refl _) (by decide) (by decide) rfl rfl (by decide) (by decide) (fun v89 T h_90 X hQ91 => ?_)
    obtain ⟨rfl, Kc_92, E_93, F_94, F_95⟩ := hQ91
    show End Z p e below s _ _ _ _ (mkF m 38 #[.val (.int i0), .val (.int i1), .val (.int i2), .val (.ref o1), .val (.int (1 : Int32)), .val (.int (1 : Int32)), .val (.int (0 : Int32)), .unset, .unset, .unset] [(.int (0 : Int32)), (.int (1 : Int32))])
    refine E_if (pcY := 45) (pcN := 41) X (i0_ne _) at_38 (by decide) rfl rfl (fun hc38_0 => absurd hc38_0 (by decide)) (fun hc38_0 => ?_)
    refine E_iconst (v := (1 : Int32)) (pc' := 42) X at_41 rfl rfl ?_
    refine E_goto (pc' := 46) X at_42 (by decide) rfl ?_
    refine E_iand (pc' := 47) X at_46 rfl ?_
    refine E_eqI (z := (1 : Int32)) (by decide) ?_
    refine E_istore (Ls' := #[.val (.int i0), .val (.int i1), .val (.int i2), .val (.ref o1), .val (.int (1 : Int32)), .val (.int (1 : Int32)), .val (.int (0 : Int32)), .unset, .unset, .unset]) (pc' := 49) X at_47 rfl rfl ?_
    refine E_iconst (v := (1 : Int32)) (pc' := 50) X at_49 rfl rfl ?_
    refine E_istore (Ls' := #[.val (.int i0), .val (.int i1), .val (.int i2), .val (.ref o1), .val (.int (1 : Int32)), .val (.int (1 : Int32)), .val (.int (1 : Int32)), .unset, .unset, .unset]) (pc' := 52) X at_50 rfl rfl ?_
    refine E_iloadN (pc' := 53) X at_52 rfl rfl ?_
    refine E_bipush (v := (7 : Int32)) (pc' := 55) X at_53 rfl rfl ?_
    refine E_iand (pc' := 56) X at_55 rfl ?_
    obtain ⟨n0, q_n0⟩ : ∃ z : Int32, (i0 &&& (7 : Int32)) = z := ⟨_, rfl⟩
    refine E_eqI (z := n0) q_n0 ?_
    refine E_istore (Ls' := #[.val (.int i0), .val (.int i1), .val (.int i2), .val (.ref o1), .val (.int (1 : Int32)), .val (.int (1 : Int32)), .val (.int (1 : Int32)), .val (.int n0), .unset, .unset]) (pc' := 58) X at_56 rfl rfl ?_
    have b0 : 0 ≤ n0.toInt ∧ n0.toInt ≤ 7 := by rw [← q_n0]; exact own_7 i0
    refine E_iload (pc' := 60) X at_58 rfl rfl ?_
    refine E_aloadN (v := (.ref o1)) (pc' := 61) X at_60 rfl rfl rfl ?_
    refine E_iload (pc' := 63) X at_61 rfl rfl ?_
    refine E_callV (a := o1) (pc' := 66) (W := 1) (cells' := 11) (slots' := 289) (argsL := [(.int n0)]) (rest := [(.int (1 : Int32))]) X (rm12 l Z a0 hw o1 n0 (1 : Int32) (0 : Int32) n0 h_90 X.ext E_93 F_94 F_95 fr_7 (own_nl b0.1) (own_ae _ _ b0.1 (by rw [Int32.zero_add]; exact b0.1)) (Int32.zero_add _)) E_93 (w_98 hw) (w_99 hw) (w_101 hw) (w_100 hw) (w_2 hw) (w_102 hw) rfl (by decide) rfl rfl pd_0 rfl rfl at_63 rfl (Nat.le_refl _) (by decide) (by decide) rfl rfl (by decide) (by decide) (fun v96 T h_97 X hQ98 => ?_)
    obtain ⟨rfl, Kc_99, E_100, F_101, F_102⟩ := hQ98
    show End Z p e below s _ _ _ _ (mkF m 66 #[.val (.int i0), .val (.int i1), .val (.int i2), .val (.ref o1), .val (.int (1 : Int32)), .val (.int (1 : Int32)), .val (.int (1 : Int32)), .val (.int n0), .unset, .unset] [(.int (0 : Int32)), (.int (1 : Int32))])
    refine E_if (pcY := 73) (pcN := 69) X (i0_ne _) at_66 (by decide) rfl rfl (fun hc66_0 => absurd hc66_0 (by decide)) (fun hc66_0 => ?_)
    refine E_iconst (v := (1 : Int32)) (pc' := 70) X at_69 rfl rfl ?_
    refine E_goto (pc' := 74) X at_70 (by decide) rfl ?_
    refine E_iand (pc' := 75) X at_74 rfl ?_
    refine E_eqI (z := (1 : Int32)) (by decide) ?_
    refine E_istore (Ls' := #[.val (.int i0), .val (.int i1), .val (.int i2), .val (.ref o1), .val (.int (1 : Int32)), .val (.int (1 : Int32)), .val (.int (1 : Int32)), .val (.int n0), .unset, .unset]) (pc' := 77) X at_75 rfl rfl ?_
    refine E_iload (pc' := 79) X at_77 rfl rfl ?_
    refine E_aloadN (v := (.ref o1)) (pc' := 80) X at_79 rfl rfl rfl ?_
    refine E_callV (a := o1) (pc' := 83) (W := 1) (cells' := 11) (slots' := 289) (argsL := []) (rest := [(.int (1 : Int32))]) X (rm11 l Z a0 hw o1 (1 : Int32) n0 (2 : Int32) h_97 X.ext E_100 F_101 F_102 fr_7 (by decide)) E_100 (w_91 hw) (w_92 hw) (w_94 hw) (w_93 hw) (w_2 hw) (w_95 hw) rfl (by decide) rfl rfl pd_4 rfl rfl at_80 rfl (Nat.le_refl _) (by decide) (by decide) rfl rfl (by decide) (by decide) (fun v103 T h_104 X hQ105 => ?_)
    obtain ⟨rfl, Kc_106, E_107, F_108, F_109⟩ := hQ105
    show End Z p e below s _ _ _ _ (mkF m 83 #[.val (.int i0), .val (.int i1), .val (.int i2), .val (.ref o1), .val (.int (1 : Int32)), .val (.int (1 : Int32)), .val (.int (1 : Int32)), .val (.int n0), .unset, .unset] [(.int (1 : Int32)), (.int (1 : Int32))])
    refine E_iload (pc' := 85) X at_83 rfl rfl ?_
    refine E_icmp (pcY := 92) (pcN := 88) X (ic_ne _ _) at_85 (by decide) rfl rfl (fun hc85_0 => absurd hc85_0 (by decide)) (fun hc85_0 => ?_)
    refine E_iconst (v := (1 : Int32)) (pc' := 89) X at_88 rfl rfl ?_
    refine E_goto (pc' := 93) X at_89 (by decide) rfl ?_
    refine E_iand (pc' := 94) X at_93 rfl ?_
    refine E_eqI (z := (1 : Int32)) (by decide) ?_
    refine E_istore (Ls' := #[.val (.int i0), .val (.int i1), .val (.int i2), .val (.ref o1), .val (.int (1 : Int32)), .val (.int (1 : Int32)), .val (.int (1 : Int32)), .val (.int n0), .unset, .unset]) (pc' := 96) X at_94 rfl rfl ?_
    refine E_iloadN (pc' := 97) X at_96 rfl rfl ?_
    refine E_bipush (v := (7 : Int32)) (pc' := 99) X at_97 rfl rfl ?_
    refine E_iand (pc' := 100) X at_99 rfl ?_
    obtain ⟨n1, q_n1⟩ : ∃ z : Int32, (i1 &&& (7 : Int32)) = z := ⟨_, rfl⟩
    refine E_eqI (z := n1) q_n1 ?_
    refine E_istore (Ls' := #[.val (.int i0), .val (.int i1), .val (.int i2), .val (.ref o1), .val (.int (1 : Int32)), .val (.int (1 : Int32)), .val (.int (1 : Int32)), .val (.int n0), .val (.int n1), .unset]) (pc' := 102) X at_100 rfl rfl ?_
    have b1 : 0 ≤ n1.toInt ∧ n1.toInt ≤ 7 := by rw [← q_n1]; exact own_7 i1
    have s2 := own_ad b0.1 (by omega) b1.1 (by omega)
    have s3 := own_ad (y := (1 : Int32)) s2.1 (by omega) (by decide) (by decide)
    have s4 := own_ad (y := (1 : Int32)) s3.1 (by have e1 : (1 : Int32).toInt = 1 := rfl; omega) (by decide) (by decide)
    refine E_iload (pc' := 104) X at_102 rfl rfl ?_
    refine E_aloadN (v := (.ref o1)) (pc' := 105) X at_104 rfl rfl rfl ?_
    refine E_iload (pc' := 107) X at_105 rfl rfl ?_
    refine E_callV (a := o1) (pc' := 110) (W := 1) (cells' := 11) (slots' := 289) (argsL := [(.int n1)]) (rest := [(.int (1 : Int32))]) X (rm12 l Z a0 hw o1 n1 (2 : Int32) n0 (n0 + n1) h_104 X.ext E_107 F_108 F_109 fr_7 (own_nl b1.1) (own_ae _ _ b1.1 s2.1) rfl) E_107 (w_98 hw) (w_99 hw) (w_101 hw) (w_100 hw) (w_2 hw) (w_102 hw) rfl (by decide) rfl rfl pd_0 rfl rfl at_107 rfl (Nat.le_refl _) (by decide) (by decide) rfl rfl (by decide) (by decide) (fun v110 T h_111 X hQ112 => ?_)
    obtain ⟨rfl, Kc_113, E_114, F_115, F_116⟩ := hQ112
    show End Z p e below s _ _ _ _ (mkF m 110 #[.val (.int i0), .val (.int i1), .val (.int i2), .val (.ref o1), .val (.int (1 : Int32)), .val (.int (1 : Int32)), .val (.int (1 : Int32)), .val (.int n0), .val (.int n1), .unset] [(.int n0), (.int (1 : Int32))])
    refine E_iload (pc' := 112) X at_110 rfl rfl ?_
    refine E_icmp (pcY := 119) (pcN := 115) X (ic_ne _ _) at_112 (by decide) rfl rfl (fun hc112_0 => absurd hc112_0 (fun q => q rfl)) (fun hc112_0 => ?_)
    refine E_iconst (v := (1 : Int32)) (pc' := 116) X at_115 rfl rfl ?_
    refine E_goto (pc' := 120) X at_116 (by decide) rfl ?_
    refine E_iand (pc' := 121) X at_120 rfl ?_
    refine E_eqI (z := (1 : Int32)) (by decide) ?_
    refine E_istore (Ls' := #[.val (.int i0), .val (.int i1), .val (.int i2), .val (.ref o1), .val (.int (1 : Int32)), .val (.int (1 : Int32)), .val (.int (1 : Int32)), .val (.int n0), .val (.int n1), .unset]) (pc' := 123) X at_121 rfl rfl ?_
    refine E_iload (pc' := 125) X at_123 rfl rfl ?_
    refine E_aloadN (v := (.ref o1)) (pc' := 126) X at_125 rfl rfl rfl ?_
    refine E_callV (a := o1) (pc' := 129) (W := 1) (cells' := 11) (slots' := 289) (argsL := []) (rest := [(.int (1 : Int32))]) X (rm11 l Z a0 hw o1 (2 : Int32) (n0 + n1) (3 : Int32) h_111 X.ext E_114 F_115 F_116 fr_7 (by decide)) E_114 (w_91 hw) (w_92 hw) (w_94 hw) (w_93 hw) (w_2 hw) (w_95 hw) rfl (by decide) rfl rfl pd_4 rfl rfl at_126 rfl (Nat.le_refl _) (by decide) (by decide) rfl rfl (by decide) (by decide) (fun v117 T h_118 X hQ119 => ?_)
    obtain ⟨rfl, Kc_120, E_121, F_122, F_123⟩ := hQ119
    show End Z p e below s _ _ _ _ (mkF m 129 #[.val (.int i0), .val (.int i1), .val (.int i2), .val (.ref o1), .val (.int (1 : Int32)), .val (.int (1 : Int32)), .val (.int (1 : Int32)), .val (.int n0), .val (.int n1), .unset] [(.int (2 : Int32)), (.int (1 : Int32))])
    refine E_iload (pc' := 131) X at_129 rfl rfl ?_
    refine E_iconst (v := (1 : Int32)) (pc' := 132) X at_131 rfl rfl ?_
    refine E_iadd (pc' := 133) X at_132 rfl ?_
    refine E_eqI (z := (2 : Int32)) (by decide) ?_
    refine E_icmp (pcY := 140) (pcN := 136) X (ic_ne _ _) at_133 (by decide) rfl rfl (fun hc133_0 => absurd hc133_0 (by decide)) (fun hc133_0 => ?_)
    refine E_iconst (v := (1 : Int32)) (pc' := 137) X at_136 rfl rfl ?_
    refine E_goto (pc' := 141) X at_137 (by decide) rfl ?_
    refine E_iand (pc' := 142) X at_141 rfl ?_
    refine E_eqI (z := (1 : Int32)) (by decide) ?_
    refine E_istore (Ls' := #[.val (.int i0), .val (.int i1), .val (.int i2), .val (.ref o1), .val (.int (1 : Int32)), .val (.int (1 : Int32)), .val (.int (1 : Int32)), .val (.int n0), .val (.int n1), .unset]) (pc' := 144) X at_142 rfl rfl ?_
    refine E_iconst (v := (0 : Int32)) (pc' := 145) X at_144 rfl rfl ?_
    refine E_istore (Ls' := #[.val (.int i0), .val (.int i1), .val (.int i2), .val (.ref o1), .val (.int (1 : Int32)), .val (.int (1 : Int32)), .val (.int (1 : Int32)), .val (.int n0), .val (.int n1), .val (.int (0 : Int32))]) (pc' := 147) X at_145 rfl rfl ?_
    refine E_iloadN (pc' := 148) X at_147 rfl rfl ?_
    refine E_iconst (v := (1 : Int32)) (pc' := 149) X at_148 rfl rfl ?_
    refine E_iand (pc' := 150) X at_149 rfl ?_
    refine E_if (pcY := 178) (pcN := 153) X (i0_eq _) at_150 (by decide) rfl rfl (fun hc150_0 => ?_) (fun hc150_0 => ?_)
    · skip
      refine E_iload (pc' := 180) X at_178 rfl rfl ?_
      refine E_aloadN (v := (.ref o1)) (pc' := 181) X at_180 rfl rfl rfl ?_
      refine E_callV (a := o1) (pc' := 184) (W := 1) (cells' := 11) (slots' := 289) (argsL := []) (rest := [(.int (1 : Int32))]) X (rm11 l Z a0 hw o1 (3 : Int32) (n0 + n1) (4 : Int32) h_118 X.ext E_121 F_122 F_123 fr_7 (by decide)) E_121 (w_91 hw) (w_92 hw) (w_94 hw) (w_93 hw) (w_2 hw) (w_95 hw) rfl (by decide) rfl rfl pd_4 rfl rfl at_181 rfl (Nat.le_refl _) (by decide) (by decide) rfl rfl (by decide) (by decide) (fun v124 T h_125 X hQ126 => ?_)
      obtain ⟨rfl, Kc_127, E_128, F_129, F_130⟩ := hQ126
      show End Z p e below s _ _ _ _ (mkF m 184 #[.val (.int i0), .val (.int i1), .val (.int i2), .val (.ref o1), .val (.int (1 : Int32)), .val (.int (1 : Int32)), .val (.int (1 : Int32)), .val (.int n0), .val (.int n1), .val (.int (0 : Int32))] [(.int (3 : Int32)), (.int (1 : Int32))])
      refine E_iload (pc' := 186) X at_184 rfl rfl ?_
      refine E_iconst (v := (2 : Int32)) (pc' := 187) X at_186 rfl rfl ?_
      refine E_iadd (pc' := 188) X at_187 rfl ?_
      refine E_eqI (z := (3 : Int32)) (by decide) ?_
      refine E_icmp (pcY := 195) (pcN := 191) X (ic_ne _ _) at_188 (by decide) rfl rfl (fun hc188_0 => absurd hc188_0 (by decide)) (fun hc188_0 => ?_)
      refine E_iconst (v := (1 : Int32)) (pc' := 192) X at_191 rfl rfl ?_
      refine E_goto (pc' := 196) X at_192 (by decide) rfl ?_
      refine E_iand (pc' := 197) X at_196 rfl ?_
      refine E_eqI (z := (1 : Int32)) (by decide) ?_
      refine E_istore (Ls' := #[.val (.int i0), .val (.int i1), .val (.int i2), .val (.ref o1), .val (.int (1 : Int32)), .val (.int (1 : Int32)), .val (.int (1 : Int32)), .val (.int n0), .val (.int n1), .val (.int (0 : Int32))]) (pc' := 199) X at_197 rfl rfl ?_
      refine E_iload (pc' := 201) X at_199 rfl rfl ?_
      refine E_aloadN (v := (.ref o1)) (pc' := 202) X at_201 rfl rfl rfl ?_
      refine E_callV (a := o1) (pc' := 205) (W := 1) (cells' := 11) (slots' := 289) (argsL := []) (rest := [(.int (1 : Int32))]) X (rm14 l Z a0 hw o1 (4 : Int32) (n0 + n1) ((n0 + n1) + (1 : Int32)) h_125 X.ext E_128 F_129 F_130 fr_7 (own_ae _ _ (by decide) s3.1) rfl) E_128 (w_109 hw) (w_110 hw) (w_112 hw) (w_111 hw) (w_2 hw) (w_113 hw) rfl (by decide) rfl rfl pd_4 rfl rfl at_202 rfl (Nat.le_refl _) (by decide) (by decide) rfl rfl (by decide) (by decide) (fun v131 T h_132 X hQ133 => ?_)
      obtain ⟨rfl, Kc_134, E_135, F_136, F_137⟩ := hQ133
      show End Z p e below s _ _ _ _ (mkF m 205 #[.val (.int i0), .val (.int i1), .val (.int i2), .val (.ref o1), .val (.int (1 : Int32)), .val (.int (1 : Int32)), .val (.int (1 : Int32)), .val (.int n0), .val (.int n1), .val (.int (0 : Int32))] [(.int (n0 + n1)), (.int (1 : Int32))])
      refine E_iload (pc' := 207) X at_205 rfl rfl ?_
      refine E_iload (pc' := 209) X at_207 rfl rfl ?_
      refine E_iadd (pc' := 210) X at_209 rfl ?_
      refine E_iload (pc' := 212) X at_210 rfl rfl ?_
      refine E_iadd (pc' := 213) X at_212 rfl ?_
      refine E_icmp (pcY := 220) (pcN := 216) X (ic_ne _ _) at_213 (by decide) rfl rfl (fun hc213_0 => absurd hc213_0 (fun q => q (Int32.add_zero _).symm)) (fun hc213_0 => ?_)
      refine E_iconst (v := (1 : Int32)) (pc' := 217) X at_216 rfl rfl ?_
      refine E_goto (pc' := 221) X at_217 (by decide) rfl ?_
      refine E_iand (pc' := 222) X at_221 rfl ?_
      refine E_eqI (z := (1 : Int32)) (by decide) ?_
      refine E_istore (Ls' := #[.val (.int i0), .val (.int i1), .val (.int i2), .val (.ref o1), .val (.int (1 : Int32)), .val (.int (1 : Int32)), .val (.int (1 : Int32)), .val (.int n0), .val (.int n1), .val (.int (0 : Int32))]) (pc' := 224) X at_222 rfl rfl ?_
      refine E_iload (pc' := 226) X at_224 rfl rfl ?_
      exact E_retZ (Or.inr rfl) X at_226 (by decide) (by decide) rfl
    · skip
      refine E_iload (pc' := 155) X at_153 rfl rfl ?_
      refine E_aloadN (v := (.ref o1)) (pc' := 156) X at_155 rfl rfl rfl ?_
      refine E_callV (a := o1) (pc' := 159) (W := 1) (cells' := 11) (slots' := 289) (argsL := []) (rest := [(.int (1 : Int32))]) X (rm14 l Z a0 hw o1 (3 : Int32) (n0 + n1) ((n0 + n1) + (1 : Int32)) h_118 X.ext E_121 F_122 F_123 fr_7 (own_ae _ _ (by decide) s3.1) rfl) E_121 (w_109 hw) (w_110 hw) (w_112 hw) (w_111 hw) (w_2 hw) (w_113 hw) rfl (by decide) rfl rfl pd_4 rfl rfl at_156 rfl (Nat.le_refl _) (by decide) (by decide) rfl rfl (by decide) (by decide) (fun v138 T h_139 X hQ140 => ?_)
      obtain ⟨rfl, Kc_141, E_142, F_143, F_144⟩ := hQ140
      show End Z p e below s _ _ _ _ (mkF m 159 #[.val (.int i0), .val (.int i1), .val (.int i2), .val (.ref o1), .val (.int (1 : Int32)), .val (.int (1 : Int32)), .val (.int (1 : Int32)), .val (.int n0), .val (.int n1), .val (.int (0 : Int32))] [(.int (n0 + n1)), (.int (1 : Int32))])
      refine E_iload (pc' := 161) X at_159 rfl rfl ?_
      refine E_iload (pc' := 163) X at_161 rfl rfl ?_
      refine E_iadd (pc' := 164) X at_163 rfl ?_
      refine E_icmp (pcY := 171) (pcN := 167) X (ic_ne _ _) at_164 (by decide) rfl rfl (fun hc164_0 => absurd hc164_0 (fun q => q rfl)) (fun hc164_0 => ?_)
      refine E_iconst (v := (1 : Int32)) (pc' := 168) X at_167 rfl rfl ?_
      refine E_goto (pc' := 172) X at_168 (by decide) rfl ?_
      refine E_iand (pc' := 173) X at_172 rfl ?_
      refine E_eqI (z := (1 : Int32)) (by decide) ?_
      refine E_istore (Ls' := #[.val (.int i0), .val (.int i1), .val (.int i2), .val (.ref o1), .val (.int (1 : Int32)), .val (.int (1 : Int32)), .val (.int (1 : Int32)), .val (.int n0), .val (.int n1), .val (.int (0 : Int32))]) (pc' := 175) X at_173 rfl rfl ?_
      refine E_iconst (v := (1 : Int32)) (pc' := 176) X at_175 rfl rfl ?_
      refine E_istore (Ls' := #[.val (.int i0), .val (.int i1), .val (.int i2), .val (.ref o1), .val (.int (1 : Int32)), .val (.int (1 : Int32)), .val (.int (1 : Int32)), .val (.int n0), .val (.int n1), .val (.int (1 : Int32))]) (pc' := 178) X at_176 rfl rfl ?_
      refine E_iload (pc' := 180) X at_178 rfl rfl ?_
      refine E_aloadN (v := (.ref o1)) (pc' := 181) X at_180 rfl rfl rfl ?_
      refine E_callV (a := o1) (pc' := 184) (W := 1) (cells' := 11) (slots' := 289) (argsL := []) (rest := [(.int (1 : Int32))]) X (rm11 l Z a0 hw o1 (3 : Int32) ((n0 + n1) + (1 : Int32)) (4 : Int32) h_139 X.ext E_142 F_143 F_144 fr_7 (by decide)) E_142 (w_91 hw) (w_92 hw) (w_94 hw) (w_93 hw) (w_2 hw) (w_95 hw) rfl (by decide) rfl rfl pd_4 rfl rfl at_181 rfl (Nat.le_refl _) (by decide) (by decide) rfl rfl (by decide) (by decide) (fun v145 T h_146 X hQ147 => ?_)
      obtain ⟨rfl, Kc_148, E_149, F_150, F_151⟩ := hQ147
      show End Z p e below s _ _ _ _ (mkF m 184 #[.val (.int i0), .val (.int i1), .val (.int i2), .val (.ref o1), .val (.int (1 : Int32)), .val (.int (1 : Int32)), .val (.int (1 : Int32)), .val (.int n0), .val (.int n1), .val (.int (1 : Int32))] [(.int (3 : Int32)), (.int (1 : Int32))])
      refine E_iload (pc' := 186) X at_184 rfl rfl ?_
      refine E_iconst (v := (2 : Int32)) (pc' := 187) X at_186 rfl rfl ?_
      refine E_iadd (pc' := 188) X at_187 rfl ?_
      refine E_eqI (z := (3 : Int32)) (by decide) ?_
      refine E_icmp (pcY := 195) (pcN := 191) X (ic_ne _ _) at_188 (by decide) rfl rfl (fun hc188_0 => absurd hc188_0 (by decide)) (fun hc188_0 => ?_)
      refine E_iconst (v := (1 : Int32)) (pc' := 192) X at_191 rfl rfl ?_
      refine E_goto (pc' := 196) X at_192 (by decide) rfl ?_
      refine E_iand (pc' := 197) X at_196 rfl ?_
      refine E_eqI (z := (1 : Int32)) (by decide) ?_
      refine E_istore (Ls' := #[.val (.int i0), .val (.int i1), .val (.int i2), .val (.ref o1), .val (.int (1 : Int32)), .val (.int (1 : Int32)), .val (.int (1 : Int32)), .val (.int n0), .val (.int n1), .val (.int (1 : Int32))]) (pc' := 199) X at_197 rfl rfl ?_
      refine E_iload (pc' := 201) X at_199 rfl rfl ?_
      refine E_aloadN (v := (.ref o1)) (pc' := 202) X at_201 rfl rfl rfl ?_
      refine E_callV (a := o1) (pc' := 205) (W := 1) (cells' := 11) (slots' := 289) (argsL := []) (rest := [(.int (1 : Int32))]) X (rm14 l Z a0 hw o1 (4 : Int32) ((n0 + n1) + (1 : Int32)) (((n0 + n1) + (1 : Int32)) + (1 : Int32)) h_146 X.ext E_149 F_150 F_151 fr_7 (own_ae _ _ (by decide) s4.1) rfl) E_149 (w_109 hw) (w_110 hw) (w_112 hw) (w_111 hw) (w_2 hw) (w_113 hw) rfl (by decide) rfl rfl pd_4 rfl rfl at_202 rfl (Nat.le_refl _) (by decide) (by decide) rfl rfl (by decide) (by decide) (fun v152 T h_153 X hQ154 => ?_)
      obtain ⟨rfl, Kc_155, E_156, F_157, F_158⟩ := hQ154
      show End Z p e below s _ _ _ _ (mkF m 205 #[.val (.int i0), .val (.int i1), .val (.int i2), .val (.ref o1), .val (.int (1 : Int32)), .val (.int (1 : Int32)), .val (.int (1 : Int32)), .val (.int n0), .val (.int n1), .val (.int (1 : Int32))] [(.int ((n0 + n1) + (1 : Int32))), (.int (1 : Int32))])
      refine E_iload (pc' := 207) X at_205 rfl rfl ?_
      refine E_iload (pc' := 209) X at_207 rfl rfl ?_
      refine E_iadd (pc' := 210) X at_209 rfl ?_
      refine E_iload (pc' := 212) X at_210 rfl rfl ?_
      refine E_iadd (pc' := 213) X at_212 rfl ?_
      refine E_icmp (pcY := 220) (pcN := 216) X (ic_ne _ _) at_213 (by decide) rfl rfl (fun hc213_0 => absurd hc213_0 (fun q => q rfl)) (fun hc213_0 => ?_)
      refine E_iconst (v := (1 : Int32)) (pc' := 217) X at_216 rfl rfl ?_
      refine E_goto (pc' := 221) X at_217 (by decide) rfl ?_
      refine E_iand (pc' := 222) X at_221 rfl ?_
      refine E_eqI (z := (1 : Int32)) (by decide) ?_
      refine E_istore (Ls' := #[.val (.int i0), .val (.int i1), .val (.int i2), .val (.ref o1), .val (.int (1 : Int32)), .val (.int (1 : Int32)), .val (.int (1 : Int32)), .val (.int n0), .val (.int n1), .val (.int (1 : Int32))]) (pc' := 224) X at_222 rfl rfl ?_
      refine E_iload (pc' := 226) X at_224 rfl rfl ?_
      exact E_retZ (Or.inr rfl) X at_226 (by decide) (by decide) rfl
set_option maxRecDepth 65536 in
set_option maxHeartbeats 2000000 in
theorem comes_1 {Post : Tables → Env → Array Value → State → Outcome → State → Prop} (hpost : ∀ tb e args s v u, (limb_1_1.after args s (.returned v) u = true ∧ limb_1_2.after args s (.returned v) u = true ∧ True) → FrameEnd s (.returned v) u (Jvm.fieldLocs frame_1_writes args s ++ Jvm.arrayLocs frame_1_arrays args s ++ Jvm.staticLocs frame_1_statics s) 32 704 → Post tb e args s (.returned v) u) :
    ArmFor flags0 classFile x code maxLocals ret World_1 tables_1 room_1 Calls_1 rest_1 Pre_1 Post := by
  intro l hfl _ _ p e ha hc hk s m args below hf hA hF happ hP
  obtain ⟨hcalls, hrest, hpre⟩ := hP
  obtain ⟨-, -, -, hnamed, -, -, -, hat⟩ := (Spec.applies_iff hf).mp happ
  obtain ⟨hg, hn⟩ := and_e (Cond.before_iff.mp (show (Jvm.Cond.and given_1 narrow_1).before args s = true from hpre))
  obtain ⟨hcnt, hrst⟩ := and_e hg
  obtain ⟨hk0, hrst⟩ := and_e hrst
  obtain ⟨hk1, hrst⟩ := and_e hrst
  have hk2 := hrst
  obtain ⟨w0, w1, w2, rfl⟩ : ∃ w0 w1 w2 : Value, args = #[w0, w1, w2] := by
    have hs : args.size = 3 := by simpa [Cond.value, given_1] using hcnt
    obtain ⟨L⟩ := args
    match L, hs with
    | [w0, w1, w2], _ => exact ⟨w0, w1, w2, rfl⟩
  have hw := fun d (hd : d ∈ tables_1) => atoms_spec (ws := Jvm.Cond.code x code maxLocals ret :: tables_1) hat d (List.mem_cons_of_mem _ hd)
  obtain ⟨hsets, hown0⟩ := atoms_of _ (rest_1_c_eq ▸ (show rest_1_c.before _ s = true from hrest))
  have hr0 := Cond.before_iff.mp hown0
  have hfit : Fit s := fun {y c} hc i hi => by
    obtain ⟨ha, rfl⟩ := Array.getElem?_eq_some_iff.mp hc
    have q := List.all_eq_true.mp ((Array.all_eq_true_iff_forall_mem.mp hF) _ (Array.getElem_mem ha)) i (List.mem_range.mpr hi)
    simpa [Array.getElem?_eq_getElem hi] using q
  obtain ⟨i0, e0⟩ := is_v hk0
  obtain rfl : w0 = (.int i0) := Option.some.inj e0
  obtain ⟨i1, e1⟩ := is_v hk1
  obtain rfl : w1 = (.int i1) := Option.some.inj e1
  obtain ⟨i2, e2⟩ := is_v hk2
  obtain rfl : w2 = (.int i2) := Option.some.inj e2
  obtain ⟨oD, evD, ED⟩ := own_exa (Cond.before_iff.mp (hsets _ (List.mem_of_getElem? (i := 7) rfl)))
  have SD := Sta.start evD (Or.inr ⟨(w_63 hw), hsets _ (List.mem_of_getElem? (i := 2) rfl)⟩)
  obtain ⟨n, o, h1, h2, h3, _, L, rfl, ⟨N, _, rfl⟩, hq⟩ := rm0 l s _ hw i0 i1 i2 oD s.heap (Ext.refl _) SD tables_1 p e ha hc hk s m _ below hf ((Spec.applies_iff_loose hf).mp happ).1 ⟨rfl, State.Warmed39.refl s, rfl⟩ trivial
  refine ⟨n, _, h1, h2, h3, hpost _ _ _ _ _ _ ⟨Cond.after_iff.mpr rfl, Cond.after_iff.mpr (eq_i res_at (Term.int_eval (1)) rfl), trivial⟩ ⟨hq.1, hq.2.1, (hq.2.2.sift fun y hy => Or.inr (N y hy)).mono (by decide) (by decide)⟩⟩
theorem main_1_1 : Claimed_1_1 := comes_1 fun _ _ _ _ _ _ h hF => ⟨h.1, hF⟩
theorem main_1_2 : Claimed_1_2 := comes_1 fun _ _ _ _ _ _ h hF => ⟨h.2.1, hF⟩
end Jvm.Pilot.@@N@@
namespace Jvm.Pilot.@@N@@
open Jvm Jvm.ClassFile Sem Op Lib Jvm.Free Jvm.Stand Jvm.Pilot.@@N@@.Jvm.D
/-! MADE BY PROGRAM (witnessworld.py) out of the Statement's table words and the real class files: 25 classes; the members and pool entries that the words name. The judged class is class 1, her method 1. -/
namespace start1
open Jvm.ClassFile
def u (s : String) : CpInfo := .utf8 (stringToUtf16 s)
/-- a pool by its gaps: so many unusable entries, then the entry; so many at the end -/
def gap : Nat → List CpInfo → List CpInfo
  | 0, r => r
  | n + 1, r => .unusable :: gap n r
def poolList (es : List (Nat × CpInfo)) (last : Nat) : List CpInfo := es.foldr (fun e r => gap e.1 (e.2 :: r)) (gap last [])
def pool (es : List (Nat × CpInfo)) (last : Nat) : Array CpInfo := ⟨poolList es last⟩
def fileOf (pool : Array CpInfo) (this : Nat) (attrs : Array Attribute := #[]) (ms : Array MethodInfo := #[]) (fl : Nat := 33) (sup : Nat := 0) (ifs : Array Nat := #[]) (fds : Array FieldInfo := #[]) : ClassFile where
  minorVersion := 0
  majorVersion := 65
  constantPool := pool
  accessFlags := fl
  thisClass := this
  superClass := sup
  interfaces := ifs
  fields := fds
  methods := ms
  attributes := attrs
def plain (name : String) (sup : Option ClassId) : Class where
  name := name
  kind := .ordinary
  loader := none
  accessFlags := 33
  super := sup
  interfaces := #[]
  cf := none
  fields := #[]
  methods := #[]
  instanceTypes := #[]
  staticTypes := #[]
  resolved := #[]
  callSites := []
  init := .initialized
  statics := none
  mirror := none

def pool0 : Array CpInfo := pool [(5, u "<init>"), (0, u "()V"), (1, .class_ 10), (1, u "java/lang/Object")] 113

def k0c0 : Code := { maxStack := 0, maxLocals := 1, code := object_method_1_code, exceptionTable := #[], attributes := #[] }
def k0m0 : Method := { name := "<init>", desc := "()V", sig := { parameters := [], returnType := none }, accessFlags := 1, code := some k0c0 }
/-- java/lang/Object -/
def k0 : Class := { plain "java/lang/Object" none with
  accessFlags := 33
  interfaces := #[]
  cf := some (fileOf pool0 8 #[] #[{ accessFlags := 1, nameIndex := 5, descriptorIndex := 6, attributes := #[] }] 33 0 #[] #[])
  fields := #[]
  methods := #[k0m0]
  instanceTypes := #[]
  staticTypes := #[]
  resolved := Array.replicate 124 none
  statics := none }

def pool1 : Array CpInfo := pool [(2, .class_ 4), (0, .nameAndType 5 6), (0, u "java/lang/Object"), (0, u "<init>"), (0, u "()V"), (0, .class_ 8), (0, u "com/example/damctl/damctl/policy/FlowGraph"), (0, .methodref 7 3), (0, .methodref 7 11), (0, .nameAndType 12 13), (0, u "call"), (0, u "()I"), (0, .methodref 7 15), (0, .nameAndType 16 17), (0, u "nodes"), (0, u "(I)I"), (0, .methodref 7 19), (0, .nameAndType 20 13), (0, u "node"), (0, .class_ 22), (0, u "com/example/damctl/damctl/policy/FlowGraphCallPinLaw"), (2, u "law"), (0, u "(III)Z")] 3

def k1m0 : Method := { name := "<init>", desc := "()V", sig := { parameters := [], returnType := none }, accessFlags := 1, code := none }
def k1c1 : Code := { maxStack := 4, maxLocals := 10, code := code, exceptionTable := #[], attributes := #[] }
def k1m1 : Method := { name := "law", desc := "(III)Z", sig := { parameters := [.int, .int, .int], returnType := some .boolean }, accessFlags := 9, code := some k1c1 }
/-- com/example/damctl/damctl/policy/FlowGraphCallPinLaw -/
def k1 : Class := { plain "com/example/damctl/damctl/policy/FlowGraphCallPinLaw" (some 0) with
  accessFlags := 49
  interfaces := #[]
  cf := some (fileOf pool1 21 #[] #[{ accessFlags := 1, nameIndex := 5, descriptorIndex := 6, attributes := #[] }, { accessFlags := 9, nameIndex := 25, descriptorIndex := 26, attributes := #[] }] 49 2 #[] #[])
  fields := #[]
  methods := #[k1m0, k1m1]
  instanceTypes := #[]
  staticTypes := #[]
  resolved := Array.replicate 30 none
  statics := none }

def pool2 : Array CpInfo := pool [(1, .methodref 2 3), (0, .class_ 4), (0, .nameAndType 5 6), (0, u "java/lang/Object"), (0, u "<init>"), (0, u "()V"), (0, .class_ 8), (0, u "java/util/BitSet"), (0, .methodref 7 3), (0, .fieldref 11 12), (0, .class_ 13), (0, .nameAndType 14 15), (0, u "com/example/damctl/damctl/policy/FlowGraph"), (0, u "locals"), (0, u "Ljava/util/BitSet;"), (0, .fieldref 11 17), (0, .nameAndType 18 19), (0, u "edgeFrom"), (0, u "[I"), (0, .fieldref 11 21), (0, .nameAndType 22 19), (0, u "edgeTo"), (0, .fieldref 11 24), (0, .nameAndType 25 26), (0, u "edgeKind"), (0, u "[B"), (0, .fieldref 11 28), (0, .nameAndType 29 19), (0, u "edgeCall"), (0, .class_ 31), (0, u "java/util/HashMap"), (0, .methodref 30 3), (0, .fieldref 11 34), (0, .nameAndType 35 36), (0, u "edgeSteps"), (0, u "Ljava/util/Map;"), (0, .class_ 38), (0, u "java/util/ArrayList"), (0, .methodref 37 3), (0, .fieldref 11 41), (0, .nameAndType 42 43), (0, u "sources"), (0, u "Ljava/util/List;"), (0, .fieldref 11 45), (0, .nameAndType 46 43), (0, u "sinks"), (0, .fieldref 11 48), (0, .nameAndType 49 43), (0, u "crossings"), (0, .methodref 11 51), (0, .nameAndType 52 53), (0, u "nodes"), (0, u "(I)I"), (9, .fieldref 11 64), (0, .nameAndType 52 65), (0, u "I"), (0, .methodref 67 68), (0, .class_ 69), (0, .nameAndType 70 71), (0, u "java/lang/Math"), (0, u "addExact"), (0, u "(II)I"), (4, .fieldref 11 77), (0, .nameAndType 78 65), (0, u "calls"), (1, .class_ 82), (1, u "com/example/damctl/damctl/policy/FlowGraph$Kind"), (30, u "edges"), (12, u "()I"), (30, .class_ 158), (0, u "com/example/damctl/damctl/policy/FlowGraph$Endpoint"), (9, .class_ 169), (0, u "com/example/damctl/damctl/policy/FlowGraph$Crossing"), (3, .class_ 174), (0, u "com/example/damctl/damctl/policy/FlowGraph$Summaries"), (7, .class_ 183), (0, u "com/example/damctl/damctl/policy/FlowGraph$Index"), (25, u "call"), (16, u "node"), (31, .class_ 260), (1, u "com/example/damctl/damctl/policy/FlowGraph$Search"), (69, u "FREE"), (2, u "INSIDE"), (50, .class_ 385), (0, u "com/example/damctl/damctl/policy/FlowGraph$Ints")] 89

def k2c0 : Code := { maxStack := 3, maxLocals := 1, code := prog_35_method_1_code, exceptionTable := #[], attributes := #[] }
def k2m0 : Method := { name := "<init>", desc := "()V", sig := { parameters := [], returnType := none }, accessFlags := 1, code := some k2c0 }
def k2c1 : Code := { maxStack := 2, maxLocals := 1, code := prog_35_method_2_code, exceptionTable := #[], attributes := #[] }
def k2m1 : Method := { name := "node", desc := "()I", sig := { parameters := [], returnType := some .int }, accessFlags := 1, code := some k2c1 }
def k2c2 : Code := { maxStack := 3, maxLocals := 3, code := prog_35_method_3_code, exceptionTable := #[], attributes := #[] }
def k2m2 : Method := { name := "nodes", desc := "(I)I", sig := { parameters := [.int], returnType := some .int }, accessFlags := 1, code := some k2c2 }
def k2c3 : Code := { maxStack := 4, maxLocals := 1, code := prog_35_method_5_code, exceptionTable := #[], attributes := #[] }
def k2m3 : Method := { name := "call", desc := "()I", sig := { parameters := [], returnType := some .int }, accessFlags := 1, code := some k2c3 }
/-- com/example/damctl/damctl/policy/FlowGraph -/
def k2 : Class := { plain "com/example/damctl/damctl/policy/FlowGraph" (some 0) with
  accessFlags := 49
  interfaces := #[]
  cf := some (fileOf pool2 11 #[.nestMembers #[157, 168, 258, 173, 384, 182, 80]] #[{ accessFlags := 1, nameIndex := 5, descriptorIndex := 6, attributes := #[] }, { accessFlags := 1, nameIndex := 226, descriptorIndex := 126, attributes := #[] }, { accessFlags := 1, nameIndex := 52, descriptorIndex := 53, attributes := #[] }, { accessFlags := 1, nameIndex := 209, descriptorIndex := 126, attributes := #[] }] 49 2 #[] #[{ accessFlags := 26, nameIndex := 330, descriptorIndex := 65, attributes := #[] }, { accessFlags := 26, nameIndex := 333, descriptorIndex := 65, attributes := #[] }, { accessFlags := 2, nameIndex := 52, descriptorIndex := 65, attributes := #[] }, { accessFlags := 18, nameIndex := 14, descriptorIndex := 15, attributes := #[] }, { accessFlags := 2, nameIndex := 78, descriptorIndex := 65, attributes := #[] }, { accessFlags := 2, nameIndex := 113, descriptorIndex := 65, attributes := #[] }, { accessFlags := 2, nameIndex := 18, descriptorIndex := 19, attributes := #[] }, { accessFlags := 2, nameIndex := 22, descriptorIndex := 19, attributes := #[] }, { accessFlags := 2, nameIndex := 25, descriptorIndex := 26, attributes := #[] }, { accessFlags := 2, nameIndex := 29, descriptorIndex := 19, attributes := #[] }, { accessFlags := 18, nameIndex := 35, descriptorIndex := 36, attributes := #[] }, { accessFlags := 18, nameIndex := 42, descriptorIndex := 43, attributes := #[] }, { accessFlags := 18, nameIndex := 46, descriptorIndex := 43, attributes := #[] }, { accessFlags := 18, nameIndex := 49, descriptorIndex := 43, attributes := #[] }])
  fields := #[{ name := "FREE", type := .int, accessFlags := 26, slot := 0, constantValue := 0 }, { name := "INSIDE", type := .int, accessFlags := 26, slot := 1, constantValue := 0 }, { name := "nodes", type := .int, accessFlags := 2, slot := 0, constantValue := 0 }, { name := "locals", type := (.object "java/util/BitSet"), accessFlags := 18, slot := 1, constantValue := 0 }, { name := "calls", type := .int, accessFlags := 2, slot := 2, constantValue := 0 }, { name := "edges", type := .int, accessFlags := 2, slot := 3, constantValue := 0 }, { name := "edgeFrom", type := (.array .int), accessFlags := 2, slot := 4, constantValue := 0 }, { name := "edgeTo", type := (.array .int), accessFlags := 2, slot := 5, constantValue := 0 }, { name := "edgeKind", type := (.array .byte), accessFlags := 2, slot := 6, constantValue := 0 }, { name := "edgeCall", type := (.array .int), accessFlags := 2, slot := 7, constantValue := 0 }, { name := "edgeSteps", type := (.object "java/util/Map"), accessFlags := 18, slot := 8, constantValue := 0 }, { name := "sources", type := (.object "java/util/List"), accessFlags := 18, slot := 9, constantValue := 0 }, { name := "sinks", type := (.object "java/util/List"), accessFlags := 18, slot := 10, constantValue := 0 }, { name := "crossings", type := (.object "java/util/List"), accessFlags := 18, slot := 11, constantValue := 0 }]
  methods := #[k2m0, k2m1, k2m2, k2m3]
  instanceTypes := #[.int, (.object "java/util/BitSet"), .int, .int, (.array .int), (.array .int), (.array .byte), (.array .int), (.object "java/util/Map"), (.object "java/util/List"), (.object "java/util/List"), (.object "java/util/List")]
  staticTypes := #[.int, .int]
  resolved := Array.replicate 475 none
  statics := none }

def pool3 : Array CpInfo := pool [(1, .class_ 2), (0, u "java/lang/Cloneable"), (0, .class_ 4), (0, u "java/lang/Object")] 2

/-- java/lang/Cloneable -/
def k3 : Class := { plain "java/lang/Cloneable" (some 0) with
  accessFlags := 1537
  interfaces := #[]
  cf := some (fileOf pool3 1 #[] #[] 1537 3 #[] #[])
  fields := #[]
  methods := #[]
  instanceTypes := #[]
  staticTypes := #[]
  resolved := Array.replicate 7 none
  statics := none }

def pool4 : Array CpInfo := pool [(1, .class_ 2), (0, u "java/io/Serializable"), (0, .class_ 4), (0, u "java/lang/Object")] 2

/-- java/io/Serializable -/
def k4 : Class := { plain "java/io/Serializable" (some 0) with
  accessFlags := 1537
  interfaces := #[]
  cf := some (fileOf pool4 1 #[] #[] 1537 3 #[] #[])
  fields := #[]
  methods := #[]
  instanceTypes := #[]
  staticTypes := #[]
  resolved := Array.replicate 7 none
  statics := none }

def pool5 : Array CpInfo := pool [(1, .class_ 2), (0, u "java/util/BitSet"), (2, u "$assertionsDisabled"), (0, u "Z"), (0, .fieldref 1 8), (0, .nameAndType 9 10), (0, u "wordsInUse"), (0, u "I"), (0, .fieldref 1 12), (0, .nameAndType 13 14), (0, u "words"), (0, u "[J"), (3, .nameAndType 19 20), (0, u "<init>"), (0, u "()V"), (0, .methodref 22 18), (0, .class_ 23), (0, u "java/lang/Object"), (0, .fieldref 1 25), (0, .nameAndType 26 6), (0, u "sizeIsSticky"), (0, .methodref 1 28), (0, .nameAndType 29 30), (0, u "initWords"), (0, u "(I)V"), (21, .methodref 1 53), (0, .nameAndType 54 55), (0, u "wordIndex"), (0, u "(I)I"), (213, .class_ 270), (0, u "java/util/BitSet$1BitSetSpliterator"), (22, u "serialPersistentFields"), (0, u "[Ljava/io/ObjectStreamField;"), (0, .class_ 296), (0, u "java/lang/Cloneable"), (0, .class_ 298), (0, u "java/io/Serializable"), (0, u "ADDRESS_BITS_PER_WORD"), (2, u "BITS_PER_WORD"), (1, u "BIT_INDEX_MASK"), (1, u "WORD_MASK"), (0, u "J"), (0, u "serialVersionUID")] 108

def k5c0 : Code := { maxStack := 2, maxLocals := 1, code := jdk_92_method_1_code, exceptionTable := #[], attributes := #[] }
def k5m0 : Method := { name := "wordIndex", desc := "(I)I", sig := { parameters := [.int], returnType := some .int }, accessFlags := 10, code := some k5c0 }
def k5c1 : Code := { maxStack := 2, maxLocals := 1, code := jdk_92_method_4_code, exceptionTable := #[], attributes := #[] }
def k5m1 : Method := { name := "<init>", desc := "()V", sig := { parameters := [], returnType := none }, accessFlags := 1, code := some k5c1 }
def k5c2 : Code := { maxStack := 3, maxLocals := 2, code := jdk_92_method_6_code, exceptionTable := #[], attributes := #[] }
def k5m2 : Method := { name := "initWords", desc := "(I)V", sig := { parameters := [.int], returnType := none }, accessFlags := 2, code := some k5c2 }
/-- java/util/BitSet -/
def k5 : Class := { plain "java/util/BitSet" (some 0) with
  accessFlags := 33
  interfaces := #[3, 4]
  cf := some (fileOf pool5 1 #[.nestMembers #[269]] #[{ accessFlags := 10, nameIndex := 54, descriptorIndex := 55, attributes := #[] }, { accessFlags := 1, nameIndex := 19, descriptorIndex := 20, attributes := #[] }, { accessFlags := 2, nameIndex := 29, descriptorIndex := 30, attributes := #[] }] 33 22 #[295, 297] #[{ accessFlags := 26, nameIndex := 299, descriptorIndex := 10, attributes := #[] }, { accessFlags := 26, nameIndex := 302, descriptorIndex := 10, attributes := #[] }, { accessFlags := 26, nameIndex := 304, descriptorIndex := 10, attributes := #[] }, { accessFlags := 26, nameIndex := 306, descriptorIndex := 307, attributes := #[] }, { accessFlags := 26, nameIndex := 293, descriptorIndex := 294, attributes := #[] }, { accessFlags := 2, nameIndex := 13, descriptorIndex := 14, attributes := #[] }, { accessFlags := 130, nameIndex := 9, descriptorIndex := 10, attributes := #[] }, { accessFlags := 130, nameIndex := 26, descriptorIndex := 6, attributes := #[] }, { accessFlags := 26, nameIndex := 308, descriptorIndex := 307, attributes := #[] }, { accessFlags := 4120, nameIndex := 5, descriptorIndex := 6, attributes := #[] }])
  fields := #[{ name := "ADDRESS_BITS_PER_WORD", type := .int, accessFlags := 26, slot := 0, constantValue := 0 }, { name := "BITS_PER_WORD", type := .int, accessFlags := 26, slot := 1, constantValue := 0 }, { name := "BIT_INDEX_MASK", type := .int, accessFlags := 26, slot := 2, constantValue := 0 }, { name := "WORD_MASK", type := .long, accessFlags := 26, slot := 3, constantValue := 0 }, { name := "serialPersistentFields", type := (.array (.object "java/io/ObjectStreamField")), accessFlags := 26, slot := 4, constantValue := 0 }, { name := "words", type := (.array .long), accessFlags := 2, slot := 0, constantValue := 0 }, { name := "wordsInUse", type := .int, accessFlags := 130, slot := 1, constantValue := 0 }, { name := "sizeIsSticky", type := .boolean, accessFlags := 130, slot := 2, constantValue := 0 }, { name := "serialVersionUID", type := .long, accessFlags := 26, slot := 5, constantValue := 0 }, { name := "$assertionsDisabled", type := .boolean, accessFlags := 4120, slot := 6, constantValue := 0 }]
  methods := #[k5m0, k5m1, k5m2]
  instanceTypes := #[(.array .long), .int, .boolean]
  staticTypes := #[.int, .int, .int, .long, (.array (.object "java/io/ObjectStreamField")), .long, .boolean]
  resolved := Array.replicate 417 none
  statics := none }

def pool6 : Array CpInfo := pool [(2, .class_ 4), (1, u "java/util/Map"), (31, .class_ 37), (0, u "java/util/Map$Entry"), (55, .class_ 94), (0, u "java/lang/Object")] 168

/-- java/util/Map -/
def k6 : Class := { plain "java/util/Map" (some 0) with
  accessFlags := 1537
  interfaces := #[]
  cf := some (fileOf pool6 2 #[.nestMembers #[36]] #[] 1537 93 #[] #[])
  fields := #[]
  methods := #[]
  instanceTypes := #[]
  staticTypes := #[]
  resolved := Array.replicate 263 none
  statics := none }

def pool7 : Array CpInfo := pool [(1, .methodref 2 3), (0, .class_ 4), (0, .nameAndType 5 6), (0, u "java/lang/Object"), (0, u "<init>"), (0, u "()V"), (1, .class_ 10), (1, u "java/util/AbstractMap"), (42, .class_ 54), (0, u "java/util/Map"), (9, u "keySet"), (0, u "Ljava/util/Set;"), (0, .class_ 67), (0, u "java/util/AbstractMap$1"), (5, u "values"), (0, u "Ljava/util/Collection;"), (0, .class_ 76), (0, u "java/util/AbstractMap$2"), (104, .class_ 182), (0, u "java/util/AbstractMap$ViewCollection"), (0, .class_ 184), (0, u "java/util/AbstractMap$SimpleImmutableEntry"), (0, .class_ 186), (0, u "java/util/AbstractMap$SimpleEntry"), (0, .class_ 188), (0, u "java/util/AbstractMap$2$1"), (0, .class_ 190), (0, u "java/util/AbstractMap$1$1")] 5

def k7c0 : Code := { maxStack := 1, maxLocals := 1, code := jdk_71_method_1_code, exceptionTable := #[], attributes := #[] }
def k7m0 : Method := { name := "<init>", desc := "()V", sig := { parameters := [], returnType := none }, accessFlags := 4, code := some k7c0 }
/-- java/util/AbstractMap -/
def k7 : Class := { plain "java/util/AbstractMap" (some 0) with
  accessFlags := 1057
  interfaces := #[6]
  cf := some (fileOf pool7 8 #[.nestMembers #[181, 183, 185, 75, 187, 66, 189]] #[{ accessFlags := 4, nameIndex := 5, descriptorIndex := 6, attributes := #[] }] 1057 2 #[53] #[{ accessFlags := 128, nameIndex := 64, descriptorIndex := 65, attributes := #[] }, { accessFlags := 128, nameIndex := 73, descriptorIndex := 74, attributes := #[] }])
  fields := #[{ name := "keySet", type := (.object "java/util/Set"), accessFlags := 128, slot := 0, constantValue := 0 }, { name := "values", type := (.object "java/util/Collection"), accessFlags := 128, slot := 1, constantValue := 0 }]
  methods := #[k7m0]
  instanceTypes := #[(.object "java/util/Set"), (.object "java/util/Collection")]
  staticTypes := #[]
  resolved := Array.replicate 196 none
  statics := none }

def pool8 : Array CpInfo := pool [(40, .class_ 41), (0, u "java/util/HashMap"), (1, .methodref 44 45), (0, .class_ 46), (0, .nameAndType 47 48), (0, u "java/util/AbstractMap"), (0, u "<init>"), (0, u "()V"), (32, .fieldref 40 82), (0, .nameAndType 83 84), (0, u "loadFactor"), (0, u "F"), (5, u "threshold"), (0, u "I"), (0, .float 1061158912), (8, .class_ 103), (1, u "java/util/Map"), (0, u "size"), (2, u "table"), (0, u "[Ljava/util/HashMap$Node;"), (14, u "entrySet"), (39, .class_ 165), (1, u "java/util/HashMap$Node"), (14, .class_ 181), (0, u "java/util/HashMap$TreeNode"), (22, u "modCount"), (37, u "Ljava/util/Set;"), (0, .class_ 244), (0, u "java/util/HashMap$KeySet"), (18, .class_ 264), (0, u "java/util/HashMap$Values"), (3, .class_ 269), (0, u "java/util/HashMap$EntrySet"), (76, .class_ 348), (1, u "java/util/HashMap$UnsafeHolder"), (43, .class_ 393), (0, u "java/lang/Cloneable"), (0, .class_ 395), (0, u "java/io/Serializable"), (0, u "serialVersionUID"), (0, u "J"), (3, u "DEFAULT_INITIAL_CAPACITY"), (1, u "MAXIMUM_CAPACITY"), (0, u "DEFAULT_LOAD_FACTOR"), (0, u "TREEIFY_THRESHOLD"), (1, u "UNTREEIFY_THRESHOLD"), (1, u "MIN_TREEIFY_CAPACITY"), (186, .class_ 597), (0, u "java/util/HashMap$EntrySpliterator"), (0, .class_ 599), (0, u "java/util/HashMap$ValueSpliterator"), (0, .class_ 601), (0, u "java/util/HashMap$KeySpliterator"), (0, .class_ 603), (0, u "java/util/HashMap$HashMapSpliterator"), (0, .class_ 605), (0, u "java/util/HashMap$EntryIterator"), (0, .class_ 607), (0, u "java/util/HashMap$ValueIterator"), (0, .class_ 609), (0, u "java/util/HashMap$KeyIterator"), (0, .class_ 611), (0, u "java/util/HashMap$HashIterator")] 17

def k8c0 : Code := { maxStack := 2, maxLocals := 1, code := jdk_69_method_7_code, exceptionTable := #[], attributes := #[] }
def k8m0 : Method := { name := "<init>", desc := "()V", sig := { parameters := [], returnType := none }, accessFlags := 1, code := some k8c0 }
/-- java/util/HashMap -/
def k8 : Class := { plain "java/util/HashMap" (some 7) with
  accessFlags := 33
  interfaces := #[6, 3, 4]
  cf := some (fileOf pool8 40 #[.nestMembers #[180, 596, 598, 600, 602, 604, 606, 608, 610, 346, 268, 263, 243, 163]] #[{ accessFlags := 1, nameIndex := 47, descriptorIndex := 48, attributes := #[] }] 33 44 #[101, 392, 394] #[{ accessFlags := 26, nameIndex := 396, descriptorIndex := 397, attributes := #[] }, { accessFlags := 24, nameIndex := 401, descriptorIndex := 91, attributes := #[] }, { accessFlags := 24, nameIndex := 403, descriptorIndex := 91, attributes := #[] }, { accessFlags := 24, nameIndex := 404, descriptorIndex := 84, attributes := #[] }, { accessFlags := 24, nameIndex := 405, descriptorIndex := 91, attributes := #[] }, { accessFlags := 24, nameIndex := 407, descriptorIndex := 91, attributes := #[] }, { accessFlags := 24, nameIndex := 409, descriptorIndex := 91, attributes := #[] }, { accessFlags := 128, nameIndex := 107, descriptorIndex := 108, attributes := #[] }, { accessFlags := 128, nameIndex := 123, descriptorIndex := 242, attributes := #[] }, { accessFlags := 128, nameIndex := 104, descriptorIndex := 91, attributes := #[] }, { accessFlags := 128, nameIndex := 204, descriptorIndex := 91, attributes := #[] }, { accessFlags := 0, nameIndex := 90, descriptorIndex := 91, attributes := #[] }, { accessFlags := 16, nameIndex := 83, descriptorIndex := 84, attributes := #[] }])
  fields := #[{ name := "serialVersionUID", type := .long, accessFlags := 26, slot := 0, constantValue := 0 }, { name := "DEFAULT_INITIAL_CAPACITY", type := .int, accessFlags := 24, slot := 1, constantValue := 0 }, { name := "MAXIMUM_CAPACITY", type := .int, accessFlags := 24, slot := 2, constantValue := 0 }, { name := "DEFAULT_LOAD_FACTOR", type := .float, accessFlags := 24, slot := 3, constantValue := 0 }, { name := "TREEIFY_THRESHOLD", type := .int, accessFlags := 24, slot := 4, constantValue := 0 }, { name := "UNTREEIFY_THRESHOLD", type := .int, accessFlags := 24, slot := 5, constantValue := 0 }, { name := "MIN_TREEIFY_CAPACITY", type := .int, accessFlags := 24, slot := 6, constantValue := 0 }, { name := "table", type := (.array (.object "java/util/HashMap$Node")), accessFlags := 128, slot := 2, constantValue := 0 }, { name := "entrySet", type := (.object "java/util/Set"), accessFlags := 128, slot := 3, constantValue := 0 }, { name := "size", type := .int, accessFlags := 128, slot := 4, constantValue := 0 }, { name := "modCount", type := .int, accessFlags := 128, slot := 5, constantValue := 0 }, { name := "threshold", type := .int, accessFlags := 0, slot := 6, constantValue := 0 }, { name := "loadFactor", type := .float, accessFlags := 16, slot := 7, constantValue := 0 }]
  methods := #[k8m0]
  instanceTypes := #[(.object "java/util/Set"), (.object "java/util/Collection"), (.array (.object "java/util/HashMap$Node")), (.object "java/util/Set"), .int, .int, .int, .float]
  staticTypes := #[.long, .int, .int, .float, .int, .int, .int]
  resolved := Array.replicate 629 none
  statics := none }

def pool9 : Array CpInfo := pool [(8, .class_ 10), (1, u "java/lang/Iterable"), (24, .class_ 36), (0, u "java/lang/Object")] 25

/-- java/lang/Iterable -/
def k9 : Class := { plain "java/lang/Iterable" (some 0) with
  accessFlags := 1537
  interfaces := #[]
  cf := some (fileOf pool9 8 #[] #[] 1537 35 #[] #[])
  fields := #[]
  methods := #[]
  instanceTypes := #[]
  staticTypes := #[]
  resolved := Array.replicate 62 none
  statics := none }

def pool10 : Array CpInfo := pool [(10, .class_ 12), (1, u "java/util/Collection"), (47, .class_ 61), (0, u "java/lang/Object"), (0, .class_ 63), (0, u "java/lang/Iterable")] 51

/-- java/util/Collection -/
def k10 : Class := { plain "java/util/Collection" (some 0) with
  accessFlags := 1537
  interfaces := #[9]
  cf := some (fileOf pool10 10 #[] #[] 1537 60 #[62] #[])
  fields := #[]
  methods := #[]
  instanceTypes := #[]
  staticTypes := #[]
  resolved := Array.replicate 115 none
  statics := none }

def pool11 : Array CpInfo := pool [(1, .methodref 2 3), (0, .class_ 4), (0, .nameAndType 5 6), (0, u "java/lang/Object"), (0, u "<init>"), (0, u "()V"), (1, .class_ 10), (1, u "java/util/AbstractCollection"), (66, .class_ 78), (0, u "java/util/Collection")] 81

def k11c0 : Code := { maxStack := 1, maxLocals := 1, code := jdk_22_method_1_code, exceptionTable := #[], attributes := #[] }
def k11m0 : Method := { name := "<init>", desc := "()V", sig := { parameters := [], returnType := none }, accessFlags := 4, code := some k11c0 }
/-- java/util/AbstractCollection -/
def k11 : Class := { plain "java/util/AbstractCollection" (some 0) with
  accessFlags := 1057
  interfaces := #[10]
  cf := some (fileOf pool11 8 #[] #[{ accessFlags := 4, nameIndex := 5, descriptorIndex := 6, attributes := #[] }] 1057 2 #[77] #[])
  fields := #[]
  methods := #[k11m0]
  instanceTypes := #[]
  staticTypes := #[]
  resolved := Array.replicate 160 none
  statics := none }

def pool12 : Array CpInfo := pool [(8, .class_ 10), (1, u "java/util/SequencedCollection"), (15, .class_ 27), (0, u "java/lang/Object"), (0, .class_ 29), (0, u "java/util/Collection")] 27

/-- java/util/SequencedCollection -/
def k12 : Class := { plain "java/util/SequencedCollection" (some 0) with
  accessFlags := 1537
  interfaces := #[10]
  cf := some (fileOf pool12 8 #[] #[] 1537 26 #[28] #[])
  fields := #[]
  methods := #[]
  instanceTypes := #[]
  staticTypes := #[]
  resolved := Array.replicate 57 none
  statics := none }

def pool13 : Array CpInfo := pool [(8, .class_ 10), (1, u "java/util/List"), (92, .class_ 104), (0, u "java/lang/Object"), (15, .class_ 121), (0, u "java/util/SequencedCollection")] 129

/-- java/util/List -/
def k13 : Class := { plain "java/util/List" (some 0) with
  accessFlags := 1537
  interfaces := #[12]
  cf := some (fileOf pool13 8 #[] #[] 1537 103 #[120] #[])
  fields := #[]
  methods := #[]
  instanceTypes := #[]
  staticTypes := #[]
  resolved := Array.replicate 251 none
  statics := none }

def pool14 : Array CpInfo := pool [(1, .methodref 2 3), (0, .class_ 4), (0, .nameAndType 5 6), (0, u "java/util/AbstractCollection"), (0, u "<init>"), (0, u "()V"), (0, .fieldref 8 9), (0, .class_ 10), (0, .nameAndType 11 12), (0, u "java/util/AbstractList"), (0, u "modCount"), (0, u "I"), (64, .class_ 78), (0, u "java/util/AbstractList$Itr"), (3, .class_ 83), (0, u "java/util/AbstractList$ListItr"), (9, .class_ 94), (0, u "java/util/AbstractList$RandomAccessSubList"), (3, .class_ 99), (0, u "java/util/AbstractList$SubList"), (33, .class_ 134), (0, u "java/util/List"), (73, .class_ 209), (0, u "java/util/AbstractList$SubList$1"), (0, .class_ 211), (0, u "java/util/AbstractList$RandomAccessSpliterator")] 6

def k14c0 : Code := { maxStack := 2, maxLocals := 1, code := jdk_39_method_1_code, exceptionTable := #[], attributes := #[] }
def k14m0 : Method := { name := "<init>", desc := "()V", sig := { parameters := [], returnType := none }, accessFlags := 4, code := some k14c0 }
/-- java/util/AbstractList -/
def k14 : Class := { plain "java/util/AbstractList" (some 11) with
  accessFlags := 1057
  interfaces := #[13]
  cf := some (fileOf pool14 8 #[.nestMembers #[93, 98, 208, 210, 82, 77]] #[{ accessFlags := 4, nameIndex := 5, descriptorIndex := 6, attributes := #[] }] 1057 2 #[133] #[{ accessFlags := 132, nameIndex := 11, descriptorIndex := 12, attributes := #[] }])
  fields := #[{ name := "modCount", type := .int, accessFlags := 132, slot := 0, constantValue := 0 }]
  methods := #[k14m0]
  instanceTypes := #[.int]
  staticTypes := #[]
  resolved := Array.replicate 218 none
  statics := none }

def pool15 : Array CpInfo := pool [(1, .class_ 2), (0, u "java/util/RandomAccess"), (0, .class_ 4), (0, u "java/lang/Object")] 2

/-- java/util/RandomAccess -/
def k15 : Class := { plain "java/util/RandomAccess" (some 0) with
  accessFlags := 1537
  interfaces := #[]
  cf := some (fileOf pool15 1 #[] #[] 1537 3 #[] #[])
  fields := #[]
  methods := #[]
  instanceTypes := #[]
  staticTypes := #[]
  resolved := Array.replicate 7 none
  statics := none }

def pool16 : Array CpInfo := pool [(1, .methodref 2 3), (0, .class_ 4), (0, .nameAndType 5 6), (0, u "java/util/AbstractList"), (0, u "<init>"), (0, u "()V"), (2, .fieldref 10 11), (0, .class_ 12), (0, .nameAndType 13 14), (0, u "java/util/ArrayList"), (0, u "elementData"), (0, u "[Ljava/lang/Object;"), (2, u "EMPTY_ELEMENTDATA"), (21, .fieldref 10 40), (0, .nameAndType 41 14), (0, u "DEFAULTCAPACITY_EMPTY_ELEMENTDATA"), (8, u "size"), (0, u "I"), (96, .class_ 149), (0, u "java/util/List"), (112, .class_ 263), (0, u "java/util/ArrayList$ListItr"), (3, .class_ 268), (0, u "java/util/ArrayList$Itr"), (7, .class_ 277), (0, u "java/util/ArrayList$SubList"), (12, .class_ 291), (0, u "java/util/ArrayList$ArrayListSpliterator"), (37, .class_ 330), (0, u "java/util/RandomAccess"), (0, .class_ 332), (0, u "java/lang/Cloneable"), (0, .class_ 334), (0, u "java/io/Serializable"), (0, u "serialVersionUID"), (0, u "J"), (3, u "DEFAULT_CAPACITY"), (159, .class_ 501), (0, u "java/util/ArrayList$SubList$2"), (0, .class_ 503), (0, u "java/util/ArrayList$SubList$1")] 5

def k16c0 : Code := { maxStack := 2, maxLocals := 1, code := jdk_38_method_2_code, exceptionTable := #[], attributes := #[] }
def k16m0 : Method := { name := "<init>", desc := "()V", sig := { parameters := [], returnType := none }, accessFlags := 1, code := some k16c0 }
/-- java/util/ArrayList -/
def k16 : Class := { plain "java/util/ArrayList" (some 14) with
  accessFlags := 33
  interfaces := #[13, 15, 3, 4]
  cf := some (fileOf pool16 10 #[.nestMembers #[290, 276, 500, 502, 262, 267]] #[{ accessFlags := 1, nameIndex := 5, descriptorIndex := 6, attributes := #[] }] 33 2 #[148, 329, 331, 333] #[{ accessFlags := 26, nameIndex := 335, descriptorIndex := 336, attributes := #[] }, { accessFlags := 26, nameIndex := 340, descriptorIndex := 51, attributes := #[] }, { accessFlags := 26, nameIndex := 17, descriptorIndex := 14, attributes := #[] }, { accessFlags := 26, nameIndex := 41, descriptorIndex := 14, attributes := #[] }, { accessFlags := 128, nameIndex := 13, descriptorIndex := 14, attributes := #[] }, { accessFlags := 2, nameIndex := 50, descriptorIndex := 51, attributes := #[] }])
  fields := #[{ name := "serialVersionUID", type := .long, accessFlags := 26, slot := 0, constantValue := 0 }, { name := "DEFAULT_CAPACITY", type := .int, accessFlags := 26, slot := 1, constantValue := 0 }, { name := "EMPTY_ELEMENTDATA", type := (.array (.object "java/lang/Object")), accessFlags := 26, slot := 2, constantValue := 0 }, { name := "DEFAULTCAPACITY_EMPTY_ELEMENTDATA", type := (.array (.object "java/lang/Object")), accessFlags := 26, slot := 3, constantValue := 0 }, { name := "elementData", type := (.array (.object "java/lang/Object")), accessFlags := 128, slot := 1, constantValue := 0 }, { name := "size", type := .int, accessFlags := 2, slot := 2, constantValue := 0 }]
  methods := #[k16m0]
  instanceTypes := #[.int, (.array (.object "java/lang/Object")), .int]
  staticTypes := #[.long, .int, (.array (.object "java/lang/Object")), (.array (.object "java/lang/Object"))]
  resolved := Array.replicate 509 none
  statics := some 0 }

def pool17 : Array CpInfo := pool [(1, .class_ 2), (0, u "java/lang/Math"), (1, .class_ 6), (1, u "java/lang/Object"), (0, u "<init>"), (0, u "()V"), (89, .class_ 100), (1, u "java/lang/Math$RandomNumberGeneratorHolder"), (71, u "negativeZeroFloatBits"), (0, u "J"), (2, u "negativeZeroDoubleBits"), (68, u "$assertionsDisabled"), (0, u "Z"), (88, u "(II)I"), (2, u "twoToTheDoubleScaleDown"), (0, u "D"), (4, u "twoToTheDoubleScaleUp"), (9, u "E"), (3, u "PI"), (2, u "TAU"), (2, u "DEGREES_TO_RADIANS"), (0, u "RADIANS_TO_DEGREES"), (27, u "addExact")] 66

def k17m0 : Method := { name := "<init>", desc := "()V", sig := { parameters := [], returnType := none }, accessFlags := 2, code := none }
def k17c1 : Code := { maxStack := 3, maxLocals := 3, code := jdk_29_method_24_code, exceptionTable := #[], attributes := #[] }
def k17m1 : Method := { name := "addExact", desc := "(II)I", sig := { parameters := [.int, .int], returnType := some .int }, accessFlags := 9, code := some k17c1 }
/-- java/lang/Math -/
def k17 : Class := { plain "java/lang/Math" (some 0) with
  accessFlags := 49
  interfaces := #[]
  cf := some (fileOf pool17 1 #[.nestMembers #[98]] #[{ accessFlags := 2, nameIndex := 7, descriptorIndex := 8, attributes := #[] }, { accessFlags := 9, nameIndex := 393, descriptorIndex := 335, attributes := #[] }] 49 4 #[] #[{ accessFlags := 25, nameIndex := 354, descriptorIndex := 339, attributes := #[] }, { accessFlags := 25, nameIndex := 358, descriptorIndex := 339, attributes := #[] }, { accessFlags := 25, nameIndex := 361, descriptorIndex := 339, attributes := #[] }, { accessFlags := 26, nameIndex := 364, descriptorIndex := 339, attributes := #[] }, { accessFlags := 26, nameIndex := 365, descriptorIndex := 339, attributes := #[] }, { accessFlags := 26, nameIndex := 172, descriptorIndex := 173, attributes := #[] }, { accessFlags := 26, nameIndex := 176, descriptorIndex := 173, attributes := #[] }, { accessFlags := 8, nameIndex := 344, descriptorIndex := 339, attributes := #[] }, { accessFlags := 8, nameIndex := 338, descriptorIndex := 339, attributes := #[] }, { accessFlags := 4120, nameIndex := 245, descriptorIndex := 246, attributes := #[] }])
  fields := #[{ name := "E", type := .double, accessFlags := 25, slot := 0, constantValue := 0 }, { name := "PI", type := .double, accessFlags := 25, slot := 1, constantValue := 0 }, { name := "TAU", type := .double, accessFlags := 25, slot := 2, constantValue := 0 }, { name := "DEGREES_TO_RADIANS", type := .double, accessFlags := 26, slot := 3, constantValue := 0 }, { name := "RADIANS_TO_DEGREES", type := .double, accessFlags := 26, slot := 4, constantValue := 0 }, { name := "negativeZeroFloatBits", type := .long, accessFlags := 26, slot := 5, constantValue := 0 }, { name := "negativeZeroDoubleBits", type := .long, accessFlags := 26, slot := 6, constantValue := 0 }, { name := "twoToTheDoubleScaleUp", type := .double, accessFlags := 8, slot := 7, constantValue := 0 }, { name := "twoToTheDoubleScaleDown", type := .double, accessFlags := 8, slot := 8, constantValue := 0 }, { name := "$assertionsDisabled", type := .boolean, accessFlags := 4120, slot := 9, constantValue := 0 }]
  methods := #[k17m0, k17m1]
  instanceTypes := #[]
  staticTypes := #[.double, .double, .double, .double, .double, .long, .long, .double, .double, .boolean]
  resolved := Array.replicate 460 none
  statics := none }

/-- the primitive byte -/
def k18 : Class := { plain "byte" none with kind := .primitive 'B', accessFlags := 0x411 }
/-- [B -/
def k19 : Class := { plain "[B" (some 0) with kind := .array 18 .byte, interfaces := #[3, 4], accessFlags := 1041 }

/-- the primitive int -/
def k20 : Class := { plain "int" none with kind := .primitive 'I', accessFlags := 0x411 }
/-- [I -/
def k21 : Class := { plain "[I" (some 0) with kind := .array 20 .int, interfaces := #[3, 4], accessFlags := 1041 }

/-- the primitive long -/
def k22 : Class := { plain "long" none with kind := .primitive 'J', accessFlags := 0x411 }
/-- [J -/
def k23 : Class := { plain "[J" (some 0) with kind := .array 22 .long, interfaces := #[3, 4], accessFlags := 1041 }

/-- [Ljava/lang/Object; -/
def k24 : Class := { plain "[Ljava/lang/Object;" (some 0) with kind := .array 0 (.object "java/lang/Object"), interfaces := #[3, 4], accessFlags := 1041 }

def heap : Heap := #[{ cls := 16, slots := #[.long 0, .int 0, .ref 1, .ref 2], vm := .statics 16 },
  { cls := 24, slots := #[], vm := .none },
  { cls := 24, slots := #[], vm := .none }]
def classes : Array Class := #[k0, k1, k2, k3, k4, k5, k6, k7, k8, k9, k10, k11, k12, k13, k14, k15, k16, k17, k18, k19, k20, k21, k22, k23, k24]
def interned : List (Array UInt16 × Addr) := []
def slotsUsed : Nat := 4
def theMethod : MethodId := ⟨1, 1⟩
def args0 : Array Value := #[.int 3, .int 5, .int 3]
def aboutOver (below : List Frame) : State where
  vm := { classes := classes, interned := interned.toArray }
  heap := heap
  slotsUsed := slotsUsed
  threads := #[{ frames := .invoking theMethod args0 :: below }]
def below0 : List Frame := [.native { method := ⟨0, 0⟩, args := #[] }]
def about1 : State := aboutOver below0
def p0 : Program := .bare "" "" ""
def e0 : Env := launch0.env 0 0 0
theorem w_frames : about1.frames = Frame.invoking theMethod args0 :: below0 := rfl
set_option maxRecDepth 65536 in
theorem w_args : argsFit about1.vm theMethod args0 = true := by decide +kernel
set_option maxRecDepth 65536 in
theorem w_heap : heapFits about1 = true := by decide +kernel
set_option maxRecDepth 65536 in
theorem w_runnable : about1.curStatus? = some .runnable := by decide +kernel
set_option maxRecDepth 65536 in
theorem w_alone : about1.alone = true := by decide +kernel
set_option maxRecDepth 65536 in
theorem w_named : about1.methodNamed? x = some theMethod := by decide +kernel
set_option maxRecDepth 65536 in
theorem w_hears : about1.hears theMethod below0 = true := by decide +kernel
set_option maxRecDepth 65536 in
theorem w_ripe : about1.ripe theMethod args0 below0 = true := by decide +kernel
theorem w_running : about1.status = .running := rfl
set_option maxRecDepth 65536 in
theorem w_room : about1.hasRoom e0.platform room_1 = true :=
  launch0.hasRoom_least _ room_1 (by decide +kernel) (by decide +kernel) (by decide +kernel) (by decide +kernel) (by decide +kernel) (by decide +kernel)
theorem allAtoms_all (ts : List Jvm.Cond) (a : Array Jvm.Value) (st : Jvm.State) : (allAtoms ts).before a st = ts.all (fun c => c.before a st) := by
  induction ts with
  | nil => rfl
  | cons c t ih =>
    show (Jvm.Cond.and c (allAtoms t)).before a st = _
    rw [Jvm.Cond.before_and, ih, List.all_cons]
def words1 : List Jvm.Cond := Jvm.Cond.code x code maxLocals ret :: tables_1
/-- a 'code' word, met by the world's own term for the bytes: nothing is compared byte by byte -/
theorem code_word {y : MethodName} {bytes : ByteArray} {mx : Nat} {rt : Option FieldType} {a : Array Value} {s : State} {m : MethodId} {meth : Method} {c : Code} (h1 : s.methodNamed? y = some m) (h2 : s.vm.method? m = some meth) (h3 : meth.code = some c) (h4 : c.code = bytes)
    (h5 : (c.maxLocals == mx && c.exceptionTable.isEmpty && decide (c.maxStack ≤ mostOperands) && decide (meth.sig.returnType = rt) && !meth.locks && decide (parseMethodDescriptor y.desc = some meth.sig)) = true) : (Jvm.Cond.code y bytes mx rt).before a s = true := by
  simp only [Bool.and_eq_true, beq_iff_eq, Bool.not_eq_true', decide_eq_true_eq] at h5
  obtain ⟨⟨⟨⟨⟨g1, g2⟩, g3⟩, g4⟩, g5⟩, g6⟩ := h5
  simp [Cond.before, Cond.holds, Cond.value, h1, h2, h3, h4, g1, g2, g3, g4, g5, g6]
def isCode : Jvm.Cond → Bool
  | .code _ _ _ _ => true
  | _ => false
theorem all_split {L : List Jvm.Cond} {P : Jvm.Cond → Bool} (h1 : L.all (fun c => isCode c || P c) = true) (h2 : ∀ c ∈ L.filter isCode, P c = true) : L.all P = true := by
  refine List.all_eq_true.mpr fun c hc => ?_
  have h := List.all_eq_true.mp h1 c hc
  rcases Bool.eq_false_or_eq_true (isCode c) with hi | hi
  · exact h2 c (List.mem_filter.mpr ⟨hc, hi⟩)
  · simpa [hi] using h
set_option maxRecDepth 65536 in
theorem w_c0 : (Jvm.Cond.code x code maxLocals ret).before args0 about1 = true := code_word (m := ⟨1, 1⟩) (meth := k1m1) (c := k1c1) (by decide +kernel) rfl rfl rfl (by decide +kernel)
set_option maxRecDepth 65536 in
theorem w_c1 : (Jvm.Cond.code ({ cls := "com/example/damctl/damctl/policy/FlowGraph", name := "<init>", desc := "()V" } : Jvm.MethodName) prog_35_method_1_code (1 : Nat) (Option.none : Option Jvm.ClassFile.FieldType)).before args0 about1 = true := code_word (m := ⟨2, 0⟩) (meth := k2m0) (c := k2c0) (by decide +kernel) rfl rfl rfl (by decide +kernel)
set_option maxRecDepth 65536 in
theorem w_c2 : (Jvm.Cond.code ({ cls := "java/lang/Object", name := "<init>", desc := "()V" } : Jvm.MethodName) object_method_1_code (1 : Nat) (Option.none : Option Jvm.ClassFile.FieldType)).before args0 about1 = true := code_word (m := ⟨0, 0⟩) (meth := k0m0) (c := k0c0) (by decide +kernel) rfl rfl rfl (by decide +kernel)
set_option maxRecDepth 65536 in
theorem w_c3 : (Jvm.Cond.code ({ cls := "java/util/BitSet", name := "<init>", desc := "()V" } : Jvm.MethodName) jdk_92_method_4_code (1 : Nat) (Option.none : Option Jvm.ClassFile.FieldType)).before args0 about1 = true := code_word (m := ⟨5, 1⟩) (meth := k5m1) (c := k5c1) (by decide +kernel) rfl rfl rfl (by decide +kernel)
set_option maxRecDepth 65536 in
theorem w_c4 : (Jvm.Cond.code ({ cls := "java/util/BitSet", name := "initWords", desc := "(I)V" } : Jvm.MethodName) jdk_92_method_6_code (2 : Nat) (Option.none : Option Jvm.ClassFile.FieldType)).before args0 about1 = true := code_word (m := ⟨5, 2⟩) (meth := k5m2) (c := k5c2) (by decide +kernel) rfl rfl rfl (by decide +kernel)
set_option maxRecDepth 65536 in
theorem w_c5 : (Jvm.Cond.code ({ cls := "java/util/BitSet", name := "wordIndex", desc := "(I)I" } : Jvm.MethodName) jdk_92_method_1_code (1 : Nat) (Option.some Jvm.ClassFile.FieldType.int)).before args0 about1 = true := code_word (m := ⟨5, 0⟩) (meth := k5m0) (c := k5c0) (by decide +kernel) rfl rfl rfl (by decide +kernel)
set_option maxRecDepth 65536 in
theorem w_c6 : (Jvm.Cond.code ({ cls := "java/util/HashMap", name := "<init>", desc := "()V" } : Jvm.MethodName) jdk_69_method_7_code (1 : Nat) (Option.none : Option Jvm.ClassFile.FieldType)).before args0 about1 = true := code_word (m := ⟨8, 0⟩) (meth := k8m0) (c := k8c0) (by decide +kernel) rfl rfl rfl (by decide +kernel)
set_option maxRecDepth 65536 in
theorem w_c7 : (Jvm.Cond.code ({ cls := "java/util/AbstractMap", name := "<init>", desc := "()V" } : Jvm.MethodName) jdk_71_method_1_code (1 : Nat) (Option.none : Option Jvm.ClassFile.FieldType)).before args0 about1 = true := code_word (m := ⟨7, 0⟩) (meth := k7m0) (c := k7c0) (by decide +kernel) rfl rfl rfl (by decide +kernel)
set_option maxRecDepth 65536 in
theorem w_c8 : (Jvm.Cond.code ({ cls := "java/util/ArrayList", name := "<init>", desc := "()V" } : Jvm.MethodName) jdk_38_method_2_code (1 : Nat) (Option.none : Option Jvm.ClassFile.FieldType)).before args0 about1 = true := code_word (m := ⟨16, 0⟩) (meth := k16m0) (c := k16c0) (by decide +kernel) rfl rfl rfl (by decide +kernel)
set_option maxRecDepth 65536 in
theorem w_c9 : (Jvm.Cond.code ({ cls := "java/util/AbstractList", name := "<init>", desc := "()V" } : Jvm.MethodName) jdk_39_method_1_code (1 : Nat) (Option.none : Option Jvm.ClassFile.FieldType)).before args0 about1 = true := code_word (m := ⟨14, 0⟩) (meth := k14m0) (c := k14c0) (by decide +kernel) rfl rfl rfl (by decide +kernel)
set_option maxRecDepth 65536 in
theorem w_c10 : (Jvm.Cond.code ({ cls := "java/util/AbstractCollection", name := "<init>", desc := "()V" } : Jvm.MethodName) jdk_22_method_1_code (1 : Nat) (Option.none : Option Jvm.ClassFile.FieldType)).before args0 about1 = true := code_word (m := ⟨11, 0⟩) (meth := k11m0) (c := k11c0) (by decide +kernel) rfl rfl rfl (by decide +kernel)
set_option maxRecDepth 65536 in
theorem w_c11 : (Jvm.Cond.code ({ cls := "com/example/damctl/damctl/policy/FlowGraph", name := "call", desc := "()I" } : Jvm.MethodName) prog_35_method_5_code (1 : Nat) (Option.some Jvm.ClassFile.FieldType.int)).before args0 about1 = true := code_word (m := ⟨2, 3⟩) (meth := k2m3) (c := k2c3) (by decide +kernel) rfl rfl rfl (by decide +kernel)
set_option maxRecDepth 65536 in
theorem w_c12 : (Jvm.Cond.code ({ cls := "com/example/damctl/damctl/policy/FlowGraph", name := "nodes", desc := "(I)I" } : Jvm.MethodName) prog_35_method_3_code (3 : Nat) (Option.some Jvm.ClassFile.FieldType.int)).before args0 about1 = true := code_word (m := ⟨2, 2⟩) (meth := k2m2) (c := k2c2) (by decide +kernel) rfl rfl rfl (by decide +kernel)
set_option maxRecDepth 65536 in
theorem w_c13 : (Jvm.Cond.code ({ cls := "java/lang/Math", name := "addExact", desc := "(II)I" } : Jvm.MethodName) jdk_29_method_24_code (3 : Nat) (Option.some Jvm.ClassFile.FieldType.int)).before args0 about1 = true := code_word (m := ⟨17, 1⟩) (meth := k17m1) (c := k17c1) (by decide +kernel) rfl rfl rfl (by decide +kernel)
set_option maxRecDepth 65536 in
theorem w_c14 : (Jvm.Cond.code ({ cls := "com/example/damctl/damctl/policy/FlowGraph", name := "node", desc := "()I" } : Jvm.MethodName) prog_35_method_2_code (1 : Nat) (Option.some Jvm.ClassFile.FieldType.int)).before args0 about1 = true := code_word (m := ⟨2, 1⟩) (meth := k2m1) (c := k2c1) (by decide +kernel) rfl rfl rfl (by decide +kernel)
def codes1 : List Jvm.Cond := [Jvm.Cond.code x code maxLocals ret, Jvm.Cond.code ({ cls := "com/example/damctl/damctl/policy/FlowGraph", name := "<init>", desc := "()V" } : Jvm.MethodName) prog_35_method_1_code (1 : Nat) (Option.none : Option Jvm.ClassFile.FieldType), Jvm.Cond.code ({ cls := "java/lang/Object", name := "<init>", desc := "()V" } : Jvm.MethodName) object_method_1_code (1 : Nat) (Option.none : Option Jvm.ClassFile.FieldType), Jvm.Cond.code ({ cls := "java/util/BitSet", name := "<init>", desc := "()V" } : Jvm.MethodName) jdk_92_method_4_code (1 : Nat) (Option.none : Option Jvm.ClassFile.FieldType), Jvm.Cond.code ({ cls := "java/util/BitSet", name := "initWords", desc := "(I)V" } : Jvm.MethodName) jdk_92_method_6_code (2 : Nat) (Option.none : Option Jvm.ClassFile.FieldType), Jvm.Cond.code ({ cls := "java/util/BitSet", name := "wordIndex", desc := "(I)I" } : Jvm.MethodName) jdk_92_method_1_code (1 : Nat) (Option.some Jvm.ClassFile.FieldType.int), Jvm.Cond.code ({ cls := "java/util/HashMap", name := "<init>", desc := "()V" } : Jvm.MethodName) jdk_69_method_7_code (1 : Nat) (Option.none : Option Jvm.ClassFile.FieldType), Jvm.Cond.code ({ cls := "java/util/AbstractMap", name := "<init>", desc := "()V" } : Jvm.MethodName) jdk_71_method_1_code (1 : Nat) (Option.none : Option Jvm.ClassFile.FieldType), Jvm.Cond.code ({ cls := "java/util/ArrayList", name := "<init>", desc := "()V" } : Jvm.MethodName) jdk_38_method_2_code (1 : Nat) (Option.none : Option Jvm.ClassFile.FieldType), Jvm.Cond.code ({ cls := "java/util/AbstractList", name := "<init>", desc := "()V" } : Jvm.MethodName) jdk_39_method_1_code (1 : Nat) (Option.none : Option Jvm.ClassFile.FieldType), Jvm.Cond.code ({ cls := "java/util/AbstractCollection", name := "<init>", desc := "()V" } : Jvm.MethodName) jdk_22_method_1_code (1 : Nat) (Option.none : Option Jvm.ClassFile.FieldType), Jvm.Cond.code ({ cls := "com/example/damctl/damctl/policy/FlowGraph", name := "call", desc := "()I" } : Jvm.MethodName) prog_35_method_5_code (1 : Nat) (Option.some Jvm.ClassFile.FieldType.int), Jvm.Cond.code ({ cls := "com/example/damctl/damctl/policy/FlowGraph", name := "nodes", desc := "(I)I" } : Jvm.MethodName) prog_35_method_3_code (3 : Nat) (Option.some Jvm.ClassFile.FieldType.int), Jvm.Cond.code ({ cls := "java/lang/Math", name := "addExact", desc := "(II)I" } : Jvm.MethodName) jdk_29_method_24_code (3 : Nat) (Option.some Jvm.ClassFile.FieldType.int), Jvm.Cond.code ({ cls := "com/example/damctl/damctl/policy/FlowGraph", name := "node", desc := "()I" } : Jvm.MethodName) prog_35_method_2_code (1 : Nat) (Option.some Jvm.ClassFile.FieldType.int)]
set_option maxRecDepth 65536 in
theorem codes_eq : words1.filter isCode = codes1 := rfl
theorem w_codes : ∀ c ∈ words1.filter isCode, c.before args0 about1 = true := by
  rw [codes_eq]
  intro c hc
  simp only [codes1, List.mem_cons, List.not_mem_nil, or_false] at hc
  rcases hc with rfl | rfl | rfl | rfl | rfl | rfl | rfl | rfl | rfl | rfl | rfl | rfl | rfl | rfl | rfl
  · exact w_c0
  · exact w_c1
  · exact w_c2
  · exact w_c3
  · exact w_c4
  · exact w_c5
  · exact w_c6
  · exact w_c7
  · exact w_c8
  · exact w_c9
  · exact w_c10
  · exact w_c11
  · exact w_c12
  · exact w_c13
  · exact w_c14
set_option maxRecDepth 65536 in
theorem w_t1 : (words1.take 24).all (fun c => isCode c || c.before args0 about1) = true := by decide +kernel
set_option maxRecDepth 65536 in
theorem w_t2 : ((words1.drop 24).take 24).all (fun c => isCode c || c.before args0 about1) = true := by decide +kernel
set_option maxRecDepth 65536 in
theorem w_t3 : (((words1.drop 24).drop 24).take 24).all (fun c => isCode c || c.before args0 about1) = true := by decide +kernel
set_option maxRecDepth 65536 in
theorem w_t4 : ((((words1.drop 24).drop 24).drop 24).take 24).all (fun c => isCode c || c.before args0 about1) = true := by decide +kernel
set_option maxRecDepth 65536 in
theorem w_t5 : ((((words1.drop 24).drop 24).drop 24).drop 24).all (fun c => isCode c || c.before args0 about1) = true := by decide +kernel
theorem w_tables : (allAtoms (Jvm.Cond.code x code maxLocals ret :: tables_1)).before args0 about1 = true := by
  rw [allAtoms_all]
  show words1.all (fun c => c.before args0 about1) = true
  refine all_split ?_ w_codes
  rw [← List.take_append_drop 24 words1, List.all_append, w_t1, ← List.take_append_drop 24 (words1.drop 24), List.all_append, w_t2, ← List.take_append_drop 24 ((words1.drop 24).drop 24), List.all_append, w_t3, ← List.take_append_drop 24 (((words1.drop 24).drop 24).drop 24), List.all_append, w_t4, w_t5]
  rfl
set_option maxRecDepth 65536 in
theorem w_rest : rest_1_c.before args0 about1 = true := by decide +kernel
set_option maxRecDepth 65536 in
theorem w_case : (Jvm.Cond.and given_1 narrow_1).before args0 about1 = true := by decide +kernel
theorem w_applies : (headSpec (Jvm.Cond.code x code maxLocals ret :: tables_1) room_1).applies x e0.platform about1 = true :=
  (Spec.applies_iff w_frames).mpr ⟨w_running, w_runnable, w_alone, w_named, w_hears, w_ripe, w_room, w_tables⟩
theorem atStart : AtStart classFile x code maxLocals ret World_1 tables_1 room_1 Calls_1 rest_1 Pre_1 launch0 p0 e0 about1 theMethod args0 below0 :=
  ⟨lists_1, trivial, launch0.admits_env _ _ _, launch0.least_env, fairChoices_fair.cas, fairChoices_fair.clock, w_frames, w_args, w_heap, w_applies, trivial, w_rest, w_case⟩
end start1
theorem witness_1 : WitnessClaimed_1 := ⟨start1.p0, start1.e0, start1.about1, start1.theMethod, start1.args0, start1.below0, start1.atStart⟩
end Jvm.Pilot.@@N@@
