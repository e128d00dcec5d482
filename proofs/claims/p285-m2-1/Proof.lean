import JvmDerived
import JvmDerived.Pilot.@@N@@Statement
import JvmDerived.Pilot.@@N@@Code
set_option linter.unusedVariables false
set_option linter.unusedSimpArgs false
namespace Jvm.RoadKit
open Sem ClassFile Op Lib Jvm.Stand Jvm.Free Jvm.LawKit
section Own
/-- the walk comes to its end from here: it returns, what it returns and the heap are as Q says, nothing old is written -/
def End (Z : State) (p : Program) (e : Env) (below : List Frame) (s : State) (Q : Option Value → Heap → Prop) (kc ks : Nat) (T : State) (g : JFrame) : Prop :=
  ∃ s₂ o, Steps p.tables e below (T.setTop g) s₂ ∧ s₂.status = .running ∧ Ended s₂ below o ∧ ∃ v L, o = .returned v ∧ (Fr Z.heap.size L ∧ Ext Z.heap s₂.heap ∧ Q v s₂.heap) ∧ FrameEnd s o s₂ L kc ks
/-- where the walk stands, with all that is fixed in a body -/
def Sd (l : Launch) (Z : State) (own nm : String) (bytes : ByteArray) (ml : Nat) (ret : Option FieldType) (R : Room) (p : Program) (e : Env) (s : State) (m : MethodId) (args : Array Value) (below : List Frame) (T : State) (h : Heap) (cells slots : Nat) : Prop :=
  ∃ (meth : Method) (c : Code) (locs : List Loc), Stand p l e R s m args below meth c T locs cells slots ∧ Fr Z.heap.size locs ∧ T.heap = h ∧ Ext Z.heap h ∧ p.tables.exec = Jvm.exec ∧ c.code = bytes ∧ c.maxLocals = ml ∧ s.vm.findClass own = some m.cls ∧ meth.name = nm ∧ meth.sig.returnType = ret ∧ meth.locks = false ∧ Z.Warmed39 s.vm
/-- a contract: called with these arguments over the heap h0 the body returns, as Q says -/
def Con (l : Launch) (Z : State) (y : MethodName) (bytes : ByteArray) (ml : Nat) (ret : Option FieldType) (rm : Room) (as : Array Value) (h0 : Heap) (Q : Option Value → Heap → Prop) : Prop :=
  ∀ ws : List Jvm.Cond, MetFree l y (head1 (Jvm.Cond.code y bytes ml ret :: ws) rm) (fun a U => a = as ∧ Z.Warmed39 U.vm ∧ U.heap = h0) (fun _ _ _ _ _ => True) (fun _ U o U' => ∃ v L, o = .returned v ∧ (Fr Z.heap.size L ∧ Ext Z.heap U'.heap ∧ Q v U'.heap) ∧ FrameEnd U o U' L rm.cells rm.slots)
theorem Ext.refl (h : Heap) : Ext h h := ⟨Nat.le_refl _, fun _ _ q => q⟩
theorem Ext.trans {h h' h'' : Heap} (E : Ext h h') (E' : Ext h' h'') : Ext h h'' := ⟨Nat.le_trans E.1 E'.1, fun a c q => E'.2 a c (E.2 a c q)⟩
theorem Ext.keep {h0 h h' : Heap} {ws : List Addr} (E : Ext h0 h) (K : Keep h h' ws) (q : ∀ x ∈ ws, h0.size ≤ x) : Ext h0 h' := ⟨Nat.le_trans E.1 K.1, fun x c r => K.2.1 x c (E.2 x c r) fun z => absurd (Array.getElem?_eq_some_iff.mp r).1 (Nat.not_lt.mpr (q x z))⟩
theorem Ext.wr {h0 h h' : Heap} {a : Addr} {sl : Nat} {v : Value} (E : Ext h0 h) (W : Wr h h' a sl v) (q : h0.size ≤ a) : Ext h0 h' := E.keep (Keep.of_wr W) (allS q all0)
theorem Keep.of_ext {h h' : Heap} (E : Ext h h') (ws : List Addr) : Keep h h' ws := (Keep.refl h ws).ext E
theorem Keep.ext0 {h h' : Heap} (K : Keep h h' []) : Ext h h' := ⟨K.1, fun x c q => K.2.1 x c q nin0⟩
theorem Keep.sub {h h' : Heap} {ws ws' : List Addr} (K : Keep h h' ws) (q : ∀ x ∈ ws, x ∈ ws') : Keep h h' ws' := ⟨K.1, fun x c r n => K.2.1 x c r fun z => n (q x z), K.2.2⟩
theorem Con.of {l : Launch} {Z : State} {y : MethodName} {bytes : ByteArray} {ml : Nat} {ret : Option FieldType} {rm : Room} {as : Array Value} {h0 : Heap} {Q : Option Value → Heap → Prop} (pn : plainFor y = true) (hE : Ext Z.heap h0)
    (body : ∀ (p : Program) (e : Env) (s : State) (m : MethodId) (below : List Frame) (T : State), Sd l Z y.cls y.name bytes ml ret rm p e s m as below T h0 0 0 → End Z p e below s Q rm.cells rm.slots T (entryFrame m as ml)) : Con l Z y bytes ml ret rm as h0 Q := by
  intro ws
  refine MetFree.of_bodySF pn hisR ?_
  intro p e s m args below meth c s₁ Bd hml hP hK
  obtain ⟨rfl, hZ, hh⟩ := hP
  have X : Stand p l e rm s m args below meth c s₁ [] 0 0 := Stand.of_body Bd
  have e0 : s₁.heap = h0 := by rw [← hh, Bd.state]; rfl
  exact body p e s m below s₁ ⟨meth, c, [], X, Fr.nil _, e0, hE, Bd.exec, Bd.bytes, hml, findClass_of_methodNamed Bd.named, (name_of_methodNamed Bd.named Bd.method).1, Bd.returns, Bd.notSynchronized, hZ⟩
variable {l : Launch} {Z : State} {own nm : String} {bytes : ByteArray} {ml : Nat} {ret : Option FieldType} {R : Room} {p : Program} {e : Env} {s : State} {m : MethodId} {args : Array Value} {below : List Frame} {T : State} {h : Heap} {cells slots : Nat} {Q : Option Value → Heap → Prop} {kc ks : Nat} {pc pc' : Nat} {Ls : Array Slot} {st : List Value} {a0 : Array Value}
theorem End.go {T' : State} {g g' : JFrame} (k : End Z p e below s Q kc ks T' g') (stp : ∀ target, Steps p.tables e below (T'.setTop g') target → Steps p.tables e below (T.setTop g) target) : End Z p e below s Q kc ks T g := by
  obtain ⟨s2, o, h1, h2⟩ := k
  exact ⟨s2, o, stp _ h1, h2⟩
theorem End.frame {g g' : JFrame} (q : g = g') (k : End Z p e below s Q kc ks T g') : End Z p e below s Q kc ks T g := q ▸ k
theorem End.of {Q' : Option Value → Heap → Prop} {g : JFrame} (k : End Z p e below s Q kc ks T g) (q : ∀ v h, Q v h → Q' v h) : End Z p e below s Q' kc ks T g := by
  obtain ⟨s2, o, h1, h2, h3, v, L, h4, ⟨h5, h6, h7⟩, h8⟩ := k
  exact ⟨s2, o, h1, h2, h3, v, L, h4, ⟨h5, h6, q _ _ h7⟩, h8⟩
theorem Con.imp {y : MethodName} {rm : Room} {as : Array Value} {h0 : Heap} {Q' : Option Value → Heap → Prop} (C : Con l Z y bytes ml ret rm as h0 Q) (q : ∀ v h, Q v h → Q' v h) : Con l Z y bytes ml ret rm as h0 Q' := by
  intro ws p e ha hc hk s m args below hf happ hP hK
  obtain ⟨n, o, h1, h2, h3, v, L, h4, ⟨h5, h6, h7⟩, h8⟩ := C ws p e ha hc hk s m args below hf happ hP hK
  exact ⟨n, o, h1, h2, h3, v, L, h4, ⟨h5, h6, q _ _ h7⟩, h8⟩
theorem Sd.ext (X : Sd l Z own nm bytes ml ret R p e s m args below T h cells slots) : Ext Z.heap h := by obtain ⟨meth, c, locs, X, N, e0, E, -⟩ := X; exact E
theorem Sd.le (X : Sd l Z own nm bytes ml ret R p e s m args below T h cells slots) : Z.heap.size ≤ h.size := X.ext.1
theorem Sd.more (X : Sd l Z own nm bytes ml ret R p e s m args below T h cells slots) {cells' slots' : Nat} (h1 : cells ≤ cells') (h2 : slots ≤ slots') : Sd l Z own nm bytes ml ret R p e s m args below T h cells' slots' := by
  obtain ⟨meth, c, locs, X, r⟩ := X; exact ⟨meth, c, locs, X.more h1 h2, r⟩
/-! returns -/
theorem E_ret0 (X : Sd l Z own nm bytes ml none R p e s m args below T h cells slots) (hd : decode bytes pc = .ok (.return_, 1)) (h1 : cells ≤ kc) (h2 : slots ≤ ks) (hq : Q none h) : End Z p e below s Q kc ks T (mkF m pc Ls []) := by
  obtain ⟨meth, c, locs, X, N, e0, E, hx, hb, hml, hown, hnm, hret, hlk, hZ⟩ := X
  subst hb
  obtain ⟨fs, hr, hrun, hended, hW, hsame⟩ := X.leave (v := none) (fun _ => rfl)
  exact ⟨_, _, X.returnOut hx hret hd hr, hrun, hended, _, _, rfl, ⟨N, by show Ext Z.heap T.heap; rw [e0]; exact E, by show Q none T.heap; rw [e0]; exact hq⟩, ⟨_, rfl⟩, hW, hsame.mono h1 h2⟩
theorem E_retW {t : FieldType} {w : Value} {i : Instr} (hn : narrow t w = w) (hi : (i = .ireturn ∧ (t = .int ∨ t = .boolean ∨ t = .byte ∨ t = .char ∨ t = .short) ∧ ∃ z, w = .int z) ∨ (i = .lreturn ∧ t = .long ∧ ∃ z, w = .long z) ∨ (i = .dreturn ∧ t = .double ∧ ∃ z, w = .double z) ∨ (i = .freturn ∧ t = .float ∧ ∃ z, w = .float z) ∨ (i = .areturn ∧ t.isReference = true ∧ w.isRef = true))
    (X : Sd l Z own nm bytes ml (some t) R p e s m args below T h cells slots) (hd : decode bytes pc = .ok (i, 1)) (h1 : cells ≤ kc) (h2 : slots ≤ ks) (hq : Q (some w) h) : End Z p e below s Q kc ks T (mkF m pc Ls (w :: st)) := by
  obtain ⟨meth, c, locs, X, N, e0, E, hx, hb, hml, hown, hnm, hret, hlk, hZ⟩ := X
  subst hb
  obtain ⟨fs, hr, hrun, hended, hW, hsame⟩ := X.leave (v := some w) (fun h => by rw [hret] at h; cases h)
  exact ⟨_, _, retOut X hx hret hn hi hd hr, hrun, hended, _, _, rfl, ⟨N, by show Ext Z.heap T.heap; rw [e0]; exact E, by show Q (some w) T.heap; rw [e0]; exact hq⟩, ⟨_, rfl⟩, hW, hsame.mono h1 h2⟩
theorem E_retI {z : Int32} (X : Sd l Z own nm bytes ml (some .int) R p e s m args below T h cells slots) (hd : decode bytes pc = .ok (.ireturn, 1)) (h1 : cells ≤ kc) (h2 : slots ≤ ks) (hq : Q (some (.int z)) h) : End Z p e below s Q kc ks T (mkF m pc Ls (.int z :: st)) :=
  E_retW (t := .int) rfl (Or.inl ⟨rfl, Or.inl rfl, z, rfl⟩) X hd h1 h2 hq
theorem E_retL {z : Int64} (X : Sd l Z own nm bytes ml (some .long) R p e s m args below T h cells slots) (hd : decode bytes pc = .ok (.lreturn, 1)) (h1 : cells ≤ kc) (h2 : slots ≤ ks) (hq : Q (some (.long z)) h) : End Z p e below s Q kc ks T (mkF m pc Ls (.long z :: st)) :=
  E_retW (t := .long) rfl (Or.inr (Or.inl ⟨rfl, rfl, z, rfl⟩)) X hd h1 h2 hq
theorem E_retA {t : FieldType} {w : Value} (X : Sd l Z own nm bytes ml (some t) R p e s m args below T h cells slots) (hd : decode bytes pc = .ok (.areturn, 1)) (ht : t.isReference = true) (hw : w.isRef = true) (h1 : cells ≤ kc) (h2 : slots ≤ ks) (hq : Q (some w) h) : End Z p e below s Q kc ks T (mkF m pc Ls (w :: st)) :=
  E_retW (by rcases ref_cases hw with rfl | ⟨a, rfl⟩ <;> (cases t <;> first | rfl | (simp [FieldType.isReference] at ht))) (Or.inr (Or.inr (Or.inr (Or.inr ⟨rfl, ht, hw⟩)))) X hd h1 h2 hq
theorem E_retZ {z : Int32} (hz : z = 0 ∨ z = 1) (X : Sd l Z own nm bytes ml (some .boolean) R p e s m args below T h cells slots) (hd : decode bytes pc = .ok (.ireturn, 1)) (h1 : cells ≤ kc) (h2 : slots ≤ ks) (hq : Q (some (.int z)) h) : End Z p e below s Q kc ks T (mkF m pc Ls (.int z :: st)) :=
  E_retW (t := .boolean) (by rcases hz with rfl | rfl <;> rfl) (Or.inl ⟨rfl, Or.inr (Or.inl rfl), z, rfl⟩) X hd h1 h2 hq
theorem E_iloadN (X : Sd l Z own nm bytes ml ret R p e s m args below T h cells slots) {i : Fin 4} {v : Int32} (hd : decode bytes pc = .ok (.iload_n i, 1)) (hp : pc + 1 = pc') (hl : Ls[i.val]? = some (.val (.int v))) (k : End Z p e below s Q kc ks T (mkF m pc' Ls (.int v :: st))) : End Z p e below s Q kc ks T (mkF m pc Ls st) := by
  subst hp; obtain ⟨meth, c, locs, X, -, -, -, hx, hb, -⟩ := X; subst hb
  exact k.go fun _ => XS.iloadN X.here hx (g := mkF m pc Ls st) rfl hd hl
theorem E_iload (X : Sd l Z own nm bytes ml ret R p e s m args below T h cells slots) {i : Nat} {v : Int32} (hd : decode bytes pc = .ok (.iload i, 2)) (hp : pc + 2 = pc') (hl : Ls[i]? = some (.val (.int v))) (k : End Z p e below s Q kc ks T (mkF m pc' Ls (.int v :: st))) : End Z p e below s Q kc ks T (mkF m pc Ls st) := by
  subst hp; obtain ⟨meth, c, locs, X, -, -, -, hx, hb, -⟩ := X; subst hb
  exact k.go fun _ => XS.iload X.here hx (g := mkF m pc Ls st) rfl hd hl
theorem E_istoreN (X : Sd l Z own nm bytes ml ret R p e s m args below T h cells slots) {i : Fin 4} {v : Int32} {Ls' : Array Slot} (hd : decode bytes pc = .ok (.istore_n i, 1)) (hp : pc + 1 = pc') (hl : storeLocals Ls i.val (.int v) = some Ls') (k : End Z p e below s Q kc ks T (mkF m pc' Ls' st)) : End Z p e below s Q kc ks T (mkF m pc Ls (.int v :: st)) := by
  subst hp; obtain ⟨meth, c, locs, X, -, -, -, hx, hb, -⟩ := X; subst hb
  exact k.go fun _ => XS.istoreN X.here hx (g := mkF m pc Ls (.int v :: st)) rfl hd rfl hl
theorem E_istore (X : Sd l Z own nm bytes ml ret R p e s m args below T h cells slots) {i : Nat} {v : Int32} {Ls' : Array Slot} (hd : decode bytes pc = .ok (.istore i, 2)) (hp : pc + 2 = pc') (hl : storeLocals Ls i (.int v) = some Ls') (k : End Z p e below s Q kc ks T (mkF m pc' Ls' st)) : End Z p e below s Q kc ks T (mkF m pc Ls (.int v :: st)) := by
  subst hp; obtain ⟨meth, c, locs, X, -, -, -, hx, hb, -⟩ := X; subst hb
  exact k.go fun _ => XS.istore X.here hx (g := mkF m pc Ls (.int v :: st)) rfl hd rfl hl
theorem E_lloadN (X : Sd l Z own nm bytes ml ret R p e s m args below T h cells slots) {i : Fin 4} {v : Int64} (hd : decode bytes pc = .ok (.lload_n i, 1)) (hp : pc + 1 = pc') (hl : Ls[i.val]? = some (.val (.long v))) (k : End Z p e below s Q kc ks T (mkF m pc' Ls (.long v :: st))) : End Z p e below s Q kc ks T (mkF m pc Ls st) := by
  subst hp; obtain ⟨meth, c, locs, X, -, -, -, hx, hb, -⟩ := X; subst hb
  exact k.go fun _ => XS.lloadN X.here hx (g := mkF m pc Ls st) rfl hd hl
theorem E_lload (X : Sd l Z own nm bytes ml ret R p e s m args below T h cells slots) {i : Nat} {v : Int64} (hd : decode bytes pc = .ok (.lload i, 2)) (hp : pc + 2 = pc') (hl : Ls[i]? = some (.val (.long v))) (k : End Z p e below s Q kc ks T (mkF m pc' Ls (.long v :: st))) : End Z p e below s Q kc ks T (mkF m pc Ls st) := by
  subst hp; obtain ⟨meth, c, locs, X, -, -, -, hx, hb, -⟩ := X; subst hb
  exact k.go fun _ => XS.lload X.here hx (g := mkF m pc Ls st) rfl hd hl
theorem E_lstoreN (X : Sd l Z own nm bytes ml ret R p e s m args below T h cells slots) {i : Fin 4} {v : Int64} {Ls' : Array Slot} (hd : decode bytes pc = .ok (.lstore_n i, 1)) (hp : pc + 1 = pc') (hl : storeLocals Ls i.val (.long v) = some Ls') (k : End Z p e below s Q kc ks T (mkF m pc' Ls' st)) : End Z p e below s Q kc ks T (mkF m pc Ls (.long v :: st)) := by
  subst hp; obtain ⟨meth, c, locs, X, -, -, -, hx, hb, -⟩ := X; subst hb
  exact k.go fun _ => XS.lstoreN X.here hx (g := mkF m pc Ls (.long v :: st)) rfl hd rfl hl
theorem E_lstore (X : Sd l Z own nm bytes ml ret R p e s m args below T h cells slots) {i : Nat} {v : Int64} {Ls' : Array Slot} (hd : decode bytes pc = .ok (.lstore i, 2)) (hp : pc + 2 = pc') (hl : storeLocals Ls i (.long v) = some Ls') (k : End Z p e below s Q kc ks T (mkF m pc' Ls' st)) : End Z p e below s Q kc ks T (mkF m pc Ls (.long v :: st)) := by
  subst hp; obtain ⟨meth, c, locs, X, -, -, -, hx, hb, -⟩ := X; subst hb
  exact k.go fun _ => XS.lstore X.here hx (g := mkF m pc Ls (.long v :: st)) rfl hd rfl hl
theorem E_aloadN (X : Sd l Z own nm bytes ml ret R p e s m args below T h cells slots) {i : Fin 4} {v : Value} (hd : decode bytes pc = .ok (.aload_n i, 1)) (hp : pc + 1 = pc') (hl : Ls[i.val]? = some (.val v)) (hv : v.isRef = true) (k : End Z p e below s Q kc ks T (mkF m pc' Ls (v :: st))) : End Z p e below s Q kc ks T (mkF m pc Ls st) := by
  subst hp; obtain ⟨meth, c, locs, X, -, -, -, hx, hb, -⟩ := X; subst hb
  exact k.go fun _ => XS.aloadN X.here hx (g := mkF m pc Ls st) rfl hd hl hv
theorem E_aload (X : Sd l Z own nm bytes ml ret R p e s m args below T h cells slots) {i : Nat} {v : Value} (hd : decode bytes pc = .ok (.aload i, 2)) (hp : pc + 2 = pc') (hl : Ls[i]? = some (.val v)) (hv : v.isRef = true) (k : End Z p e below s Q kc ks T (mkF m pc' Ls (v :: st))) : End Z p e below s Q kc ks T (mkF m pc Ls st) := by
  subst hp; obtain ⟨meth, c, locs, X, -, -, -, hx, hb, -⟩ := X; subst hb
  exact k.go fun _ => XS.aload X.here hx (g := mkF m pc Ls st) rfl hd hl hv
theorem E_astoreN (X : Sd l Z own nm bytes ml ret R p e s m args below T h cells slots) {i : Fin 4} {v : Value} {Ls' : Array Slot} (hd : decode bytes pc = .ok (.astore_n i, 1)) (hp : pc + 1 = pc') (hv : v.isRef = true) (hl : storeLocals Ls i.val v = some Ls') (k : End Z p e below s Q kc ks T (mkF m pc' Ls' st)) : End Z p e below s Q kc ks T (mkF m pc Ls (v :: st)) := by
  subst hp; obtain ⟨meth, c, locs, X, -, -, -, hx, hb, -⟩ := X; subst hb
  exact k.go fun _ => XS.astoreN X.here hx (g := mkF m pc Ls (v :: st)) rfl hd rfl hv hl
theorem E_astore (X : Sd l Z own nm bytes ml ret R p e s m args below T h cells slots) {i : Nat} {v : Value} {Ls' : Array Slot} (hd : decode bytes pc = .ok (.astore i, 2)) (hp : pc + 2 = pc') (hv : v.isRef = true) (hl : storeLocals Ls i v = some Ls') (k : End Z p e below s Q kc ks T (mkF m pc' Ls' st)) : End Z p e below s Q kc ks T (mkF m pc Ls (v :: st)) := by
  subst hp; obtain ⟨meth, c, locs, X, -, -, -, hx, hb, -⟩ := X; subst hb
  exact k.go fun _ => XS.astore X.here hx (g := mkF m pc Ls (v :: st)) rfl hd rfl hv hl
theorem E_iconst (X : Sd l Z own nm bytes ml ret R p e s m args below T h cells slots) {i : Int} {v : Int32} (hd : decode bytes pc = .ok (.iconst i, 1)) (hp : pc + 1 = pc') (hv : Int32.ofInt i = v) (k : End Z p e below s Q kc ks T (mkF m pc' Ls (.int v :: st))) : End Z p e below s Q kc ks T (mkF m pc Ls st) := by
  subst hp; obtain ⟨meth, c, locs, X, -, -, -, hx, hb, -⟩ := X; subst hb
  exact k.go fun _ => by subst hv; exact XS.iconst X.here hx (g := mkF m pc Ls st) rfl hd
theorem E_bipush (X : Sd l Z own nm bytes ml ret R p e s m args below T h cells slots) {i : Int} {v : Int32} (hd : decode bytes pc = .ok (.bipush i, 2)) (hp : pc + 2 = pc') (hv : (Int8.ofInt i).toInt32 = v) (k : End Z p e below s Q kc ks T (mkF m pc' Ls (.int v :: st))) : End Z p e below s Q kc ks T (mkF m pc Ls st) := by
  subst hp; obtain ⟨meth, c, locs, X, -, -, -, hx, hb, -⟩ := X; subst hb
  exact k.go fun _ => by subst hv; exact XS.bipush X.here hx (g := mkF m pc Ls st) rfl hd
theorem E_sipush (X : Sd l Z own nm bytes ml ret R p e s m args below T h cells slots) {i : Int} {v : Int32} (hd : decode bytes pc = .ok (.sipush i, 3)) (hp : pc + 3 = pc') (hv : (Int16.ofInt i).toInt32 = v) (k : End Z p e below s Q kc ks T (mkF m pc' Ls (.int v :: st))) : End Z p e below s Q kc ks T (mkF m pc Ls st) := by
  subst hp; obtain ⟨meth, c, locs, X, -, -, -, hx, hb, -⟩ := X; subst hb
  exact k.go fun _ => by subst hv; exact XS.sipush X.here hx (g := mkF m pc Ls st) rfl hd
theorem E_lconst (X : Sd l Z own nm bytes ml ret R p e s m args below T h cells slots) {i : Fin 2} {v : Int64} (hd : decode bytes pc = .ok (.lconst i, 1)) (hp : pc + 1 = pc') (hv : Int64.ofNat i = v) (k : End Z p e below s Q kc ks T (mkF m pc' Ls (.long v :: st))) : End Z p e below s Q kc ks T (mkF m pc Ls st) := by
  subst hp; obtain ⟨meth, c, locs, X, -, -, -, hx, hb, -⟩ := X; subst hb
  exact k.go fun _ => by subst hv; exact XS.lconst X.here hx (g := mkF m pc Ls st) rfl hd
theorem E_null (X : Sd l Z own nm bytes ml ret R p e s m args below T h cells slots)  (hd : decode bytes pc = .ok (.aconst_null, 1)) (hp : pc + 1 = pc') (k : End Z p e below s Q kc ks T (mkF m pc' Ls (.null :: st))) : End Z p e below s Q kc ks T (mkF m pc Ls st) := by
  subst hp; obtain ⟨meth, c, locs, X, -, -, -, hx, hb, -⟩ := X; subst hb
  exact k.go fun _ => XS.aconstNull X.here hx (g := mkF m pc Ls st) rfl hd
theorem E_iadd (X : Sd l Z own nm bytes ml ret R p e s m args below T h cells slots) {x y : Int32} (hd : decode bytes pc = .ok (.iadd, 1)) (hp : pc + 1 = pc') (k : End Z p e below s Q kc ks T (mkF m pc' Ls (.int (x + y) :: st))) : End Z p e below s Q kc ks T (mkF m pc Ls (.int y :: .int x :: st)) := by
  subst hp; obtain ⟨meth, c, locs, X, -, -, -, hx, hb, -⟩ := X; subst hb
  exact k.go fun _ => XS.iadd X.here hx (g := mkF m pc Ls (.int y :: .int x :: st)) rfl hd rfl
theorem E_isub (X : Sd l Z own nm bytes ml ret R p e s m args below T h cells slots) {x y : Int32} (hd : decode bytes pc = .ok (.isub, 1)) (hp : pc + 1 = pc') (k : End Z p e below s Q kc ks T (mkF m pc' Ls (.int (x - y) :: st))) : End Z p e below s Q kc ks T (mkF m pc Ls (.int y :: .int x :: st)) := by
  subst hp; obtain ⟨meth, c, locs, X, -, -, -, hx, hb, -⟩ := X; subst hb
  exact k.go fun _ => XS.isub X.here hx (g := mkF m pc Ls (.int y :: .int x :: st)) rfl hd rfl
theorem E_imul (X : Sd l Z own nm bytes ml ret R p e s m args below T h cells slots) {x y : Int32} (hd : decode bytes pc = .ok (.imul, 1)) (hp : pc + 1 = pc') (k : End Z p e below s Q kc ks T (mkF m pc' Ls (.int (x * y) :: st))) : End Z p e below s Q kc ks T (mkF m pc Ls (.int y :: .int x :: st)) := by
  subst hp; obtain ⟨meth, c, locs, X, -, -, -, hx, hb, -⟩ := X; subst hb
  exact k.go fun _ => XS.imul X.here hx (g := mkF m pc Ls (.int y :: .int x :: st)) rfl hd rfl
theorem E_iand (X : Sd l Z own nm bytes ml ret R p e s m args below T h cells slots) {x y : Int32} (hd : decode bytes pc = .ok (.iand, 1)) (hp : pc + 1 = pc') (k : End Z p e below s Q kc ks T (mkF m pc' Ls (.int (x &&& y) :: st))) : End Z p e below s Q kc ks T (mkF m pc Ls (.int y :: .int x :: st)) := by
  subst hp; obtain ⟨meth, c, locs, X, -, -, -, hx, hb, -⟩ := X; subst hb
  exact k.go fun _ => XS.iand X.here hx (g := mkF m pc Ls (.int y :: .int x :: st)) rfl hd rfl
theorem E_ior (X : Sd l Z own nm bytes ml ret R p e s m args below T h cells slots) {x y : Int32} (hd : decode bytes pc = .ok (.ior, 1)) (hp : pc + 1 = pc') (k : End Z p e below s Q kc ks T (mkF m pc' Ls (.int (x ||| y) :: st))) : End Z p e below s Q kc ks T (mkF m pc Ls (.int y :: .int x :: st)) := by
  subst hp; obtain ⟨meth, c, locs, X, -, -, -, hx, hb, -⟩ := X; subst hb
  exact k.go fun _ => XS.ior X.here hx (g := mkF m pc Ls (.int y :: .int x :: st)) rfl hd rfl
theorem E_ixor (X : Sd l Z own nm bytes ml ret R p e s m args below T h cells slots) {x y : Int32} (hd : decode bytes pc = .ok (.ixor, 1)) (hp : pc + 1 = pc') (k : End Z p e below s Q kc ks T (mkF m pc' Ls (.int (x ^^^ y) :: st))) : End Z p e below s Q kc ks T (mkF m pc Ls (.int y :: .int x :: st)) := by
  subst hp; obtain ⟨meth, c, locs, X, -, -, -, hx, hb, -⟩ := X; subst hb
  exact k.go fun _ => XS.ixor X.here hx (g := mkF m pc Ls (.int y :: .int x :: st)) rfl hd rfl
theorem E_idiv (X : Sd l Z own nm bytes ml ret R p e s m args below T h cells slots) {x y : Int32} (hd : decode bytes pc = .ok (.idiv, 1)) (hp : pc + 1 = pc') (hy : y ≠ 0) (k : End Z p e below s Q kc ks T (mkF m pc' Ls (.int (x / y) :: st))) : End Z p e below s Q kc ks T (mkF m pc Ls (.int y :: .int x :: st)) := by
  subst hp; obtain ⟨meth, c, locs, X, -, -, -, hx, hb, -⟩ := X; subst hb
  exact k.go fun _ => XS.idiv X.here hx (g := mkF m pc Ls (.int y :: .int x :: st)) rfl hd rfl hy
theorem E_ineg (X : Sd l Z own nm bytes ml ret R p e s m args below T h cells slots) {x : Int32} (hd : decode bytes pc = .ok (.ineg, 1)) (hp : pc + 1 = pc') (k : End Z p e below s Q kc ks T (mkF m pc' Ls (.int (-x) :: st))) : End Z p e below s Q kc ks T (mkF m pc Ls (.int x :: st)) := by
  subst hp; obtain ⟨meth, c, locs, X, -, -, -, hx, hb, -⟩ := X; subst hb
  exact k.go fun _ => XS.ineg X.here hx (g := mkF m pc Ls (.int x :: st)) rfl hd rfl
theorem E_ladd (X : Sd l Z own nm bytes ml ret R p e s m args below T h cells slots) {x y : Int64} (hd : decode bytes pc = .ok (.ladd, 1)) (hp : pc + 1 = pc') (k : End Z p e below s Q kc ks T (mkF m pc' Ls (.long (x + y) :: st))) : End Z p e below s Q kc ks T (mkF m pc Ls (.long y :: .long x :: st)) := by
  subst hp; obtain ⟨meth, c, locs, X, -, -, -, hx, hb, -⟩ := X; subst hb
  exact k.go fun _ => XS.ladd X.here hx (g := mkF m pc Ls (.long y :: .long x :: st)) rfl hd rfl
theorem E_lsub (X : Sd l Z own nm bytes ml ret R p e s m args below T h cells slots) {x y : Int64} (hd : decode bytes pc = .ok (.lsub, 1)) (hp : pc + 1 = pc') (k : End Z p e below s Q kc ks T (mkF m pc' Ls (.long (x - y) :: st))) : End Z p e below s Q kc ks T (mkF m pc Ls (.long y :: .long x :: st)) := by
  subst hp; obtain ⟨meth, c, locs, X, -, -, -, hx, hb, -⟩ := X; subst hb
  exact k.go fun _ => XS.lsub X.here hx (g := mkF m pc Ls (.long y :: .long x :: st)) rfl hd rfl
theorem E_lmul (X : Sd l Z own nm bytes ml ret R p e s m args below T h cells slots) {x y : Int64} (hd : decode bytes pc = .ok (.lmul, 1)) (hp : pc + 1 = pc') (k : End Z p e below s Q kc ks T (mkF m pc' Ls (.long (x * y) :: st))) : End Z p e below s Q kc ks T (mkF m pc Ls (.long y :: .long x :: st)) := by
  subst hp; obtain ⟨meth, c, locs, X, -, -, -, hx, hb, -⟩ := X; subst hb
  exact k.go fun _ => XS.lmul X.here hx (g := mkF m pc Ls (.long y :: .long x :: st)) rfl hd rfl
theorem E_land (X : Sd l Z own nm bytes ml ret R p e s m args below T h cells slots) {x y : Int64} (hd : decode bytes pc = .ok (.land, 1)) (hp : pc + 1 = pc') (k : End Z p e below s Q kc ks T (mkF m pc' Ls (.long (x &&& y) :: st))) : End Z p e below s Q kc ks T (mkF m pc Ls (.long y :: .long x :: st)) := by
  subst hp; obtain ⟨meth, c, locs, X, -, -, -, hx, hb, -⟩ := X; subst hb
  exact k.go fun _ => XS.land X.here hx (g := mkF m pc Ls (.long y :: .long x :: st)) rfl hd rfl
theorem E_lor (X : Sd l Z own nm bytes ml ret R p e s m args below T h cells slots) {x y : Int64} (hd : decode bytes pc = .ok (.lor, 1)) (hp : pc + 1 = pc') (k : End Z p e below s Q kc ks T (mkF m pc' Ls (.long (x ||| y) :: st))) : End Z p e below s Q kc ks T (mkF m pc Ls (.long y :: .long x :: st)) := by
  subst hp; obtain ⟨meth, c, locs, X, -, -, -, hx, hb, -⟩ := X; subst hb
  exact k.go fun _ => XS.lor X.here hx (g := mkF m pc Ls (.long y :: .long x :: st)) rfl hd rfl
theorem E_lxor (X : Sd l Z own nm bytes ml ret R p e s m args below T h cells slots) {x y : Int64} (hd : decode bytes pc = .ok (.lxor, 1)) (hp : pc + 1 = pc') (k : End Z p e below s Q kc ks T (mkF m pc' Ls (.long (x ^^^ y) :: st))) : End Z p e below s Q kc ks T (mkF m pc Ls (.long y :: .long x :: st)) := by
  subst hp; obtain ⟨meth, c, locs, X, -, -, -, hx, hb, -⟩ := X; subst hb
  exact k.go fun _ => XS.lxor X.here hx (g := mkF m pc Ls (.long y :: .long x :: st)) rfl hd rfl
theorem E_ldiv (X : Sd l Z own nm bytes ml ret R p e s m args below T h cells slots) {x y : Int64} (hd : decode bytes pc = .ok (.ldiv, 1)) (hp : pc + 1 = pc') (hy : y ≠ 0) (k : End Z p e below s Q kc ks T (mkF m pc' Ls (.long (x / y) :: st))) : End Z p e below s Q kc ks T (mkF m pc Ls (.long y :: .long x :: st)) := by
  subst hp; obtain ⟨meth, c, locs, X, -, -, -, hx, hb, -⟩ := X; subst hb
  exact k.go fun _ => XS.ldiv X.here hx (g := mkF m pc Ls (.long y :: .long x :: st)) rfl hd rfl hy
theorem E_lneg (X : Sd l Z own nm bytes ml ret R p e s m args below T h cells slots) {x : Int64} (hd : decode bytes pc = .ok (.lneg, 1)) (hp : pc + 1 = pc') (k : End Z p e below s Q kc ks T (mkF m pc' Ls (.long (-x) :: st))) : End Z p e below s Q kc ks T (mkF m pc Ls (.long x :: st)) := by
  subst hp; obtain ⟨meth, c, locs, X, -, -, -, hx, hb, -⟩ := X; subst hb
  exact k.go fun _ => XS.lneg X.here hx (g := mkF m pc Ls (.long x :: st)) rfl hd rfl
theorem E_irem (X : Sd l Z own nm bytes ml ret R p e s m args below T h cells slots) {x y : Int32} (hd : decode bytes pc = .ok (.irem, 1)) (hp : pc + 1 = pc') (hy : y ≠ 0) (k : End Z p e below s Q kc ks T (mkF m pc' Ls (.int (x % y) :: st))) : End Z p e below s Q kc ks T (mkF m pc Ls (.int y :: .int x :: st)) := by
  subst hp; obtain ⟨meth, c, locs, X, -, -, -, hx, hb, -⟩ := X; subst hb
  exact k.go fun _ => iremM X hx (g := mkF m pc Ls (.int y :: .int x :: st)) rfl hd rfl hy
theorem E_lrem (X : Sd l Z own nm bytes ml ret R p e s m args below T h cells slots) {x y : Int64} (hd : decode bytes pc = .ok (.lrem, 1)) (hp : pc + 1 = pc') (hy : y ≠ 0) (k : End Z p e below s Q kc ks T (mkF m pc' Ls (.long (x % y) :: st))) : End Z p e below s Q kc ks T (mkF m pc Ls (.long y :: .long x :: st)) := by
  subst hp; obtain ⟨meth, c, locs, X, -, -, -, hx, hb, -⟩ := X; subst hb
  exact k.go fun _ => fun hr => XS.lrem X.here hx (g := mkF m pc Ls (.long y :: .long x :: st)) rfl hd rfl hy (by rw [lrem_mod x y]; exact hr)
theorem E_ishl (X : Sd l Z own nm bytes ml ret R p e s m args below T h cells slots) {x y : Int32} (hd : decode bytes pc = .ok (.ishl, 1)) (hp : pc + 1 = pc') (k : End Z p e below s Q kc ks T (mkF m pc' Ls (.int (x <<< (y &&& 31)) :: st))) : End Z p e below s Q kc ks T (mkF m pc Ls (.int y :: .int x :: st)) := by
  subst hp; obtain ⟨meth, c, locs, X, -, -, -, hx, hb, -⟩ := X; subst hb
  exact k.go fun _ => XS.ishl X.here hx (g := mkF m pc Ls (.int y :: .int x :: st)) rfl hd rfl
theorem E_ishr (X : Sd l Z own nm bytes ml ret R p e s m args below T h cells slots) {x y : Int32} (hd : decode bytes pc = .ok (.ishr, 1)) (hp : pc + 1 = pc') (k : End Z p e below s Q kc ks T (mkF m pc' Ls (.int (x >>> (y &&& 31)) :: st))) : End Z p e below s Q kc ks T (mkF m pc Ls (.int y :: .int x :: st)) := by
  subst hp; obtain ⟨meth, c, locs, X, -, -, -, hx, hb, -⟩ := X; subst hb
  exact k.go fun _ => XS.ishr X.here hx (g := mkF m pc Ls (.int y :: .int x :: st)) rfl hd rfl
theorem E_iushr (X : Sd l Z own nm bytes ml ret R p e s m args below T h cells slots) {x y : Int32} (hd : decode bytes pc = .ok (.iushr, 1)) (hp : pc + 1 = pc') (k : End Z p e below s Q kc ks T (mkF m pc' Ls (.int ((x.toUInt32 >>> (y &&& 31).toUInt32).toInt32) :: st))) : End Z p e below s Q kc ks T (mkF m pc Ls (.int y :: .int x :: st)) := by
  subst hp; obtain ⟨meth, c, locs, X, -, -, -, hx, hb, -⟩ := X; subst hb
  exact k.go fun _ => XS.iushr X.here hx (g := mkF m pc Ls (.int y :: .int x :: st)) rfl hd rfl
theorem E_lshl (X : Sd l Z own nm bytes ml ret R p e s m args below T h cells slots) {x : Int64} {y : Int32} (hd : decode bytes pc = .ok (.lshl, 1)) (hp : pc + 1 = pc') (k : End Z p e below s Q kc ks T (mkF m pc' Ls (.long (x <<< (y &&& 0x3f).toInt64) :: st))) : End Z p e below s Q kc ks T (mkF m pc Ls (.int y :: .long x :: st)) := by
  subst hp; obtain ⟨meth, c, locs, X, -, -, -, hx, hb, -⟩ := X; subst hb
  exact k.go fun _ => XS.lshl X.here hx (g := mkF m pc Ls (.int y :: .long x :: st)) rfl hd rfl
theorem E_lshr (X : Sd l Z own nm bytes ml ret R p e s m args below T h cells slots) {x : Int64} {y : Int32} (hd : decode bytes pc = .ok (.lshr, 1)) (hp : pc + 1 = pc') (k : End Z p e below s Q kc ks T (mkF m pc' Ls (.long (x >>> (y &&& 0x3f).toInt64) :: st))) : End Z p e below s Q kc ks T (mkF m pc Ls (.int y :: .long x :: st)) := by
  subst hp; obtain ⟨meth, c, locs, X, -, -, -, hx, hb, -⟩ := X; subst hb
  exact k.go fun _ => XS.lshr X.here hx (g := mkF m pc Ls (.int y :: .long x :: st)) rfl hd rfl
theorem E_lushr (X : Sd l Z own nm bytes ml ret R p e s m args below T h cells slots) {x : Int64} {y : Int32} (hd : decode bytes pc = .ok (.lushr, 1)) (hp : pc + 1 = pc') (k : End Z p e below s Q kc ks T (mkF m pc' Ls (.long ((x.toUInt64 >>> (y &&& 0x3f).toInt64.toUInt64).toInt64) :: st))) : End Z p e below s Q kc ks T (mkF m pc Ls (.int y :: .long x :: st)) := by
  subst hp; obtain ⟨meth, c, locs, X, -, -, -, hx, hb, -⟩ := X; subst hb
  exact k.go fun _ => XS.lushr X.here hx (g := mkF m pc Ls (.int y :: .long x :: st)) rfl hd rfl
theorem E_i2l (X : Sd l Z own nm bytes ml ret R p e s m args below T h cells slots) {x : Int32} (hd : decode bytes pc = .ok (.i2l, 1)) (hp : pc + 1 = pc') (k : End Z p e below s Q kc ks T (mkF m pc' Ls (.long (x.toInt64) :: st))) : End Z p e below s Q kc ks T (mkF m pc Ls (.int x :: st)) := by
  subst hp; obtain ⟨meth, c, locs, X, -, -, -, hx, hb, -⟩ := X; subst hb
  exact k.go fun _ => XS.i2l X.here hx (g := mkF m pc Ls (.int x :: st)) rfl hd rfl
theorem E_l2i (X : Sd l Z own nm bytes ml ret R p e s m args below T h cells slots) {x : Int64} (hd : decode bytes pc = .ok (.l2i, 1)) (hp : pc + 1 = pc') (k : End Z p e below s Q kc ks T (mkF m pc' Ls (.int (x.toInt32) :: st))) : End Z p e below s Q kc ks T (mkF m pc Ls (.long x :: st)) := by
  subst hp; obtain ⟨meth, c, locs, X, -, -, -, hx, hb, -⟩ := X; subst hb
  exact k.go fun _ => XS.l2i X.here hx (g := mkF m pc Ls (.long x :: st)) rfl hd rfl
theorem E_i2b (X : Sd l Z own nm bytes ml ret R p e s m args below T h cells slots) {x : Int32} (hd : decode bytes pc = .ok (.i2b, 1)) (hp : pc + 1 = pc') (k : End Z p e below s Q kc ks T (mkF m pc' Ls (.int (x.toInt8.toInt32) :: st))) : End Z p e below s Q kc ks T (mkF m pc Ls (.int x :: st)) := by
  subst hp; obtain ⟨meth, c, locs, X, -, -, -, hx, hb, -⟩ := X; subst hb
  exact k.go fun _ => XS.i2b X.here hx (g := mkF m pc Ls (.int x :: st)) rfl hd rfl
theorem E_i2c (X : Sd l Z own nm bytes ml ret R p e s m args below T h cells slots) {x : Int32} (hd : decode bytes pc = .ok (.i2c, 1)) (hp : pc + 1 = pc') (k : End Z p e below s Q kc ks T (mkF m pc' Ls (.int (x.toUInt32.toUInt16.toUInt32.toInt32) :: st))) : End Z p e below s Q kc ks T (mkF m pc Ls (.int x :: st)) := by
  subst hp; obtain ⟨meth, c, locs, X, -, -, -, hx, hb, -⟩ := X; subst hb
  exact k.go fun _ => XS.i2c X.here hx (g := mkF m pc Ls (.int x :: st)) rfl hd rfl
theorem E_i2s (X : Sd l Z own nm bytes ml ret R p e s m args below T h cells slots) {x : Int32} (hd : decode bytes pc = .ok (.i2s, 1)) (hp : pc + 1 = pc') (k : End Z p e below s Q kc ks T (mkF m pc' Ls (.int (x.toInt16.toInt32) :: st))) : End Z p e below s Q kc ks T (mkF m pc Ls (.int x :: st)) := by
  subst hp; obtain ⟨meth, c, locs, X, -, -, -, hx, hb, -⟩ := X; subst hb
  exact k.go fun _ => XS.i2s X.here hx (g := mkF m pc Ls (.int x :: st)) rfl hd rfl
theorem E_lcmp (X : Sd l Z own nm bytes ml ret R p e s m args below T h cells slots) {x y : Int64} (hd : decode bytes pc = .ok (.lcmp, 1)) (hp : pc + 1 = pc') (k : End Z p e below s Q kc ks T (mkF m pc' Ls (.int (lcmpW x y) :: st))) : End Z p e below s Q kc ks T (mkF m pc Ls (.long y :: .long x :: st)) := by
  subst hp; obtain ⟨meth, c, locs, X, -, -, -, hx, hb, -⟩ := X; subst hb
  exact k.go fun _ => XS.lcmp X.here hx (g := mkF m pc Ls (.long y :: .long x :: st)) rfl hd rfl
theorem E_iinc (X : Sd l Z own nm bytes ml ret R p e s m args below T h cells slots) {i : Nat} {cst : Int} {x z : Int32} {Ls' : Array Slot} (hd : decode bytes pc = .ok (.iinc i cst, 3)) (hp : pc + 3 = pc') (hl : Ls[i]? = some (.val (.int x))) (hz : x + Int32.ofInt cst = z) (hl' : storeLocals Ls i (.int z) = some Ls') (k : End Z p e below s Q kc ks T (mkF m pc' Ls' st)) : End Z p e below s Q kc ks T (mkF m pc Ls st) := by
  subst hp; obtain ⟨meth, c, locs, X, -, -, -, hx, hb, -⟩ := X; subst hb
  exact k.go fun _ => by subst hz; exact XS.iinc X.here hx (g := mkF m pc Ls st) rfl hd hl hl'
theorem E_dup (X : Sd l Z own nm bytes ml ret R p e s m args below T h cells slots) {v : Value} (hd : decode bytes pc = .ok (.dup, 1)) (hp : pc + 1 = pc') (hc : v.category = 1) (k : End Z p e below s Q kc ks T (mkF m pc' Ls (v :: v :: st))) : End Z p e below s Q kc ks T (mkF m pc Ls (v :: st)) := by
  subst hp; obtain ⟨meth, c, locs, X, -, -, -, hx, hb, -⟩ := X; subst hb
  exact k.go fun _ => XS.dup X.here hx (g := mkF m pc Ls (v :: st)) rfl hd rfl hc
theorem E_pop (X : Sd l Z own nm bytes ml ret R p e s m args below T h cells slots) {v : Value} (hd : decode bytes pc = .ok (.pop, 1)) (hp : pc + 1 = pc') (hc : v.category = 1) (k : End Z p e below s Q kc ks T (mkF m pc' Ls st)) : End Z p e below s Q kc ks T (mkF m pc Ls (v :: st)) := by
  subst hp; obtain ⟨meth, c, locs, X, -, -, -, hx, hb, -⟩ := X; subst hb
  exact k.go fun _ => XS.pop X.here hx (g := mkF m pc Ls (v :: st)) rfl hd rfl hc
theorem E_dup_x1 (X : Sd l Z own nm bytes ml ret R p e s m args below T h cells slots) {v w : Value} (hd : decode bytes pc = .ok (.dup_x1, 1)) (hp : pc + 1 = pc') (hc : v.category = 1) (hc' : w.category = 1) (k : End Z p e below s Q kc ks T (mkF m pc' Ls (v :: w :: v :: st))) : End Z p e below s Q kc ks T (mkF m pc Ls (v :: w :: st)) := by
  subst hp; obtain ⟨meth, c, locs, X, -, -, -, hx, hb, -⟩ := X; subst hb
  exact k.go fun _ => XS.dupX1 X.here hx (g := mkF m pc Ls (v :: w :: st)) rfl hd rfl hc hc'
theorem E_dup2 (X : Sd l Z own nm bytes ml ret R p e s m args below T h cells slots) {v w : Value} (hd : decode bytes pc = .ok (.dup2, 1)) (hp : pc + 1 = pc') (hc : v.category = 1) (hc' : w.category = 1) (k : End Z p e below s Q kc ks T (mkF m pc' Ls (v :: w :: v :: w :: st))) : End Z p e below s Q kc ks T (mkF m pc Ls (v :: w :: st)) := by
  subst hp; obtain ⟨meth, c, locs, X, -, -, -, hx, hb, -⟩ := X; subst hb
  exact k.go fun _ => XT.dup2 X.here hx (g := mkF m pc Ls (v :: w :: st)) rfl hd rfl hc hc'
theorem E_dup2L (X : Sd l Z own nm bytes ml ret R p e s m args below T h cells slots) {x : Int64} (hd : decode bytes pc = .ok (.dup2, 1)) (hp : pc + 1 = pc') (k : End Z p e below s Q kc ks T (mkF m pc' Ls (.long x :: .long x :: st))) : End Z p e below s Q kc ks T (mkF m pc Ls (.long x :: st)) := by
  subst hp; obtain ⟨meth, c, locs, X, -, -, -, hx, hb, -⟩ := X; subst hb
  exact k.go fun _ => XT.dup2L X.here hx (g := mkF m pc Ls (.long x :: st)) rfl hd rfl
theorem E_goto (X : Sd l Z own nm bytes ml ret R p e s m args below T h cells slots) {o : Int} (hd : decode bytes pc = .ok (.goto o, 3)) (ho : 0 ≤ (pc : Int) + o) (hp : ((pc : Int) + o).toNat = pc') (k : End Z p e below s Q kc ks T (mkF m pc' Ls st)) : End Z p e below s Q kc ks T (mkF m pc Ls st) := by
  obtain ⟨meth, c, locs, X, -, -, -, hx, hb, -⟩ := X; subst hb
  exact k.go fun _ => XS.goto X.here hx (g := mkF m pc Ls st) rfl rfl hd ho hp
theorem E_if (X : Sd l Z own nm bytes ml ret R p e s m args below T h cells slots) {cd : ClassFile.Cond} {o : Int} {x : Int32} {P : Prop} [Decidable P] (hP : ifCond.holds cd x = decide P) (hd : decode bytes pc = .ok (.ifCond cd o, 3)) {pcY pcN : Nat} (ho : 0 ≤ (pc : Int) + o) (hY : ((pc : Int) + o).toNat = pcY) (hN : pc + 3 = pcN)
    (kY : P → End Z p e below s Q kc ks T (mkF m pcY Ls st)) (kN : ¬ P → End Z p e below s Q kc ks T (mkF m pcN Ls st)) : End Z p e below s Q kc ks T (mkF m pc Ls (.int x :: st)) := by
  obtain ⟨meth, c, locs, X, -, -, -, hx, hb, -⟩ := X; subst hb hN
  by_cases q : P
  · exact (kY q).go fun _ => XS.ifYes X.here hx (g := mkF m pc Ls (.int x :: st)) rfl rfl hd rfl (by rw [hP]; simp [q]) ho hY
  · exact (kN q).go fun _ => XS.ifNo X.here hx (g := mkF m pc Ls (.int x :: st)) rfl hd rfl (by rw [hP]; simp [q])
theorem E_icmp (X : Sd l Z own nm bytes ml ret R p e s m args below T h cells slots) {cd : ClassFile.Cond} {o : Int} {x y : Int32} {P : Prop} [Decidable P] (hP : if_icmp.holds cd x y = decide P) (hd : decode bytes pc = .ok (.if_icmp cd o, 3)) {pcY pcN : Nat} (ho : 0 ≤ (pc : Int) + o) (hY : ((pc : Int) + o).toNat = pcY) (hN : pc + 3 = pcN)
    (kY : P → End Z p e below s Q kc ks T (mkF m pcY Ls st)) (kN : ¬ P → End Z p e below s Q kc ks T (mkF m pcN Ls st)) : End Z p e below s Q kc ks T (mkF m pc Ls (.int y :: .int x :: st)) := by
  obtain ⟨meth, c, locs, X, -, -, -, hx, hb, -⟩ := X; subst hb hN
  by_cases q : P
  · exact (kY q).go fun _ => XS.icmpYes X.here hx (g := mkF m pc Ls (.int y :: .int x :: st)) rfl rfl hd rfl (by rw [hP]; simp [q]) ho hY
  · exact (kN q).go fun _ => XS.icmpNo X.here hx (g := mkF m pc Ls (.int y :: .int x :: st)) rfl hd rfl (by rw [hP]; simp [q])
theorem ic_lt (x y : Int32) : if_icmp.holds .lt x y = decide (x < y) := by
  by_cases q : x < y
  · rw [(tlt q).1]; simp [q]
  · rw [(flt q).1]; simp [q]
theorem ic_ge (x y : Int32) : if_icmp.holds .ge x y = decide (¬ x < y) := by
  by_cases q : x < y
  · rw [(tlt q).2.1]; simp [q]
  · rw [(flt q).2.1]; simp [q]
theorem ic_gt (x y : Int32) : if_icmp.holds .gt x y = decide (y < x) := by
  by_cases q : y < x
  · rw [(tlt q).2.2.1]; simp [q]
  · rw [(flt q).2.2.1]; simp [q]
theorem ic_le (x y : Int32) : if_icmp.holds .le x y = decide (¬ y < x) := by
  by_cases q : y < x
  · rw [(tlt q).2.2.2]; simp [q]
  · rw [(flt q).2.2.2]; simp [q]
theorem ic_eq (x y : Int32) : if_icmp.holds .eq x y = decide (x = y) := by
  by_cases q : x = y
  · rw [(teq q).1]; simp [q]
  · rw [(feq q).1]; simp [q]
theorem ic_ne (x y : Int32) : if_icmp.holds .ne x y = decide (¬ x = y) := by
  by_cases q : x = y
  · rw [(teq q).2]; simp [q]
  · rw [(feq q).2]; simp [q]
theorem i0_lt (x : Int32) : ifCond.holds .lt x = decide (x < 0) := (if0 _ _).trans (ic_lt _ _)
theorem i0_ge (x : Int32) : ifCond.holds .ge x = decide (¬ x < 0) := (if0 _ _).trans (ic_ge _ _)
theorem i0_gt (x : Int32) : ifCond.holds .gt x = decide (0 < x) := (if0 _ _).trans (ic_gt _ _)
theorem i0_le (x : Int32) : ifCond.holds .le x = decide (¬ 0 < x) := (if0 _ _).trans (ic_le _ _)
theorem i0_eq (x : Int32) : ifCond.holds .eq x = decide (x = 0) := (if0 _ _).trans (ic_eq _ _)
theorem i0_ne (x : Int32) : ifCond.holds .ne x = decide (¬ x = 0) := (if0 _ _).trans (ic_ne _ _)
theorem il_lt (x y : Int64) : ifCond.holds .lt (lcmpW x y) = decide (x < y) := (i0_lt _).trans (by simp only [lw_lt])
theorem il_ge (x y : Int64) : ifCond.holds .ge (lcmpW x y) = decide (¬ x < y) := (i0_ge _).trans (by simp only [lw_lt])
theorem il_gt (x y : Int64) : ifCond.holds .gt (lcmpW x y) = decide (y < x) := (i0_gt _).trans (by simp only [lw_gt])
theorem il_le (x y : Int64) : ifCond.holds .le (lcmpW x y) = decide (¬ y < x) := (i0_le _).trans (by simp only [lw_gt])
theorem il_eq (x y : Int64) : ifCond.holds .eq (lcmpW x y) = decide (x = y) := (i0_eq _).trans (by simp only [lw_eq])
theorem il_ne (x y : Int64) : ifCond.holds .ne (lcmpW x y) = decide (¬ x = y) := (i0_ne _).trans (by simp only [lw_eq])
theorem E_acmp (X : Sd l Z own nm bytes ml ret R p e s m args below T h cells slots) {cd : ACond} {o : Int} {x y : Value} {pcE pcU : Nat} (hd : decode bytes pc = .ok (.if_acmp cd o, 3)) (hx1 : x.isRef = true) (hy1 : y.isRef = true) (ho : 0 ≤ (pc : Int) + o) (hE : pcE = if acV cd true = true then ((pc : Int) + o).toNat else pc + 3) (hU : pcU = if acV cd false = true then ((pc : Int) + o).toNat else pc + 3)
    (kE : x = y → End Z p e below s Q kc ks T (mkF m pcE Ls st)) (kU : ¬ x = y → End Z p e below s Q kc ks T (mkF m pcU Ls st)) : End Z p e below s Q kc ks T (mkF m pc Ls (y :: x :: st)) := by
  obtain ⟨meth, c, locs, X, -, -, -, hx, hb, -⟩ := X; subst hb
  by_cases q : x = y
  · exact (kE q).go fun _ => Jvm.RoadKit.acmp (g := mkF m pc Ls (y :: x :: st)) X hx rfl hx1 hy1 (same := true) rfl hd rfl (decide_eq_true q) ho hE
  · exact (kU q).go fun _ => Jvm.RoadKit.acmp (g := mkF m pc Ls (y :: x :: st)) X hx rfl hx1 hy1 (same := false) rfl hd rfl (decide_eq_false q) ho hU
theorem E_ifnullY (X : Sd l Z own nm bytes ml ret R p e s m args below T h cells slots) {o : Int} (hd : decode bytes pc = .ok (.ifnull o, 3)) (ho : 0 ≤ (pc : Int) + o) (hp : ((pc : Int) + o).toNat = pc') (k : End Z p e below s Q kc ks T (mkF m pc' Ls st)) : End Z p e below s Q kc ks T (mkF m pc Ls (.null :: st)) := by
  obtain ⟨meth, c, locs, X, -, -, -, hx, hb, -⟩ := X; subst hb
  exact k.go fun _ => XS.ifnullYes X.here hx (g := mkF m pc Ls (.null :: st)) rfl rfl hd rfl ho hp
theorem E_ifnullN (X : Sd l Z own nm bytes ml ret R p e s m args below T h cells slots) {o : Int} {b : Addr} (hd : decode bytes pc = .ok (.ifnull o, 3)) (hp : pc + 3 = pc') (k : End Z p e below s Q kc ks T (mkF m pc' Ls st)) : End Z p e below s Q kc ks T (mkF m pc Ls (.ref b :: st)) := by
  subst hp; obtain ⟨meth, c, locs, X, -, -, -, hx, hb, -⟩ := X; subst hb
  exact k.go fun _ => XS.ifnullNo X.here hx (g := mkF m pc Ls (.ref b :: st)) rfl hd rfl
theorem E_ifnonnullY (X : Sd l Z own nm bytes ml ret R p e s m args below T h cells slots) {o : Int} {b : Addr} (hd : decode bytes pc = .ok (.ifnonnull o, 3)) (ho : 0 ≤ (pc : Int) + o) (hp : ((pc : Int) + o).toNat = pc') (k : End Z p e below s Q kc ks T (mkF m pc' Ls st)) : End Z p e below s Q kc ks T (mkF m pc Ls (.ref b :: st)) := by
  obtain ⟨meth, c, locs, X, -, -, -, hx, hb, -⟩ := X; subst hb
  exact k.go fun _ => XS.ifnonnullYes X.here hx (g := mkF m pc Ls (.ref b :: st)) rfl rfl hd rfl ho hp
theorem E_ifnonnullN (X : Sd l Z own nm bytes ml ret R p e s m args below T h cells slots) {o : Int} (hd : decode bytes pc = .ok (.ifnonnull o, 3)) (hp : pc + 3 = pc') (k : End Z p e below s Q kc ks T (mkF m pc' Ls st)) : End Z p e below s Q kc ks T (mkF m pc Ls (.null :: st)) := by
  subst hp; obtain ⟨meth, c, locs, X, -, -, -, hx, hb, -⟩ := X; subst hb
  exact k.go fun _ => XS.ifnonnullNo X.here hx (g := mkF m pc Ls (.null :: st)) rfl hd rfl
/-! constants -/
theorem E_ldcI (X : Sd l Z own nm bytes ml ret R p e s m args below T h cells slots) {i : Nat} {v : Int32} (w : (Jvm.Cond.constant own i v).before a0 Z = true) (hd : decode bytes pc = .ok (.ldc i, 2)) (hp : pc + 2 = pc') (k : End Z p e below s Q kc ks T (mkF m pc' Ls (.int v :: st))) : End Z p e below s Q kc ks T (mkF m pc Ls st) := by
  subst hp; obtain ⟨meth, c, locs, X, N, e0, E, hx, hb, hml, hown, hnm, hret, hlk, hZ⟩ := X; subst hb
  exact k.go (X.ldcInt hx hown (mvT hZ w) (g := mkF m pc Ls st) rfl hd)
theorem E_ldcJ (X : Sd l Z own nm bytes ml ret R p e s m args below T h cells slots) {i : Nat} {v : Int64} (w : (Jvm.Cond.constantLong own i v).before a0 Z = true) (hd : decode bytes pc = .ok (.ldc2_w i, 3)) (hp : pc + 3 = pc') (k : End Z p e below s Q kc ks T (mkF m pc' Ls (.long v :: st))) : End Z p e below s Q kc ks T (mkF m pc Ls st) := by
  subst hp; obtain ⟨meth, c, locs, X, N, e0, E, hx, hb, hml, hown, hnm, hret, hlk, hZ⟩ := X; subst hb
  exact k.go (X.ldc2Long hx hown (mvT hZ w) (g := mkF m pc Ls st) rfl hd)
/-! fields, statics -/
theorem E_getF (X : Sd l Z own nm bytes ml ret R p e s m args below T h cells slots) {R0 O n d host : String} {i : Nat} {a : Addr} {v : Value} (w : (Jvm.Cond.fieldLink own i R0 n d).before a0 Z = true ∨ (Jvm.Cond.fieldLinkNest own i R0 n d host).before a0 Z = true) (via : Via Z R0 O n d) (F : Fld Z h a O n d v) (hd : decode bytes pc = .ok (.getfield i, 3)) (hp : pc + 3 = pc')
    (k : ∀ T', Sd l Z own nm bytes ml ret R p e s m args below T' h cells slots → End Z p e below s Q kc ks T' (mkF m pc' Ls (v :: st))) : End Z p e below s Q kc ks T (mkF m pc Ls (.ref a :: st)) := by
  subst hp; obtain ⟨meth, c, locs, X, N, e0, E, hx, hb, hml, hown, r⟩ := X; subst hb
  obtain ⟨T', X', e', stp⟩ := getF X hx r.2.2.2 hown w via e0 F (g := mkF m pc Ls (.ref a :: st)) rfl rfl hd
  exact (k T' ⟨meth, c, locs, X', N, e', E, hx, rfl, hml, hown, r⟩).go stp
theorem E_putF (X : Sd l Z own nm bytes ml ret R p e s m args below T h cells slots) {R0 O n d host C : String} {i kk : Nat} {ty : FieldType} {a : Addr} {v old : Value} (w : (Jvm.Cond.fieldLink own i R0 n d).before a0 Z = true ∨ (Jvm.Cond.fieldLinkNest own i R0 n d host).before a0 Z = true) (via : Via Z R0 O n d) (F : Fld Z h a O n d old) (E1 : Exa Z h a C)
    (L : (Jvm.Cond.lays C O n d).before a0 Z = true ∨ ((Jvm.Cond.laysFinal C O n d).before a0 Z = true ∧ own = O ∧ nm = "<init>")) (wi : (Jvm.Cond.instantiable C kk).before a0 Z = true) (hty : parseFieldDescriptor d = some ty) (hn : narrow ty v = v) (hf : fits ty v = true) (ha : Z.heap.size ≤ a) (hd : decode bytes pc = .ok (.putfield i, 3)) (hp : pc + 3 = pc')
    (k : ∀ T' h', Sd l Z own nm bytes ml ret R p e s m args below T' h' cells slots → Wr h h' a (slotOf Z O n d) v → End Z p e below s Q kc ks T' (mkF m pc' Ls st)) : End Z p e below s Q kc ks T (mkF m pc Ls (v :: .ref a :: st)) := by
  subst hp; obtain ⟨meth, c, locs, X, N, e0, E, hx, hb, hml, hown, hnm, r⟩ := X; subst hb
  obtain ⟨T', h', X', e', W, stp⟩ := putF X hx r.2.2 hown w via e0 F E1 (L.imp id fun q => ⟨q.1, q.2.1, hnm.trans q.2.2⟩) wi hty hn hf (g := mkF m pc Ls (v :: .ref a :: st)) rfl rfl hd
  exact (k T' h' ⟨meth, c, _, X', Fr.snoc X' N ha, e', E.wr W ha, hx, rfl, hml, hown, hnm, r⟩ W).go stp
theorem E_getS (X : Sd l Z own nm bytes ml ret R p e s m args below T h cells slots) {R0 O n d host : String} {i : Nat} {v : Value} (w : (Jvm.Cond.fieldLink own i R0 n d).before a0 Z = true ∨ (Jvm.Cond.fieldLinkNest own i R0 n d host).before a0 Z = true) (via : Via Z R0 O n d) (F : Sta Z Z.heap O n d v) (hd : decode bytes pc = .ok (.getstatic i, 3)) (hp : pc + 3 = pc')
    (k : ∀ T', Sd l Z own nm bytes ml ret R p e s m args below T' h cells slots → End Z p e below s Q kc ks T' (mkF m pc' Ls (v :: st))) : End Z p e below s Q kc ks T (mkF m pc Ls st) := by
  subst hp; obtain ⟨meth, c, locs, X, N, e0, E, hx, hb, hml, hown, r⟩ := X; subst hb
  obtain ⟨T', X', e', stp⟩ := getS2 X hx r.2.2.2 hown w via e0 (F.ext E) (g := mkF m pc Ls st) rfl hd
  exact (k T' ⟨meth, c, locs, X', N, e', E, hx, rfl, hml, hown, r⟩).go stp
/-! new objects -/
theorem E_new (X : Sd l Z own nm bytes ml ret R p e s m args below T h cells slots) {C : String} {i n : Nat} {cells' slots' : Nat} (w : (Jvm.Cond.classLink own i C).before a0 Z = true) (wi : (Jvm.Cond.instantiable C n).before a0 Z = true) (wz : (Jvm.Cond.initialized C).before a0 Z = true) (hd : decode bytes pc = .ok (.new i, 3)) (hp : pc + 3 = pc') (hcc : cells + 1 = cells') (hss : slots + n = slots') (hc : cells' ≤ R.cells) (hl : slots' ≤ R.slots)
    (k : ∀ T' h' a, a = h.size → Sd l Z own nm bytes ml ret R p e s m args below T' h' cells' slots' → Ext h h' → Exa Z h' a C → (∀ {O n d : String} {ty : FieldType}, Laid Z a0 C O n d → parseFieldDescriptor d = some ty → Fld Z h' a O n d (defaultValue ty)) → End Z p e below s Q kc ks T' (mkF m pc' Ls (.ref a :: st))) : End Z p e below s Q kc ks T (mkF m pc Ls st) := by
  subst hp hcc hss; obtain ⟨meth, c, locs, X, N, e0, E, hx, hb, hml, hown, r⟩ := X; subst hb
  obtain ⟨T', h', X', e', E2, A2, D2, -, stp⟩ := newO X hx r.2.2.2 hown w wi wz e0 (g := mkF m pc Ls st) rfl hd hc hl
  exact (k T' h' h.size rfl ⟨meth, c, locs, X', N, e', E.trans E2, hx, rfl, hml, hown, r⟩ E2 A2 (fun q1 q2 => D2 q1 q2)).go stp
theorem E_initO (X : Sd l Z own nm bytes ml ret R p e s m args below T h cells slots) {i : Nat} {a : Addr} (w1 : (Jvm.Cond.methodLink own i Lib.objectInit).before a0 Z = true) (w2 : (Jvm.Cond.instanceMethod Lib.objectInit).before a0 Z = true) (w3 : (Jvm.Cond.code Lib.objectInit ⟨#[0xb1]⟩ 1 none).before a0 Z = true) (hsz : Ls.size = ml) (hd : decode bytes pc = .ok (.invokespecial i, 3)) (hp : pc + 3 = pc') (hf : 1 ≤ R.frames) {W : Nat} (hW : (st.map fun v => v.category).sum ≤ W) (hl : W + 12 ≤ R.locals)
    (k : ∀ T', Sd l Z own nm bytes ml ret R p e s m args below T' h cells slots → End Z p e below s Q kc ks T' (mkF m pc' Ls st)) : End Z p e below s Q kc ks T (mkF m pc Ls (.ref a :: st)) := by
  subst hp; obtain ⟨meth, c, locs, X, N, e0, E, hx, hb, hml, hown, r⟩ := X; subst hb
  obtain ⟨T', X', e', stp⟩ := initO X hx r.2.2.2 hown w1 w2 w3 e0 (g := mkF m pc Ls (.ref a :: st)) rfl (hsz.trans hml.symm) rfl hd hf (W := W) (by show 2 * 0 + _ ≤ _; omega) hl
  exact (k T' ⟨meth, c, locs, X', N, e', E, hx, rfl, hml, hown, r⟩).go stp
/-! calls by a contract -/
theorem E_callS (X : Sd l Z own nm bytes ml ret R p e s m args below T h cells slots) {i : Nat} {y : MethodName} {bytes' : ByteArray} {ml' : Nat} {ret' : Option FieldType} {rm : Room} {Qc : Option Value → Heap → Prop} {as : Array Value} {ps : List FieldType} {rr : Option FieldType} {argsL rest : List Value} {W : Nat} {cells' slots' : Nat} (C : Con l Z y bytes' ml' ret' rm as h Qc)
    (w1 : (Jvm.Cond.methodLink own i y).before a0 Z = true) (w2 : (Jvm.Cond.static y).before a0 Z = true) (w3 : (Jvm.Cond.initialized y.cls).before a0 Z = true) (w4 : (Jvm.Cond.code y bytes' ml' ret').before a0 Z = true) (hy : y.cls ≠ "java/lang/invoke/MethodHandle" ∧ y.cls ≠ "java/lang/invoke/VarHandle") (hsz : Ls.size = ml) (has : argsL.toArray = as) (hpd : parseMethodDescriptor y.desc = some ⟨ps, rr⟩) (hlen : argsL.length = ps.length) (hst : st = argsL.reverse ++ rest)
    (hd : decode bytes pc = .ok (.invokestatic i, 3)) (hp : pc + 3 = pc') (hW : (rest.map fun v => v.category).sum ≤ W) (hf : rm.frames + 1 ≤ R.frames) (hl : W + (ml' + 11) + rm.locals ≤ R.locals) (hcc : cells + rm.cells = cells') (hss : slots + rm.slots = slots') (hc : cells' ≤ R.cells) (hs : slots' ≤ R.slots)
    (k : ∀ v T' h', Sd l Z own nm bytes ml ret R p e s m args below T' h' cells' slots' → Qc v h' → End Z p e below s Q kc ks T' (mkF m pc' Ls (v.toList ++ rest))) : End Z p e below s Q kc ks T (mkF m pc Ls st) := by
  subst hp hst hcc hss; obtain ⟨meth, c, locs, X, N, e0, E, hx, hb, hml, hown, r⟩ := X; subst hb
  obtain ⟨v, _, ⟨T', L', k', n'⟩, -, X', ⟨Lc, hQ, l1, l2, l3⟩, stp⟩ := Jvm.LawKit.callS X hx (y := y) hown (mvT r.2.2.2 w1) (mvT r.2.2.2 w2) (mvT r.2.2.2 w3) (mvT r.2.2.2 w4) hy (backOf (W := W) (Q := fun v h L => Fr Z.heap.size L ∧ Ext Z.heap h ∧ Qc v h) (C []) r.2.2.2 w4 w3 hf hl) (g := mkF m pc Ls (argsL.reverse ++ rest)) rfl (hsz.trans hml.symm) (argsL := argsL) (rest := rest) (lenOf hpd hlen) rfl (by show 2 * 0 + _ ≤ _; omega) hd (fun _ _ => ⟨has, e0, hc, hs⟩)
  dsimp only [Pt.U, Pt.locs, Pt.cells, Pt.slots] at X' l1 l2 l3 stp hQ
  subst l1 l2 l3
  exact (k v T' T'.heap ⟨meth, c, _, X', Fr.app N hQ.1, rfl, hQ.2.1, hx, rfl, hml, hown, r⟩ hQ.2.2).go stp
theorem E_callI (X : Sd l Z own nm bytes ml ret R p e s m args below T h cells slots) {i : Nat} {y : MethodName} {bytes' : ByteArray} {ml' : Nat} {rm : Room} {Qc : Option Value → Heap → Prop} {a : Addr} {as : Array Value} {ps : List FieldType} {rr : Option FieldType} {argsL rest : List Value} {W : Nat} {cells' slots' : Nat} (C : Con l Z y bytes' ml' none rm as h Qc)
    (w1 : (Jvm.Cond.methodLink own i y).before a0 Z = true) (w2 : (Jvm.Cond.instanceMethod y).before a0 Z = true) (w3 : (Jvm.Cond.initialized y.cls).before a0 Z = true) (w4 : (Jvm.Cond.code y bytes' ml' none).before a0 Z = true) (hy1 : y.name = "<init>") (hy : y.cls ≠ "java/lang/invoke/MethodHandle" ∧ y.cls ≠ "java/lang/invoke/VarHandle") (hsz : Ls.size = ml) (has : (.ref a :: argsL).toArray = as) (hpd : parseMethodDescriptor y.desc = some ⟨ps, rr⟩) (hlen : argsL.length = ps.length) (hst : st = argsL.reverse ++ .ref a :: rest)
    (hd : decode bytes pc = .ok (.invokespecial i, 3)) (hp : pc + 3 = pc') (hW : (rest.map fun v => v.category).sum ≤ W) (hf : rm.frames + 1 ≤ R.frames) (hl : W + (ml' + 11) + rm.locals ≤ R.locals) (hcc : cells + rm.cells = cells') (hss : slots + rm.slots = slots') (hc : cells' ≤ R.cells) (hs : slots' ≤ R.slots)
    (k : ∀ v T' h', Sd l Z own nm bytes ml ret R p e s m args below T' h' cells' slots' → Qc v h' → End Z p e below s Q kc ks T' (mkF m pc' Ls (v.toList ++ rest))) : End Z p e below s Q kc ks T (mkF m pc Ls st) := by
  subst hp hst hcc hss; obtain ⟨meth, c, locs, X, N, e0, E, hx, hb, hml, hown, r⟩ := X; subst hb
  obtain ⟨v, _, ⟨T', L', k', n'⟩, -, X', ⟨Lc, hQ, l1, l2, l3⟩, stp⟩ := X.specialBack hx (y := y) hy1 hown (mvT r.2.2.2 w1) (mvT r.2.2.2 w2) (mvT r.2.2.2 w4) hy (backOf (W := W) (Q := fun v h L => Fr Z.heap.size L ∧ Ext Z.heap h ∧ Qc v h) (C []) r.2.2.2 w4 w3 hf hl) (g := mkF m pc Ls (argsL.reverse ++ .ref a :: rest)) rfl (hsz.trans hml.symm) (Steps.refl _) (a := a) (argsL := argsL) (rest := rest) (lenOf hpd hlen) rfl (by show 2 * 0 + _ ≤ _; omega) hd (fun _ _ => ⟨has, e0, hc, hs⟩)
  dsimp only [Pt.U, Pt.locs, Pt.cells, Pt.slots] at X' l1 l2 l3 stp hQ
  subst l1 l2 l3
  exact (k v T' T'.heap ⟨meth, c, _, X', Fr.app N hQ.1, rfl, hQ.2.1, hx, rfl, hml, hown, r⟩ hQ.2.2).go fun _ q => stp.trans q
theorem E_callV (X : Sd l Z own nm bytes ml ret R p e s m args below T h cells slots) {i : Nat} {y : MethodName} {K : String} {bytes' : ByteArray} {ml' : Nat} {ret' : Option FieldType} {rm : Room} {Qc : Option Value → Heap → Prop} {a : Addr} {as : Array Value} {ps : List FieldType} {rr : Option FieldType} {argsL rest : List Value} {W : Nat} {cells' slots' : Nat} (C : Con l Z y bytes' ml' ret' rm as h Qc) (E1 : Exa Z h a K)
    (w1 : (Jvm.Cond.methodLink own i y).before a0 Z = true) (wd : (Jvm.Cond.declares y).before a0 Z = true) (ws : (Jvm.Cond.selects K y y).before a0 Z = true) (w2 : (Jvm.Cond.instanceMethod y).before a0 Z = true) (w3 : (Jvm.Cond.initialized y.cls).before a0 Z = true) (w4 : (Jvm.Cond.code y bytes' ml' ret').before a0 Z = true) (hK : K = y.cls) (hy : y.cls ≠ "java/lang/invoke/MethodHandle" ∧ y.cls ≠ "java/lang/invoke/VarHandle") (hsz : Ls.size = ml) (has : (.ref a :: argsL).toArray = as) (hpd : parseMethodDescriptor y.desc = some ⟨ps, rr⟩) (hlen : argsL.length = ps.length) (hst : st = argsL.reverse ++ .ref a :: rest)
    (hd : decode bytes pc = .ok (.invokevirtual i, 3)) (hp : pc + 3 = pc') (hW : (rest.map fun v => v.category).sum ≤ W) (hf : rm.frames + 1 ≤ R.frames) (hl : W + (ml' + 11) + rm.locals ≤ R.locals) (hcc : cells + rm.cells = cells') (hss : slots + rm.slots = slots') (hc : cells' ≤ R.cells) (hs : slots' ≤ R.slots)
    (k : ∀ v T' h', Sd l Z own nm bytes ml ret R p e s m args below T' h' cells' slots' → Qc v h' → End Z p e below s Q kc ks T' (mkF m pc' Ls (v.toList ++ rest))) : End Z p e below s Q kc ks T (mkF m pc Ls st) := by
  subst hp hst hcc hss; obtain ⟨meth, c, locs, X, N, e0, E, hx, hb, hml, hown, r⟩ := X; subst hb
  subst hK
  obtain ⟨cq, kq, qa, qb, qc⟩ := isOf r.2.2.2 e0 E1
  obtain ⟨v, _, ⟨T', L', k', n'⟩, -, X', ⟨Lc, hQ, l1, l2, l3⟩, stp⟩ := X.virtualBack hx (y := y) (z := y) hown (mvT r.2.2.2 w1) (mvT r.2.2.2 wd) (notFace_of_selects (args := #[]) (mvT r.2.2.2 ws)) (mvT r.2.2.2 ws) (mvT r.2.2.2 w2) hy (backOf (W := W) (Q := fun v h L => Fr Z.heap.size L ∧ Ext Z.heap h ∧ Qc v h) (C []) r.2.2.2 w4 w3 hf hl) qa qc (g := mkF m pc Ls (argsL.reverse ++ .ref a :: rest)) rfl (hsz.trans hml.symm) (Steps.refl _) (argsL := argsL) (rest := rest) (lenOf hpd hlen) rfl (by show 2 * 0 + _ ≤ _; omega) hd (fun _ _ => ⟨has, e0, hc, hs⟩)
  dsimp only [Pt.U, Pt.locs, Pt.cells, Pt.slots] at X' l1 l2 l3 stp hQ
  subst l1 l2 l3
  exact (k v T' T'.heap ⟨meth, c, _, X', Fr.app N hQ.1, rfl, hQ.2.1, hx, rfl, hml, hown, r⟩ hQ.2.2).go fun _ q => stp.trans q
/-! arrays by their list of values -/
def Ar (Z : State) (h : Heap) (a : Addr) (ty : FieldType) (vs : List Value) : Prop := ∃ c : Cell, Arr Z h a c ty ∧ c.slots = vs.toArray
section ArFacts
variable {h' : Heap} {a b : Addr} {ty : FieldType} {vs : List Value} {ws : List Addr} {v : Value} {sl : Nat}
theorem Ar.lt (F : Ar Z h a ty vs) : a < h.size := by obtain ⟨c, A, -⟩ := F; exact A.lt
theorem Ar.ext (F : Ar Z h a ty vs) (E : Ext h h') : Ar Z h' a ty vs := by obtain ⟨c, A, r⟩ := F; exact ⟨c, A.ext E, r⟩
theorem Ar.other (F : Ar Z h b ty vs) (W : Wr h h' a sl v) (q : b ≠ a) : Ar Z h' b ty vs := by obtain ⟨c, A, r⟩ := F; exact ⟨c, A.other W q, r⟩
theorem Ar.keep (F : Ar Z h a ty vs) (K : Keep h h' ws) (q : a ∉ ws) : Ar Z h' a ty vs := by obtain ⟨c, A, r⟩ := F; exact ⟨c, ⟨K.2.1 a c A.1 q, A.2⟩, r⟩
theorem Ar.set (F : Ar Z h a ty vs) (W : Wr h h' a sl v) : Ar Z h' a ty (vs.set sl v) := by
  obtain ⟨c, A, r⟩ := F
  exact ⟨_, A.same W, by simp [Cell.setSlot, r]⟩
theorem Ar.ne_exa {C : String} {k : Nat} (F : Ar Z h b ty vs) (E : Exa Z h a C) (wi : (Jvm.Cond.instantiable C k).before a0 Z = true) : a ≠ b := by obtain ⟨c, A, r⟩ := F; exact ne_arr E wi A
theorem Ar.ne {vs' : List Value} (F : Ar Z h a ty vs) (G : Ar Z h b ty vs') (q : vs ≠ vs') : a ≠ b := fun e => by
  subst e; obtain ⟨c, A, r⟩ := F; obtain ⟨c', A', r'⟩ := G
  cases A.1.symm.trans A'.1
  exact q (by simpa using congrArg Array.toList (r.symm.trans r'))
theorem Ar.at {c : Cell} {j : Int32} (r : c.slots = vs.toArray) (hj : ¬ j < 0) (hv : vs[j.toNatClampNeg]? = some v) : ¬ (j < 0 ∨ c.slots.size ≤ j.toNatClampNeg) ∧ c.slots[j.toNatClampNeg]? = some v := by
  refine ⟨fun q => ?_, by rw [r]; simpa using hv⟩
  rcases q with q | q
  · exact hj q
  · rw [r] at q
    have := (List.getElem?_eq_some_iff.mp hv).1
    simp at q; omega
theorem Ar.inb {c : Cell} {j : Int32} (r : c.slots = vs.toArray) (hj : ¬ j < 0) (hl : j.toNatClampNeg < vs.length) : ¬ (j < 0 ∨ c.slots.size ≤ j.toNatClampNeg) := (Ar.at r hj (List.getElem?_eq_getElem hl)).1
end ArFacts
theorem E_newA (X : Sd l Z own nm bytes ml ret R p e s m args below T h cells slots) {aty : ArrayType} {n : Int32} {cap : Nat} {vs : List Value} {cells' slots' : Nat} (w : (Jvm.Cond.arrayClass (newarray.typeOf aty)).before a0 Z = true) (hd : decode bytes pc = .ok (.newarray aty, 2)) (hp : pc + 2 = pc') (hn : ¬ n < 0) (hcap : n.toNatClampNeg ≤ cap) (hb8 : cap * 8 ≤ 536870912) (hvs : List.replicate n.toNatClampNeg (defaultValue (newarray.typeOf aty)) = vs) (hcc : cells + 1 = cells') (hss : slots + cap = slots') (hc : cells' ≤ R.cells) (hl : slots' ≤ R.slots)
    (k : ∀ T' h' a, a = h.size → Sd l Z own nm bytes ml ret R p e s m args below T' h' cells' slots' → Ext h h' → Ar Z h' a (newarray.typeOf aty) vs → End Z p e below s Q kc ks T' (mkF m pc' Ls (.ref a :: st))) : End Z p e below s Q kc ks T (mkF m pc Ls (.int n :: st)) := by
  subst hp hcc hss hvs; obtain ⟨meth, c, locs, X, N, e0, E, hx, hb, hml, hown, r⟩ := X; subst hb
  obtain ⟨T', h', cA, X', e', E2, A2, stp⟩ := newP X hx r.2.2.2 w e0 (g := mkF m pc Ls (.int n :: st)) rfl hd rfl hn hcap hb8 hc hl
  exact (k T' h' h.size rfl ⟨meth, c, locs, X', N, e', E.trans E2, hx, rfl, hml, hown, r⟩ E2 ⟨_, A2, by simp [newA]⟩).go stp
theorem E_newAE (X : Sd l Z own nm bytes ml ret R p e s m args below T h cells slots) {aty : ArrayType} {n : Int32} {cap : Nat} {vs : List Value} {cells' slots' : Nat} {ad : String} (had : "[" ++ (newarray.typeOf aty).toString = ad) (w : (Jvm.Cond.arrayClass (newarray.typeOf aty)).before a0 Z = true) (hd : decode bytes pc = .ok (.newarray aty, 2)) (hp : pc + 2 = pc') (hn : ¬ n < 0) (hcap : n.toNatClampNeg ≤ cap) (hb8 : cap * 8 ≤ 536870912) (hvs : List.replicate n.toNatClampNeg (defaultValue (newarray.typeOf aty)) = vs) (hcc : cells + 1 = cells') (hss : slots + cap = slots') (hc : cells' ≤ R.cells) (hl : slots' ≤ R.slots)
    (k : ∀ T' h' a, a = h.size → Sd l Z own nm bytes ml ret R p e s m args below T' h' cells' slots' → Ext h h' → Ar Z h' a (newarray.typeOf aty) vs → Exa Z h' a ad → End Z p e below s Q kc ks T' (mkF m pc' Ls (.ref a :: st))) : End Z p e below s Q kc ks T (mkF m pc Ls (.int n :: st)) := by
  subst hp hcc hss hvs; obtain ⟨meth, c, locs, X, N, e0, E, hx, hb, hml, hown, r⟩ := X; subst hb
  obtain ⟨T', h', cA, X', e', E2, A2, A3, stp⟩ := newPE X hx r.2.2.2 w e0 (g := mkF m pc Ls (.int n :: st)) rfl hd rfl hn hcap hb8 hc hl had
  exact (k T' h' h.size rfl ⟨meth, c, locs, X', N, e', E.trans E2, hx, rfl, hml, hown, r⟩ E2 ⟨_, A2, by simp [newA]⟩ A3).go stp
theorem E_alen (X : Sd l Z own nm bytes ml ret R p e s m args below T h cells slots) {a : Addr} {ty : FieldType} {vs : List Value} {n : Int32} (F : Ar Z h a ty vs) (hn : vs.length.toInt32 = n) (hd : decode bytes pc = .ok (.arraylength, 1)) (hp : pc + 1 = pc') (k : End Z p e below s Q kc ks T (mkF m pc' Ls (.int n :: st))) : End Z p e below s Q kc ks T (mkF m pc Ls (.ref a :: st)) := by
  subst hp hn; obtain ⟨meth, c, locs, X, N, e0, E, hx, hb, hml, hown, r⟩ := X; subst hb
  obtain ⟨cl, A, q⟩ := F
  have q2 : cl.slots.size = vs.length := by rw [q]; simp
  rw [← q2] at k
  exact k.go fun t => X.arraylength hx (by rw [e0]; exact A.1) (State.isArrayOf_alike r.2.2.2.alike A.2.1) (g := mkF m pc Ls (.ref a :: st)) rfl rfl hd t
theorem E_iaload (X : Sd l Z own nm bytes ml ret R p e s m args below T h cells slots) {a : Addr} {vs : List Value} {j : Int32} {v : Value} (F : Ar Z h a .int vs) (hj : ¬ j < 0) (hv : vs[j.toNatClampNeg]? = some v) (hd : decode bytes pc = .ok (.iaload, 1)) (hp : pc + 1 = pc') (k : End Z p e below s Q kc ks T (mkF m pc' Ls (v :: st))) : End Z p e below s Q kc ks T (mkF m pc Ls (.int j :: .ref a :: st)) := by
  subst hp; obtain ⟨meth, c, locs, X, N, e0, E, hx, hb, hml, hown, r⟩ := X; subst hb
  obtain ⟨cl, A, q⟩ := F
  obtain ⟨i1, i2⟩ := Ar.at q hj hv
  exact k.go fun t => X.iaload hx (by rw [e0]; exact A.1) (State.isArrayOf_alike r.2.2.2.alike A.2.1) A.2.2 i1 i2 (g := mkF m pc Ls (.int j :: .ref a :: st)) rfl rfl hd t
theorem E_laload (X : Sd l Z own nm bytes ml ret R p e s m args below T h cells slots) {a : Addr} {vs : List Value} {j : Int32} {v : Value} (F : Ar Z h a .long vs) (hj : ¬ j < 0) (hv : vs[j.toNatClampNeg]? = some v) (hd : decode bytes pc = .ok (.laload, 1)) (hp : pc + 1 = pc') (k : End Z p e below s Q kc ks T (mkF m pc' Ls (v :: st))) : End Z p e below s Q kc ks T (mkF m pc Ls (.int j :: .ref a :: st)) := by
  subst hp; obtain ⟨meth, c, locs, X, N, e0, E, hx, hb, hml, hown, r⟩ := X; subst hb
  obtain ⟨cl, A, q⟩ := F
  obtain ⟨i1, i2⟩ := Ar.at q hj hv
  exact k.go fun t => X.laload hx (by rw [e0]; exact A.1) (State.isArrayOf_alike r.2.2.2.alike A.2.1) A.2.2 i1 i2 (g := mkF m pc Ls (.int j :: .ref a :: st)) rfl rfl hd t
theorem E_caload (X : Sd l Z own nm bytes ml ret R p e s m args below T h cells slots) {a : Addr} {vs : List Value} {j : Int32} {v : Value} (F : Ar Z h a .char vs) (hj : ¬ j < 0) (hv : vs[j.toNatClampNeg]? = some v) (hd : decode bytes pc = .ok (.caload, 1)) (hp : pc + 1 = pc') (k : End Z p e below s Q kc ks T (mkF m pc' Ls (v :: st))) : End Z p e below s Q kc ks T (mkF m pc Ls (.int j :: .ref a :: st)) := by
  subst hp; obtain ⟨meth, c, locs, X, N, e0, E, hx, hb, hml, hown, r⟩ := X; subst hb
  obtain ⟨cl, A, q⟩ := F
  obtain ⟨i1, i2⟩ := Ar.at q hj hv
  exact k.go fun t => X.caload hx (by rw [e0]; exact A.1) (State.isArrayOf_alike r.2.2.2.alike A.2.1) A.2.2 i1 i2 (g := mkF m pc Ls (.int j :: .ref a :: st)) rfl rfl hd t
theorem E_baload (X : Sd l Z own nm bytes ml ret R p e s m args below T h cells slots) {a : Addr} {vs : List Value} {j : Int32} {v : Value} (F : Ar Z h a .byte vs) (hj : ¬ j < 0) (hv : vs[j.toNatClampNeg]? = some v) (hd : decode bytes pc = .ok (.baload, 1)) (hp : pc + 1 = pc') (k : End Z p e below s Q kc ks T (mkF m pc' Ls (v :: st))) : End Z p e below s Q kc ks T (mkF m pc Ls (.int j :: .ref a :: st)) := by
  subst hp; obtain ⟨meth, c, locs, X, N, e0, E, hx, hb, hml, hown, r⟩ := X; subst hb
  obtain ⟨cl, A, q⟩ := F
  obtain ⟨i1, i2⟩ := Ar.at q hj hv
  exact k.go fun t => X.baloadBytes hx (by rw [e0]; exact A.1) (State.isArrayOf_alike r.2.2.2.alike A.2.1) A.2.2 i1 i2 (g := mkF m pc Ls (.int j :: .ref a :: st)) rfl rfl hd t
theorem E_baload_Z (X : Sd l Z own nm bytes ml ret R p e s m args below T h cells slots) {a : Addr} {vs : List Value} {j : Int32} {v : Value} (F : Ar Z h a .boolean vs) (hj : ¬ j < 0) (hv : vs[j.toNatClampNeg]? = some v) (hd : decode bytes pc = .ok (.baload, 1)) (hp : pc + 1 = pc') (k : End Z p e below s Q kc ks T (mkF m pc' Ls (v :: st))) : End Z p e below s Q kc ks T (mkF m pc Ls (.int j :: .ref a :: st)) := by
  subst hp; obtain ⟨meth, c, locs, X, N, e0, E, hx, hb, hml, hown, r⟩ := X; subst hb
  obtain ⟨cl, A, q⟩ := F
  obtain ⟨i1, i2⟩ := Ar.at q hj hv
  exact k.go fun t => X.baloadBooleans hx (by rw [e0]; exact A.1) (State.isArrayOf_alike r.2.2.2.alike A.2.1) A.2.2 i1 i2 (g := mkF m pc Ls (.int j :: .ref a :: st)) rfl rfl hd t
theorem E_aaload (X : Sd l Z own nm bytes ml ret R p e s m args below T h cells slots) {a : Addr} {vs : List Value} {j : Int32} {v : Value} {ty : FieldType} (F : Ar Z h a ty vs) (hty : ty.isReference = true) (hj : ¬ j < 0) (hv : vs[j.toNatClampNeg]? = some v) (hd : decode bytes pc = .ok (.aaload, 1)) (hp : pc + 1 = pc') (k : End Z p e below s Q kc ks T (mkF m pc' Ls (v :: st))) : End Z p e below s Q kc ks T (mkF m pc Ls (.int j :: .ref a :: st)) := by
  subst hp; obtain ⟨meth, c, locs, X, N, e0, E, hx, hb, hml, hown, r⟩ := X; subst hb
  obtain ⟨cl, A, q⟩ := F
  obtain ⟨i1, i2⟩ := Ar.at q hj hv
  exact k.go fun t => X.aaload hx (by rw [e0]; exact A.1) (State.isArrayOf_alike r.2.2.2.alike A.2.1) hty A.2.2 i1 i2 (g := mkF m pc Ls (.int j :: .ref a :: st)) rfl rfl hd t
theorem E_iastore (X : Sd l Z own nm bytes ml ret R p e s m args below T h cells slots) {a : Addr} {vs vs' : List Value} {j : Int32} {x : Int32} (F : Ar Z h a .int vs) (hj : ¬ j < 0) (hl : j.toNatClampNeg < vs.length) (hvs : vs.set j.toNatClampNeg (.int x) = vs') (ha : Z.heap.size ≤ a) (hd : decode bytes pc = .ok (.iastore, 1)) (hp : pc + 1 = pc')
    (k : ∀ T' h', Sd l Z own nm bytes ml ret R p e s m args below T' h' cells slots → Wr h h' a j.toNatClampNeg (.int x) → Ar Z h' a .int vs' → End Z p e below s Q kc ks T' (mkF m pc' Ls st)) : End Z p e below s Q kc ks T (mkF m pc Ls (.int x :: .int j :: .ref a :: st)) := by
  subst hp hvs; obtain ⟨meth, c, locs, X, N, e0, E, hx, hb, hml, hown, r⟩ := X; subst hb
  have F0 := F
  obtain ⟨cl, A, q⟩ := F
  obtain ⟨T', h', X', e', W, stp⟩ := stI X hx r.2.2.2 e0 A (Ar.inb q hj hl) (g := mkF m pc Ls (.int x :: .int j :: .ref a :: st)) rfl rfl hd
  exact (k T' h' ⟨meth, c, _, X', Fr.snoc X' N ha, e', E.wr W ha, hx, rfl, hml, hown, r⟩ W (F0.set W)).go stp
theorem E_lastore (X : Sd l Z own nm bytes ml ret R p e s m args below T h cells slots) {a : Addr} {vs vs' : List Value} {j : Int32} {x : Int64} (F : Ar Z h a .long vs) (hj : ¬ j < 0) (hl : j.toNatClampNeg < vs.length) (hvs : vs.set j.toNatClampNeg (.long x) = vs') (ha : Z.heap.size ≤ a) (hd : decode bytes pc = .ok (.lastore, 1)) (hp : pc + 1 = pc')
    (k : ∀ T' h', Sd l Z own nm bytes ml ret R p e s m args below T' h' cells slots → Wr h h' a j.toNatClampNeg (.long x) → Ar Z h' a .long vs' → End Z p e below s Q kc ks T' (mkF m pc' Ls st)) : End Z p e below s Q kc ks T (mkF m pc Ls (.long x :: .int j :: .ref a :: st)) := by
  subst hp hvs; obtain ⟨meth, c, locs, X, N, e0, E, hx, hb, hml, hown, r⟩ := X; subst hb
  have F0 := F
  obtain ⟨cl, A, q⟩ := F
  obtain ⟨T', h', X', e', W, stp⟩ := stJ X hx r.2.2.2 e0 A (Ar.inb q hj hl) (g := mkF m pc Ls (.long x :: .int j :: .ref a :: st)) rfl rfl hd
  exact (k T' h' ⟨meth, c, _, X', Fr.snoc X' N ha, e', E.wr W ha, hx, rfl, hml, hown, r⟩ W (F0.set W)).go stp
theorem E_castore (X : Sd l Z own nm bytes ml ret R p e s m args below T h cells slots) {a : Addr} {vs vs' : List Value} {j : Int32} {x : Int32} (F : Ar Z h a .char vs) (hj : ¬ j < 0) (hl : j.toNatClampNeg < vs.length) (hvs : vs.set j.toNatClampNeg (.int (nar .char x)) = vs') (ha : Z.heap.size ≤ a) (hd : decode bytes pc = .ok (.castore, 1)) (hp : pc + 1 = pc')
    (k : ∀ T' h', Sd l Z own nm bytes ml ret R p e s m args below T' h' cells slots → Wr h h' a j.toNatClampNeg (.int (nar .char x)) → Ar Z h' a .char vs' → End Z p e below s Q kc ks T' (mkF m pc' Ls st)) : End Z p e below s Q kc ks T (mkF m pc Ls (.int x :: .int j :: .ref a :: st)) := by
  subst hp hvs; obtain ⟨meth, c, locs, X, N, e0, E, hx, hb, hml, hown, r⟩ := X; subst hb
  have F0 := F
  obtain ⟨cl, A, q⟩ := F
  obtain ⟨T', h', X', e', W, stp⟩ := stC X hx r.2.2.2 e0 A (Ar.inb q hj hl) (g := mkF m pc Ls (.int x :: .int j :: .ref a :: st)) rfl rfl hd
  exact (k T' h' ⟨meth, c, _, X', Fr.snoc X' N ha, e', E.wr W ha, hx, rfl, hml, hown, r⟩ W (F0.set W)).go stp
theorem E_bastore (X : Sd l Z own nm bytes ml ret R p e s m args below T h cells slots) {a : Addr} {vs vs' : List Value} {j : Int32} {x : Int32} (F : Ar Z h a .byte vs) (hj : ¬ j < 0) (hl : j.toNatClampNeg < vs.length) (hvs : vs.set j.toNatClampNeg (.int (nar .byte x)) = vs') (ha : Z.heap.size ≤ a) (hd : decode bytes pc = .ok (.bastore, 1)) (hp : pc + 1 = pc')
    (k : ∀ T' h', Sd l Z own nm bytes ml ret R p e s m args below T' h' cells slots → Wr h h' a j.toNatClampNeg (.int (nar .byte x)) → Ar Z h' a .byte vs' → End Z p e below s Q kc ks T' (mkF m pc' Ls st)) : End Z p e below s Q kc ks T (mkF m pc Ls (.int x :: .int j :: .ref a :: st)) := by
  subst hp hvs; obtain ⟨meth, c, locs, X, N, e0, E, hx, hb, hml, hown, r⟩ := X; subst hb
  have F0 := F
  obtain ⟨cl, A, q⟩ := F
  obtain ⟨T', h', X', e', W, stp⟩ := stB X hx r.2.2.2 e0 A (Ar.inb q hj hl) (g := mkF m pc Ls (.int x :: .int j :: .ref a :: st)) rfl rfl hd
  exact (k T' h' ⟨meth, c, _, X', Fr.snoc X' N ha, e', E.wr W ha, hx, rfl, hml, hown, r⟩ W (F0.set W)).go stp
theorem E_bastore_Z (X : Sd l Z own nm bytes ml ret R p e s m args below T h cells slots) {a : Addr} {vs vs' : List Value} {j : Int32} {x : Int32} (F : Ar Z h a .boolean vs) (hj : ¬ j < 0) (hl : j.toNatClampNeg < vs.length) (hvs : vs.set j.toNatClampNeg (.int (nar .boolean x)) = vs') (ha : Z.heap.size ≤ a) (hd : decode bytes pc = .ok (.bastore, 1)) (hp : pc + 1 = pc')
    (k : ∀ T' h', Sd l Z own nm bytes ml ret R p e s m args below T' h' cells slots → Wr h h' a j.toNatClampNeg (.int (nar .boolean x)) → Ar Z h' a .boolean vs' → End Z p e below s Q kc ks T' (mkF m pc' Ls st)) : End Z p e below s Q kc ks T (mkF m pc Ls (.int x :: .int j :: .ref a :: st)) := by
  subst hp hvs; obtain ⟨meth, c, locs, X, N, e0, E, hx, hb, hml, hown, r⟩ := X; subst hb
  have F0 := F
  obtain ⟨cl, A, q⟩ := F
  obtain ⟨T', h', X', e', W, stp⟩ := stZ X hx r.2.2.2 e0 A (Ar.inb q hj hl) (g := mkF m pc Ls (.int x :: .int j :: .ref a :: st)) rfl rfl hd
  exact (k T' h' ⟨meth, c, _, X', Fr.snoc X' N ha, e', E.wr W ha, hx, rfl, hml, hown, r⟩ W (F0.set W)).go stp
theorem E_clone (X : Sd l Z own nm bytes ml ret R p e s m args below T h cells slots) {ad : String} {i cap W : Nat} {a : Addr} {ty : FieldType} {vs : List Value} {cells' slots' : Nat} (w1 : (Jvm.Cond.methodLink own i ⟨ad, "clone", "()Ljava/lang/Object;"⟩).before a0 Z = true) (w2 : (Jvm.Cond.sameMethod ad "java/lang/Object" "clone" "()Ljava/lang/Object;").before a0 Z = true) (w3 : (Jvm.Cond.native ⟨"java/lang/Object", "clone", "()Ljava/lang/Object;"⟩).before a0 Z = true)
    (w4 : (Jvm.Cond.instanceMethod ⟨"java/lang/Object", "clone", "()Ljava/lang/Object;"⟩).before a0 Z = true) (w5 : (Jvm.Cond.selects ad ⟨ad, "clone", "()Ljava/lang/Object;"⟩ ⟨"java/lang/Object", "clone", "()Ljava/lang/Object;"⟩).before a0 Z = true) (w6 : (Jvm.Cond.castable ad "java/lang/Cloneable").before a0 Z = true) (F : Ar Z h a ty vs) (E1 : Exa Z h a ad) (hfit : ∀ v ∈ vs, fits ty v = true) (hsz : Ls.size = ml) (hd : decode bytes pc = .ok (.invokevirtual i, 3)) (hp : pc + 3 = pc')
    (hf : 1 ≤ R.frames) (hW : (st.map fun v => v.category).sum ≤ W) (hl : W + 14 ≤ R.locals) (hcap : vs.length ≤ cap) (hcc : cells + 1 = cells') (hss : slots + cap = slots') (hc : cells' ≤ R.cells) (hsl : slots' ≤ R.slots)
    (k : ∀ T' h' b, b = h.size → Sd l Z own nm bytes ml ret R p e s m args below T' h' cells' slots' → Ext h h' → Ar Z h' b ty vs → Exa Z h' b ad → End Z p e below s Q kc ks T' (mkF m pc' Ls (.ref b :: st))) : End Z p e below s Q kc ks T (mkF m pc Ls (.ref a :: st)) := by
  subst hp hcc hss; obtain ⟨meth, c, locs, X, N, e0, E, hx, hb, hml, hown, r⟩ := X; subst hb
  obtain ⟨cl, A, q⟩ := F
  have FC : FitC Z cl := fitC_of A fun i hi v hv => hfit v (by rw [q] at hv; exact List.mem_of_getElem? (by simpa using hv))
  obtain ⟨T', h', X', e', E2, A2, A3, stp⟩ := cloneA X hx r.2.2.2 hown w1 w2 w3 w4 w5 w6 e0 A E1 FC (g := mkF m pc Ls (.ref a :: st)) rfl (hsz.trans hml.symm) rfl hd hf (W := W) (cap := cap) (by show 2 * 0 + _ ≤ _; omega) hl (by rw [q]; simpa using hcap) hc hsl
  exact (k T' h' h.size rfl ⟨meth, c, locs, X', N, e', E.trans E2, hx, rfl, hml, hown, r⟩ E2 ⟨_, A2, q⟩ A3).go stp
theorem E_cast (X : Sd l Z own nm bytes ml ret R p e s m args below T h cells slots) {K : String} {i : Nat} {a : Addr} (w : (Jvm.Cond.classLink own i K).before a0 Z = true) (F : Ins Z h a K true) (hd : decode bytes pc = .ok (.checkcast i, 3)) (hp : pc + 3 = pc')
    (k : ∀ T', Sd l Z own nm bytes ml ret R p e s m args below T' h cells slots → End Z p e below s Q kc ks T' (mkF m pc' Ls (.ref a :: st))) : End Z p e below s Q kc ks T (mkF m pc Ls (.ref a :: st)) := by
  subst hp; obtain ⟨meth, c, locs, X, N, e0, E, hx, hb, hml, hown, r⟩ := X; subst hb
  obtain ⟨T', X', e', stp⟩ := castY X hx r.2.2.2 hown w e0 F (g := mkF m pc Ls (.ref a :: st)) rfl rfl hd
  exact (k T' ⟨meth, c, locs, X', N, e', E, hx, rfl, hml, hown, r⟩).go stp
theorem E_instY (X : Sd l Z own nm bytes ml ret R p e s m args below T h cells slots) {K : String} {i : Nat} {a : Addr} (w : (Jvm.Cond.classLink own i K).before a0 Z = true) (F : Ins Z h a K true) (hd : decode bytes pc = .ok (.instanceof i, 3)) (hp : pc + 3 = pc')
    (k : ∀ T', Sd l Z own nm bytes ml ret R p e s m args below T' h cells slots → End Z p e below s Q kc ks T' (mkF m pc' Ls (.int 1 :: st))) : End Z p e below s Q kc ks T (mkF m pc Ls (.ref a :: st)) := by
  subst hp; obtain ⟨meth, c, locs, X, N, e0, E, hx, hb, hml, hown, r⟩ := X; subst hb
  obtain ⟨T', X', e', stp⟩ := instY X hx r.2.2.2 hown w e0 F (g := mkF m pc Ls (.ref a :: st)) rfl rfl hd
  exact (k T' ⟨meth, c, locs, X', N, e', E, hx, rfl, hml, hown, r⟩).go stp
theorem isref_cat {v : Value} (h : v.isRef = true) : v.category = 1 := by rcases ref_cases h with rfl | ⟨a, rfl⟩ <;> rfl
theorem own_irr (x : Int32) : ¬ x < x := by rw [Int32.lt_iff_toInt_lt]; omega
theorem own_irrL (x : Int64) : ¬ x < x := by rw [Int64.lt_iff_toInt_lt]; omega
theorem E_callP (X : Sd l Z own nm bytes ml ret R p e s m args below T h cells slots) {i : Nat} {y : MethodName} {K : String} {bytes' : ByteArray} {ml' : Nat} {ret' : Option FieldType} {rm : Room} {Qc : Option Value → Heap → Prop} {a : Addr} {as : Array Value} {ps : List FieldType} {rr : Option FieldType} {argsL rest : List Value} {W : Nat} {cells' slots' : Nat} (C : Con l Z y bytes' ml' ret' rm as h Qc) (E1 : Exa Z h a K)
    (w1 : (Jvm.Cond.methodLink own i y).before a0 Z = true) (w2 : (Jvm.Cond.instanceMethod y).before a0 Z = true) (ws : (Jvm.Cond.selects y.cls y y).before a0 Z = true) (wp : (Jvm.Cond.privateMethod y).before a0 Z = true) (w3 : (Jvm.Cond.initialized y.cls).before a0 Z = true) (w4 : (Jvm.Cond.code y bytes' ml' ret').before a0 Z = true) (hy : y.cls ≠ "java/lang/invoke/MethodHandle" ∧ y.cls ≠ "java/lang/invoke/VarHandle") (hsz : Ls.size = ml) (has : (.ref a :: argsL).toArray = as) (hpd : parseMethodDescriptor y.desc = some ⟨ps, rr⟩) (hlen : argsL.length = ps.length) (hst : st = argsL.reverse ++ .ref a :: rest)
    (hd : decode bytes pc = .ok (.invokevirtual i, 3)) (hp : pc + 3 = pc') (hW : (rest.map fun v => v.category).sum ≤ W) (hf : rm.frames + 1 ≤ R.frames) (hl : W + (ml' + 11) + rm.locals ≤ R.locals) (hcc : cells + rm.cells = cells') (hss : slots + rm.slots = slots') (hc : cells' ≤ R.cells) (hs : slots' ≤ R.slots)
    (k : ∀ v T' h', Sd l Z own nm bytes ml ret R p e s m args below T' h' cells' slots' → Qc v h' → End Z p e below s Q kc ks T' (mkF m pc' Ls (v.toList ++ rest))) : End Z p e below s Q kc ks T (mkF m pc Ls st) := by
  subst hp hst hcc hss; obtain ⟨meth, c, locs, X, N, e0, E, hx, hb, hml, hown, r⟩ := X; subst hb
  obtain ⟨cq, q1, q2⟩ := E1.cell
  obtain ⟨v, _, ⟨T', L', k', n'⟩, -, X', ⟨Lc, hQ, l1, l2, l3⟩, stp⟩ := X.privateBack hx (y := y) hown (mvT r.2.2.2 w1) (mvT r.2.2.2 w2) (mvT r.2.2.2 ws) (Cond.privateMethod_at (mvP r.2.2.2 wp (args := #[]))) (mvT r.2.2.2 w4) hy (backOf (W := W) (Q := fun v h L => Fr Z.heap.size L ∧ Ext Z.heap h ∧ Qc v h) (C []) r.2.2.2 w4 w3 hf hl) (g := mkF m pc Ls (argsL.reverse ++ .ref a :: rest)) rfl (hsz.trans hml.symm) (Steps.refl _) (a := a) (by rw [e0]; exact q1) q2 (argsL := argsL) (rest := rest) (lenOf hpd hlen) rfl (by show 2 * 0 + _ ≤ _; omega) hd (fun _ _ => ⟨has, e0, hc, hs⟩)
  dsimp only [Pt.U, Pt.locs, Pt.cells, Pt.slots] at X' l1 l2 l3 stp hQ
  subst l1 l2 l3
  exact (k v T' T'.heap ⟨meth, c, _, X', Fr.app N hQ.1, rfl, hQ.2.1, hx, rfl, hml, hown, r⟩ hQ.2.2).go fun _ q => stp.trans q
theorem E_callU (X : Sd l Z own nm bytes ml ret R p e s m args below T h cells slots) {i : Nat} {x y : MethodName} {K : String} {bytes' : ByteArray} {ml' : Nat} {ret' : Option FieldType} {rm : Room} {Qc : Option Value → Heap → Prop} {a : Addr} {as : Array Value} {ps : List FieldType} {rr : Option FieldType} {argsL rest : List Value} {W : Nat} {cells' slots' : Nat} (C : Con l Z y bytes' ml' ret' rm as h Qc) (E1 : Exa Z h a K)
    (w1 : (Jvm.Cond.methodLink own i x).before a0 Z = true) (wm : (Jvm.Cond.sameMethod x.cls y.cls x.name x.desc).before a0 Z = true) (wd : (Jvm.Cond.declares ⟨y.cls, x.name, x.desc⟩).before a0 Z = true) (ws : (Jvm.Cond.selects K x y).before a0 Z = true) (w2 : (Jvm.Cond.instanceMethod y).before a0 Z = true) (w3 : (Jvm.Cond.initialized y.cls).before a0 Z = true) (w4 : (Jvm.Cond.code y bytes' ml' ret').before a0 Z = true) (hy : y.cls ≠ "java/lang/invoke/MethodHandle" ∧ y.cls ≠ "java/lang/invoke/VarHandle") (hsz : Ls.size = ml) (has : (.ref a :: argsL).toArray = as) (hpd : parseMethodDescriptor x.desc = some ⟨ps, rr⟩) (hlen : argsL.length = ps.length) (hst : st = argsL.reverse ++ .ref a :: rest)
    (hd : decode bytes pc = .ok (.invokevirtual i, 3)) (hp : pc + 3 = pc') (hW : (rest.map fun v => v.category).sum ≤ W) (hf : rm.frames + 1 ≤ R.frames) (hl : W + (ml' + 11) + rm.locals ≤ R.locals) (hcc : cells + rm.cells = cells') (hss : slots + rm.slots = slots') (hc : cells' ≤ R.cells) (hs : slots' ≤ R.slots)
    (k : ∀ v T' h', Sd l Z own nm bytes ml ret R p e s m args below T' h' cells' slots' → Qc v h' → End Z p e below s Q kc ks T' (mkF m pc' Ls (v.toList ++ rest))) : End Z p e below s Q kc ks T (mkF m pc Ls st) := by
  subst hp hst hcc hss; obtain ⟨meth, c, locs, X, N, e0, E, hx, hb, hml, hown, r⟩ := X; subst hb
  obtain ⟨cq, kq, qa, qb, qc⟩ := isOf r.2.2.2 e0 E1
  obtain ⟨v, _, ⟨T', L', k', n'⟩, -, X', ⟨Lc, hQ, l1, l2, l3⟩, stp⟩ := X.virtualBackUp hx (x := x) (y := y) (owner := y.cls) hown (mvT r.2.2.2 w1) (mvT r.2.2.2 wm) (mvT r.2.2.2 wd) hy (mvT r.2.2.2 ws) (mvT r.2.2.2 w2) (backOf (W := W) (Q := fun v h L => Fr Z.heap.size L ∧ Ext Z.heap h ∧ Qc v h) (C []) r.2.2.2 w4 w3 hf hl) qa qc (g := mkF m pc Ls (argsL.reverse ++ .ref a :: rest)) rfl (hsz.trans hml.symm) (Steps.refl _) (argsL := argsL) (rest := rest) (lenOf hpd hlen) rfl (by show 2 * 0 + _ ≤ _; omega) hd (fun _ _ => ⟨has, e0, hc, hs⟩)
  dsimp only [Pt.U, Pt.locs, Pt.cells, Pt.slots] at X' l1 l2 l3 stp hQ
  subst l1 l2 l3
  exact (k v T' T'.heap ⟨meth, c, _, X', Fr.app N hQ.1, rfl, hQ.2.1, hx, rfl, hml, hown, r⟩ hQ.2.2).go fun _ q => stp.trans q
theorem E_eqI {x z : Int32} (q : x = z) (k : End Z p e below s Q kc ks T (mkF m pc Ls (.int z :: st))) : End Z p e below s Q kc ks T (mkF m pc Ls (.int x :: st)) := by subst q; exact k
theorem E_eqJ {x z : Int64} (q : x = z) (k : End Z p e below s Q kc ks T (mkF m pc Ls (.long z :: st))) : End Z p e below s Q kc ks T (mkF m pc Ls (.long x :: st)) := by subst q; exact k
theorem E_eqV {x z : Value} (q : x = z) (k : End Z p e below s Q kc ks T (mkF m pc Ls (z :: st))) : End Z p e below s Q kc ks T (mkF m pc Ls (x :: st)) := by subst q; exact k
/-! from the case's words -/
theorem own_eq {first : State} {o : Option Outcome} {idx : List Nat} {a b : Term} (h : (Jvm.Cond.eq a b).value args first o s idx = some true) : ∃ v, a.eval args first o idx s = some v ∧ b.eval args first o idx s = some v := by
  simp only [Cond.value] at h
  split at h <;> simp_all
theorem own_exa {t : Term} {K : String} (h : (Jvm.Cond.exactly t K).value args s none s [] = some true) : ∃ a, t.eval args s none [] s = some (.ref a) ∧ Exa s s.heap a K := by
  obtain ⟨a, c, cell, k, e1, r⟩ := Cond.exactly_spec (Cond.before_iff.mpr h)
  exact ⟨a, e1, Exa.start e1 h⟩
theorem own_eqi {t u : Term} {v : Value} (h : (Jvm.Cond.eq t u).value args s none s [] = some true) (hu : u.eval args s none [] s = some v) : t.eval args s none [] s = some v := by
  obtain ⟨w, h1, h2⟩ := own_eq h
  rw [h1, ← h2, hu]
theorem own_fld {t : Term} {C n d : String} {v : Value} {a : Addr} (ev : t.eval args s none [] s = some (.ref a)) (h : (Term.field t C n d).eval args s none [] s = some v) : Fld s s.heap a C n d v :=
  Fld.start (by simpa [Term.eval, ev] using h)
theorem own_arr {t : Term} {ty : FieldType} {a : Addr} (ev : t.eval args s none [] s = some (.ref a)) (h : (Jvm.Cond.arrayOf t ty).value args s none s [] = some true) : ∃ c, Arr s s.heap a c ty ∧ s.arrayAt? a = some c := by
  obtain ⟨c, A⟩ := Arr.start ev h
  exact ⟨c, A, A.fin (Vm.Alike.refl _)⟩
theorem own_len {t : Term} {a : Addr} {c : Cell} {n : Int32} (ev : t.eval args s none [] s = some (.ref a)) (hc : s.arrayAt? a = some c) (h : (Term.length t).eval args s none [] s = some (.int n)) : c.slots.size = n.toNatClampNeg := by
  simp only [Term.eval, ev, hc, Option.bind_eq_bind, Option.bind_some] at h
  split at h
  · rename_i q
    have h := Value.int.inj (Option.some.inj h)
    rw [← h]
    have h2 := len_toInt q
    show _ = (Int32.toInt _).toNat
    rw [h2]; rfl
  · cases h
theorem own_el {t : Term} {a : Addr} {c : Cell} {k : Int32} {v : Value} (ev : t.eval args s none [] s = some (.ref a)) (hc : s.arrayAt? a = some c) (h : (Term.elem t (.int k)).eval args s none [] s = some v) : c.slots[k.toNatClampNeg]? = some v := by
  simp only [Term.eval, ev, hc, Option.bind_eq_bind, Option.bind_some] at h
  split at h
  · cases h
  · exact h
theorem own_ar {a : Addr} {c : Cell} {ty : FieldType} {vs : List Value} (A : Arr Z h a c ty) (hs : c.slots.size = vs.length) (H : HasL c 0 vs) : Ar Z h a ty vs := by
  refine ⟨c, A, ?_⟩
  apply Array.ext'
  apply List.ext_getElem?
  intro i
  by_cases hi : i < vs.length
  · have := HasL.at (dv := .null) vs 0 H i hi
    rw [Nat.zero_add] at this
    simp only [List.getElem?_toArray, Array.getElem?_toList] at *
    rw [this, List.getD_eq_getElem?_getD, List.getElem?_eq_getElem hi]; rfl
  · rw [List.getElem?_eq_none (by simpa [hs] using Nat.le_of_not_lt hi), List.getElem?_eq_none (by simpa using Nat.le_of_not_lt hi)]
theorem E_ldcF (X : Sd l Z own nm bytes ml ret R p e s m args below T h cells slots) {i : Nat} {b : UInt32} (w : (Jvm.Cond.constantFloat own i b).before a0 Z = true) (hd : decode bytes pc = .ok (.ldc i, 2)) (hp : pc + 2 = pc') (k : End Z p e below s Q kc ks T (mkF m pc' Ls (.float b :: st))) : End Z p e below s Q kc ks T (mkF m pc Ls st) := by
  subst hp; obtain ⟨meth, c, locs, X, N, e0, E, hx, hb, hml, hown, hnm, hret, hlk, hZ⟩ := X; subst hb
  obtain ⟨kk, cf, hk, hcf, hc⟩ := Cond.constantFloat_spec hown (mvT (args := args) hZ w)
  exact k.go (X.ldcFloat hx hk hcf hc (g := mkF m pc Ls st) rfl hd)
/-! arrays of references, with what they take -/
def ArR (Z : State) (h : Heap) (a : Addr) (ty : FieldType) (C : String) (vs : List Value) : Prop := ∃ c : Cell, Arr Z h a c ty ∧ c.slots = vs.toArray ∧ (Ovr Z c.cls C ∨ ∃ t, OvrA Z c.cls t C)
section ArRFacts
variable {h' : Heap} {a b y : Addr} {ty : FieldType} {C : String} {vs : List Value} {ws : List Addr} {v : Value} {sl : Nat}
theorem ArR.ar (F : ArR Z h a ty C vs) : Ar Z h a ty vs := by obtain ⟨c, A, r, -⟩ := F; exact ⟨c, A, r⟩
theorem ArR.lt (F : ArR Z h a ty C vs) : a < h.size := F.ar.lt
theorem ArR.ext (F : ArR Z h a ty C vs) (E : Ext h h') : ArR Z h' a ty C vs := by obtain ⟨c, A, r⟩ := F; exact ⟨c, A.ext E, r⟩
theorem ArR.other (F : ArR Z h b ty C vs) (W : Wr h h' a sl v) (q : b ≠ a) : ArR Z h' b ty C vs := by obtain ⟨c, A, r⟩ := F; exact ⟨c, A.other W q, r⟩
theorem ArR.keep (F : ArR Z h a ty C vs) (K : Keep h h' ws) (q : a ∉ ws) : ArR Z h' a ty C vs := by obtain ⟨c, A, r⟩ := F; exact ⟨c, ⟨K.2.1 a c A.1 q, A.2⟩, r⟩
theorem ArR.set (F : ArR Z h a ty C vs) (W : Wr h h' a sl v) : ArR Z h' a ty C (vs.set sl v) := by
  obtain ⟨c, A, r, O⟩ := F
  exact ⟨_, A.same W, by simp [Cell.setSlot, r], O⟩
theorem ArR.sto (F : ArR Z h a ty C vs) (I : Ins Z h y C true) : Sto Z h a (.ref y) := by
  obtain ⟨c, A, -, O | ⟨t, O⟩⟩ := F
  · exact Sto.of A O I
  · exact Sto.ofVA A rfl O I
end ArRFacts
theorem E_newRA (X : Sd l Z own nm bytes ml ret R p e s m args below T h cells slots) {C : String} {ty : FieldType} {i cap : Nat} {n : Int32} {vs : List Value} {cells' slots' : Nat} (hC : (FieldType.array ty).toString = C) (w1 : (Jvm.Cond.classLink own i C).before a0 Z = true) (w2 : (Jvm.Cond.arrayOver (.array ty)).before a0 Z = true) (hd : decode bytes pc = .ok (.anewarray i, 3)) (hp : pc + 3 = pc') (hn : ¬ n < 0) (hcap : n.toNatClampNeg ≤ cap) (hb8 : cap * 8 ≤ 536870912) (hvs : List.replicate n.toNatClampNeg Value.null = vs) (hcc : cells + 1 = cells') (hss : slots + cap = slots') (hc : cells' ≤ R.cells) (hl : slots' ≤ R.slots)
    (k : ∀ T' h' a, a = h.size → Sd l Z own nm bytes ml ret R p e s m args below T' h' cells' slots' → Ext h h' → ArR Z h' a (.array ty) C vs → End Z p e below s Q kc ks T' (mkF m pc' Ls (.ref a :: st))) : End Z p e below s Q kc ks T (mkF m pc Ls (.int n :: st)) := by
  subst hp hcc hss hvs; obtain ⟨meth, c, locs, X, N, e0, E, hx, hb, hml, hown, r⟩ := X; subst hb
  obtain ⟨T', h', cA, X', e', E2, A2, -, O2, stp⟩ := newRA X hx r.2.2.2 hown hC w1 w2 e0 (g := mkF m pc Ls (.int n :: st)) rfl hd rfl hn hcap hb8 hc hl rfl
  exact (k T' h' h.size rfl ⟨meth, c, locs, X', N, e', E.trans E2, hx, rfl, hml, hown, r⟩ E2 ⟨_, A2, by simp [newA, defaultValue], Or.inr ⟨_, O2⟩⟩).go stp
theorem E_newR (X : Sd l Z own nm bytes ml ret R p e s m args below T h cells slots) {C : String} {i cap : Nat} {n : Int32} {vs : List Value} {cells' slots' : Nat} (w1 : (Jvm.Cond.classLink own i C).before a0 Z = true) (w2 : (Jvm.Cond.arrayOver (.object C)).before a0 Z = true) (hd : decode bytes pc = .ok (.anewarray i, 3)) (hp : pc + 3 = pc') (hn : ¬ n < 0) (hcap : n.toNatClampNeg ≤ cap) (hb8 : cap * 8 ≤ 536870912) (hvs : List.replicate n.toNatClampNeg Value.null = vs) (hcc : cells + 1 = cells') (hss : slots + cap = slots') (hc : cells' ≤ R.cells) (hl : slots' ≤ R.slots)
    (k : ∀ T' h' a, a = h.size → Sd l Z own nm bytes ml ret R p e s m args below T' h' cells' slots' → Ext h h' → ArR Z h' a (.object C) C vs → End Z p e below s Q kc ks T' (mkF m pc' Ls (.ref a :: st))) : End Z p e below s Q kc ks T (mkF m pc Ls (.int n :: st)) := by
  subst hp hcc hss hvs; obtain ⟨meth, c, locs, X, N, e0, E, hx, hb, hml, hown, r⟩ := X; subst hb
  obtain ⟨T', h', cA, X', e', E2, A2, O2, stp⟩ := newR X hx r.2.2.2 hown w1 w2 e0 (g := mkF m pc Ls (.int n :: st)) rfl hd rfl hn hcap hb8 hc hl
  exact (k T' h' h.size rfl ⟨meth, c, locs, X', N, e', E.trans E2, hx, rfl, hml, hown, r⟩ E2 ⟨_, A2, by simp [newA, defaultValue], Or.inl O2⟩).go stp
theorem E_aastore (X : Sd l Z own nm bytes ml ret R p e s m args below T h cells slots) {a y : Addr} {ty : FieldType} {C : String} {vs vs' : List Value} {j : Int32} (F : ArR Z h a ty C vs) (I : Ins Z h y C true) (hty : ty.isReference = true) (hj : ¬ j < 0) (hl : j.toNatClampNeg < vs.length) (hvs : vs.set j.toNatClampNeg (.ref y) = vs') (ha : Z.heap.size ≤ a) (hd : decode bytes pc = .ok (.aastore, 1)) (hp : pc + 1 = pc')
    (k : ∀ T' h', Sd l Z own nm bytes ml ret R p e s m args below T' h' cells slots → Wr h h' a j.toNatClampNeg (.ref y) → ArR Z h' a ty C vs' → End Z p e below s Q kc ks T' (mkF m pc' Ls st)) : End Z p e below s Q kc ks T (mkF m pc Ls (.ref y :: .int j :: .ref a :: st)) := by
  subst hp hvs; obtain ⟨meth, c, locs, X, N, e0, E, hx, hb, hml, hown, r⟩ := X; subst hb
  have F0 := F
  have S := F.sto I
  obtain ⟨cl, A, q, -⟩ := F
  obtain ⟨T', h', X', e', W, stp⟩ := stR X hx r.2.2.2 e0 A (Ar.inb q hj hl) hty S (g := mkF m pc Ls (.ref y :: .int j :: .ref a :: st)) rfl rfl hd
  exact (k T' h' ⟨meth, c, _, X', Fr.snoc X' N ha, e', E.wr W ha, hx, rfl, hml, hown, r⟩ W (F0.set W)).go stp
theorem E_ldcwI (X : Sd l Z own nm bytes ml ret R p e s m args below T h cells slots) {i : Nat} {v : Int32} (w : (Jvm.Cond.constant own i v).before a0 Z = true) (hd : decode bytes pc = .ok (.ldc_w i, 3)) (hp : pc + 3 = pc') (k : End Z p e below s Q kc ks T (mkF m pc' Ls (.int v :: st))) : End Z p e below s Q kc ks T (mkF m pc Ls st) := by
  subst hp; obtain ⟨meth, c, locs, X, N, e0, E, hx, hb, hml, hown, hnm, hret, hlk, hZ⟩ := X; subst hb
  exact k.go (X.ldcwInt hx hown (mvT hZ w) (g := mkF m pc Ls st) rfl hd)
theorem Ar.arv {a : Addr} {ty : FieldType} {vs : List Value} {z : Int32} (dv : Value) (F : Ar Z h a ty vs) (hf : ∀ v ∈ vs, fits ty v = true) (hn : vs.length = z.toNatClampNeg) (hz : ¬ z < 0) : ∃ k, Arv Z h a k ty z vs dv := by
  obtain ⟨c, A, r⟩ := F
  have hs : c.slots.size = vs.length := by rw [r]; simp
  refine ⟨c.cls, c, A, rfl, by rw [hs]; exact hn, hz, fun i hi => ?_, fun i hi => ?_⟩
  · rw [hs] at hi
    rw [r, List.getD_eq_getElem?_getD]; simp [hi]
  · rw [hs] at hi
    rw [List.getD_eq_getElem?_getD, List.getElem?_eq_getElem hi]
    exact hf _ (List.getElem_mem hi)
theorem Ar.of_arv {a : Addr} {ty : FieldType} {vs : List Value} {z : Int32} {dv : Value} {k : ClassId} (F : Arv Z h a k ty z vs dv) (hn : vs.length = z.toNatClampNeg) : Ar Z h a ty vs := by
  obtain ⟨c, A, -, hs, -, H, -⟩ := F
  refine ⟨c, A, ?_⟩
  apply Array.ext'
  apply List.ext_getElem?
  intro i
  by_cases hi : i < vs.length
  · have := H i (by omega)
    rw [Array.getElem?_toList, this, List.getD_eq_getElem?_getD, List.getElem?_eq_getElem hi]
    simp [hi]
  · rw [List.getElem?_eq_none (by rw [Array.length_toList]; omega), List.getElem?_eq_none (by simpa using Nat.le_of_not_lt hi)]
theorem E_acopy (X : Sd l Z own nm bytes ml ret R p e s m args below T h cells slots) {i W : Nat} {a b : Addr} {ty : FieldType} {vs vd vd2 : List Value} {sp dp nn z z' : Int32} (w1 : (Jvm.Cond.methodLink own i Jvm.Stand.acN).before a0 Z = true) (w2 : (Jvm.Cond.native Jvm.Stand.acN).before a0 Z = true) (w3 : (Jvm.Cond.static Jvm.Stand.acN).before a0 Z = true) (w4 : (Jvm.Cond.initialized "java/lang/System").before a0 Z = true)
    (A : Ar Z h a ty vs) (B : Ar Z h b ty vd) (hty : refKind ty = false) (fa : ∀ v ∈ vs, fits ty v = true) (fb : ∀ v ∈ vd, fits ty v = true) (za : vs.length = z.toNatClampNeg) (hz : ¬ z < 0) (zb : vd.length = z'.toNatClampNeg) (hz' : ¬ z' < 0) (h1 : ¬ sp < 0) (h2 : ¬ dp < 0) (h3 : ¬ nn < 0) (h4 : sp.toNatClampNeg + nn.toNatClampNeg ≤ vs.length) (h5 : dp.toNatClampNeg + nn.toNatClampNeg ≤ vd.length)
    (hvd : vd.take dp.toNatClampNeg ++ ((List.range nn.toNatClampNeg).map fun i => vs.getD (sp.toNatClampNeg + i) .null) ++ vd.drop (dp.toNatClampNeg + nn.toNatClampNeg) = vd2) (hb0 : Z.heap.size ≤ b) (hsz : Ls.size = ml) (hd : decode bytes pc = .ok (.invokestatic i, 3)) (hp : pc + 3 = pc') (hf : 1 ≤ R.frames) (hW : (st.map fun v => v.category).sum ≤ W) (hlo : W + (nativeFrameWords "java/lang/System" "arraycopy" 5 + 11) ≤ R.locals)
    (k : ∀ T' h', Sd l Z own nm bytes ml ret R p e s m args below T' h' cells slots → Keep h h' [b] → Ar Z h' b ty vd2 → End Z p e below s Q kc ks T' (mkF m pc' Ls st)) : End Z p e below s Q kc ks T (mkF m pc Ls (.int nn :: .int dp :: .ref b :: .int sp :: .ref a :: st)) := by
  subst hp hvd; obtain ⟨meth, c, locs, X, N, e0, E, hx, hb, hml, hown, r⟩ := X; subst hb
  obtain ⟨k1, A1⟩ := A.arv .null fa za hz
  obtain ⟨k2, B1⟩ := B.arv .null fb zb hz'
  obtain ⟨T', h', L, X', e', N', K, B2, stp⟩ := cpA X hx r.2.2.2 hown w1 w2 w3 w4 e0 A1 B1 (Or.inl ⟨rfl, hty⟩) h1 h2 h3 (by rw [← za]; exact h4) (by rw [← zb]; exact h5) rfl h5 N hb0 (g := mkF m pc Ls (.int nn :: .int dp :: .ref b :: .int sp :: .ref a :: st)) rfl (hsz.trans hml.symm) rfl hd hf (W := W) (by show 2 * 0 + _ ≤ _; omega) hlo
  refine (k T' h' ⟨meth, c, _, X', N', e', E.keep K (allS hb0 all0), hx, rfl, hml, hown, r⟩ K (Ar.of_arv B2 ?_)).go stp
  simp; omega
theorem E_dloadN (X : Sd l Z own nm bytes ml ret R p e s m args below T h cells slots) {i : Fin 4} {v : UInt64} (hd : decode bytes pc = .ok (.dload_n i, 1)) (hp : pc + 1 = pc') (hl : Ls[i.val]? = some (.val (.double v))) (k : End Z p e below s Q kc ks T (mkF m pc' Ls (.double v :: st))) : End Z p e below s Q kc ks T (mkF m pc Ls st) := by
  subst hp; obtain ⟨meth, c, locs, X, -, -, -, hx, hb, -⟩ := X; subst hb
  exact k.go fun _ => XS.dloadN X.here hx (g := mkF m pc Ls st) rfl hd hl
theorem E_dload (X : Sd l Z own nm bytes ml ret R p e s m args below T h cells slots) {i : Nat} {v : UInt64} (hd : decode bytes pc = .ok (.dload i, 2)) (hp : pc + 2 = pc') (hl : Ls[i]? = some (.val (.double v))) (k : End Z p e below s Q kc ks T (mkF m pc' Ls (.double v :: st))) : End Z p e below s Q kc ks T (mkF m pc Ls st) := by
  subst hp; obtain ⟨meth, c, locs, X, -, -, -, hx, hb, -⟩ := X; subst hb
  exact k.go fun _ => XS.dload X.here hx (g := mkF m pc Ls st) rfl hd hl
theorem E_dstoreN (X : Sd l Z own nm bytes ml ret R p e s m args below T h cells slots) {i : Fin 4} {v : UInt64} {Ls' : Array Slot} (hd : decode bytes pc = .ok (.dstore_n i, 1)) (hp : pc + 1 = pc') (hl : storeLocals Ls i.val (.double v) = some Ls') (k : End Z p e below s Q kc ks T (mkF m pc' Ls' st)) : End Z p e below s Q kc ks T (mkF m pc Ls (.double v :: st)) := by
  subst hp; obtain ⟨meth, c, locs, X, -, -, -, hx, hb, -⟩ := X; subst hb
  exact k.go fun _ => XS.dstoreN X.here hx (g := mkF m pc Ls (.double v :: st)) rfl hd rfl hl
theorem E_dstore (X : Sd l Z own nm bytes ml ret R p e s m args below T h cells slots) {i : Nat} {v : UInt64} {Ls' : Array Slot} (hd : decode bytes pc = .ok (.dstore i, 2)) (hp : pc + 2 = pc') (hl : storeLocals Ls i (.double v) = some Ls') (k : End Z p e below s Q kc ks T (mkF m pc' Ls' st)) : End Z p e below s Q kc ks T (mkF m pc Ls (.double v :: st)) := by
  subst hp; obtain ⟨meth, c, locs, X, -, -, -, hx, hb, -⟩ := X; subst hb
  exact k.go fun _ => XS.dstore X.here hx (g := mkF m pc Ls (.double v :: st)) rfl hd rfl hl
theorem E_dconst0 (X : Sd l Z own nm bytes ml ret R p e s m args below T h cells slots) {v : UInt64} (hd : decode bytes pc = .ok (.dconst 0, 1)) (hp : pc + 1 = pc') (hv : FP.dconst0 = v) (k : End Z p e below s Q kc ks T (mkF m pc' Ls (.double v :: st))) : End Z p e below s Q kc ks T (mkF m pc Ls st) := by
  subst hp; obtain ⟨meth, c, locs, X, -, -, -, hx, hb, -⟩ := X; subst hb
  exact k.go fun _ => XS.dconst0 X.here hx (g := mkF m pc Ls st) rfl hd hv
theorem E_dconst1 (X : Sd l Z own nm bytes ml ret R p e s m args below T h cells slots) {v : UInt64} (hd : decode bytes pc = .ok (.dconst 1, 1)) (hp : pc + 1 = pc') (hv : FP.dconst1 = v) (k : End Z p e below s Q kc ks T (mkF m pc' Ls (.double v :: st))) : End Z p e below s Q kc ks T (mkF m pc Ls st) := by
  subst hp; obtain ⟨meth, c, locs, X, -, -, -, hx, hb, -⟩ := X; subst hb
  exact k.go fun _ => XS.dconst1 X.here hx (g := mkF m pc Ls st) rfl hd hv
theorem E_i2d (X : Sd l Z own nm bytes ml ret R p e s m args below T h cells slots) {x : Int32} (hd : decode bytes pc = .ok (.i2d, 1)) (hp : pc + 1 = pc') (k : End Z p e below s Q kc ks T (mkF m pc' Ls (.double (FP.i2d x) :: st))) : End Z p e below s Q kc ks T (mkF m pc Ls (.int x :: st)) := by
  subst hp; obtain ⟨meth, c, locs, X, -, -, -, hx, hb, -⟩ := X; subst hb
  exact k.go fun _ => XS.i2dS X.here hx (g := mkF m pc Ls (.int x :: st)) rfl hd rfl rfl
theorem E_l2d (X : Sd l Z own nm bytes ml ret R p e s m args below T h cells slots) {x : Int64} (hd : decode bytes pc = .ok (.l2d, 1)) (hp : pc + 1 = pc') (k : End Z p e below s Q kc ks T (mkF m pc' Ls (.double (FP.l2d x) :: st))) : End Z p e below s Q kc ks T (mkF m pc Ls (.long x :: st)) := by
  subst hp; obtain ⟨meth, c, locs, X, -, -, -, hx, hb, -⟩ := X; subst hb
  exact k.go fun _ => XS.l2dS X.here hx (g := mkF m pc Ls (.long x :: st)) rfl hd rfl rfl
theorem E_dadd (X : Sd l Z own nm bytes ml ret R p e s m args below T h cells slots) {x y : UInt64} (hd : decode bytes pc = .ok (.dadd, 1)) (hp : pc + 1 = pc') (hn : Jvm.Free.Fl.NoNaN64 (FP.dadd x y)) (k : End Z p e below s Q kc ks T (mkF m pc' Ls (.double (FP.dadd x y) :: st))) : End Z p e below s Q kc ks T (mkF m pc Ls (.double y :: .double x :: st)) := by
  subst hp; obtain ⟨meth, c, locs, X, -, -, -, hx, hb, -⟩ := X; subst hb
  exact k.go fun _ => XS.daddS X.here hx (g := mkF m pc Ls (.double y :: .double x :: st)) rfl hd rfl hn rfl
theorem E_dmul (X : Sd l Z own nm bytes ml ret R p e s m args below T h cells slots) {x y : UInt64} (hd : decode bytes pc = .ok (.dmul, 1)) (hp : pc + 1 = pc') (hn : Jvm.Free.Fl.NoNaN64 (FP.dmul x y)) (k : End Z p e below s Q kc ks T (mkF m pc' Ls (.double (FP.dmul x y) :: st))) : End Z p e below s Q kc ks T (mkF m pc Ls (.double y :: .double x :: st)) := by
  subst hp; obtain ⟨meth, c, locs, X, -, -, -, hx, hb, -⟩ := X; subst hb
  exact k.go fun _ => XS.dmulS X.here hx (g := mkF m pc Ls (.double y :: .double x :: st)) rfl hd rfl hn rfl
theorem E_ddiv (X : Sd l Z own nm bytes ml ret R p e s m args below T h cells slots) {x y : UInt64} (hd : decode bytes pc = .ok (.ddiv, 1)) (hp : pc + 1 = pc') (hn : Jvm.Free.Fl.NoNaN64 (FP.ddiv x y)) (k : End Z p e below s Q kc ks T (mkF m pc' Ls (.double (FP.ddiv x y) :: st))) : End Z p e below s Q kc ks T (mkF m pc Ls (.double y :: .double x :: st)) := by
  subst hp; obtain ⟨meth, c, locs, X, -, -, -, hx, hb, -⟩ := X; subst hb
  exact k.go fun _ => XS.ddivS X.here hx (g := mkF m pc Ls (.double y :: .double x :: st)) rfl hd rfl hn rfl
theorem E_dcmp (X : Sd l Z own nm bytes ml ret R p e s m args below T h cells slots) {o : CmpOp} {x y : UInt64} {v : Int32} (hd : decode bytes pc = .ok (.dcmp o, 1)) (hp : pc + 1 = pc') (hv : cmpValue (FP.dcmp x y) o = v) (k : End Z p e below s Q kc ks T (mkF m pc' Ls (.int v :: st))) : End Z p e below s Q kc ks T (mkF m pc Ls (.double y :: .double x :: st)) := by
  subst hp; obtain ⟨meth, c, locs, X, -, -, -, hx, hb, -⟩ := X; subst hb
  exact k.go fun _ => XS.dcmpS X.here hx (g := mkF m pc Ls (.double y :: .double x :: st)) rfl hd rfl hv
theorem E_ldcD (X : Sd l Z own nm bytes ml ret R p e s m args below T h cells slots) {i : Nat} {b : UInt64} (w : (Jvm.Cond.constantDouble own i b).before a0 Z = true) (hd : decode bytes pc = .ok (.ldc2_w i, 3)) (hp : pc + 3 = pc') (k : End Z p e below s Q kc ks T (mkF m pc' Ls (.double b :: st))) : End Z p e below s Q kc ks T (mkF m pc Ls st) := by
  subst hp; obtain ⟨meth, c, locs, X, N, e0, E, hx, hb, hml, hown, hnm, hret, hlk, hZ⟩ := X; subst hb
  obtain ⟨kk, cf, hk, hcf, hc⟩ := Cond.constantDouble_spec hown (mvT (args := args) hZ w)
  exact k.go (X.ldc2Double hx hk hcf hc (g := mkF m pc Ls st) rfl hd)
theorem E_retD {z : UInt64} (X : Sd l Z own nm bytes ml (some .double) R p e s m args below T h cells slots) (hd : decode bytes pc = .ok (.dreturn, 1)) (h1 : cells ≤ kc) (h2 : slots ≤ ks) (hq : Q (some (.double z)) h) : End Z p e below s Q kc ks T (mkF m pc Ls (.double z :: st)) :=
  E_retW (t := .double) rfl (Or.inr (Or.inr (Or.inl ⟨rfl, rfl, z, rfl⟩))) X hd h1 h2 hq
end Own
end Jvm.RoadKit
namespace Jvm.Pilot.@@N@@
open Jvm Jvm.ClassFile Sem Op Lib Jvm.Free Jvm.Stand Jvm.LawKit Jvm.RoadKit Bundle Jvm.Pilot.@@N@@.Jvm.D
theorem w_0 {a0 : Array Value} {Z : State} (hw : ∀ d ∈ tables_1, d.before a0 Z = true) : (Jvm.Cond.constantLong "com/example/steiner/steiner/service/RelevanceRelationshipPinLaw" (9 : Nat) (9223372036854775807 : Int64)).before a0 Z = true := hw _ (List.mem_of_getElem? (i := 0) rfl)
theorem w_1 {a0 : Array Value} {Z : State} (hw : ∀ d ∈ tables_1, d.before a0 Z = true) : (Jvm.Cond.arrayClass Jvm.ClassFile.FieldType.long).before a0 Z = true := hw _ (List.mem_of_getElem? (i := 1) rfl)
theorem w_2 {a0 : Array Value} {Z : State} (hw : ∀ d ∈ tables_1, d.before a0 Z = true) : (Jvm.Cond.classLink "com/example/steiner/steiner/service/RelevanceRelationshipPinLaw" (11 : Nat) "com/example/steiner/steiner/model/Relationship").before a0 Z = true := hw _ (List.mem_of_getElem? (i := 2) rfl)
theorem w_3 {a0 : Array Value} {Z : State} (hw : ∀ d ∈ tables_1, d.before a0 Z = true) : (Jvm.Cond.instantiable "com/example/steiner/steiner/model/Relationship" (3 : Nat)).before a0 Z = true := hw _ (List.mem_of_getElem? (i := 3) rfl)
theorem w_4 {a0 : Array Value} {Z : State} (hw : ∀ d ∈ tables_1, d.before a0 Z = true) : (Jvm.Cond.initialized "com/example/steiner/steiner/model/Relationship").before a0 Z = true := hw _ (List.mem_of_getElem? (i := 4) rfl)
theorem w_5 {a0 : Array Value} {Z : State} (hw : ∀ d ∈ tables_1, d.before a0 Z = true) : (Jvm.Cond.methodLink "com/example/steiner/steiner/service/RelevanceRelationshipPinLaw" (13 : Nat) ({ cls := "com/example/steiner/steiner/model/Relationship", name := "<init>", desc := "(II[J)V" } : Jvm.MethodName)).before a0 Z = true := hw _ (List.mem_of_getElem? (i := 5) rfl)
theorem w_6 {a0 : Array Value} {Z : State} (hw : ∀ d ∈ tables_1, d.before a0 Z = true) : (Jvm.Cond.instanceMethod ({ cls := "com/example/steiner/steiner/model/Relationship", name := "<init>", desc := "(II[J)V" } : Jvm.MethodName)).before a0 Z = true := hw _ (List.mem_of_getElem? (i := 6) rfl)
theorem w_7 {a0 : Array Value} {Z : State} (hw : ∀ d ∈ tables_1, d.before a0 Z = true) : (Jvm.Cond.code ({ cls := "com/example/steiner/steiner/model/Relationship", name := "<init>", desc := "(II[J)V" } : Jvm.MethodName) prog_18_method_1_code (4 : Nat) (Option.none : Option Jvm.ClassFile.FieldType)).before a0 Z = true := hw _ (List.mem_of_getElem? (i := 7) rfl)
theorem w_8 {a0 : Array Value} {Z : State} (hw : ∀ d ∈ tables_1, d.before a0 Z = true) : (Jvm.Cond.methodLink "com/example/steiner/steiner/model/Relationship" (1 : Nat) ({ cls := "java/lang/Object", name := "<init>", desc := "()V" } : Jvm.MethodName)).before a0 Z = true := hw _ (List.mem_of_getElem? (i := 8) rfl)
theorem w_9 {a0 : Array Value} {Z : State} (hw : ∀ d ∈ tables_1, d.before a0 Z = true) : (Jvm.Cond.instanceMethod ({ cls := "java/lang/Object", name := "<init>", desc := "()V" } : Jvm.MethodName)).before a0 Z = true := hw _ (List.mem_of_getElem? (i := 9) rfl)
theorem w_10 {a0 : Array Value} {Z : State} (hw : ∀ d ∈ tables_1, d.before a0 Z = true) : (Jvm.Cond.code ({ cls := "java/lang/Object", name := "<init>", desc := "()V" } : Jvm.MethodName) object_method_1_code (1 : Nat) (Option.none : Option Jvm.ClassFile.FieldType)).before a0 Z = true := hw _ (List.mem_of_getElem? (i := 10) rfl)
theorem w_11 {a0 : Array Value} {Z : State} (hw : ∀ d ∈ tables_1, d.before a0 Z = true) : (Jvm.Cond.fieldLink "com/example/steiner/steiner/model/Relationship" (7 : Nat) "com/example/steiner/steiner/model/Relationship" "first" "I").before a0 Z = true := hw _ (List.mem_of_getElem? (i := 11) rfl)
theorem w_12 {a0 : Array Value} {Z : State} (hw : ∀ d ∈ tables_1, d.before a0 Z = true) : (Jvm.Cond.laysFinal "com/example/steiner/steiner/model/Relationship" "com/example/steiner/steiner/model/Relationship" "first" "I").before a0 Z = true := hw _ (List.mem_of_getElem? (i := 12) rfl)
theorem w_13 {a0 : Array Value} {Z : State} (hw : ∀ d ∈ tables_1, d.before a0 Z = true) : (Jvm.Cond.fieldLink "com/example/steiner/steiner/model/Relationship" (13 : Nat) "com/example/steiner/steiner/model/Relationship" "second" "I").before a0 Z = true := hw _ (List.mem_of_getElem? (i := 13) rfl)
theorem w_14 {a0 : Array Value} {Z : State} (hw : ∀ d ∈ tables_1, d.before a0 Z = true) : (Jvm.Cond.laysFinal "com/example/steiner/steiner/model/Relationship" "com/example/steiner/steiner/model/Relationship" "second" "I").before a0 Z = true := hw _ (List.mem_of_getElem? (i := 14) rfl)
theorem w_15 {a0 : Array Value} {Z : State} (hw : ∀ d ∈ tables_1, d.before a0 Z = true) : (Jvm.Cond.methodLink "com/example/steiner/steiner/model/Relationship" (16 : Nat) ({ cls := "[J", name := "clone", desc := "()Ljava/lang/Object;" } : Jvm.MethodName)).before a0 Z = true := hw _ (List.mem_of_getElem? (i := 15) rfl)
theorem w_16 {a0 : Array Value} {Z : State} (hw : ∀ d ∈ tables_1, d.before a0 Z = true) : (Jvm.Cond.sameMethod "[J" "java/lang/Object" "clone" "()Ljava/lang/Object;").before a0 Z = true := hw _ (List.mem_of_getElem? (i := 16) rfl)
theorem w_18 {a0 : Array Value} {Z : State} (hw : ∀ d ∈ tables_1, d.before a0 Z = true) : (Jvm.Cond.instanceMethod ({ cls := "java/lang/Object", name := "clone", desc := "()Ljava/lang/Object;" } : Jvm.MethodName)).before a0 Z = true := hw _ (List.mem_of_getElem? (i := 18) rfl)
theorem w_19 {a0 : Array Value} {Z : State} (hw : ∀ d ∈ tables_1, d.before a0 Z = true) : (Jvm.Cond.selects "[J" ({ cls := "[J", name := "clone", desc := "()Ljava/lang/Object;" } : Jvm.MethodName) ({ cls := "java/lang/Object", name := "clone", desc := "()Ljava/lang/Object;" } : Jvm.MethodName)).before a0 Z = true := hw _ (List.mem_of_getElem? (i := 19) rfl)
theorem w_20 {a0 : Array Value} {Z : State} (hw : ∀ d ∈ tables_1, d.before a0 Z = true) : (Jvm.Cond.native ({ cls := "java/lang/Object", name := "clone", desc := "()Ljava/lang/Object;" } : Jvm.MethodName)).before a0 Z = true := hw _ (List.mem_of_getElem? (i := 20) rfl)
theorem w_21 {a0 : Array Value} {Z : State} (hw : ∀ d ∈ tables_1, d.before a0 Z = true) : (Jvm.Cond.castable "[J" "java/lang/Cloneable").before a0 Z = true := hw _ (List.mem_of_getElem? (i := 21) rfl)
theorem w_22 {a0 : Array Value} {Z : State} (hw : ∀ d ∈ tables_1, d.before a0 Z = true) : (Jvm.Cond.classLink "com/example/steiner/steiner/model/Relationship" (17 : Nat) "[J").before a0 Z = true := hw _ (List.mem_of_getElem? (i := 22) rfl)
theorem w_24 {a0 : Array Value} {Z : State} (hw : ∀ d ∈ tables_1, d.before a0 Z = true) : (Jvm.Cond.fieldLink "com/example/steiner/steiner/model/Relationship" (22 : Nat) "com/example/steiner/steiner/model/Relationship" "byDistance" "[J").before a0 Z = true := hw _ (List.mem_of_getElem? (i := 24) rfl)
theorem w_25 {a0 : Array Value} {Z : State} (hw : ∀ d ∈ tables_1, d.before a0 Z = true) : (Jvm.Cond.laysFinal "com/example/steiner/steiner/model/Relationship" "com/example/steiner/steiner/model/Relationship" "byDistance" "[J").before a0 Z = true := hw _ (List.mem_of_getElem? (i := 25) rfl)
theorem w_26 {a0 : Array Value} {Z : State} (hw : ∀ d ∈ tables_1, d.before a0 Z = true) : (Jvm.Cond.classLink "com/example/steiner/steiner/service/RelevanceRelationshipPinLaw" (16 : Nat) "com/example/steiner/steiner/service/Relevance").before a0 Z = true := hw _ (List.mem_of_getElem? (i := 26) rfl)
theorem w_27 {a0 : Array Value} {Z : State} (hw : ∀ d ∈ tables_1, d.before a0 Z = true) : (Jvm.Cond.instantiable "com/example/steiner/steiner/service/Relevance" (3 : Nat)).before a0 Z = true := hw _ (List.mem_of_getElem? (i := 27) rfl)
theorem w_28 {a0 : Array Value} {Z : State} (hw : ∀ d ∈ tables_1, d.before a0 Z = true) : (Jvm.Cond.initialized "com/example/steiner/steiner/service/Relevance").before a0 Z = true := hw _ (List.mem_of_getElem? (i := 28) rfl)
theorem w_29 {a0 : Array Value} {Z : State} (hw : ∀ d ∈ tables_1, d.before a0 Z = true) : (Jvm.Cond.methodLink "com/example/steiner/steiner/service/RelevanceRelationshipPinLaw" (18 : Nat) ({ cls := "com/example/steiner/steiner/service/Relevance", name := "<init>", desc := "(JJI)V" } : Jvm.MethodName)).before a0 Z = true := hw _ (List.mem_of_getElem? (i := 29) rfl)
theorem w_30 {a0 : Array Value} {Z : State} (hw : ∀ d ∈ tables_1, d.before a0 Z = true) : (Jvm.Cond.instanceMethod ({ cls := "com/example/steiner/steiner/service/Relevance", name := "<init>", desc := "(JJI)V" } : Jvm.MethodName)).before a0 Z = true := hw _ (List.mem_of_getElem? (i := 30) rfl)
theorem w_31 {a0 : Array Value} {Z : State} (hw : ∀ d ∈ tables_1, d.before a0 Z = true) : (Jvm.Cond.code ({ cls := "com/example/steiner/steiner/service/Relevance", name := "<init>", desc := "(JJI)V" } : Jvm.MethodName) prog_33_method_1_code (6 : Nat) (Option.none : Option Jvm.ClassFile.FieldType)).before a0 Z = true := hw _ (List.mem_of_getElem? (i := 31) rfl)
theorem w_32 {a0 : Array Value} {Z : State} (hw : ∀ d ∈ tables_1, d.before a0 Z = true) : (Jvm.Cond.methodLink "com/example/steiner/steiner/service/Relevance" (1 : Nat) ({ cls := "java/lang/Object", name := "<init>", desc := "()V" } : Jvm.MethodName)).before a0 Z = true := hw _ (List.mem_of_getElem? (i := 32) rfl)
theorem w_33 {a0 : Array Value} {Z : State} (hw : ∀ d ∈ tables_1, d.before a0 Z = true) : (Jvm.Cond.fieldLink "com/example/steiner/steiner/service/Relevance" (7 : Nat) "com/example/steiner/steiner/service/Relevance" "allNodes" "J").before a0 Z = true := hw _ (List.mem_of_getElem? (i := 33) rfl)
theorem w_34 {a0 : Array Value} {Z : State} (hw : ∀ d ∈ tables_1, d.before a0 Z = true) : (Jvm.Cond.laysFinal "com/example/steiner/steiner/service/Relevance" "com/example/steiner/steiner/service/Relevance" "allNodes" "J").before a0 Z = true := hw _ (List.mem_of_getElem? (i := 34) rfl)
theorem w_35 {a0 : Array Value} {Z : State} (hw : ∀ d ∈ tables_1, d.before a0 Z = true) : (Jvm.Cond.fieldLink "com/example/steiner/steiner/service/Relevance" (13 : Nat) "com/example/steiner/steiner/service/Relevance" "allRelationships" "J").before a0 Z = true := hw _ (List.mem_of_getElem? (i := 35) rfl)
theorem w_36 {a0 : Array Value} {Z : State} (hw : ∀ d ∈ tables_1, d.before a0 Z = true) : (Jvm.Cond.laysFinal "com/example/steiner/steiner/service/Relevance" "com/example/steiner/steiner/service/Relevance" "allRelationships" "J").before a0 Z = true := hw _ (List.mem_of_getElem? (i := 36) rfl)
theorem w_37 {a0 : Array Value} {Z : State} (hw : ∀ d ∈ tables_1, d.before a0 Z = true) : (Jvm.Cond.fieldLink "com/example/steiner/steiner/service/Relevance" (16 : Nat) "com/example/steiner/steiner/service/Relevance" "dmax" "I").before a0 Z = true := hw _ (List.mem_of_getElem? (i := 37) rfl)
theorem w_38 {a0 : Array Value} {Z : State} (hw : ∀ d ∈ tables_1, d.before a0 Z = true) : (Jvm.Cond.laysFinal "com/example/steiner/steiner/service/Relevance" "com/example/steiner/steiner/service/Relevance" "dmax" "I").before a0 Z = true := hw _ (List.mem_of_getElem? (i := 38) rfl)
theorem w_39 {a0 : Array Value} {Z : State} (hw : ∀ d ∈ tables_1, d.before a0 Z = true) : (Jvm.Cond.methodLink "com/example/steiner/steiner/service/RelevanceRelationshipPinLaw" (21 : Nat) ({ cls := "com/example/steiner/steiner/service/Relevance", name := "relationship", desc := "(Lcom/example/steiner/steiner/model/Relationship;D)D" } : Jvm.MethodName)).before a0 Z = true := hw _ (List.mem_of_getElem? (i := 39) rfl)
theorem w_40 {a0 : Array Value} {Z : State} (hw : ∀ d ∈ tables_1, d.before a0 Z = true) : (Jvm.Cond.declares ({ cls := "com/example/steiner/steiner/service/Relevance", name := "relationship", desc := "(Lcom/example/steiner/steiner/model/Relationship;D)D" } : Jvm.MethodName)).before a0 Z = true := hw _ (List.mem_of_getElem? (i := 40) rfl)
theorem w_41 {a0 : Array Value} {Z : State} (hw : ∀ d ∈ tables_1, d.before a0 Z = true) : (Jvm.Cond.instanceMethod ({ cls := "com/example/steiner/steiner/service/Relevance", name := "relationship", desc := "(Lcom/example/steiner/steiner/model/Relationship;D)D" } : Jvm.MethodName)).before a0 Z = true := hw _ (List.mem_of_getElem? (i := 41) rfl)
theorem w_42 {a0 : Array Value} {Z : State} (hw : ∀ d ∈ tables_1, d.before a0 Z = true) : (Jvm.Cond.selects "com/example/steiner/steiner/service/Relevance" ({ cls := "com/example/steiner/steiner/service/Relevance", name := "relationship", desc := "(Lcom/example/steiner/steiner/model/Relationship;D)D" } : Jvm.MethodName) ({ cls := "com/example/steiner/steiner/service/Relevance", name := "relationship", desc := "(Lcom/example/steiner/steiner/model/Relationship;D)D" } : Jvm.MethodName)).before a0 Z = true := hw _ (List.mem_of_getElem? (i := 42) rfl)
theorem w_43 {a0 : Array Value} {Z : State} (hw : ∀ d ∈ tables_1, d.before a0 Z = true) : (Jvm.Cond.code ({ cls := "com/example/steiner/steiner/service/Relevance", name := "relationship", desc := "(Lcom/example/steiner/steiner/model/Relationship;D)D" } : Jvm.MethodName) prog_33_method_5_code (7 : Nat) (Option.some Jvm.ClassFile.FieldType.double)).before a0 Z = true := hw _ (List.mem_of_getElem? (i := 43) rfl)
theorem w_44 {a0 : Array Value} {Z : State} (hw : ∀ d ∈ tables_1, d.before a0 Z = true) : (Jvm.Cond.methodLink "com/example/steiner/steiner/service/Relevance" (46 : Nat) ({ cls := "com/example/steiner/steiner/model/Relationship", name := "elementRelationships", desc := "(I)J" } : Jvm.MethodName)).before a0 Z = true := hw _ (List.mem_of_getElem? (i := 44) rfl)
theorem w_45 {a0 : Array Value} {Z : State} (hw : ∀ d ∈ tables_1, d.before a0 Z = true) : (Jvm.Cond.declares ({ cls := "com/example/steiner/steiner/model/Relationship", name := "elementRelationships", desc := "(I)J" } : Jvm.MethodName)).before a0 Z = true := hw _ (List.mem_of_getElem? (i := 45) rfl)
theorem w_46 {a0 : Array Value} {Z : State} (hw : ∀ d ∈ tables_1, d.before a0 Z = true) : (Jvm.Cond.instanceMethod ({ cls := "com/example/steiner/steiner/model/Relationship", name := "elementRelationships", desc := "(I)J" } : Jvm.MethodName)).before a0 Z = true := hw _ (List.mem_of_getElem? (i := 46) rfl)
theorem w_47 {a0 : Array Value} {Z : State} (hw : ∀ d ∈ tables_1, d.before a0 Z = true) : (Jvm.Cond.selects "com/example/steiner/steiner/model/Relationship" ({ cls := "com/example/steiner/steiner/model/Relationship", name := "elementRelationships", desc := "(I)J" } : Jvm.MethodName) ({ cls := "com/example/steiner/steiner/model/Relationship", name := "elementRelationships", desc := "(I)J" } : Jvm.MethodName)).before a0 Z = true := hw _ (List.mem_of_getElem? (i := 47) rfl)
theorem w_48 {a0 : Array Value} {Z : State} (hw : ∀ d ∈ tables_1, d.before a0 Z = true) : (Jvm.Cond.code ({ cls := "com/example/steiner/steiner/model/Relationship", name := "elementRelationships", desc := "(I)J" } : Jvm.MethodName) prog_18_method_4_code (2 : Nat) (Option.some Jvm.ClassFile.FieldType.long)).before a0 Z = true := hw _ (List.mem_of_getElem? (i := 48) rfl)
theorem w_49 {a0 : Array Value} {Z : State} (hw : ∀ d ∈ tables_1, d.before a0 Z = true) : (Jvm.Cond.constantDouble "com/example/steiner/steiner/service/RelevanceRelationshipPinLaw" (25 : Nat) (4611686018427387904 : UInt64)).before a0 Z = true := hw _ (List.mem_of_getElem? (i := 49) rfl)
theorem w_50 {a0 : Array Value} {Z : State} (hw : ∀ d ∈ tables_1, d.before a0 Z = true) : (Jvm.Cond.constantDouble "com/example/steiner/steiner/service/RelevanceRelationshipPinLaw" (27 : Nat) (4613937818241073152 : UInt64)).before a0 Z = true := hw _ (List.mem_of_getElem? (i := 50) rfl)
theorem w_51 {a0 : Array Value} {Z : State} (hw : ∀ d ∈ tables_1, d.before a0 Z = true) : (Jvm.Cond.constantDouble "com/example/steiner/steiner/service/RelevanceRelationshipPinLaw" (29 : Nat) (4616189618054758400 : UInt64)).before a0 Z = true := hw _ (List.mem_of_getElem? (i := 51) rfl)
theorem own_mask3 (x : Int32) : x &&& (3 : Int32) = (0 : Int32) ∨ x &&& (3 : Int32) = (1 : Int32) ∨ x &&& (3 : Int32) = (2 : Int32) ∨ x &&& (3 : Int32) = (3 : Int32) := by
  have h := c_and x 3 (by decide)
  generalize x &&& (3 : Int32) = z at h ⊢
  simp only [← Int32.toInt_inj]
  have q0 : (0 : Int32).toInt = 0 := rfl
  have q1 : (1 : Int32).toInt = 1 := rfl
  have q2 : (2 : Int32).toInt = 2 := rfl
  have q3 : (3 : Int32).toInt = 3 := rfl
  omega
open Jvm.Free.Fl
def ownT (c : Int64) (f : UInt64) (k : Int32) : UInt64 := FP.ddiv (FP.dmul (FP.l2d c) f) (FP.i2d k)
theorem own_m (c : Int64) {f : UInt64} (hf : Mag64 1056 f) : Mag64 1122 (FP.dmul (FP.l2d c) f) := (dmul_mag (l2d_mag c) hf (by omega) (by omega)).mono (by omega)
theorem own_t (c : Int64) {f : UInt64} (hf : Mag64 1056 f) (k : Int32) (hk : k.toInt64 ≠ 0) : Mag64 1123 (ownT c f k) := (ddiv_mag (own_m c hf) (by rw [i2d_w]; exact l2d_big hk) (by omega) (by omega)).mono (by omega)
theorem own_nn {K : Nat} {x : UInt64} (h : Mag64 K x) (hK : K ≤ 2047) : NoNaN64 x := (h.fin hK).noNaN
theorem own_0 : Mag64 1123 FP.dconst0 := by unfold Mag64; decide +kernel
theorem own_a {K : Nat} {x y : UInt64} (hx : Mag64 K x) (hy : Mag64 1123 y) (h1 : 1123 ≤ K) (hK : K ≤ 2000) : Mag64 (K + 2) (FP.dadd x y) := dadd_mag hx (hy.mono h1) (by omega)
theorem d1_0 : decode prog_18_method_1_code 0 = .ok (.aload_n 0, 1) := by decide +kernel
theorem d1_1 : decode prog_18_method_1_code 1 = .ok (.invokespecial 1, 3) := by decide +kernel
theorem d1_4 : decode prog_18_method_1_code 4 = .ok (.aload_n 0, 1) := by decide +kernel
theorem d1_5 : decode prog_18_method_1_code 5 = .ok (.iload_n 1, 1) := by decide +kernel
theorem d1_6 : decode prog_18_method_1_code 6 = .ok (.putfield 7, 3) := by decide +kernel
theorem d1_9 : decode prog_18_method_1_code 9 = .ok (.aload_n 0, 1) := by decide +kernel
theorem d1_10 : decode prog_18_method_1_code 10 = .ok (.iload_n 2, 1) := by decide +kernel
theorem d1_11 : decode prog_18_method_1_code 11 = .ok (.putfield 13, 3) := by decide +kernel
theorem d1_14 : decode prog_18_method_1_code 14 = .ok (.aload_n 0, 1) := by decide +kernel
theorem d1_15 : decode prog_18_method_1_code 15 = .ok (.aload_n 3, 1) := by decide +kernel
theorem d1_16 : decode prog_18_method_1_code 16 = .ok (.invokevirtual 16, 3) := by decide +kernel
theorem d1_19 : decode prog_18_method_1_code 19 = .ok (.checkcast 17, 3) := by decide +kernel
theorem d1_22 : decode prog_18_method_1_code 22 = .ok (.putfield 22, 3) := by decide +kernel
theorem d1_25 : decode prog_18_method_1_code 25 = .ok (.return_, 1) := by decide +kernel
theorem ef_rm1 (m : MethodId) (x0 : Addr) (x1 : Int32) (x2 : Int32) (x3 : Addr) : entryFrame m #[(.ref x0), (.int x1), (.int x2), (.ref x3)] 4 = mkF m 0 #[.val (.ref x0), .val (.int x1), .val (.int x2), .val (.ref x3)] [] := by first | (simp [entryFrame, mkF, argsToLocals, Value.category]; done) | (simp [entryFrame, mkF, argsToLocals, *]; done) | rfl
set_option maxRecDepth 65536 in
set_option maxHeartbeats 2000000 in
theorem rm1 (l : Launch) (Z : State) (a0 : Array Value) (hw : ∀ d ∈ tables_1, d.before a0 Z = true) (a : Addr) (p1 : Int32) (p2 : Int32) (t : Addr) (b0 : Int64) (b1 : Int64) (b2 : Int64) (b3 : Int64) (h0 : Heap) (hE : Ext Z.heap h0) (hE0 : Exa Z h0 a "com/example/steiner/steiner/model/Relationship") (hF1 : Fld Z h0 a "com/example/steiner/steiner/model/Relationship" "first" "I" (.int (0 : Int32))) (hF2 : Fld Z h0 a "com/example/steiner/steiner/model/Relationship" "second" "I" (.int (0 : Int32))) (hF3 : Fld Z h0 a "com/example/steiner/steiner/model/Relationship" "byDistance" "[J" .null) (hfr4 : Z.heap.size ≤ a) (hA5 : Ar Z h0 t .long [(.long b0), (.long b1), (.long b2), (.long b3)]) (hE6 : Exa Z h0 t "[J") :
    Con l Z (⟨"com/example/steiner/steiner/model/Relationship", "<init>", "(II[J)V"⟩ : MethodName) prog_18_method_1_code 4 none ({ frames := 1, cells := 1, slots := 4, locals := 15 } : Room) #[(.ref a), (.int p1), (.int p2), (.ref t)] h0 (fun vv hh => ∃ r : Addr, vv = none ∧ Keep h0 hh [a] ∧ h0.size ≤ r ∧ Exa Z hh a "com/example/steiner/steiner/model/Relationship" ∧ Fld Z hh a "com/example/steiner/steiner/model/Relationship" "byDistance" "[J" (.ref r) ∧ Ar Z hh r .long [(.long b0), (.long b1), (.long b2), (.long b3)]) := by
  refine Con.of (plainFor_of_name (by first | (simp [plainName, overriddenIn]; done) | decide +kernel)) hE ?_
  intro p e s m below T (X : Sd l Z "com/example/steiner/steiner/model/Relationship" "<init>" prog_18_method_1_code 4 none ({ frames := 1, cells := 1, slots := 4, locals := 15 } : Room) p e s m #[(.ref a), (.int p1), (.int p2), (.ref t)] below T h0 0 0)
  refine End.frame (ef_rm1 m a p1 p2 t) ?_
  have K_0 : Keep h0 h0 [a] := Keep.refl _ _
  have ne_1 : a ≠ t := ne_exa hE0 hE6 (by decide)
  show End Z p e below s _ _ _ _ (mkF m 0 #[.val (.ref a), .val (.int p1), .val (.int p2), .val (.ref t)] [])
  refine E_aloadN (v := (.ref a)) (pc' := 1) X d1_0 rfl rfl rfl ?_
  refine E_initO (pc' := 4) X (w_8 hw) (w_9 hw) (w_10 hw) rfl d1_1 rfl (by decide) (W := 0) (Nat.le_refl _) (by decide) (fun T X => ?_)
  refine E_aloadN (v := (.ref a)) (pc' := 5) X d1_4 rfl rfl rfl ?_
  refine E_iloadN (pc' := 6) X d1_5 rfl rfl ?_
  refine E_putF (pc' := 9) X (host := "") (Or.inl (w_11 hw)) Via.refl hF1 hE0 (Or.inr ⟨(w_12 hw), rfl, rfl⟩) (w_3 hw) (ty := .int) (by decide) rfl rfl hfr4 d1_6 rfl (fun T h_3 X W_2 => ?_)
  have K_4 : Keep h0 h_3 [a] := K_0.wr W_2 (Or.inl (List.mem_of_getElem? (i := 0) rfl))
  refine E_aloadN (v := (.ref a)) (pc' := 10) X d1_9 rfl rfl rfl ?_
  refine E_iloadN (pc' := 11) X d1_10 rfl rfl ?_
  have F_5 : Fld Z h_3 a "com/example/steiner/steiner/model/Relationship" "second" "I" (.int (0 : Int32)) := (hF2.other W_2 (Or.inr (slot_ne (Or.inr (w_14 hw)) (Or.inr (w_12 hw)) (by decide) (t := .int) (t' := .int) (by decide) (by decide))))
  have E_6 : Exa Z h_3 a "com/example/steiner/steiner/model/Relationship" := (hE0.wr W_2)
  refine E_putF (pc' := 14) X (host := "") (Or.inl (w_13 hw)) Via.refl F_5 E_6 (Or.inr ⟨(w_14 hw), rfl, rfl⟩) (w_3 hw) (ty := .int) (by decide) rfl rfl hfr4 d1_11 rfl (fun T h_8 X W_7 => ?_)
  have K_9 : Keep h0 h_8 [a] := K_4.wr W_7 (Or.inl (List.mem_of_getElem? (i := 0) rfl))
  refine E_aloadN (v := (.ref a)) (pc' := 15) X d1_14 rfl rfl rfl ?_
  refine E_aloadN (v := (.ref t)) (pc' := 16) X d1_15 rfl rfl rfl ?_
  have A_10 : Ar Z h_8 t .long [(.long b0), (.long b1), (.long b2), (.long b3)] := ((hA5.other W_2 (Ne.symm ne_1)).other W_7 (Ne.symm ne_1))
  have E_11 : Exa Z h_8 t "[J" := ((hE6.wr W_2).wr W_7)
  have E_17 : Exa Z h_8 a "com/example/steiner/steiner/model/Relationship" := (E_6.wr W_7)
  have le_o12 := X.le
  refine E_clone (pc' := 19) X (cap := 4) (W := 1) (cells' := 1) (slots' := 4) (w_15 hw) (w_16 hw) (w_20 hw) (w_18 hw) (w_19 hw) (w_21 hw) A_10 E_11 (by simp [fits]) rfl d1_16 rfl (by decide) (Nat.le_refl _) (by decide) (Nat.le_of_ble_eq_true rfl) rfl rfl (by decide) (by decide) (fun T h_13 o12 g_16 X Ex_14 Aa_15 EaAa_15 => ?_)
  have b_18 : h0.size ≤ o12 := by rw [g_16]; exact K_9.1
  have K_19 : Keep h0 h_13 [a] := K_9.ext Ex_14
  have fr_20 : Z.heap.size ≤ o12 := by rw [g_16]; exact le_o12
  have ne_21 : a ≠ o12 := Nat.ne_of_lt (by rw [g_16]; exact E_17.lt)
  have ne_22 : t ≠ o12 := Nat.ne_of_lt (by rw [g_16]; exact E_11.lt)
  refine E_cast (pc' := 22) X (w_22 hw) (Ins.self EaAa_15) d1_19 rfl (fun T X => ?_)
  have F_23 : Fld Z h_13 a "com/example/steiner/steiner/model/Relationship" "byDistance" "[J" .null := (((hF3.other W_2 (Or.inr (slot_ne (Or.inr (w_25 hw)) (Or.inr (w_12 hw)) (by decide) (t := (.array .long)) (t' := .int) (by decide) (by decide)))).other W_7 (Or.inr (slot_ne (Or.inr (w_25 hw)) (Or.inr (w_14 hw)) (by decide) (t := (.array .long)) (t' := .int) (by decide) (by decide)))).ext Ex_14)
  have E_24 : Exa Z h_13 a "com/example/steiner/steiner/model/Relationship" := (E_17.ext Ex_14)
  refine E_putF (pc' := 25) X (host := "") (Or.inl (w_24 hw)) Via.refl F_23 E_24 (Or.inr ⟨(w_25 hw), rfl, rfl⟩) (w_3 hw) (ty := (.array .long)) (by decide) rfl rfl hfr4 d1_22 rfl (fun T h_26 X W_25 => ?_)
  have K_27 : Keep h0 h_26 [a] := K_19.wr W_25 (Or.inl (List.mem_of_getElem? (i := 0) rfl))
  have E_28 : Exa Z h_26 a "com/example/steiner/steiner/model/Relationship" := (E_24.wr W_25)
  have F_29 : Fld Z h_26 a "com/example/steiner/steiner/model/Relationship" "byDistance" "[J" (.ref o12) := (F_23.same W_25)
  have A_30 : Ar Z h_26 o12 .long [(.long b0), (.long b1), (.long b2), (.long b3)] := (Aa_15.other W_25 (Ne.symm ne_21))
  exact E_ret0 X d1_25 (by decide) (by decide) ⟨o12, rfl, K_27, b_18, E_28, F_29, A_30⟩
theorem d3_0 : decode prog_33_method_1_code 0 = .ok (.aload_n 0, 1) := by decide +kernel
theorem d3_1 : decode prog_33_method_1_code 1 = .ok (.invokespecial 1, 3) := by decide +kernel
theorem d3_4 : decode prog_33_method_1_code 4 = .ok (.aload_n 0, 1) := by decide +kernel
theorem d3_5 : decode prog_33_method_1_code 5 = .ok (.lload_n 1, 1) := by decide +kernel
theorem d3_6 : decode prog_33_method_1_code 6 = .ok (.putfield 7, 3) := by decide +kernel
theorem d3_9 : decode prog_33_method_1_code 9 = .ok (.aload_n 0, 1) := by decide +kernel
theorem d3_10 : decode prog_33_method_1_code 10 = .ok (.lload_n 3, 1) := by decide +kernel
theorem d3_11 : decode prog_33_method_1_code 11 = .ok (.putfield 13, 3) := by decide +kernel
theorem d3_14 : decode prog_33_method_1_code 14 = .ok (.aload_n 0, 1) := by decide +kernel
theorem d3_15 : decode prog_33_method_1_code 15 = .ok (.iload 5, 2) := by decide +kernel
theorem d3_17 : decode prog_33_method_1_code 17 = .ok (.putfield 16, 3) := by decide +kernel
theorem d3_20 : decode prog_33_method_1_code 20 = .ok (.return_, 1) := by decide +kernel
theorem ef_rm3 (m : MethodId) (x0 : Addr) (x1 : Int64) (x2 : Int64) (x3 : Int32) : entryFrame m #[(.ref x0), (.long x1), (.long x2), (.int x3)] 6 = mkF m 0 #[.val (.ref x0), .val (.long x1), .second, .val (.long x2), .second, .val (.int x3)] [] := by first | (simp [entryFrame, mkF, argsToLocals, Value.category]; done) | (simp [entryFrame, mkF, argsToLocals, *]; done) | rfl
set_option maxRecDepth 65536 in
set_option maxHeartbeats 2000000 in
theorem rm3 (l : Launch) (Z : State) (a0 : Array Value) (hw : ∀ d ∈ tables_1, d.before a0 Z = true) (a : Addr) (x : Int64) (y : Int64) (d : Int32) (h0 : Heap) (hE : Ext Z.heap h0) (hE0 : Exa Z h0 a "com/example/steiner/steiner/service/Relevance") (hF1 : Fld Z h0 a "com/example/steiner/steiner/service/Relevance" "allNodes" "J" (.long (0 : Int64))) (hF2 : Fld Z h0 a "com/example/steiner/steiner/service/Relevance" "allRelationships" "J" (.long (0 : Int64))) (hF3 : Fld Z h0 a "com/example/steiner/steiner/service/Relevance" "dmax" "I" (.int (0 : Int32))) (hfr4 : Z.heap.size ≤ a) :
    Con l Z (⟨"com/example/steiner/steiner/service/Relevance", "<init>", "(JJI)V"⟩ : MethodName) prog_33_method_1_code 6 none ({ frames := 1, cells := 0, slots := 0, locals := 12 } : Room) #[(.ref a), (.long x), (.long y), (.int d)] h0 (fun vv hh => vv = none ∧ Keep h0 hh [a] ∧ Exa Z hh a "com/example/steiner/steiner/service/Relevance" ∧ Fld Z hh a "com/example/steiner/steiner/service/Relevance" "dmax" "I" (.int d)) := by
  refine Con.of (plainFor_of_name (by first | (simp [plainName, overriddenIn]; done) | decide +kernel)) hE ?_
  intro p e s m below T (X : Sd l Z "com/example/steiner/steiner/service/Relevance" "<init>" prog_33_method_1_code 6 none ({ frames := 1, cells := 0, slots := 0, locals := 12 } : Room) p e s m #[(.ref a), (.long x), (.long y), (.int d)] below T h0 0 0)
  refine End.frame (ef_rm3 m a x y d) ?_
  have K_0 : Keep h0 h0 [a] := Keep.refl _ _
  show End Z p e below s _ _ _ _ (mkF m 0 #[.val (.ref a), .val (.long x), .second, .val (.long y), .second, .val (.int d)] [])
  refine E_aloadN (v := (.ref a)) (pc' := 1) X d3_0 rfl rfl rfl ?_
  refine E_initO (pc' := 4) X (w_32 hw) (w_9 hw) (w_10 hw) rfl d3_1 rfl (by decide) (W := 0) (Nat.le_refl _) (by decide) (fun T X => ?_)
  refine E_aloadN (v := (.ref a)) (pc' := 5) X d3_4 rfl rfl rfl ?_
  refine E_lloadN (pc' := 6) X d3_5 rfl rfl ?_
  refine E_putF (pc' := 9) X (host := "") (Or.inl (w_33 hw)) Via.refl hF1 hE0 (Or.inr ⟨(w_34 hw), rfl, rfl⟩) (w_27 hw) (ty := .long) (by decide) rfl rfl hfr4 d3_6 rfl (fun T h_2 X W_1 => ?_)
  have K_3 : Keep h0 h_2 [a] := K_0.wr W_1 (Or.inl (List.mem_of_getElem? (i := 0) rfl))
  refine E_aloadN (v := (.ref a)) (pc' := 10) X d3_9 rfl rfl rfl ?_
  refine E_lloadN (pc' := 11) X d3_10 rfl rfl ?_
  have F_4 : Fld Z h_2 a "com/example/steiner/steiner/service/Relevance" "allRelationships" "J" (.long (0 : Int64)) := (hF2.other W_1 (Or.inr (slot_ne (Or.inr (w_36 hw)) (Or.inr (w_34 hw)) (by decide) (t := .long) (t' := .long) (by decide) (by decide))))
  have E_5 : Exa Z h_2 a "com/example/steiner/steiner/service/Relevance" := (hE0.wr W_1)
  refine E_putF (pc' := 14) X (host := "") (Or.inl (w_35 hw)) Via.refl F_4 E_5 (Or.inr ⟨(w_36 hw), rfl, rfl⟩) (w_27 hw) (ty := .long) (by decide) rfl rfl hfr4 d3_11 rfl (fun T h_7 X W_6 => ?_)
  have K_8 : Keep h0 h_7 [a] := K_3.wr W_6 (Or.inl (List.mem_of_getElem? (i := 0) rfl))
  refine E_aloadN (v := (.ref a)) (pc' := 15) X d3_14 rfl rfl rfl ?_
  refine E_iload (pc' := 17) X d3_15 rfl rfl ?_
  have F_9 : Fld Z h_7 a "com/example/steiner/steiner/service/Relevance" "dmax" "I" (.int (0 : Int32)) := ((hF3.other W_1 (Or.inr (slot_ne (Or.inr (w_38 hw)) (Or.inr (w_34 hw)) (by decide) (t := .int) (t' := .long) (by decide) (by decide)))).other W_6 (Or.inr (slot_ne (Or.inr (w_38 hw)) (Or.inr (w_36 hw)) (by decide) (t := .int) (t' := .long) (by decide) (by decide))))
  have E_10 : Exa Z h_7 a "com/example/steiner/steiner/service/Relevance" := (E_5.wr W_6)
  refine E_putF (pc' := 20) X (host := "") (Or.inl (w_37 hw)) Via.refl F_9 E_10 (Or.inr ⟨(w_38 hw), rfl, rfl⟩) (w_27 hw) (ty := .int) (by decide) rfl rfl hfr4 d3_17 rfl (fun T h_12 X W_11 => ?_)
  have K_13 : Keep h0 h_12 [a] := K_8.wr W_11 (Or.inl (List.mem_of_getElem? (i := 0) rfl))
  have E_14 : Exa Z h_12 a "com/example/steiner/steiner/service/Relevance" := (E_10.wr W_11)
  have F_15 : Fld Z h_12 a "com/example/steiner/steiner/service/Relevance" "dmax" "I" (.int d) := (F_9.same W_11)
  exact E_ret0 X d3_20 (by decide) (by decide) ⟨rfl, K_13, E_14, F_15⟩
theorem d5_0 : decode prog_18_method_4_code 0 = .ok (.aload_n 0, 1) := by decide +kernel
theorem d5_1 : decode prog_18_method_4_code 1 = .ok (.getfield 22, 3) := by decide +kernel
theorem d5_4 : decode prog_18_method_4_code 4 = .ok (.iload_n 1, 1) := by decide +kernel
theorem d5_5 : decode prog_18_method_4_code 5 = .ok (.laload, 1) := by decide +kernel
theorem d5_6 : decode prog_18_method_4_code 6 = .ok (.lreturn, 1) := by decide +kernel
theorem ef_rm5 (m : MethodId) (x0 : Addr) (x1 : Int32) : entryFrame m #[(.ref x0), (.int x1)] 2 = mkF m 0 #[.val (.ref x0), .val (.int x1)] [] := by first | (simp [entryFrame, mkF, argsToLocals, Value.category]; done) | (simp [entryFrame, mkF, argsToLocals, *]; done) | rfl
set_option maxRecDepth 65536 in
set_option maxHeartbeats 2000000 in
theorem rm5 (l : Launch) (Z : State) (a0 : Array Value) (hw : ∀ d ∈ tables_1, d.before a0 Z = true) (a : Addr) (j : Int32) (t : Addr) (vs : List Value) (r : Int64) (h0 : Heap) (hE : Ext Z.heap h0) (hF0 : Fld Z h0 a "com/example/steiner/steiner/model/Relationship" "byDistance" "[J" (.ref t)) (hA1 : Ar Z h0 t .long vs) (hj : ¬ j < 0) (hv : vs[j.toNatClampNeg]? = some (.long r)) :
    Con l Z (⟨"com/example/steiner/steiner/model/Relationship", "elementRelationships", "(I)J"⟩ : MethodName) prog_18_method_4_code 2 (some .long) ({ frames := 0, cells := 0, slots := 0, locals := 0 } : Room) #[(.ref a), (.int j)] h0 (fun vv hh => vv = some (.long r) ∧ h0 = hh) := by
  refine Con.of (plainFor_of_name (by first | (simp [plainName, overriddenIn]; done) | decide +kernel)) hE ?_
  intro p e s m below T (X : Sd l Z "com/example/steiner/steiner/model/Relationship" "elementRelationships" prog_18_method_4_code 2 (some .long) ({ frames := 0, cells := 0, slots := 0, locals := 0 } : Room) p e s m #[(.ref a), (.int j)] below T h0 0 0)
  refine End.frame (ef_rm5 m a j) ?_
  show End Z p e below s _ _ _ _ (mkF m 0 #[.val (.ref a), .val (.int j)] [])
  refine E_aloadN (v := (.ref a)) (pc' := 1) X d5_0 rfl rfl rfl ?_
  refine E_getF (pc' := 4) X (host := "") (Or.inl (w_24 hw)) Via.refl hF0 d5_1 rfl (fun T X => ?_)
  refine E_iloadN (pc' := 5) X d5_4 rfl rfl ?_
  refine E_laload (v := (.long r)) (pc' := 6) X hA1 hj hv d5_5 rfl ?_
  exact E_retL X d5_6 (by decide) (by decide) ⟨rfl, rfl⟩
theorem d4_0 : decode prog_33_method_5_code 0 = .ok (.dconst 0, 1) := by decide +kernel
theorem d4_1 : decode prog_33_method_5_code 1 = .ok (.dstore 4, 2) := by decide +kernel
theorem d4_3 : decode prog_33_method_5_code 3 = .ok (.iconst 0, 1) := by decide +kernel
theorem d4_4 : decode prog_33_method_5_code 4 = .ok (.istore 6, 2) := by decide +kernel
theorem d4_6 : decode prog_33_method_5_code 6 = .ok (.iload 6, 2) := by decide +kernel
theorem d4_8 : decode prog_33_method_5_code 8 = .ok (.aload_n 0, 1) := by decide +kernel
theorem d4_9 : decode prog_33_method_5_code 9 = .ok (.getfield 16, 3) := by decide +kernel
theorem d4_12 : decode prog_33_method_5_code 12 = .ok (.if_icmp .gt 29, 3) := by decide +kernel
theorem d4_15 : decode prog_33_method_5_code 15 = .ok (.dload 4, 2) := by decide +kernel
theorem d4_17 : decode prog_33_method_5_code 17 = .ok (.aload_n 1, 1) := by decide +kernel
theorem d4_18 : decode prog_33_method_5_code 18 = .ok (.iload 6, 2) := by decide +kernel
theorem d4_20 : decode prog_33_method_5_code 20 = .ok (.invokevirtual 46, 3) := by decide +kernel
theorem d4_23 : decode prog_33_method_5_code 23 = .ok (.l2d, 1) := by decide +kernel
theorem d4_24 : decode prog_33_method_5_code 24 = .ok (.dload_n 2, 1) := by decide +kernel
theorem d4_25 : decode prog_33_method_5_code 25 = .ok (.dmul, 1) := by decide +kernel
theorem d4_26 : decode prog_33_method_5_code 26 = .ok (.iload 6, 2) := by decide +kernel
theorem d4_28 : decode prog_33_method_5_code 28 = .ok (.iconst 1, 1) := by decide +kernel
theorem d4_29 : decode prog_33_method_5_code 29 = .ok (.iadd, 1) := by decide +kernel
theorem d4_30 : decode prog_33_method_5_code 30 = .ok (.i2d, 1) := by decide +kernel
theorem d4_31 : decode prog_33_method_5_code 31 = .ok (.ddiv, 1) := by decide +kernel
theorem d4_32 : decode prog_33_method_5_code 32 = .ok (.dadd, 1) := by decide +kernel
theorem d4_33 : decode prog_33_method_5_code 33 = .ok (.dstore 4, 2) := by decide +kernel
theorem d4_35 : decode prog_33_method_5_code 35 = .ok (.iinc 6 1, 3) := by decide +kernel
theorem d4_38 : decode prog_33_method_5_code 38 = .ok (.goto (-32), 3) := by decide +kernel
theorem d4_41 : decode prog_33_method_5_code 41 = .ok (.dload 4, 2) := by decide +kernel
theorem d4_43 : decode prog_33_method_5_code 43 = .ok (.dreturn, 1) := by decide +kernel
theorem pd_0 : parseMethodDescriptor "(I)J" = some ⟨[.int], some .long⟩ := by decide +kernel
theorem ef_rm_r0 (m : MethodId) (x0 : Addr) (x1 : Addr) (x2 : UInt64) : entryFrame m #[(.ref x0), (.ref x1), (.double x2)] 7 = mkF m 0 #[.val (.ref x0), .val (.ref x1), .val (.double x2), .second, .unset, .unset, .unset] [] := by first | (simp [entryFrame, mkF, argsToLocals, Value.category]; done) | (simp [entryFrame, mkF, argsToLocals, *]; done) | rfl
set_option maxRecDepth 65536 in
set_option maxHeartbeats 2000000 in
theorem rm_r0 (l : Launch) (Z : State) (a0 : Array Value) (hw : ∀ d ∈ tables_1, d.before a0 Z = true) (a : Addr) (g : Addr) (f : UInt64) (t : Addr) (b0 : Int64) (b1 : Int64) (b2 : Int64) (b3 : Int64) (h0 : Heap) (hE : Ext Z.heap h0) (hF0 : Fld Z h0 a "com/example/steiner/steiner/service/Relevance" "dmax" "I" (.int (0 : Int32))) (hE1 : Exa Z h0 g "com/example/steiner/steiner/model/Relationship") (hF2 : Fld Z h0 g "com/example/steiner/steiner/model/Relationship" "byDistance" "[J" (.ref t)) (hA3 : Ar Z h0 t .long [(.long b0), (.long b1), (.long b2), (.long b3)]) (hf : Mag64 1056 f) :
    Con l Z (⟨"com/example/steiner/steiner/service/Relevance", "relationship", "(Lcom/example/steiner/steiner/model/Relationship;D)D"⟩ : MethodName) prog_33_method_5_code 7 (some .double) ({ frames := 1, cells := 0, slots := 0, locals := 15 } : Room) #[(.ref a), (.ref g), (.double f)] h0 (fun vv hh => vv = some (.double (FP.dadd FP.dconst0 (ownT b0 f (1 : Int32)))) ∧ h0 = hh) := by
  refine Con.of (plainFor_of_name (by first | (simp [plainName, overriddenIn]; done) | decide +kernel)) hE ?_
  intro p e s m below T (X : Sd l Z "com/example/steiner/steiner/service/Relevance" "relationship" prog_33_method_5_code 7 (some .double) ({ frames := 1, cells := 0, slots := 0, locals := 15 } : Room) p e s m #[(.ref a), (.ref g), (.double f)] below T h0 0 0)
  refine End.frame (ef_rm_r0 m a g f) ?_
  have ne_1 : g ≠ t := Ar.ne_exa hA3 hE1 (w_3 hw)
  show End Z p e below s _ _ _ _ (mkF m 0 #[.val (.ref a), .val (.ref g), .val (.double f), .second, .unset, .unset, .unset] [])
  refine E_dconst0 (v := FP.dconst0) (pc' := 1) X d4_0 rfl rfl ?_
  refine E_dstore (Ls' := #[.val (.ref a), .val (.ref g), .val (.double f), .second, .val (.double FP.dconst0), .second, .unset]) (pc' := 3) X d4_1 rfl rfl ?_
  refine E_iconst (v := (0 : Int32)) (pc' := 4) X d4_3 rfl rfl ?_
  refine E_istore (Ls' := #[.val (.ref a), .val (.ref g), .val (.double f), .second, .val (.double FP.dconst0), .second, .val (.int (0 : Int32))]) (pc' := 6) X d4_4 rfl rfl ?_
  refine E_iload (pc' := 8) X d4_6 rfl rfl ?_
  refine E_aloadN (v := (.ref a)) (pc' := 9) X d4_8 rfl rfl rfl ?_
  refine E_getF (pc' := 12) X (host := "") (Or.inl (w_37 hw)) Via.refl hF0 d4_9 rfl (fun T X => ?_)
  refine E_icmp (pcY := 41) (pcN := 15) X (ic_gt _ _) d4_12 (by decide) rfl rfl (fun hc12_0 => absurd hc12_0 (by decide)) (fun hc12_0 => ?_)
  refine E_dload (pc' := 17) X d4_15 rfl rfl ?_
  refine E_aloadN (v := (.ref g)) (pc' := 18) X d4_17 rfl rfl rfl ?_
  refine E_iload (pc' := 20) X d4_18 rfl rfl ?_
  refine E_callV (a := g) (pc' := 23) (W := 2) (cells' := 0) (slots' := 0) (argsL := [(.int (0 : Int32))]) (rest := [(.double FP.dconst0)]) X (rm5 l Z a0 hw g (0 : Int32) t [(.long b0), (.long b1), (.long b2), (.long b3)] b0 h0 X.ext hF2 hA3 (by decide) rfl) hE1 (w_44 hw) (w_45 hw) (w_47 hw) (w_46 hw) (w_4 hw) (w_48 hw) rfl (by decide) rfl rfl pd_0 rfl rfl d4_20 rfl (Nat.le_refl _) (by decide) (by decide) rfl rfl (by decide) (by decide) (fun v2 T h_3 X hQ4 => ?_)
  obtain ⟨rfl, rfl⟩ := hQ4
  show End Z p e below s _ _ _ _ (mkF m 23 #[.val (.ref a), .val (.ref g), .val (.double f), .second, .val (.double FP.dconst0), .second, .val (.int (0 : Int32))] [(.long b0), (.double FP.dconst0)])
  refine E_l2d (pc' := 24) X d4_23 rfl ?_
  refine E_dloadN (pc' := 25) X d4_24 rfl rfl ?_
  refine E_dmul (x := (FP.l2d b0)) (y := f) (pc' := 26) X d4_25 rfl (own_nn (own_m _ hf) (by decide)) ?_
  refine E_iload (pc' := 28) X d4_26 rfl rfl ?_
  refine E_iconst (v := (1 : Int32)) (pc' := 29) X d4_28 rfl rfl ?_
  refine E_iadd (pc' := 30) X d4_29 rfl ?_
  refine E_eqI (z := (1 : Int32)) (by decide) ?_
  refine E_i2d (pc' := 31) X d4_30 rfl ?_
  refine E_ddiv (x := (FP.dmul (FP.l2d b0) f)) (y := (FP.i2d (1 : Int32))) (pc' := 32) X d4_31 rfl (own_nn (own_t b0 hf (1 : Int32) (by decide)) (by decide)) ?_
  refine E_eqV (z := (.double (ownT b0 f (1 : Int32)))) rfl ?_
  have ma6 : Mag64 1125 (FP.dadd FP.dconst0 (ownT b0 f (1 : Int32))) := own_a own_0 (own_t b0 hf (1 : Int32) (by decide)) (by decide) (by decide)
  refine E_dadd (x := FP.dconst0) (y := (ownT b0 f (1 : Int32))) (pc' := 33) X d4_32 rfl (own_nn ma6 (by decide)) ?_
  refine E_dstore (Ls' := #[.val (.ref a), .val (.ref g), .val (.double f), .second, .val (.double (FP.dadd FP.dconst0 (ownT b0 f (1 : Int32)))), .second, .val (.int (0 : Int32))]) (pc' := 35) X d4_33 rfl rfl ?_
  refine E_iinc (x := (0 : Int32)) (z := (1 : Int32)) (Ls' := #[.val (.ref a), .val (.ref g), .val (.double f), .second, .val (.double (FP.dadd FP.dconst0 (ownT b0 f (1 : Int32)))), .second, .val (.int (1 : Int32))]) (pc' := 38) X d4_35 rfl rfl rfl rfl ?_
  refine E_goto (pc' := 6) X d4_38 (by decide) rfl ?_
  refine E_iload (pc' := 8) X d4_6 rfl rfl ?_
  refine E_aloadN (v := (.ref a)) (pc' := 9) X d4_8 rfl rfl rfl ?_
  refine E_getF (pc' := 12) X (host := "") (Or.inl (w_37 hw)) Via.refl hF0 d4_9 rfl (fun T X => ?_)
  refine E_icmp (pcY := 41) (pcN := 15) X (ic_gt _ _) d4_12 (by decide) rfl rfl (fun hc12_1 => ?_) (fun hc12_1 => absurd (by decide) hc12_1)
  refine E_dload (pc' := 43) X d4_41 rfl rfl ?_
  exact E_retD X d4_43 (by decide) (by decide) ⟨rfl, rfl⟩
theorem ef_rm_r1 (m : MethodId) (x0 : Addr) (x1 : Addr) (x2 : UInt64) : entryFrame m #[(.ref x0), (.ref x1), (.double x2)] 7 = mkF m 0 #[.val (.ref x0), .val (.ref x1), .val (.double x2), .second, .unset, .unset, .unset] [] := by first | (simp [entryFrame, mkF, argsToLocals, Value.category]; done) | (simp [entryFrame, mkF, argsToLocals, *]; done) | rfl
set_option maxRecDepth 65536 in
set_option maxHeartbeats 2000000 in
theorem rm_r1 (l : Launch) (Z : State) (a0 : Array Value) (hw : ∀ d ∈ tables_1, d.before a0 Z = true) (a : Addr) (g : Addr) (f : UInt64) (t : Addr) (b0 : Int64) (b1 : Int64) (b2 : Int64) (b3 : Int64) (h0 : Heap) (hE : Ext Z.heap h0) (hF0 : Fld Z h0 a "com/example/steiner/steiner/service/Relevance" "dmax" "I" (.int (1 : Int32))) (hE1 : Exa Z h0 g "com/example/steiner/steiner/model/Relationship") (hF2 : Fld Z h0 g "com/example/steiner/steiner/model/Relationship" "byDistance" "[J" (.ref t)) (hA3 : Ar Z h0 t .long [(.long b0), (.long b1), (.long b2), (.long b3)]) (hf : Mag64 1056 f) :
    Con l Z (⟨"com/example/steiner/steiner/service/Relevance", "relationship", "(Lcom/example/steiner/steiner/model/Relationship;D)D"⟩ : MethodName) prog_33_method_5_code 7 (some .double) ({ frames := 1, cells := 0, slots := 0, locals := 15 } : Room) #[(.ref a), (.ref g), (.double f)] h0 (fun vv hh => vv = some (.double (FP.dadd (FP.dadd FP.dconst0 (ownT b0 f (1 : Int32))) (ownT b1 f (2 : Int32)))) ∧ h0 = hh) := by
  refine Con.of (plainFor_of_name (by first | (simp [plainName, overriddenIn]; done) | decide +kernel)) hE ?_
  intro p e s m below T (X : Sd l Z "com/example/steiner/steiner/service/Relevance" "relationship" prog_33_method_5_code 7 (some .double) ({ frames := 1, cells := 0, slots := 0, locals := 15 } : Room) p e s m #[(.ref a), (.ref g), (.double f)] below T h0 0 0)
  refine End.frame (ef_rm_r1 m a g f) ?_
  have ne_1 : g ≠ t := Ar.ne_exa hA3 hE1 (w_3 hw)
  show End Z p e below s _ _ _ _ (mkF m 0 #[.val (.ref a), .val (.ref g), .val (.double f), .second, .unset, .unset, .unset] [])
  refine E_dconst0 (v := FP.dconst0) (pc' := 1) X d4_0 rfl rfl ?_
  refine E_dstore (Ls' := #[.val (.ref a), .val (.ref g), .val (.double f), .second, .val (.double FP.dconst0), .second, .unset]) (pc' := 3) X d4_1 rfl rfl ?_
  refine E_iconst (v := (0 : Int32)) (pc' := 4) X d4_3 rfl rfl ?_
  refine E_istore (Ls' := #[.val (.ref a), .val (.ref g), .val (.double f), .second, .val (.double FP.dconst0), .second, .val (.int (0 : Int32))]) (pc' := 6) X d4_4 rfl rfl ?_
  refine E_iload (pc' := 8) X d4_6 rfl rfl ?_
  refine E_aloadN (v := (.ref a)) (pc' := 9) X d4_8 rfl rfl rfl ?_
  refine E_getF (pc' := 12) X (host := "") (Or.inl (w_37 hw)) Via.refl hF0 d4_9 rfl (fun T X => ?_)
  refine E_icmp (pcY := 41) (pcN := 15) X (ic_gt _ _) d4_12 (by decide) rfl rfl (fun hc12_0 => absurd hc12_0 (by decide)) (fun hc12_0 => ?_)
  refine E_dload (pc' := 17) X d4_15 rfl rfl ?_
  refine E_aloadN (v := (.ref g)) (pc' := 18) X d4_17 rfl rfl rfl ?_
  refine E_iload (pc' := 20) X d4_18 rfl rfl ?_
  refine E_callV (a := g) (pc' := 23) (W := 2) (cells' := 0) (slots' := 0) (argsL := [(.int (0 : Int32))]) (rest := [(.double FP.dconst0)]) X (rm5 l Z a0 hw g (0 : Int32) t [(.long b0), (.long b1), (.long b2), (.long b3)] b0 h0 X.ext hF2 hA3 (by decide) rfl) hE1 (w_44 hw) (w_45 hw) (w_47 hw) (w_46 hw) (w_4 hw) (w_48 hw) rfl (by decide) rfl rfl pd_0 rfl rfl d4_20 rfl (Nat.le_refl _) (by decide) (by decide) rfl rfl (by decide) (by decide) (fun v2 T h_3 X hQ4 => ?_)
  obtain ⟨rfl, rfl⟩ := hQ4
  show End Z p e below s _ _ _ _ (mkF m 23 #[.val (.ref a), .val (.ref g), .val (.double f), .second, .val (.double FP.dconst0), .second, .val (.int (0 : Int32))] [(.long b0), (.double FP.dconst0)])
  refine E_l2d (pc' := 24) X d4_23 rfl ?_
  refine E_dloadN (pc' := 25) X d4_24 rfl rfl ?_
  refine E_dmul (x := (FP.l2d b0)) (y := f) (pc' := 26) X d4_25 rfl (own_nn (own_m _ hf) (by decide)) ?_
  refine E_iload (pc' := 28) X d4_26 rfl rfl ?_
  refine E_iconst (v := (1 : Int32)) (pc' := 29) X d4_28 rfl rfl ?_
  refine E_iadd (pc' := 30) X d4_29 rfl ?_
  refine E_eqI (z := (1 : Int32)) (by decide) ?_
  refine E_i2d (pc' := 31) X d4_30 rfl ?_
  refine E_ddiv (x := (FP.dmul (FP.l2d b0) f)) (y := (FP.i2d (1 : Int32))) (pc' := 32) X d4_31 rfl (own_nn (own_t b0 hf (1 : Int32) (by decide)) (by decide)) ?_
  refine E_eqV (z := (.double (ownT b0 f (1 : Int32)))) rfl ?_
  have ma6 : Mag64 1125 (FP.dadd FP.dconst0 (ownT b0 f (1 : Int32))) := own_a own_0 (own_t b0 hf (1 : Int32) (by decide)) (by decide) (by decide)
  refine E_dadd (x := FP.dconst0) (y := (ownT b0 f (1 : Int32))) (pc' := 33) X d4_32 rfl (own_nn ma6 (by decide)) ?_
  refine E_dstore (Ls' := #[.val (.ref a), .val (.ref g), .val (.double f), .second, .val (.double (FP.dadd FP.dconst0 (ownT b0 f (1 : Int32)))), .second, .val (.int (0 : Int32))]) (pc' := 35) X d4_33 rfl rfl ?_
  refine E_iinc (x := (0 : Int32)) (z := (1 : Int32)) (Ls' := #[.val (.ref a), .val (.ref g), .val (.double f), .second, .val (.double (FP.dadd FP.dconst0 (ownT b0 f (1 : Int32)))), .second, .val (.int (1 : Int32))]) (pc' := 38) X d4_35 rfl rfl rfl rfl ?_
  refine E_goto (pc' := 6) X d4_38 (by decide) rfl ?_
  refine E_iload (pc' := 8) X d4_6 rfl rfl ?_
  refine E_aloadN (v := (.ref a)) (pc' := 9) X d4_8 rfl rfl rfl ?_
  refine E_getF (pc' := 12) X (host := "") (Or.inl (w_37 hw)) Via.refl hF0 d4_9 rfl (fun T X => ?_)
  refine E_icmp (pcY := 41) (pcN := 15) X (ic_gt _ _) d4_12 (by decide) rfl rfl (fun hc12_1 => absurd hc12_1 (by decide)) (fun hc12_1 => ?_)
  refine E_dload (pc' := 17) X d4_15 rfl rfl ?_
  refine E_aloadN (v := (.ref g)) (pc' := 18) X d4_17 rfl rfl rfl ?_
  refine E_iload (pc' := 20) X d4_18 rfl rfl ?_
  refine E_callV (a := g) (pc' := 23) (W := 2) (cells' := 0) (slots' := 0) (argsL := [(.int (1 : Int32))]) (rest := [(.double (FP.dadd FP.dconst0 (ownT b0 f (1 : Int32))))]) X (rm5 l Z a0 hw g (1 : Int32) t [(.long b0), (.long b1), (.long b2), (.long b3)] b1 h0 X.ext hF2 hA3 (by decide) rfl) hE1 (w_44 hw) (w_45 hw) (w_47 hw) (w_46 hw) (w_4 hw) (w_48 hw) rfl (by decide) rfl rfl pd_0 rfl rfl d4_20 rfl (Nat.le_refl _) (by decide) (by decide) rfl rfl (by decide) (by decide) (fun v7 T h_8 X hQ9 => ?_)
  obtain ⟨rfl, rfl⟩ := hQ9
  show End Z p e below s _ _ _ _ (mkF m 23 #[.val (.ref a), .val (.ref g), .val (.double f), .second, .val (.double (FP.dadd FP.dconst0 (ownT b0 f (1 : Int32)))), .second, .val (.int (1 : Int32))] [(.long b1), (.double (FP.dadd FP.dconst0 (ownT b0 f (1 : Int32))))])
  refine E_l2d (pc' := 24) X d4_23 rfl ?_
  refine E_dloadN (pc' := 25) X d4_24 rfl rfl ?_
  refine E_dmul (x := (FP.l2d b1)) (y := f) (pc' := 26) X d4_25 rfl (own_nn (own_m _ hf) (by decide)) ?_
  refine E_iload (pc' := 28) X d4_26 rfl rfl ?_
  refine E_iconst (v := (1 : Int32)) (pc' := 29) X d4_28 rfl rfl ?_
  refine E_iadd (pc' := 30) X d4_29 rfl ?_
  refine E_eqI (z := (2 : Int32)) (by decide) ?_
  refine E_i2d (pc' := 31) X d4_30 rfl ?_
  refine E_ddiv (x := (FP.dmul (FP.l2d b1) f)) (y := (FP.i2d (2 : Int32))) (pc' := 32) X d4_31 rfl (own_nn (own_t b1 hf (2 : Int32) (by decide)) (by decide)) ?_
  refine E_eqV (z := (.double (ownT b1 f (2 : Int32)))) rfl ?_
  have ma11 : Mag64 1127 (FP.dadd (FP.dadd FP.dconst0 (ownT b0 f (1 : Int32))) (ownT b1 f (2 : Int32))) := own_a ma6 (own_t b1 hf (2 : Int32) (by decide)) (by decide) (by decide)
  refine E_dadd (x := (FP.dadd FP.dconst0 (ownT b0 f (1 : Int32)))) (y := (ownT b1 f (2 : Int32))) (pc' := 33) X d4_32 rfl (own_nn ma11 (by decide)) ?_
  refine E_dstore (Ls' := #[.val (.ref a), .val (.ref g), .val (.double f), .second, .val (.double (FP.dadd (FP.dadd FP.dconst0 (ownT b0 f (1 : Int32))) (ownT b1 f (2 : Int32)))), .second, .val (.int (1 : Int32))]) (pc' := 35) X d4_33 rfl rfl ?_
  refine E_iinc (x := (1 : Int32)) (z := (2 : Int32)) (Ls' := #[.val (.ref a), .val (.ref g), .val (.double f), .second, .val (.double (FP.dadd (FP.dadd FP.dconst0 (ownT b0 f (1 : Int32))) (ownT b1 f (2 : Int32)))), .second, .val (.int (2 : Int32))]) (pc' := 38) X d4_35 rfl rfl rfl rfl ?_
  refine E_goto (pc' := 6) X d4_38 (by decide) rfl ?_
  refine E_iload (pc' := 8) X d4_6 rfl rfl ?_
  refine E_aloadN (v := (.ref a)) (pc' := 9) X d4_8 rfl rfl rfl ?_
  refine E_getF (pc' := 12) X (host := "") (Or.inl (w_37 hw)) Via.refl hF0 d4_9 rfl (fun T X => ?_)
  refine E_icmp (pcY := 41) (pcN := 15) X (ic_gt _ _) d4_12 (by decide) rfl rfl (fun hc12_2 => ?_) (fun hc12_2 => absurd (by decide) hc12_2)
  refine E_dload (pc' := 43) X d4_41 rfl rfl ?_
  exact E_retD X d4_43 (by decide) (by decide) ⟨rfl, rfl⟩
theorem ef_rm_r2 (m : MethodId) (x0 : Addr) (x1 : Addr) (x2 : UInt64) : entryFrame m #[(.ref x0), (.ref x1), (.double x2)] 7 = mkF m 0 #[.val (.ref x0), .val (.ref x1), .val (.double x2), .second, .unset, .unset, .unset] [] := by first | (simp [entryFrame, mkF, argsToLocals, Value.category]; done) | (simp [entryFrame, mkF, argsToLocals, *]; done) | rfl
set_option maxRecDepth 65536 in
set_option maxHeartbeats 2000000 in
theorem rm_r2 (l : Launch) (Z : State) (a0 : Array Value) (hw : ∀ d ∈ tables_1, d.before a0 Z = true) (a : Addr) (g : Addr) (f : UInt64) (t : Addr) (b0 : Int64) (b1 : Int64) (b2 : Int64) (b3 : Int64) (h0 : Heap) (hE : Ext Z.heap h0) (hF0 : Fld Z h0 a "com/example/steiner/steiner/service/Relevance" "dmax" "I" (.int (2 : Int32))) (hE1 : Exa Z h0 g "com/example/steiner/steiner/model/Relationship") (hF2 : Fld Z h0 g "com/example/steiner/steiner/model/Relationship" "byDistance" "[J" (.ref t)) (hA3 : Ar Z h0 t .long [(.long b0), (.long b1), (.long b2), (.long b3)]) (hf : Mag64 1056 f) :
    Con l Z (⟨"com/example/steiner/steiner/service/Relevance", "relationship", "(Lcom/example/steiner/steiner/model/Relationship;D)D"⟩ : MethodName) prog_33_method_5_code 7 (some .double) ({ frames := 1, cells := 0, slots := 0, locals := 15 } : Room) #[(.ref a), (.ref g), (.double f)] h0 (fun vv hh => vv = some (.double (FP.dadd (FP.dadd (FP.dadd FP.dconst0 (ownT b0 f (1 : Int32))) (ownT b1 f (2 : Int32))) (ownT b2 f (3 : Int32)))) ∧ h0 = hh) := by
  refine Con.of (plainFor_of_name (by first | (simp [plainName, overriddenIn]; done) | decide +kernel)) hE ?_
  intro p e s m below T (X : Sd l Z "com/example/steiner/steiner/service/Relevance" "relationship" prog_33_method_5_code 7 (some .double) ({ frames := 1, cells := 0, slots := 0, locals := 15 } : Room) p e s m #[(.ref a), (.ref g), (.double f)] below T h0 0 0)
  refine End.frame (ef_rm_r2 m a g f) ?_
  have ne_1 : g ≠ t := Ar.ne_exa hA3 hE1 (w_3 hw)
  show End Z p e below s _ _ _ _ (mkF m 0 #[.val (.ref a), .val (.ref g), .val (.double f), .second, .unset, .unset, .unset] [])
  refine E_dconst0 (v := FP.dconst0) (pc' := 1) X d4_0 rfl rfl ?_
  refine E_dstore (Ls' := #[.val (.ref a), .val (.ref g), .val (.double f), .second, .val (.double FP.dconst0), .second, .unset]) (pc' := 3) X d4_1 rfl rfl ?_
  refine E_iconst (v := (0 : Int32)) (pc' := 4) X d4_3 rfl rfl ?_
  refine E_istore (Ls' := #[.val (.ref a), .val (.ref g), .val (.double f), .second, .val (.double FP.dconst0), .second, .val (.int (0 : Int32))]) (pc' := 6) X d4_4 rfl rfl ?_
  refine E_iload (pc' := 8) X d4_6 rfl rfl ?_
  refine E_aloadN (v := (.ref a)) (pc' := 9) X d4_8 rfl rfl rfl ?_
  refine E_getF (pc' := 12) X (host := "") (Or.inl (w_37 hw)) Via.refl hF0 d4_9 rfl (fun T X => ?_)
  refine E_icmp (pcY := 41) (pcN := 15) X (ic_gt _ _) d4_12 (by decide) rfl rfl (fun hc12_0 => absurd hc12_0 (by decide)) (fun hc12_0 => ?_)
  refine E_dload (pc' := 17) X d4_15 rfl rfl ?_
  refine E_aloadN (v := (.ref g)) (pc' := 18) X d4_17 rfl rfl rfl ?_
  refine E_iload (pc' := 20) X d4_18 rfl rfl ?_
  refine E_callV (a := g) (pc' := 23) (W := 2) (cells' := 0) (slots' := 0) (argsL := [(.int (0 : Int32))]) (rest := [(.double FP.dconst0)]) X (rm5 l Z a0 hw g (0 : Int32) t [(.long b0), (.long b1), (.long b2), (.long b3)] b0 h0 X.ext hF2 hA3 (by decide) rfl) hE1 (w_44 hw) (w_45 hw) (w_47 hw) (w_46 hw) (w_4 hw) (w_48 hw) rfl (by decide) rfl rfl pd_0 rfl rfl d4_20 rfl (Nat.le_refl _) (by decide) (by decide) rfl rfl (by decide) (by decide) (fun v2 T h_3 X hQ4 => ?_)
  obtain ⟨rfl, rfl⟩ := hQ4
  show End Z p e below s _ _ _ _ (mkF m 23 #[.val (.ref a), .val (.ref g), .val (.double f), .second, .val (.double FP.dconst0), .second, .val (.int (0 : Int32))] [(.long b0), (.double FP.dconst0)])
  refine E_l2d (pc' := 24) X d4_23 rfl ?_
  refine E_dloadN (pc' := 25) X d4_24 rfl rfl ?_
  refine E_dmul (x := (FP.l2d b0)) (y := f) (pc' := 26) X d4_25 rfl (own_nn (own_m _ hf) (by decide)) ?_
  refine E_iload (pc' := 28) X d4_26 rfl rfl ?_
  refine E_iconst (v := (1 : Int32)) (pc' := 29) X d4_28 rfl rfl ?_
  refine E_iadd (pc' := 30) X d4_29 rfl ?_
  refine E_eqI (z := (1 : Int32)) (by decide) ?_
  refine E_i2d (pc' := 31) X d4_30 rfl ?_
  refine E_ddiv (x := (FP.dmul (FP.l2d b0) f)) (y := (FP.i2d (1 : Int32))) (pc' := 32) X d4_31 rfl (own_nn (own_t b0 hf (1 : Int32) (by decide)) (by decide)) ?_
  refine E_eqV (z := (.double (ownT b0 f (1 : Int32)))) rfl ?_
  have ma6 : Mag64 1125 (FP.dadd FP.dconst0 (ownT b0 f (1 : Int32))) := own_a own_0 (own_t b0 hf (1 : Int32) (by decide)) (by decide) (by decide)
  refine E_dadd (x := FP.dconst0) (y := (ownT b0 f (1 : Int32))) (pc' := 33) X d4_32 rfl (own_nn ma6 (by decide)) ?_
  refine E_dstore (Ls' := #[.val (.ref a), .val (.ref g), .val (.double f), .second, .val (.double (FP.dadd FP.dconst0 (ownT b0 f (1 : Int32)))), .second, .val (.int (0 : Int32))]) (pc' := 35) X d4_33 rfl rfl ?_
  refine E_iinc (x := (0 : Int32)) (z := (1 : Int32)) (Ls' := #[.val (.ref a), .val (.ref g), .val (.double f), .second, .val (.double (FP.dadd FP.dconst0 (ownT b0 f (1 : Int32)))), .second, .val (.int (1 : Int32))]) (pc' := 38) X d4_35 rfl rfl rfl rfl ?_
  refine E_goto (pc' := 6) X d4_38 (by decide) rfl ?_
  refine E_iload (pc' := 8) X d4_6 rfl rfl ?_
  refine E_aloadN (v := (.ref a)) (pc' := 9) X d4_8 rfl rfl rfl ?_
  refine E_getF (pc' := 12) X (host := "") (Or.inl (w_37 hw)) Via.refl hF0 d4_9 rfl (fun T X => ?_)
  refine E_icmp (pcY := 41) (pcN := 15) X (ic_gt _ _) d4_12 (by decide) rfl rfl (fun hc12_1 => absurd hc12_1 (by decide)) (fun hc12_1 => ?_)
  refine E_dload (pc' := 17) X d4_15 rfl rfl ?_
  refine E_aloadN (v := (.ref g)) (pc' := 18) X d4_17 rfl rfl rfl ?_
  refine E_iload (pc' := 20) X d4_18 rfl rfl ?_
  refine E_callV (a := g) (pc' := 23) (W := 2) (cells' := 0) (slots' := 0) (argsL := [(.int (1 : Int32))]) (rest := [(.double (FP.dadd FP.dconst0 (ownT b0 f (1 : Int32))))]) X (rm5 l Z a0 hw g (1 : Int32) t [(.long b0), (.long b1), (.long b2), (.long b3)] b1 h0 X.ext hF2 hA3 (by decide) rfl) hE1 (w_44 hw) (w_45 hw) (w_47 hw) (w_46 hw) (w_4 hw) (w_48 hw) rfl (by decide) rfl rfl pd_0 rfl rfl d4_20 rfl (Nat.le_refl _) (by decide) (by decide) rfl rfl (by decide) (by decide) (fun v7 T h_8 X hQ9 => ?_)
  obtain ⟨rfl, rfl⟩ := hQ9
  show End Z p e below s _ _ _ _ (mkF m 23 #[.val (.ref a), .val (.ref g), .val (.double f), .second, .val (.double (FP.dadd FP.dconst0 (ownT b0 f (1 : Int32)))), .second, .val (.int (1 : Int32))] [(.long b1), (.double (FP.dadd FP.dconst0 (ownT b0 f (1 : Int32))))])
  refine E_l2d (pc' := 24) X d4_23 rfl ?_
  refine E_dloadN (pc' := 25) X d4_24 rfl rfl ?_
  refine E_dmul (x := (FP.l2d b1)) (y := f) (pc' := 26) X d4_25 rfl (own_nn (own_m _ hf) (by decide)) ?_
  refine E_iload (pc' := 28) X d4_26 rfl rfl ?_
  refine E_iconst (v := (1 : Int32)) (pc' := 29) X d4_28 rfl rfl ?_
  refine E_iadd (pc' := 30) X d4_29 rfl ?_
  refine E_eqI (z := (2 : Int32)) (by decide) ?_
  refine E_i2d (pc' := 31) X d4_30 rfl ?_
  refine E_ddiv (x := (FP.dmul (FP.l2d b1) f)) (y := (FP.i2d (2 : Int32))) (pc' := 32) X d4_31 rfl (own_nn (own_t b1 hf (2 : Int32) (by decide)) (by decide)) ?_
  refine E_eqV (z := (.double (ownT b1 f (2 : Int32)))) rfl ?_
  have ma11 : Mag64 1127 (FP.dadd (FP.dadd FP.dconst0 (ownT b0 f (1 : Int32))) (ownT b1 f (2 : Int32))) := own_a ma6 (own_t b1 hf (2 : Int32) (by decide)) (by decide) (by decide)
  refine E_dadd (x := (FP.dadd FP.dconst0 (ownT b0 f (1 : Int32)))) (y := (ownT b1 f (2 : Int32))) (pc' := 33) X d4_32 rfl (own_nn ma11 (by decide)) ?_
  refine E_dstore (Ls' := #[.val (.ref a), .val (.ref g), .val (.double f), .second, .val (.double (FP.dadd (FP.dadd FP.dconst0 (ownT b0 f (1 : Int32))) (ownT b1 f (2 : Int32)))), .second, .val (.int (1 : Int32))]) (pc' := 35) X d4_33 rfl rfl ?_
  refine E_iinc (x := (1 : Int32)) (z := (2 : Int32)) (Ls' := #[.val (.ref a), .val (.ref g), .val (.double f), .second, .val (.double (FP.dadd (FP.dadd FP.dconst0 (ownT b0 f (1 : Int32))) (ownT b1 f (2 : Int32)))), .second, .val (.int (2 : Int32))]) (pc' := 38) X d4_35 rfl rfl rfl rfl ?_
  refine E_goto (pc' := 6) X d4_38 (by decide) rfl ?_
  refine E_iload (pc' := 8) X d4_6 rfl rfl ?_
  refine E_aloadN (v := (.ref a)) (pc' := 9) X d4_8 rfl rfl rfl ?_
  refine E_getF (pc' := 12) X (host := "") (Or.inl (w_37 hw)) Via.refl hF0 d4_9 rfl (fun T X => ?_)
  refine E_icmp (pcY := 41) (pcN := 15) X (ic_gt _ _) d4_12 (by decide) rfl rfl (fun hc12_2 => absurd hc12_2 (by decide)) (fun hc12_2 => ?_)
  refine E_dload (pc' := 17) X d4_15 rfl rfl ?_
  refine E_aloadN (v := (.ref g)) (pc' := 18) X d4_17 rfl rfl rfl ?_
  refine E_iload (pc' := 20) X d4_18 rfl rfl ?_
  refine E_callV (a := g) (pc' := 23) (W := 2) (cells' := 0) (slots' := 0) (argsL := [(.int (2 : Int32))]) (rest := [(.double (FP.dadd (FP.dadd FP.dconst0 (ownT b0 f (1 : Int32))) (ownT b1 f (2 : Int32))))]) X (rm5 l Z a0 hw g (2 : Int32) t [(.long b0), (.long b1), (.long b2), (.long b3)] b2 h0 X.ext hF2 hA3 (by decide) rfl) hE1 (w_44 hw) (w_45 hw) (w_47 hw) (w_46 hw) (w_4 hw) (w_48 hw) rfl (by decide) rfl rfl pd_0 rfl rfl d4_20 rfl (Nat.le_refl _) (by decide) (by decide) rfl rfl (by decide) (by decide) (fun v12 T h_13 X hQ14 => ?_)
  obtain ⟨rfl, rfl⟩ := hQ14
  show End Z p e below s _ _ _ _ (mkF m 23 #[.val (.ref a), .val (.ref g), .val (.double f), .second, .val (.double (FP.dadd (FP.dadd FP.dconst0 (ownT b0 f (1 : Int32))) (ownT b1 f (2 : Int32)))), .second, .val (.int (2 : Int32))] [(.long b2), (.double (FP.dadd (FP.dadd FP.dconst0 (ownT b0 f (1 : Int32))) (ownT b1 f (2 : Int32))))])
  refine E_l2d (pc' := 24) X d4_23 rfl ?_
  refine E_dloadN (pc' := 25) X d4_24 rfl rfl ?_
  refine E_dmul (x := (FP.l2d b2)) (y := f) (pc' := 26) X d4_25 rfl (own_nn (own_m _ hf) (by decide)) ?_
  refine E_iload (pc' := 28) X d4_26 rfl rfl ?_
  refine E_iconst (v := (1 : Int32)) (pc' := 29) X d4_28 rfl rfl ?_
  refine E_iadd (pc' := 30) X d4_29 rfl ?_
  refine E_eqI (z := (3 : Int32)) (by decide) ?_
  refine E_i2d (pc' := 31) X d4_30 rfl ?_
  refine E_ddiv (x := (FP.dmul (FP.l2d b2) f)) (y := (FP.i2d (3 : Int32))) (pc' := 32) X d4_31 rfl (own_nn (own_t b2 hf (3 : Int32) (by decide)) (by decide)) ?_
  refine E_eqV (z := (.double (ownT b2 f (3 : Int32)))) rfl ?_
  have ma16 : Mag64 1129 (FP.dadd (FP.dadd (FP.dadd FP.dconst0 (ownT b0 f (1 : Int32))) (ownT b1 f (2 : Int32))) (ownT b2 f (3 : Int32))) := own_a ma11 (own_t b2 hf (3 : Int32) (by decide)) (by decide) (by decide)
  refine E_dadd (x := (FP.dadd (FP.dadd FP.dconst0 (ownT b0 f (1 : Int32))) (ownT b1 f (2 : Int32)))) (y := (ownT b2 f (3 : Int32))) (pc' := 33) X d4_32 rfl (own_nn ma16 (by decide)) ?_
  refine E_dstore (Ls' := #[.val (.ref a), .val (.ref g), .val (.double f), .second, .val (.double (FP.dadd (FP.dadd (FP.dadd FP.dconst0 (ownT b0 f (1 : Int32))) (ownT b1 f (2 : Int32))) (ownT b2 f (3 : Int32)))), .second, .val (.int (2 : Int32))]) (pc' := 35) X d4_33 rfl rfl ?_
  refine E_iinc (x := (2 : Int32)) (z := (3 : Int32)) (Ls' := #[.val (.ref a), .val (.ref g), .val (.double f), .second, .val (.double (FP.dadd (FP.dadd (FP.dadd FP.dconst0 (ownT b0 f (1 : Int32))) (ownT b1 f (2 : Int32))) (ownT b2 f (3 : Int32)))), .second, .val (.int (3 : Int32))]) (pc' := 38) X d4_35 rfl rfl rfl rfl ?_
  refine E_goto (pc' := 6) X d4_38 (by decide) rfl ?_
  refine E_iload (pc' := 8) X d4_6 rfl rfl ?_
  refine E_aloadN (v := (.ref a)) (pc' := 9) X d4_8 rfl rfl rfl ?_
  refine E_getF (pc' := 12) X (host := "") (Or.inl (w_37 hw)) Via.refl hF0 d4_9 rfl (fun T X => ?_)
  refine E_icmp (pcY := 41) (pcN := 15) X (ic_gt _ _) d4_12 (by decide) rfl rfl (fun hc12_3 => ?_) (fun hc12_3 => absurd (by decide) hc12_3)
  refine E_dload (pc' := 43) X d4_41 rfl rfl ?_
  exact E_retD X d4_43 (by decide) (by decide) ⟨rfl, rfl⟩
theorem ef_rm_r3 (m : MethodId) (x0 : Addr) (x1 : Addr) (x2 : UInt64) : entryFrame m #[(.ref x0), (.ref x1), (.double x2)] 7 = mkF m 0 #[.val (.ref x0), .val (.ref x1), .val (.double x2), .second, .unset, .unset, .unset] [] := by first | (simp [entryFrame, mkF, argsToLocals, Value.category]; done) | (simp [entryFrame, mkF, argsToLocals, *]; done) | rfl
set_option maxRecDepth 65536 in
set_option maxHeartbeats 2000000 in
theorem rm_r3 (l : Launch) (Z : State) (a0 : Array Value) (hw : ∀ d ∈ tables_1, d.before a0 Z = true) (a : Addr) (g : Addr) (f : UInt64) (t : Addr) (b0 : Int64) (b1 : Int64) (b2 : Int64) (b3 : Int64) (h0 : Heap) (hE : Ext Z.heap h0) (hF0 : Fld Z h0 a "com/example/steiner/steiner/service/Relevance" "dmax" "I" (.int (3 : Int32))) (hE1 : Exa Z h0 g "com/example/steiner/steiner/model/Relationship") (hF2 : Fld Z h0 g "com/example/steiner/steiner/model/Relationship" "byDistance" "[J" (.ref t)) (hA3 : Ar Z h0 t .long [(.long b0), (.long b1), (.long b2), (.long b3)]) (hf : Mag64 1056 f) :
    Con l Z (⟨"com/example/steiner/steiner/service/Relevance", "relationship", "(Lcom/example/steiner/steiner/model/Relationship;D)D"⟩ : MethodName) prog_33_method_5_code 7 (some .double) ({ frames := 1, cells := 0, slots := 0, locals := 15 } : Room) #[(.ref a), (.ref g), (.double f)] h0 (fun vv hh => vv = some (.double (FP.dadd (FP.dadd (FP.dadd (FP.dadd FP.dconst0 (ownT b0 f (1 : Int32))) (ownT b1 f (2 : Int32))) (ownT b2 f (3 : Int32))) (ownT b3 f (4 : Int32)))) ∧ h0 = hh) := by
  refine Con.of (plainFor_of_name (by first | (simp [plainName, overriddenIn]; done) | decide +kernel)) hE ?_
  intro p e s m below T (X : Sd l Z "com/example/steiner/steiner/service/Relevance" "relationship" prog_33_method_5_code 7 (some .double) ({ frames := 1, cells := 0, slots := 0, locals := 15 } : Room) p e s m #[(.ref a), (.ref g), (.double f)] below T h0 0 0)
  refine End.frame (ef_rm_r3 m a g f) ?_
  have ne_1 : g ≠ t := Ar.ne_exa hA3 hE1 (w_3 hw)
  show End Z p e below s _ _ _ _ (mkF m 0 #[.val (.ref a), .val (.ref g), .val (.double f), .second, .unset, .unset, .unset] [])
  refine E_dconst0 (v := FP.dconst0) (pc' := 1) X d4_0 rfl rfl ?_
  refine E_dstore (Ls' := #[.val (.ref a), .val (.ref g), .val (.double f), .second, .val (.double FP.dconst0), .second, .unset]) (pc' := 3) X d4_1 rfl rfl ?_
  refine E_iconst (v := (0 : Int32)) (pc' := 4) X d4_3 rfl rfl ?_
  refine E_istore (Ls' := #[.val (.ref a), .val (.ref g), .val (.double f), .second, .val (.double FP.dconst0), .second, .val (.int (0 : Int32))]) (pc' := 6) X d4_4 rfl rfl ?_
  refine E_iload (pc' := 8) X d4_6 rfl rfl ?_
  refine E_aloadN (v := (.ref a)) (pc' := 9) X d4_8 rfl rfl rfl ?_
  refine E_getF (pc' := 12) X (host := "") (Or.inl (w_37 hw)) Via.refl hF0 d4_9 rfl (fun T X => ?_)
  refine E_icmp (pcY := 41) (pcN := 15) X (ic_gt _ _) d4_12 (by decide) rfl rfl (fun hc12_0 => absurd hc12_0 (by decide)) (fun hc12_0 => ?_)
  refine E_dload (pc' := 17) X d4_15 rfl rfl ?_
  refine E_aloadN (v := (.ref g)) (pc' := 18) X d4_17 rfl rfl rfl ?_
  refine E_iload (pc' := 20) X d4_18 rfl rfl ?_
  refine E_callV (a := g) (pc' := 23) (W := 2) (cells' := 0) (slots' := 0) (argsL := [(.int (0 : Int32))]) (rest := [(.double FP.dconst0)]) X (rm5 l Z a0 hw g (0 : Int32) t [(.long b0), (.long b1), (.long b2), (.long b3)] b0 h0 X.ext hF2 hA3 (by decide) rfl) hE1 (w_44 hw) (w_45 hw) (w_47 hw) (w_46 hw) (w_4 hw) (w_48 hw) rfl (by decide) rfl rfl pd_0 rfl rfl d4_20 rfl (Nat.le_refl _) (by decide) (by decide) rfl rfl (by decide) (by decide) (fun v2 T h_3 X hQ4 => ?_)
  obtain ⟨rfl, rfl⟩ := hQ4
  show End Z p e below s _ _ _ _ (mkF m 23 #[.val (.ref a), .val (.ref g), .val (.double f), .second, .val (.double FP.dconst0), .second, .val (.int (0 : Int32))] [(.long b0), (.double FP.dconst0)])
  refine E_l2d (pc' := 24) X d4_23 rfl ?_
  refine E_dloadN (pc' := 25) X d4_24 rfl rfl ?_
  refine E_dmul (x := (FP.l2d b0)) (y := f) (pc' := 26) X d4_25 rfl (own_nn (own_m _ hf) (by decide)) ?_
  refine E_iload (pc' := 28) X d4_26 rfl rfl ?_
  refine E_iconst (v := (1 : Int32)) (pc' := 29) X d4_28 rfl rfl ?_
  refine E_iadd (pc' := 30) X d4_29 rfl ?_
  refine E_eqI (z := (1 : Int32)) (by decide) ?_
  refine E_i2d (pc' := 31) X d4_30 rfl ?_
  refine E_ddiv (x := (FP.dmul (FP.l2d b0) f)) (y := (FP.i2d (1 : Int32))) (pc' := 32) X d4_31 rfl (own_nn (own_t b0 hf (1 : Int32) (by decide)) (by decide)) ?_
  refine E_eqV (z := (.double (ownT b0 f (1 : Int32)))) rfl ?_
  have ma6 : Mag64 1125 (FP.dadd FP.dconst0 (ownT b0 f (1 : Int32))) := own_a own_0 (own_t b0 hf (1 : Int32) (by decide)) (by decide) (by decide)
  refine E_dadd (x := FP.dconst0) (y := (ownT b0 f (1 : Int32))) (pc' := 33) X d4_32 rfl (own_nn ma6 (by decide)) ?_
  refine E_dstore (Ls' := #[.val (.ref a), .val (.ref g), .val (.double f), .second, .val (.double (FP.dadd FP.dconst0 (ownT b0 f (1 : Int32)))), .second, .val (.int (0 : Int32))]) (pc' := 35) X d4_33 rfl rfl ?_
  refine E_iinc (x := (0 : Int32)) (z := (1 : Int32)) (Ls' := #[.val (.ref a), .val (.ref g), .val (.double f), .second, .val (.double (FP.dadd FP.dconst0 (ownT b0 f (1 : Int32)))), .second, .val (.int (1 : Int32))]) (pc' := 38) X d4_35 rfl rfl rfl rfl ?_
  refine E_goto (pc' := 6) X d4_38 (by decide) rfl ?_
  refine E_iload (pc' := 8) X d4_6 rfl rfl ?_
  refine E_aloadN (v := (.ref a)) (pc' := 9) X d4_8 rfl rfl rfl ?_
  refine E_getF (pc' := 12) X (host := "") (Or.inl (w_37 hw)) Via.refl hF0 d4_9 rfl (fun T X => ?_)
  refine E_icmp (pcY := 41) (pcN := 15) X (ic_gt _ _) d4_12 (by decide) rfl rfl (fun hc12_1 => absurd hc12_1 (by decide)) (fun hc12_1 => ?_)
  refine E_dload (pc' := 17) X d4_15 rfl rfl ?_
  refine E_aloadN (v := (.ref g)) (pc' := 18) X d4_17 rfl rfl rfl ?_
  refine E_iload (pc' := 20) X d4_18 rfl rfl ?_
  refine E_callV (a := g) (pc' := 23) (W := 2) (cells' := 0) (slots' := 0) (argsL := [(.int (1 : Int32))]) (rest := [(.double (FP.dadd FP.dconst0 (ownT b0 f (1 : Int32))))]) X (rm5 l Z a0 hw g (1 : Int32) t [(.long b0), (.long b1), (.long b2), (.long b3)] b1 h0 X.ext hF2 hA3 (by decide) rfl) hE1 (w_44 hw) (w_45 hw) (w_47 hw) (w_46 hw) (w_4 hw) (w_48 hw) rfl (by decide) rfl rfl pd_0 rfl rfl d4_20 rfl (Nat.le_refl _) (by decide) (by decide) rfl rfl (by decide) (by decide) (fun v7 T h_8 X hQ9 => ?_)
  obtain ⟨rfl, rfl⟩ := hQ9
  show End Z p e below s _ _ _ _ (mkF m 23 #[.val (.ref a), .val (.ref g), .val (.double f), .second, .val (.double (FP.dadd FP.dconst0 (ownT b0 f (1 : Int32)))), .second, .val (.int (1 : Int32))] [(.long b1), (.double (FP.dadd FP.dconst0 (ownT b0 f (1 : Int32))))])
  refine E_l2d (pc' := 24) X d4_23 rfl ?_
  refine E_dloadN (pc' := 25) X d4_24 rfl rfl ?_
  refine E_dmul (x := (FP.l2d b1)) (y := f) (pc' := 26) X d4_25 rfl (own_nn (own_m _ hf) (by decide)) ?_
  refine E_iload (pc' := 28) X d4_26 rfl rfl ?_
  refine E_iconst (v := (1 : Int32)) (pc' := 29) X d4_28 rfl rfl ?_
  refine E_iadd (pc' := 30) X d4_29 rfl ?_
  refine E_eqI (z := (2 : Int32)) (by decide) ?_
  refine E_i2d (pc' := 31) X d4_30 rfl ?_
  refine E_ddiv (x := (FP.dmul (FP.l2d b1) f)) (y := (FP.i2d (2 : Int32))) (pc' := 32) X d4_31 rfl (own_nn (own_t b1 hf (2 : Int32) (by decide)) (by decide)) ?_
  refine E_eqV (z := (.double (ownT b1 f (2 : Int32)))) rfl ?_
  have ma11 : Mag64 1127 (FP.dadd (FP.dadd FP.dconst0 (ownT b0 f (1 : Int32))) (ownT b1 f (2 : Int32))) := own_a ma6 (own_t b1 hf (2 : Int32) (by decide)) (by decide) (by decide)
  refine E_dadd (x := (FP.dadd FP.dconst0 (ownT b0 f (1 : Int32)))) (y := (ownT b1 f (2 : Int32))) (pc' := 33) X d4_32 rfl (own_nn ma11 (by decide)) ?_
  refine E_dstore (Ls' := #[.val (.ref a), .val (.ref g), .val (.double f), .second, .val (.double (FP.dadd (FP.dadd FP.dconst0 (ownT b0 f (1 : Int32))) (ownT b1 f (2 : Int32)))), .second, .val (.int (1 : Int32))]) (pc' := 35) X d4_33 rfl rfl ?_
  refine E_iinc (x := (1 : Int32)) (z := (2 : Int32)) (Ls' := #[.val (.ref a), .val (.ref g), .val (.double f), .second, .val (.double (FP.dadd (FP.dadd FP.dconst0 (ownT b0 f (1 : Int32))) (ownT b1 f (2 : Int32)))), .second, .val (.int (2 : Int32))]) (pc' := 38) X d4_35 rfl rfl rfl rfl ?_
  refine E_goto (pc' := 6) X d4_38 (by decide) rfl ?_
  refine E_iload (pc' := 8) X d4_6 rfl rfl ?_
  refine E_aloadN (v := (.ref a)) (pc' := 9) X d4_8 rfl rfl rfl ?_
  refine E_getF (pc' := 12) X (host := "") (Or.inl (w_37 hw)) Via.refl hF0 d4_9 rfl (fun T X => ?_)
  refine E_icmp (pcY := 41) (pcN := 15) X (ic_gt _ _) d4_12 (by decide) rfl rfl (fun hc12_2 => absurd hc12_2 (by decide)) (fun hc12_2 => ?_)
  refine E_dload (pc' := 17) X d4_15 rfl rfl ?_
  refine E_aloadN (v := (.ref g)) (pc' := 18) X d4_17 rfl rfl rfl ?_
  refine E_iload (pc' := 20) X d4_18 rfl rfl ?_
  refine E_callV (a := g) (pc' := 23) (W := 2) (cells' := 0) (slots' := 0) (argsL := [(.int (2 : Int32))]) (rest := [(.double (FP.dadd (FP.dadd FP.dconst0 (ownT b0 f (1 : Int32))) (ownT b1 f (2 : Int32))))]) X (rm5 l Z a0 hw g (2 : Int32) t [(.long b0), (.long b1), (.long b2), (.long b3)] b2 h0 X.ext hF2 hA3 (by decide) rfl) hE1 (w_44 hw) (w_45 hw) (w_47 hw) (w_46 hw) (w_4 hw) (w_48 hw) rfl (by decide) rfl rfl pd_0 rfl rfl d4_20 rfl (Nat.le_refl _) (by decide) (by decide) rfl rfl (by decide) (by decide) (fun v12 T h_13 X hQ14 => ?_)
  obtain ⟨rfl, rfl⟩ := hQ14
  show End Z p e below s _ _ _ _ (mkF m 23 #[.val (.ref a), .val (.ref g), .val (.double f), .second, .val (.double (FP.dadd (FP.dadd FP.dconst0 (ownT b0 f (1 : Int32))) (ownT b1 f (2 : Int32)))), .second, .val (.int (2 : Int32))] [(.long b2), (.double (FP.dadd (FP.dadd FP.dconst0 (ownT b0 f (1 : Int32))) (ownT b1 f (2 : Int32))))])
  refine E_l2d (pc' := 24) X d4_23 rfl ?_
  refine E_dloadN (pc' := 25) X d4_24 rfl rfl ?_
  refine E_dmul (x := (FP.l2d b2)) (y := f) (pc' := 26) X d4_25 rfl (own_nn (own_m _ hf) (by decide)) ?_
  refine E_iload (pc' := 28) X d4_26 rfl rfl ?_
  refine E_iconst (v := (1 : Int32)) (pc' := 29) X d4_28 rfl rfl ?_
  refine E_iadd (pc' := 30) X d4_29 rfl ?_
  refine E_eqI (z := (3 : Int32)) (by decide) ?_
  refine E_i2d (pc' := 31) X d4_30 rfl ?_
  refine E_ddiv (x := (FP.dmul (FP.l2d b2) f)) (y := (FP.i2d (3 : Int32))) (pc' := 32) X d4_31 rfl (own_nn (own_t b2 hf (3 : Int32) (by decide)) (by decide)) ?_
  refine E_eqV (z := (.double (ownT b2 f (3 : Int32)))) rfl ?_
  have ma16 : Mag64 1129 (FP.dadd (FP.dadd (FP.dadd FP.dconst0 (ownT b0 f (1 : Int32))) (ownT b1 f (2 : Int32))) (ownT b2 f (3 : Int32))) := own_a ma11 (own_t b2 hf (3 : Int32) (by decide)) (by decide) (by decide)
  refine E_dadd (x := (FP.dadd (FP.dadd FP.dconst0 (ownT b0 f (1 : Int32))) (ownT b1 f (2 : Int32)))) (y := (ownT b2 f (3 : Int32))) (pc' := 33) X d4_32 rfl (own_nn ma16 (by decide)) ?_
  refine E_dstore (Ls' := #[.val (.ref a), .val (.ref g), .val (.double f), .second, .val (.double (FP.dadd (FP.dadd (FP.dadd FP.dconst0 (ownT b0 f (1 : Int32))) (ownT b1 f (2 : Int32))) (ownT b2 f (3 : Int32)))), .second, .val (.int (2 : Int32))]) (pc' := 35) X d4_33 rfl rfl ?_
  refine E_iinc (x := (2 : Int32)) (z := (3 : Int32)) (Ls' := #[.val (.ref a), .val (.ref g), .val (.double f), .second, .val (.double (FP.dadd (FP.dadd (FP.dadd FP.dconst0 (ownT b0 f (1 : Int32))) (ownT b1 f (2 : Int32))) (ownT b2 f (3 : Int32)))), .second, .val (.int (3 : Int32))]) (pc' := 38) X d4_35 rfl rfl rfl rfl ?_
  refine E_goto (pc' := 6) X d4_38 (by decide) rfl ?_
  refine E_iload (pc' := 8) X d4_6 rfl rfl ?_
  refine E_aloadN (v := (.ref a)) (pc' := 9) X d4_8 rfl rfl rfl ?_
  refine E_getF (pc' := 12) X (host := "") (Or.inl (w_37 hw)) Via.refl hF0 d4_9 rfl (fun T X => ?_)
  refine E_icmp (pcY := 41) (pcN := 15) X (ic_gt _ _) d4_12 (by decide) rfl rfl (fun hc12_3 => absurd hc12_3 (by decide)) (fun hc12_3 => ?_)
  refine E_dload (pc' := 17) X d4_15 rfl rfl ?_
  refine E_aloadN (v := (.ref g)) (pc' := 18) X d4_17 rfl rfl rfl ?_
  refine E_iload (pc' := 20) X d4_18 rfl rfl ?_
  refine E_callV (a := g) (pc' := 23) (W := 2) (cells' := 0) (slots' := 0) (argsL := [(.int (3 : Int32))]) (rest := [(.double (FP.dadd (FP.dadd (FP.dadd FP.dconst0 (ownT b0 f (1 : Int32))) (ownT b1 f (2 : Int32))) (ownT b2 f (3 : Int32))))]) X (rm5 l Z a0 hw g (3 : Int32) t [(.long b0), (.long b1), (.long b2), (.long b3)] b3 h0 X.ext hF2 hA3 (by decide) rfl) hE1 (w_44 hw) (w_45 hw) (w_47 hw) (w_46 hw) (w_4 hw) (w_48 hw) rfl (by decide) rfl rfl pd_0 rfl rfl d4_20 rfl (Nat.le_refl _) (by decide) (by decide) rfl rfl (by decide) (by decide) (fun v17 T h_18 X hQ19 => ?_)
  obtain ⟨rfl, rfl⟩ := hQ19
  show End Z p e below s _ _ _ _ (mkF m 23 #[.val (.ref a), .val (.ref g), .val (.double f), .second, .val (.double (FP.dadd (FP.dadd (FP.dadd FP.dconst0 (ownT b0 f (1 : Int32))) (ownT b1 f (2 : Int32))) (ownT b2 f (3 : Int32)))), .second, .val (.int (3 : Int32))] [(.long b3), (.double (FP.dadd (FP.dadd (FP.dadd FP.dconst0 (ownT b0 f (1 : Int32))) (ownT b1 f (2 : Int32))) (ownT b2 f (3 : Int32))))])
  refine E_l2d (pc' := 24) X d4_23 rfl ?_
  refine E_dloadN (pc' := 25) X d4_24 rfl rfl ?_
  refine E_dmul (x := (FP.l2d b3)) (y := f) (pc' := 26) X d4_25 rfl (own_nn (own_m _ hf) (by decide)) ?_
  refine E_iload (pc' := 28) X d4_26 rfl rfl ?_
  refine E_iconst (v := (1 : Int32)) (pc' := 29) X d4_28 rfl rfl ?_
  refine E_iadd (pc' := 30) X d4_29 rfl ?_
  refine E_eqI (z := (4 : Int32)) (by decide) ?_
  refine E_i2d (pc' := 31) X d4_30 rfl ?_
  refine E_ddiv (x := (FP.dmul (FP.l2d b3) f)) (y := (FP.i2d (4 : Int32))) (pc' := 32) X d4_31 rfl (own_nn (own_t b3 hf (4 : Int32) (by decide)) (by decide)) ?_
  refine E_eqV (z := (.double (ownT b3 f (4 : Int32)))) rfl ?_
  have ma21 : Mag64 1131 (FP.dadd (FP.dadd (FP.dadd (FP.dadd FP.dconst0 (ownT b0 f (1 : Int32))) (ownT b1 f (2 : Int32))) (ownT b2 f (3 : Int32))) (ownT b3 f (4 : Int32))) := own_a ma16 (own_t b3 hf (4 : Int32) (by decide)) (by decide) (by decide)
  refine E_dadd (x := (FP.dadd (FP.dadd (FP.dadd FP.dconst0 (ownT b0 f (1 : Int32))) (ownT b1 f (2 : Int32))) (ownT b2 f (3 : Int32)))) (y := (ownT b3 f (4 : Int32))) (pc' := 33) X d4_32 rfl (own_nn ma21 (by decide)) ?_
  refine E_dstore (Ls' := #[.val (.ref a), .val (.ref g), .val (.double f), .second, .val (.double (FP.dadd (FP.dadd (FP.dadd (FP.dadd FP.dconst0 (ownT b0 f (1 : Int32))) (ownT b1 f (2 : Int32))) (ownT b2 f (3 : Int32))) (ownT b3 f (4 : Int32)))), .second, .val (.int (3 : Int32))]) (pc' := 35) X d4_33 rfl rfl ?_
  refine E_iinc (x := (3 : Int32)) (z := (4 : Int32)) (Ls' := #[.val (.ref a), .val (.ref g), .val (.double f), .second, .val (.double (FP.dadd (FP.dadd (FP.dadd (FP.dadd FP.dconst0 (ownT b0 f (1 : Int32))) (ownT b1 f (2 : Int32))) (ownT b2 f (3 : Int32))) (ownT b3 f (4 : Int32)))), .second, .val (.int (4 : Int32))]) (pc' := 38) X d4_35 rfl rfl rfl rfl ?_
  refine E_goto (pc' := 6) X d4_38 (by decide) rfl ?_
  refine E_iload (pc' := 8) X d4_6 rfl rfl ?_
  refine E_aloadN (v := (.ref a)) (pc' := 9) X d4_8 rfl rfl rfl ?_
  refine E_getF (pc' := 12) X (host := "") (Or.inl (w_37 hw)) Via.refl hF0 d4_9 rfl (fun T X => ?_)
  refine E_icmp (pcY := 41) (pcN := 15) X (ic_gt _ _) d4_12 (by decide) rfl rfl (fun hc12_4 => ?_) (fun hc12_4 => absurd (by decide) hc12_4)
  refine E_dload (pc' := 43) X d4_41 rfl rfl ?_
  exact E_retD X d4_43 (by decide) (by decide) ⟨rfl, rfl⟩
theorem pd_1 : parseMethodDescriptor "(II[J)V" = some ⟨[.int, .int, (.array .long)], none⟩ := by decide +kernel
theorem pd_2 : parseMethodDescriptor "(JJI)V" = some ⟨[.long, .long, .int], none⟩ := by decide +kernel
theorem pd_3 : parseMethodDescriptor "(Lcom/example/steiner/steiner/model/Relationship;D)D" = some ⟨[(.object "com/example/steiner/steiner/model/Relationship"), .double], some .double⟩ := by decide +kernel
theorem ef_rm0 (m : MethodId) (x0 : Int32) (x1 : Int64) (x2 : Int64) (x3 : Int64) (x4 : Int64) (x5 : Int64) : entryFrame m #[(.int x0), (.long x1), (.long x2), (.long x3), (.long x4), (.long x5)] 29 = mkF m 0 #[.val (.int x0), .val (.long x1), .second, .val (.long x2), .second, .val (.long x3), .second, .val (.long x4), .second, .val (.long x5), .second, .unset, .unset, .unset, .unset, .unset, .unset, .unset, .unset, .unset, .unset, .unset, .unset, .unset, .unset, .unset, .unset, .unset, .unset] [] := by first | (simp [entryFrame, mkF, argsToLocals, Value.category]; done) | (simp [entryFrame, mkF, argsToLocals, *]; done) | rfl
set_option maxRecDepth 65536 in
set_option maxHeartbeats 2000000 in
theorem rm0 (l : Launch) (Z : State) (a0 : Array Value) (hw : ∀ d ∈ tables_1, d.before a0 Z = true) (i0 : Int32) (i1 : Int64) (i2 : Int64) (i3 : Int64) (i4 : Int64) (i5 : Int64) (h0 : Heap) (hE : Ext Z.heap h0) :
    Con l Z x code maxLocals ret room_1 #[(.int i0), (.long i1), (.long i2), (.long i3), (.long i4), (.long i5)] h0 (fun vv hh => vv = some (.int (1 : Int32))) := by
  refine Con.of (plainFor_of_name (by first | (simp [plainName, overriddenIn]; done) | decide +kernel)) hE ?_
  intro p e s m below T (X : Sd l Z "com/example/steiner/steiner/service/RelevanceRelationshipPinLaw" "law" code 29 (some .boolean) room_1 p e s m #[(.int i0), (.long i1), (.long i2), (.long i3), (.long i4), (.long i5)] below T h0 0 0)
  refine End.frame (ef_rm0 m i0 i1 i2 i3 i4 i5) ?_
  show End Z p e below s _ _ _ _ (mkF m 0 #[.val (.int i0), .val (.long i1), .second, .val (.long i2), .second, .val (.long i3), .second, .val (.long i4), .second, .val (.long i5), .second, .unset, .unset, .unset, .unset, .unset, .unset, .unset, .unset, .unset, .unset, .unset, .unset, .unset, .unset, .unset, .unset, .unset, .unset] [])
  refine E_iloadN (pc' := 1) X at_0 rfl rfl ?_
  refine E_iconst (v := (3 : Int32)) (pc' := 2) X at_1 rfl rfl ?_
  refine E_iand (pc' := 3) X at_2 rfl ?_
  obtain ⟨dm, q_dm⟩ : ∃ z : Int32, (i0 &&& (3 : Int32)) = z := ⟨_, rfl⟩
  refine E_eqI (z := dm) q_dm ?_
  refine E_istore (Ls' := #[.val (.int i0), .val (.long i1), .second, .val (.long i2), .second, .val (.long i3), .second, .val (.long i4), .second, .val (.long i5), .second, .val (.int dm), .unset, .unset, .unset, .unset, .unset, .unset, .unset, .unset, .unset, .unset, .unset, .unset, .unset, .unset, .unset, .unset, .unset]) (pc' := 5) X at_3 rfl rfl ?_
  refine E_iloadN (pc' := 6) X at_5 rfl rfl ?_
  refine E_iconst (v := (2 : Int32)) (pc' := 7) X at_6 rfl rfl ?_
  refine E_ishr (pc' := 8) X at_7 rfl ?_
  refine E_i2d (pc' := 9) X at_8 rfl ?_
  obtain ⟨fi, q_fi⟩ : ∃ z : UInt64, (FP.i2d (i0 >>> ((2 : Int32) &&& 31))) = z := ⟨_, rfl⟩
  have hf : Mag64 1056 fi := by rw [← q_fi]; exact i2d_mag _
  refine E_eqV (z := (.double fi)) (congrArg Value.double q_fi) ?_
  refine E_dstore (Ls' := #[.val (.int i0), .val (.long i1), .second, .val (.long i2), .second, .val (.long i3), .second, .val (.long i4), .second, .val (.long i5), .second, .val (.int dm), .val (.double fi), .second, .unset, .unset, .unset, .unset, .unset, .unset, .unset, .unset, .unset, .unset, .unset, .unset, .unset, .unset, .unset]) (pc' := 11) X at_9 rfl rfl ?_
  refine E_lloadN (pc' := 12) X at_11 rfl rfl ?_
  refine E_ldcJ (v := (9223372036854775807 : Int64)) (pc' := 15) X (w_0 hw) at_12 rfl ?_
  refine E_land (pc' := 16) X at_15 rfl ?_
  obtain ⟨y0, q_y0⟩ : ∃ z : Int64, (i1 &&& (9223372036854775807 : Int64)) = z := ⟨_, rfl⟩
  refine E_eqJ (z := y0) q_y0 ?_
  refine E_lstore (Ls' := #[.val (.int i0), .val (.long i1), .second, .val (.long i2), .second, .val (.long i3), .second, .val (.long i4), .second, .val (.long i5), .second, .val (.int dm), .val (.double fi), .second, .val (.long y0), .second, .unset, .unset, .unset, .unset, .unset, .unset, .unset, .unset, .unset, .unset, .unset, .unset, .unset]) (pc' := 18) X at_16 rfl rfl ?_
  refine E_lloadN (pc' := 19) X at_18 rfl rfl ?_
  refine E_ldcJ (v := (9223372036854775807 : Int64)) (pc' := 22) X (w_0 hw) at_19 rfl ?_
  refine E_land (pc' := 23) X at_22 rfl ?_
  obtain ⟨y1, q_y1⟩ : ∃ z : Int64, (i2 &&& (9223372036854775807 : Int64)) = z := ⟨_, rfl⟩
  refine E_eqJ (z := y1) q_y1 ?_
  refine E_lstore (Ls' := #[.val (.int i0), .val (.long i1), .second, .val (.long i2), .second, .val (.long i3), .second, .val (.long i4), .second, .val (.long i5), .second, .val (.int dm), .val (.double fi), .second, .val (.long y0), .second, .val (.long y1), .second, .unset, .unset, .unset, .unset, .unset, .unset, .unset, .unset, .unset, .unset, .unset]) (pc' := 25) X at_23 rfl rfl ?_
  refine E_lload (pc' := 27) X at_25 rfl rfl ?_
  refine E_ldcJ (v := (9223372036854775807 : Int64)) (pc' := 30) X (w_0 hw) at_27 rfl ?_
  refine E_land (pc' := 31) X at_30 rfl ?_
  obtain ⟨y2, q_y2⟩ : ∃ z : Int64, (i3 &&& (9223372036854775807 : Int64)) = z := ⟨_, rfl⟩
  refine E_eqJ (z := y2) q_y2 ?_
  refine E_lstore (Ls' := #[.val (.int i0), .val (.long i1), .second, .val (.long i2), .second, .val (.long i3), .second, .val (.long i4), .second, .val (.long i5), .second, .val (.int dm), .val (.double fi), .second, .val (.long y0), .second, .val (.long y1), .second, .val (.long y2), .second, .unset, .unset, .unset, .unset, .unset, .unset, .unset, .unset, .unset]) (pc' := 33) X at_31 rfl rfl ?_
  refine E_lload (pc' := 35) X at_33 rfl rfl ?_
  refine E_ldcJ (v := (9223372036854775807 : Int64)) (pc' := 38) X (w_0 hw) at_35 rfl ?_
  refine E_land (pc' := 39) X at_38 rfl ?_
  obtain ⟨y3, q_y3⟩ : ∃ z : Int64, (i4 &&& (9223372036854775807 : Int64)) = z := ⟨_, rfl⟩
  refine E_eqJ (z := y3) q_y3 ?_
  refine E_lstore (Ls' := #[.val (.int i0), .val (.long i1), .second, .val (.long i2), .second, .val (.long i3), .second, .val (.long i4), .second, .val (.long i5), .second, .val (.int dm), .val (.double fi), .second, .val (.long y0), .second, .val (.long y1), .second, .val (.long y2), .second, .val (.long y3), .second, .unset, .unset, .unset, .unset, .unset, .unset, .unset]) (pc' := 41) X at_39 rfl rfl ?_
  refine E_iconst (v := (4 : Int32)) (pc' := 42) X at_41 rfl rfl ?_
  have le_o1 := X.le
  refine E_newAE (pc' := 44) X (aty := .long) (n := (4 : Int32)) (cap := 4) (vs := [(.long (0 : Int64)), (.long (0 : Int64)), (.long (0 : Int64)), (.long (0 : Int64))]) (cells' := 1) (slots' := 4) (ad := "[J") (by decide) (w_1 hw) at_42 rfl (by decide) (by decide) (by decide) rfl rfl rfl (by decide) (by decide) (fun T h_2 o1 g_5 X Ex_3 Aa_4 EaAa_4 => ?_)
  have fr_6 : Z.heap.size ≤ o1 := by rw [g_5]; exact le_o1
  refine E_astore (Ls' := #[.val (.int i0), .val (.long i1), .second, .val (.long i2), .second, .val (.long i3), .second, .val (.long i4), .second, .val (.long i5), .second, .val (.int dm), .val (.double fi), .second, .val (.long y0), .second, .val (.long y1), .second, .val (.long y2), .second, .val (.long y3), .second, .val (.ref o1), .unset, .unset, .unset, .unset, .unset, .unset]) (pc' := 46) X at_44 rfl rfl rfl ?_
  refine E_aload (v := (.ref o1)) (pc' := 48) X at_46 rfl rfl rfl ?_
  refine E_iconst (v := (0 : Int32)) (pc' := 49) X at_48 rfl rfl ?_
  refine E_lload (pc' := 51) X at_49 rfl rfl ?_
  refine E_lastore (vs' := [(.long y0), (.long (0 : Int64)), (.long (0 : Int64)), (.long (0 : Int64))]) (pc' := 52) X Aa_4 (by decide) (Nat.le_of_ble_eq_true rfl) rfl fr_6 at_51 rfl (fun T h_8 X W_7 Aa_9 => ?_)
  refine E_aload (v := (.ref o1)) (pc' := 54) X at_52 rfl rfl rfl ?_
  refine E_iconst (v := (1 : Int32)) (pc' := 55) X at_54 rfl rfl ?_
  refine E_lload (pc' := 57) X at_55 rfl rfl ?_
  refine E_lastore (vs' := [(.long y0), (.long y1), (.long (0 : Int64)), (.long (0 : Int64))]) (pc' := 58) X Aa_9 (by decide) (Nat.le_of_ble_eq_true rfl) rfl fr_6 at_57 rfl (fun T h_11 X W_10 Aa_12 => ?_)
  refine E_aload (v := (.ref o1)) (pc' := 60) X at_58 rfl rfl rfl ?_
  refine E_iconst (v := (2 : Int32)) (pc' := 61) X at_60 rfl rfl ?_
  refine E_lload (pc' := 63) X at_61 rfl rfl ?_
  refine E_lastore (vs' := [(.long y0), (.long y1), (.long y2), (.long (0 : Int64))]) (pc' := 64) X Aa_12 (by decide) (Nat.le_of_ble_eq_true rfl) rfl fr_6 at_63 rfl (fun T h_14 X W_13 Aa_15 => ?_)
  refine E_aload (v := (.ref o1)) (pc' := 66) X at_64 rfl rfl rfl ?_
  refine E_iconst (v := (3 : Int32)) (pc' := 67) X at_66 rfl rfl ?_
  refine E_lload (pc' := 69) X at_67 rfl rfl ?_
  refine E_lastore (vs' := [(.long y0), (.long y1), (.long y2), (.long y3)]) (pc' := 70) X Aa_15 (by decide) (Nat.le_of_ble_eq_true rfl) rfl fr_6 at_69 rfl (fun T h_17 X W_16 Aa_18 => ?_)
  have E_25 : Exa Z h_17 o1 "[J" := ((((EaAa_4.wr W_7).wr W_10).wr W_13).wr W_16)
  have le_o19 := X.le
  refine E_new (pc' := 73) X (cells' := 2) (slots' := 7) (w_2 hw) (w_3 hw) (w_4 hw) at_70 rfl rfl rfl (by decide) (by decide) (fun T h_20 o19 g_24 X Ex_21 Ea_22 D_23 => ?_)
  have fr_26 : Z.heap.size ≤ o19 := by rw [g_24]; exact le_o19
  have ne_27 : o1 ≠ o19 := Nat.ne_of_lt (by rw [g_24]; exact E_25.lt)
  refine E_dup (pc' := 74) X at_73 rfl rfl ?_
  refine E_iconst (v := (0 : Int32)) (pc' := 75) X at_74 rfl rfl ?_
  refine E_iconst (v := (1 : Int32)) (pc' := 76) X at_75 rfl rfl ?_
  refine E_aload (v := (.ref o1)) (pc' := 78) X at_76 rfl rfl rfl ?_
  have F_28 : Fld Z h_20 o19 "com/example/steiner/steiner/model/Relationship" "first" "I" (.int (0 : Int32)) := (D_23 (Or.inr (w_12 hw)) (ty := .int) (by decide))
  have F_29 : Fld Z h_20 o19 "com/example/steiner/steiner/model/Relationship" "second" "I" (.int (0 : Int32)) := (D_23 (Or.inr (w_14 hw)) (ty := .int) (by decide))
  have F_30 : Fld Z h_20 o19 "com/example/steiner/steiner/model/Relationship" "byDistance" "[J" .null := (D_23 (Or.inr (w_25 hw)) (ty := (.array .long)) (by decide))
  have A_31 : Ar Z h_20 o1 .long [(.long y0), (.long y1), (.long y2), (.long y3)] := (Aa_18.ext Ex_21)
  have E_32 : Exa Z h_20 o1 "[J" := (E_25.ext Ex_21)
  have le_36 := X.le
  refine E_callI (a := o19) (pc' := 81) (W := 1) (cells' := 3) (slots' := 11) (argsL := [(.int (0 : Int32)), (.int (1 : Int32)), (.ref o1)]) (rest := [(.ref o19)]) X (rm1 l Z a0 hw o19 (0 : Int32) (1 : Int32) o1 y0 y1 y2 y3 h_20 X.ext Ea_22 F_28 F_29 F_30 fr_26 A_31 E_32) (w_5 hw) (w_6 hw) (w_4 hw) (w_7 hw) rfl (by decide) rfl rfl pd_1 rfl rfl at_78 rfl (Nat.le_refl _) (by decide) (by decide) rfl rfl (by decide) (by decide) (fun v33 T h_34 X hQ35 => ?_)
  obtain ⟨r_37, rfl, Kc_38, nw_39, E_40, F_41, A_42⟩ := hQ35
  have ne_43 : o1 ≠ r_37 := Nat.ne_of_lt (Nat.lt_of_lt_of_le E_32.lt nw_39)
  have ne_44 : o19 ≠ r_37 := Nat.ne_of_lt (Nat.lt_of_lt_of_le Ea_22.lt nw_39)
  have fr_45 : Z.heap.size ≤ r_37 := Nat.le_trans le_36 nw_39
  show End Z p e below s _ _ _ _ (mkF m 81 #[.val (.int i0), .val (.long i1), .second, .val (.long i2), .second, .val (.long i3), .second, .val (.long i4), .second, .val (.long i5), .second, .val (.int dm), .val (.double fi), .second, .val (.long y0), .second, .val (.long y1), .second, .val (.long y2), .second, .val (.long y3), .second, .val (.ref o1), .unset, .unset, .unset, .unset, .unset, .unset] [(.ref o19)])
  refine E_astore (Ls' := #[.val (.int i0), .val (.long i1), .second, .val (.long i2), .second, .val (.long i3), .second, .val (.long i4), .second, .val (.long i5), .second, .val (.int dm), .val (.double fi), .second, .val (.long y0), .second, .val (.long y1), .second, .val (.long y2), .second, .val (.long y3), .second, .val (.ref o1), .val (.ref o19), .unset, .unset, .unset, .unset, .unset]) (pc' := 83) X at_81 rfl rfl rfl ?_
  rcases (by rw [← q_dm]; exact own_mask3 i0 : dm = (0 : Int32) ∨ dm = (1 : Int32) ∨ dm = (2 : Int32) ∨ dm = (3 : Int32)) with rfl | rfl | rfl | rfl
  · skip
    have E_52 : Exa Z h_34 o1 "[J" := (E_32.keep Kc_38)
    have le_o46 := X.le
    refine E_new (pc' := 86) X (cells' := 4) (slots' := 14) (w_26 hw) (w_27 hw) (w_28 hw) at_83 rfl rfl rfl (by decide) (by decide) (fun T h_47 o46 g_51 X Ex_48 Ea_49 D_50 => ?_)
    have fr_53 : Z.heap.size ≤ o46 := by rw [g_51]; exact le_o46
    have ne_54 : o1 ≠ o46 := Nat.ne_of_lt (by rw [g_51]; exact E_52.lt)
    have ne_55 : o19 ≠ o46 := Nat.ne_of_lt (by rw [g_51]; exact E_40.lt)
    have ne_56 : r_37 ≠ o46 := Nat.ne_of_lt (by rw [g_51]; exact A_42.lt)
    refine E_dup (pc' := 87) X at_86 rfl rfl ?_
    refine E_lload (pc' := 89) X at_87 rfl rfl ?_
    refine E_lload (pc' := 91) X at_89 rfl rfl ?_
    refine E_iload (pc' := 93) X at_91 rfl rfl ?_
    have F_57 : Fld Z h_47 o46 "com/example/steiner/steiner/service/Relevance" "allNodes" "J" (.long (0 : Int64)) := (D_50 (Or.inr (w_34 hw)) (ty := .long) (by decide))
    have F_58 : Fld Z h_47 o46 "com/example/steiner/steiner/service/Relevance" "allRelationships" "J" (.long (0 : Int64)) := (D_50 (Or.inr (w_36 hw)) (ty := .long) (by decide))
    have F_59 : Fld Z h_47 o46 "com/example/steiner/steiner/service/Relevance" "dmax" "I" (.int (0 : Int32)) := (D_50 (Or.inr (w_38 hw)) (ty := .int) (by decide))
    refine E_callI (a := o46) (pc' := 96) (W := 1) (cells' := 4) (slots' := 14) (argsL := [(.long i5), (.long i5), (.int (0 : Int32))]) (rest := [(.ref o46)]) X (rm3 l Z a0 hw o46 i5 i5 (0 : Int32) h_47 X.ext Ea_49 F_57 F_58 F_59 fr_53) (w_29 hw) (w_30 hw) (w_28 hw) (w_31 hw) rfl (by decide) rfl rfl pd_2 rfl rfl at_93 rfl (Nat.le_refl _) (by decide) (by decide) rfl rfl (by decide) (by decide) (fun v60 T h_61 X hQ62 => ?_)
    obtain ⟨rfl, Kc_63, E_64, F_65⟩ := hQ62
    show End Z p e below s _ _ _ _ (mkF m 96 #[.val (.int i0), .val (.long i1), .second, .val (.long i2), .second, .val (.long i3), .second, .val (.long i4), .second, .val (.long i5), .second, .val (.int (0 : Int32)), .val (.double fi), .second, .val (.long y0), .second, .val (.long y1), .second, .val (.long y2), .second, .val (.long y3), .second, .val (.ref o1), .val (.ref o19), .unset, .unset, .unset, .unset, .unset] [(.ref o46)])
    refine E_astore (Ls' := #[.val (.int i0), .val (.long i1), .second, .val (.long i2), .second, .val (.long i3), .second, .val (.long i4), .second, .val (.long i5), .second, .val (.int (0 : Int32)), .val (.double fi), .second, .val (.long y0), .second, .val (.long y1), .second, .val (.long y2), .second, .val (.long y3), .second, .val (.ref o1), .val (.ref o19), .val (.ref o46), .unset, .unset, .unset, .unset]) (pc' := 98) X at_96 rfl rfl rfl ?_
    refine E_aload (v := (.ref o46)) (pc' := 100) X at_98 rfl rfl rfl ?_
    refine E_aload (v := (.ref o19)) (pc' := 102) X at_100 rfl rfl rfl ?_
    refine E_dload (pc' := 104) X at_102 rfl rfl ?_
    have F_66 : Fld Z h_61 o19 "com/example/steiner/steiner/model/Relationship" "byDistance" "[J" (.ref r_37) := ((F_41.ext Ex_48).keep Kc_63 (ninS ne_55 nin0))
    have E_67 : Exa Z h_61 o19 "com/example/steiner/steiner/model/Relationship" := ((E_40.ext Ex_48).keep Kc_63)
    have A_68 : Ar Z h_61 r_37 .long [(.long y0), (.long y1), (.long y2), (.long y3)] := ((A_42.ext Ex_48).keep Kc_63 (ninS ne_56 nin0))
    refine E_callV (a := o46) (pc' := 107) (W := 0) (cells' := 4) (slots' := 14) (argsL := [(.ref o19), (.double fi)]) (rest := []) X (rm_r0 l Z a0 hw o46 o19 fi r_37 y0 y1 y2 y3 h_61 X.ext F_65 E_67 F_66 A_68 hf) E_64 (w_39 hw) (w_40 hw) (w_42 hw) (w_41 hw) (w_28 hw) (w_43 hw) rfl (by decide) rfl rfl pd_3 rfl rfl at_104 rfl (Nat.le_refl _) (by decide) (by decide) rfl rfl (by decide) (by decide) (fun v69 T h_70 X hQ71 => ?_)
    obtain ⟨rfl, rfl⟩ := hQ71
    show End Z p e below s _ _ _ _ (mkF m 107 #[.val (.int i0), .val (.long i1), .second, .val (.long i2), .second, .val (.long i3), .second, .val (.long i4), .second, .val (.long i5), .second, .val (.int (0 : Int32)), .val (.double fi), .second, .val (.long y0), .second, .val (.long y1), .second, .val (.long y2), .second, .val (.long y3), .second, .val (.ref o1), .val (.ref o19), .val (.ref o46), .unset, .unset, .unset, .unset] [(.double (FP.dadd FP.dconst0 (ownT y0 fi (1 : Int32))))])
    refine E_dstore (Ls' := #[.val (.int i0), .val (.long i1), .second, .val (.long i2), .second, .val (.long i3), .second, .val (.long i4), .second, .val (.long i5), .second, .val (.int (0 : Int32)), .val (.double fi), .second, .val (.long y0), .second, .val (.long y1), .second, .val (.long y2), .second, .val (.long y3), .second, .val (.ref o1), .val (.ref o19), .val (.ref o46), .val (.double (FP.dadd FP.dconst0 (ownT y0 fi (1 : Int32)))), .second, .unset, .unset]) (pc' := 109) X at_107 rfl rfl ?_
    refine E_dconst0 (v := FP.dconst0) (pc' := 110) X at_109 rfl rfl ?_
    refine E_lload (pc' := 112) X at_110 rfl rfl ?_
    refine E_l2d (pc' := 113) X at_112 rfl ?_
    refine E_dload (pc' := 115) X at_113 rfl rfl ?_
    refine E_dmul (x := (FP.l2d y0)) (y := fi) (pc' := 116) X at_115 rfl (own_nn (own_m _ hf) (by decide)) ?_
    refine E_dconst1 (v := (FP.i2d (1 : Int32))) (pc' := 117) X at_116 rfl (by decide +kernel) ?_
    refine E_ddiv (x := (FP.dmul (FP.l2d y0) fi)) (y := (FP.i2d (1 : Int32))) (pc' := 118) X at_117 rfl (own_nn (own_t y0 hf (1 : Int32) (by decide)) (by decide)) ?_
    refine E_eqV (z := (.double (ownT y0 fi (1 : Int32)))) rfl ?_
    have ma73 : Mag64 1125 (FP.dadd FP.dconst0 (ownT y0 fi (1 : Int32))) := own_a own_0 (own_t y0 hf (1 : Int32) (by decide)) (by decide) (by decide)
    refine E_dadd (x := FP.dconst0) (y := (ownT y0 fi (1 : Int32))) (pc' := 119) X at_118 rfl (own_nn ma73 (by decide)) ?_
    refine E_dstore (Ls' := #[.val (.int i0), .val (.long i1), .second, .val (.long i2), .second, .val (.long i3), .second, .val (.long i4), .second, .val (.long i5), .second, .val (.int (0 : Int32)), .val (.double fi), .second, .val (.long y0), .second, .val (.long y1), .second, .val (.long y2), .second, .val (.long y3), .second, .val (.ref o1), .val (.ref o19), .val (.ref o46), .val (.double (FP.dadd FP.dconst0 (ownT y0 fi (1 : Int32)))), .second, .val (.double (FP.dadd FP.dconst0 (ownT y0 fi (1 : Int32)))), .second]) (pc' := 121) X at_119 rfl rfl ?_
    refine E_iload (pc' := 123) X at_121 rfl rfl ?_
    refine E_iconst (v := (1 : Int32)) (pc' := 124) X at_123 rfl rfl ?_
    refine E_icmp (pcY := 142) (pcN := 127) X (ic_lt _ _) at_124 (by decide) rfl rfl (fun hc124_0 => ?_) (fun hc124_0 => absurd (by decide) hc124_0)
    refine E_iload (pc' := 144) X at_142 rfl rfl ?_
    refine E_iconst (v := (2 : Int32)) (pc' := 145) X at_144 rfl rfl ?_
    refine E_icmp (pcY := 163) (pcN := 148) X (ic_lt _ _) at_145 (by decide) rfl rfl (fun hc145_0 => ?_) (fun hc145_0 => absurd (by decide) hc145_0)
    refine E_iload (pc' := 165) X at_163 rfl rfl ?_
    refine E_iconst (v := (3 : Int32)) (pc' := 166) X at_165 rfl rfl ?_
    refine E_icmp (pcY := 184) (pcN := 169) X (ic_lt _ _) at_166 (by decide) rfl rfl (fun hc166_0 => ?_) (fun hc166_0 => absurd (by decide) hc166_0)
    refine E_dload (pc' := 186) X at_184 rfl rfl ?_
    refine E_dload (pc' := 188) X at_186 rfl rfl ?_
    refine E_dcmp (v := (0 : Int32)) (pc' := 189) X at_188 rfl (dcmpV_self (own_nn ma73 (by decide)) .l) ?_
    refine E_if (pcY := 196) (pcN := 192) X (i0_ne _) at_189 (by decide) rfl rfl (fun hc189_0 => absurd hc189_0 (by decide)) (fun hc189_0 => ?_)
    refine E_iconst (v := (1 : Int32)) (pc' := 193) X at_192 rfl rfl ?_
    refine E_goto (pc' := 197) X at_193 (by decide) rfl ?_
    exact E_retZ (Or.inr rfl) X at_197 (by decide) (by decide) rfl
  · skip
    have E_80 : Exa Z h_34 o1 "[J" := (E_32.keep Kc_38)
    have le_o74 := X.le
    refine E_new (pc' := 86) X (cells' := 4) (slots' := 14) (w_26 hw) (w_27 hw) (w_28 hw) at_83 rfl rfl rfl (by decide) (by decide) (fun T h_75 o74 g_79 X Ex_76 Ea_77 D_78 => ?_)
    have fr_81 : Z.heap.size ≤ o74 := by rw [g_79]; exact le_o74
    have ne_82 : o1 ≠ o74 := Nat.ne_of_lt (by rw [g_79]; exact E_80.lt)
    have ne_83 : o19 ≠ o74 := Nat.ne_of_lt (by rw [g_79]; exact E_40.lt)
    have ne_84 : r_37 ≠ o74 := Nat.ne_of_lt (by rw [g_79]; exact A_42.lt)
    refine E_dup (pc' := 87) X at_86 rfl rfl ?_
    refine E_lload (pc' := 89) X at_87 rfl rfl ?_
    refine E_lload (pc' := 91) X at_89 rfl rfl ?_
    refine E_iload (pc' := 93) X at_91 rfl rfl ?_
    have F_85 : Fld Z h_75 o74 "com/example/steiner/steiner/service/Relevance" "allNodes" "J" (.long (0 : Int64)) := (D_78 (Or.inr (w_34 hw)) (ty := .long) (by decide))
    have F_86 : Fld Z h_75 o74 "com/example/steiner/steiner/service/Relevance" "allRelationships" "J" (.long (0 : Int64)) := (D_78 (Or.inr (w_36 hw)) (ty := .long) (by decide))
    have F_87 : Fld Z h_75 o74 "com/example/steiner/steiner/service/Relevance" "dmax" "I" (.int (0 : Int32)) := (D_78 (Or.inr (w_38 hw)) (ty := .int) (by decide))
    refine E_callI (a := o74) (pc' := 96) (W := 1) (cells' := 4) (slots' := 14) (argsL := [(.long i5), (.long i5), (.int (1 : Int32))]) (rest := [(.ref o74)]) X (rm3 l Z a0 hw o74 i5 i5 (1 : Int32) h_75 X.ext Ea_77 F_85 F_86 F_87 fr_81) (w_29 hw) (w_30 hw) (w_28 hw) (w_31 hw) rfl (by decide) rfl rfl pd_2 rfl rfl at_93 rfl (Nat.le_refl _) (by decide) (by decide) rfl rfl (by decide) (by decide) (fun v88 T h_89 X hQ90 => ?_)
    obtain ⟨rfl, Kc_91, E_92, F_93⟩ := hQ90
    show End Z p e below s _ _ _ _ (mkF m 96 #[.val (.int i0), .val (.long i1), .second, .val (.long i2), .second, .val (.long i3), .second, .val (.long i4), .second, .val (.long i5), .second, .val (.int (1 : Int32)), .val (.double fi), .second, .val (.long y0), .second, .val (.long y1), .second, .val (.long y2), .second, .val (.long y3), .second, .val (.ref o1), .val (.ref o19), .unset, .unset, .unset, .unset, .unset] [(.ref o74)])
    refine E_astore (Ls' := #[.val (.int i0), .val (.long i1), .second, .val (.long i2), .second, .val (.long i3), .second, .val (.long i4), .second, .val (.long i5), .second, .val (.int (1 : Int32)), .val (.double fi), .second, .val (.long y0), .second, .val (.long y1), .second, .val (.long y2), .second, .val (.long y3), .second, .val (.ref o1), .val (.ref o19), .val (.ref o74), .unset, .unset, .unset, .unset]) (pc' := 98) X at_96 rfl rfl rfl ?_
    refine E_aload (v := (.ref o74)) (pc' := 100) X at_98 rfl rfl rfl ?_
    refine E_aload (v := (.ref o19)) (pc' := 102) X at_100 rfl rfl rfl ?_
    refine E_dload (pc' := 104) X at_102 rfl rfl ?_
    have F_94 : Fld Z h_89 o19 "com/example/steiner/steiner/model/Relationship" "byDistance" "[J" (.ref r_37) := ((F_41.ext Ex_76).keep Kc_91 (ninS ne_83 nin0))
    have E_95 : Exa Z h_89 o19 "com/example/steiner/steiner/model/Relationship" := ((E_40.ext Ex_76).keep Kc_91)
    have A_96 : Ar Z h_89 r_37 .long [(.long y0), (.long y1), (.long y2), (.long y3)] := ((A_42.ext Ex_76).keep Kc_91 (ninS ne_84 nin0))
    refine E_callV (a := o74) (pc' := 107) (W := 0) (cells' := 4) (slots' := 14) (argsL := [(.ref o19), (.double fi)]) (rest := []) X (rm_r1 l Z a0 hw o74 o19 fi r_37 y0 y1 y2 y3 h_89 X.ext F_93 E_95 F_94 A_96 hf) E_92 (w_39 hw) (w_40 hw) (w_42 hw) (w_41 hw) (w_28 hw) (w_43 hw) rfl (by decide) rfl rfl pd_3 rfl rfl at_104 rfl (Nat.le_refl _) (by decide) (by decide) rfl rfl (by decide) (by decide) (fun v97 T h_98 X hQ99 => ?_)
    obtain ⟨rfl, rfl⟩ := hQ99
    show End Z p e below s _ _ _ _ (mkF m 107 #[.val (.int i0), .val (.long i1), .second, .val (.long i2), .second, .val (.long i3), .second, .val (.long i4), .second, .val (.long i5), .second, .val (.int (1 : Int32)), .val (.double fi), .second, .val (.long y0), .second, .val (.long y1), .second, .val (.long y2), .second, .val (.long y3), .second, .val (.ref o1), .val (.ref o19), .val (.ref o74), .unset, .unset, .unset, .unset] [(.double (FP.dadd (FP.dadd FP.dconst0 (ownT y0 fi (1 : Int32))) (ownT y1 fi (2 : Int32))))])
    refine E_dstore (Ls' := #[.val (.int i0), .val (.long i1), .second, .val (.long i2), .second, .val (.long i3), .second, .val (.long i4), .second, .val (.long i5), .second, .val (.int (1 : Int32)), .val (.double fi), .second, .val (.long y0), .second, .val (.long y1), .second, .val (.long y2), .second, .val (.long y3), .second, .val (.ref o1), .val (.ref o19), .val (.ref o74), .val (.double (FP.dadd (FP.dadd FP.dconst0 (ownT y0 fi (1 : Int32))) (ownT y1 fi (2 : Int32)))), .second, .unset, .unset]) (pc' := 109) X at_107 rfl rfl ?_
    refine E_dconst0 (v := FP.dconst0) (pc' := 110) X at_109 rfl rfl ?_
    refine E_lload (pc' := 112) X at_110 rfl rfl ?_
    refine E_l2d (pc' := 113) X at_112 rfl ?_
    refine E_dload (pc' := 115) X at_113 rfl rfl ?_
    refine E_dmul (x := (FP.l2d y0)) (y := fi) (pc' := 116) X at_115 rfl (own_nn (own_m _ hf) (by decide)) ?_
    refine E_dconst1 (v := (FP.i2d (1 : Int32))) (pc' := 117) X at_116 rfl (by decide +kernel) ?_
    refine E_ddiv (x := (FP.dmul (FP.l2d y0) fi)) (y := (FP.i2d (1 : Int32))) (pc' := 118) X at_117 rfl (own_nn (own_t y0 hf (1 : Int32) (by decide)) (by decide)) ?_
    refine E_eqV (z := (.double (ownT y0 fi (1 : Int32)))) rfl ?_
    have ma101 : Mag64 1125 (FP.dadd FP.dconst0 (ownT y0 fi (1 : Int32))) := own_a own_0 (own_t y0 hf (1 : Int32) (by decide)) (by decide) (by decide)
    refine E_dadd (x := FP.dconst0) (y := (ownT y0 fi (1 : Int32))) (pc' := 119) X at_118 rfl (own_nn ma101 (by decide)) ?_
    refine E_dstore (Ls' := #[.val (.int i0), .val (.long i1), .second, .val (.long i2), .second, .val (.long i3), .second, .val (.long i4), .second, .val (.long i5), .second, .val (.int (1 : Int32)), .val (.double fi), .second, .val (.long y0), .second, .val (.long y1), .second, .val (.long y2), .second, .val (.long y3), .second, .val (.ref o1), .val (.ref o19), .val (.ref o74), .val (.double (FP.dadd (FP.dadd FP.dconst0 (ownT y0 fi (1 : Int32))) (ownT y1 fi (2 : Int32)))), .second, .val (.double (FP.dadd FP.dconst0 (ownT y0 fi (1 : Int32)))), .second]) (pc' := 121) X at_119 rfl rfl ?_
    refine E_iload (pc' := 123) X at_121 rfl rfl ?_
    refine E_iconst (v := (1 : Int32)) (pc' := 124) X at_123 rfl rfl ?_
    refine E_icmp (pcY := 142) (pcN := 127) X (ic_lt _ _) at_124 (by decide) rfl rfl (fun hc124_0 => absurd hc124_0 (by decide)) (fun hc124_0 => ?_)
    refine E_dload (pc' := 129) X at_127 rfl rfl ?_
    refine E_lload (pc' := 131) X at_129 rfl rfl ?_
    refine E_l2d (pc' := 132) X at_131 rfl ?_
    refine E_dload (pc' := 134) X at_132 rfl rfl ?_
    refine E_dmul (x := (FP.l2d y1)) (y := fi) (pc' := 135) X at_134 rfl (own_nn (own_m _ hf) (by decide)) ?_
    refine E_ldcD (b := (4611686018427387904 : UInt64)) (pc' := 138) X (w_49 hw) at_135 rfl ?_
    refine E_eqV (z := (.double (FP.i2d (2 : Int32)))) (congrArg Value.double (by decide +kernel)) ?_
    refine E_ddiv (x := (FP.dmul (FP.l2d y1) fi)) (y := (FP.i2d (2 : Int32))) (pc' := 139) X at_138 rfl (own_nn (own_t y1 hf (2 : Int32) (by decide)) (by decide)) ?_
    refine E_eqV (z := (.double (ownT y1 fi (2 : Int32)))) rfl ?_
    have ma102 : Mag64 1127 (FP.dadd (FP.dadd FP.dconst0 (ownT y0 fi (1 : Int32))) (ownT y1 fi (2 : Int32))) := own_a ma101 (own_t y1 hf (2 : Int32) (by decide)) (by decide) (by decide)
    refine E_dadd (x := (FP.dadd FP.dconst0 (ownT y0 fi (1 : Int32)))) (y := (ownT y1 fi (2 : Int32))) (pc' := 140) X at_139 rfl (own_nn ma102 (by decide)) ?_
    refine E_dstore (Ls' := #[.val (.int i0), .val (.long i1), .second, .val (.long i2), .second, .val (.long i3), .second, .val (.long i4), .second, .val (.long i5), .second, .val (.int (1 : Int32)), .val (.double fi), .second, .val (.long y0), .second, .val (.long y1), .second, .val (.long y2), .second, .val (.long y3), .second, .val (.ref o1), .val (.ref o19), .val (.ref o74), .val (.double (FP.dadd (FP.dadd FP.dconst0 (ownT y0 fi (1 : Int32))) (ownT y1 fi (2 : Int32)))), .second, .val (.double (FP.dadd (FP.dadd FP.dconst0 (ownT y0 fi (1 : Int32))) (ownT y1 fi (2 : Int32)))), .second]) (pc' := 142) X at_140 rfl rfl ?_
    refine E_iload (pc' := 144) X at_142 rfl rfl ?_
    refine E_iconst (v := (2 : Int32)) (pc' := 145) X at_144 rfl rfl ?_
    refine E_icmp (pcY := 163) (pcN := 148) X (ic_lt _ _) at_145 (by decide) rfl rfl (fun hc145_0 => ?_) (fun hc145_0 => absurd (by decide) hc145_0)
    refine E_iload (pc' := 165) X at_163 rfl rfl ?_
    refine E_iconst (v := (3 : Int32)) (pc' := 166) X at_165 rfl rfl ?_
    refine E_icmp (pcY := 184) (pcN := 169) X (ic_lt _ _) at_166 (by decide) rfl rfl (fun hc166_0 => ?_) (fun hc166_0 => absurd (by decide) hc166_0)
    refine E_dload (pc' := 186) X at_184 rfl rfl ?_
    refine E_dload (pc' := 188) X at_186 rfl rfl ?_
    refine E_dcmp (v := (0 : Int32)) (pc' := 189) X at_188 rfl (dcmpV_self (own_nn ma102 (by decide)) .l) ?_
    refine E_if (pcY := 196) (pcN := 192) X (i0_ne _) at_189 (by decide) rfl rfl (fun hc189_0 => absurd hc189_0 (by decide)) (fun hc189_0 => ?_)
    refine E_iconst (v := (1 : Int32)) (pc' := 193) X at_192 rfl rfl ?_
    refine E_goto (pc' := 197) X at_193 (by decide) rfl ?_
    exact E_retZ (Or.inr rfl) X at_197 (by decide) (by decide) rfl
  · skip
    have E_109 : Exa Z h_34 o1 "[J" := (E_32.keep Kc_38)
    have le_o103 := X.le
    refine E_new (pc' := 86) X (cells' := 4) (slots' := 14) (w_26 hw) (w_27 hw) (w_28 hw) at_83 rfl rfl rfl (by decide) (by decide) (fun T h_104 o103 g_108 X Ex_105 Ea_106 D_107 => ?_)
    have fr_110 : Z.heap.size ≤ o103 := by rw [g_108]; exact le_o103
    have ne_111 : o1 ≠ o103 := Nat.ne_of_lt (by rw [g_108]; exact E_109.lt)
    have ne_112 : o19 ≠ o103 := Nat.ne_of_lt (by rw [g_108]; exact E_40.lt)
    have ne_113 : r_37 ≠ o103 := Nat.ne_of_lt (by rw [g_108]; exact A_42.lt)
    refine E_dup (pc' := 87) X at_86 rfl rfl ?_
    refine E_lload (pc' := 89) X at_87 rfl rfl ?_
    refine E_lload (pc' := 91) X at_89 rfl rfl ?_
    refine E_iload (pc' := 93) X at_91 rfl rfl ?_
    have F_114 : Fld Z h_104 o103 "com/example/steiner/steiner/service/Relevance" "allNodes" "J" (.long (0 : Int64)) := (D_107 (Or.inr (w_34 hw)) (ty := .long) (by decide))
    have F_115 : Fld Z h_104 o103 "com/example/steiner/steiner/service/Relevance" "allRelationships" "J" (.long (0 : Int64)) := (D_107 (Or.inr (w_36 hw)) (ty := .long) (by decide))
    have F_116 : Fld Z h_104 o103 "com/example/steiner/steiner/service/Relevance" "dmax" "I" (.int (0 : Int32)) := (D_107 (Or.inr (w_38 hw)) (ty := .int) (by decide))
    refine E_callI (a := o103) (pc' := 96) (W := 1) (cells' := 4) (slots' := 14) (argsL := [(.long i5), (.long i5), (.int (2 : Int32))]) (rest := [(.ref o103)]) X (rm3 l Z a0 hw o103 i5 i5 (2 : Int32) h_104 X.ext Ea_106 F_114 F_115 F_116 fr_110) (w_29 hw) (w_30 hw) (w_28 hw) (w_31 hw) rfl (by decide) rfl rfl pd_2 rfl rfl at_93 rfl (Nat.le_refl _) (by decide) (by decide) rfl rfl (by decide) (by decide) (fun v117 T h_118 X hQ119 => ?_)
    obtain ⟨rfl, Kc_120, E_121, F_122⟩ := hQ119
    show End Z p e below s _ _ _ _ (mkF m 96 #[.val (.int i0), .val (.long i1), .second, .val (.long i2), .second, .val (.long i3), .second, .val (.long i4), .second, .val (.long i5), .second, .val (.int (2 : Int32)), .val (.double fi), .second, .val (.long y0), .second, .val (.long y1), .second, .val (.long y2), .second, .val (.long y3), .second, .val (.ref o1), .val (.ref o19), .unset, .unset, .unset, .unset, .unset] [(.ref o103)])
    refine E_astore (Ls' := #[.val (.int i0), .val (.long i1), .second, .val (.long i2), .second, .val (.long i3), .second, .val (.long i4), .second, .val (.long i5), .second, .val (.int (2 : Int32)), .val (.double fi), .second, .val (.long y0), .second, .val (.long y1), .second, .val (.long y2), .second, .val (.long y3), .second, .val (.ref o1), .val (.ref o19), .val (.ref o103), .unset, .unset, .unset, .unset]) (pc' := 98) X at_96 rfl rfl rfl ?_
    refine E_aload (v := (.ref o103)) (pc' := 100) X at_98 rfl rfl rfl ?_
    refine E_aload (v := (.ref o19)) (pc' := 102) X at_100 rfl rfl rfl ?_
    refine E_dload (pc' := 104) X at_102 rfl rfl ?_
    have F_123 : Fld Z h_118 o19 "com/example/steiner/steiner/model/Relationship" "byDistance" "[J" (.ref r_37) := ((F_41.ext Ex_105).keep Kc_120 (ninS ne_112 nin0))
    have E_124 : Exa Z h_118 o19 "com/example/steiner/steiner/model/Relationship" := ((E_40.ext Ex_105).keep Kc_120)
    have A_125 : Ar Z h_118 r_37 .long [(.long y0), (.long y1), (.long y2), (.long y3)] := ((A_42.ext Ex_105).keep Kc_120 (ninS ne_113 nin0))
    refine E_callV (a := o103) (pc' := 107) (W := 0) (cells' := 4) (slots' := 14) (argsL := [(.ref o19), (.double fi)]) (rest := []) X (rm_r2 l Z a0 hw o103 o19 fi r_37 y0 y1 y2 y3 h_118 X.ext F_122 E_124 F_123 A_125 hf) E_121 (w_39 hw) (w_40 hw) (w_42 hw) (w_41 hw) (w_28 hw) (w_43 hw) rfl (by decide) rfl rfl pd_3 rfl rfl at_104 rfl (Nat.le_refl _) (by decide) (by decide) rfl rfl (by decide) (by decide) (fun v126 T h_127 X hQ128 => ?_)
    obtain ⟨rfl, rfl⟩ := hQ128
    show End Z p e below s _ _ _ _ (mkF m 107 #[.val (.int i0), .val (.long i1), .second, .val (.long i2), .second, .val (.long i3), .second, .val (.long i4), .second, .val (.long i5), .second, .val (.int (2 : Int32)), .val (.double fi), .second, .val (.long y0), .second, .val (.long y1), .second, .val (.long y2), .second, .val (.long y3), .second, .val (.ref o1), .val (.ref o19), .val (.ref o103), .unset, .unset, .unset, .unset] [(.double (FP.dadd (FP.dadd (FP.dadd FP.dconst0 (ownT y0 fi (1 : Int32))) (ownT y1 fi (2 : Int32))) (ownT y2 fi (3 : Int32))))])
    refine E_dstore (Ls' := #[.val (.int i0), .val (.long i1), .second, .val (.long i2), .second, .val (.long i3), .second, .val (.long i4), .second, .val (.long i5), .second, .val (.int (2 : Int32)), .val (.double fi), .second, .val (.long y0), .second, .val (.long y1), .second, .val (.long y2), .second, .val (.long y3), .second, .val (.ref o1), .val (.ref o19), .val (.ref o103), .val (.double (FP.dadd (FP.dadd (FP.dadd FP.dconst0 (ownT y0 fi (1 : Int32))) (ownT y1 fi (2 : Int32))) (ownT y2 fi (3 : Int32)))), .second, .unset, .unset]) (pc' := 109) X at_107 rfl rfl ?_
    refine E_dconst0 (v := FP.dconst0) (pc' := 110) X at_109 rfl rfl ?_
    refine E_lload (pc' := 112) X at_110 rfl rfl ?_
    refine E_l2d (pc' := 113) X at_112 rfl ?_
    refine E_dload (pc' := 115) X at_113 rfl rfl ?_
    refine E_dmul (x := (FP.l2d y0)) (y := fi) (pc' := 116) X at_115 rfl (own_nn (own_m _ hf) (by decide)) ?_
    refine E_dconst1 (v := (FP.i2d (1 : Int32))) (pc' := 117) X at_116 rfl (by decide +kernel) ?_
    refine E_ddiv (x := (FP.dmul (FP.l2d y0) fi)) (y := (FP.i2d (1 : Int32))) (pc' := 118) X at_117 rfl (own_nn (own_t y0 hf (1 : Int32) (by decide)) (by decide)) ?_
    refine E_eqV (z := (.double (ownT y0 fi (1 : Int32)))) rfl ?_
    have ma130 : Mag64 1125 (FP.dadd FP.dconst0 (ownT y0 fi (1 : Int32))) := own_a own_0 (own_t y0 hf (1 : Int32) (by decide)) (by decide) (by decide)
    refine E_dadd (x := FP.dconst0) (y := (ownT y0 fi (1 : Int32))) (pc' := 119) X at_118 rfl (own_nn ma130 (by decide)) ?_
    refine E_dstore (Ls' := #[.val (.int i0), .val (.long i1), .second, .val (.long i2), .second, .val (.long i3), .second, .val (.long i4), .second, .val (.long i5), .second, .val (.int (2 : Int32)), .val (.double fi), .second, .val (.long y0), .second, .val (.long y1), .second, .val (.long y2), .second, .val (.long y3), .second, .val (.ref o1), .val (.ref o19), .val (.ref o103), .val (.double (FP.dadd (FP.dadd (FP.dadd FP.dconst0 (ownT y0 fi (1 : Int32))) (ownT y1 fi (2 : Int32))) (ownT y2 fi (3 : Int32)))), .second, .val (.double (FP.dadd FP.dconst0 (ownT y0 fi (1 : Int32)))), .second]) (pc' := 121) X at_119 rfl rfl ?_
    refine E_iload (pc' := 123) X at_121 rfl rfl ?_
    refine E_iconst (v := (1 : Int32)) (pc' := 124) X at_123 rfl rfl ?_
    refine E_icmp (pcY := 142) (pcN := 127) X (ic_lt _ _) at_124 (by decide) rfl rfl (fun hc124_0 => absurd hc124_0 (by decide)) (fun hc124_0 => ?_)
    refine E_dload (pc' := 129) X at_127 rfl rfl ?_
    refine E_lload (pc' := 131) X at_129 rfl rfl ?_
    refine E_l2d (pc' := 132) X at_131 rfl ?_
    refine E_dload (pc' := 134) X at_132 rfl rfl ?_
    refine E_dmul (x := (FP.l2d y1)) (y := fi) (pc' := 135) X at_134 rfl (own_nn (own_m _ hf) (by decide)) ?_
    refine E_ldcD (b := (4611686018427387904 : UInt64)) (pc' := 138) X (w_49 hw) at_135 rfl ?_
    refine E_eqV (z := (.double (FP.i2d (2 : Int32)))) (congrArg Value.double (by decide +kernel)) ?_
    refine E_ddiv (x := (FP.dmul (FP.l2d y1) fi)) (y := (FP.i2d (2 : Int32))) (pc' := 139) X at_138 rfl (own_nn (own_t y1 hf (2 : Int32) (by decide)) (by decide)) ?_
    refine E_eqV (z := (.double (ownT y1 fi (2 : Int32)))) rfl ?_
    have ma131 : Mag64 1127 (FP.dadd (FP.dadd FP.dconst0 (ownT y0 fi (1 : Int32))) (ownT y1 fi (2 : Int32))) := own_a ma130 (own_t y1 hf (2 : Int32) (by decide)) (by decide) (by decide)
    refine E_dadd (x := (FP.dadd FP.dconst0 (ownT y0 fi (1 : Int32)))) (y := (ownT y1 fi (2 : Int32))) (pc' := 140) X at_139 rfl (own_nn ma131 (by decide)) ?_
    refine E_dstore (Ls' := #[.val (.int i0), .val (.long i1), .second, .val (.long i2), .second, .val (.long i3), .second, .val (.long i4), .second, .val (.long i5), .second, .val (.int (2 : Int32)), .val (.double fi), .second, .val (.long y0), .second, .val (.long y1), .second, .val (.long y2), .second, .val (.long y3), .second, .val (.ref o1), .val (.ref o19), .val (.ref o103), .val (.double (FP.dadd (FP.dadd (FP.dadd FP.dconst0 (ownT y0 fi (1 : Int32))) (ownT y1 fi (2 : Int32))) (ownT y2 fi (3 : Int32)))), .second, .val (.double (FP.dadd (FP.dadd FP.dconst0 (ownT y0 fi (1 : Int32))) (ownT y1 fi (2 : Int32)))), .second]) (pc' := 142) X at_140 rfl rfl ?_
    refine E_iload (pc' := 144) X at_142 rfl rfl ?_
    refine E_iconst (v := (2 : Int32)) (pc' := 145) X at_144 rfl rfl ?_
    refine E_icmp (pcY := 163) (pcN := 148) X (ic_lt _ _) at_145 (by decide) rfl rfl (fun hc145_0 => absurd hc145_0 (by decide)) (fun hc145_0 => ?_)
    refine E_dload (pc' := 150) X at_148 rfl rfl ?_
    refine E_lload (pc' := 152) X at_150 rfl rfl ?_
    refine E_l2d (pc' := 153) X at_152 rfl ?_
    refine E_dload (pc' := 155) X at_153 rfl rfl ?_
    refine E_dmul (x := (FP.l2d y2)) (y := fi) (pc' := 156) X at_155 rfl (own_nn (own_m _ hf) (by decide)) ?_
    refine E_ldcD (b := (4613937818241073152 : UInt64)) (pc' := 159) X (w_50 hw) at_156 rfl ?_
    refine E_eqV (z := (.double (FP.i2d (3 : Int32)))) (congrArg Value.double (by decide +kernel)) ?_
    refine E_ddiv (x := (FP.dmul (FP.l2d y2) fi)) (y := (FP.i2d (3 : Int32))) (pc' := 160) X at_159 rfl (own_nn (own_t y2 hf (3 : Int32) (by decide)) (by decide)) ?_
    refine E_eqV (z := (.double (ownT y2 fi (3 : Int32)))) rfl ?_
    have ma132 : Mag64 1129 (FP.dadd (FP.dadd (FP.dadd FP.dconst0 (ownT y0 fi (1 : Int32))) (ownT y1 fi (2 : Int32))) (ownT y2 fi (3 : Int32))) := own_a ma131 (own_t y2 hf (3 : Int32) (by decide)) (by decide) (by decide)
    refine E_dadd (x := (FP.dadd (FP.dadd FP.dconst0 (ownT y0 fi (1 : Int32))) (ownT y1 fi (2 : Int32)))) (y := (ownT y2 fi (3 : Int32))) (pc' := 161) X at_160 rfl (own_nn ma132 (by decide)) ?_
    refine E_dstore (Ls' := #[.val (.int i0), .val (.long i1), .second, .val (.long i2), .second, .val (.long i3), .second, .val (.long i4), .second, .val (.long i5), .second, .val (.int (2 : Int32)), .val (.double fi), .second, .val (.long y0), .second, .val (.long y1), .second, .val (.long y2), .second, .val (.long y3), .second, .val (.ref o1), .val (.ref o19), .val (.ref o103), .val (.double (FP.dadd (FP.dadd (FP.dadd FP.dconst0 (ownT y0 fi (1 : Int32))) (ownT y1 fi (2 : Int32))) (ownT y2 fi (3 : Int32)))), .second, .val (.double (FP.dadd (FP.dadd (FP.dadd FP.dconst0 (ownT y0 fi (1 : Int32))) (ownT y1 fi (2 : Int32))) (ownT y2 fi (3 : Int32)))), .second]) (pc' := 163) X at_161 rfl rfl ?_
    refine E_iload (pc' := 165) X at_163 rfl rfl ?_
    refine E_iconst (v := (3 : Int32)) (pc' := 166) X at_165 rfl rfl ?_
    refine E_icmp (pcY := 184) (pcN := 169) X (ic_lt _ _) at_166 (by decide) rfl rfl (fun hc166_0 => ?_) (fun hc166_0 => absurd (by decide) hc166_0)
    refine E_dload (pc' := 186) X at_184 rfl rfl ?_
    refine E_dload (pc' := 188) X at_186 rfl rfl ?_
    refine E_dcmp (v := (0 : Int32)) (pc' := 189) X at_188 rfl (dcmpV_self (own_nn ma132 (by decide)) .l) ?_
    refine E_if (pcY := 196) (pcN := 192) X (i0_ne _) at_189 (by decide) rfl rfl (fun hc189_0 => absurd hc189_0 (by decide)) (fun hc189_0 => ?_)
    refine E_iconst (v := (1 : Int32)) (pc' := 193) X at_192 rfl rfl ?_
    refine E_goto (pc' := 197) X at_193 (by decide) rfl ?_
    exact E_retZ (Or.inr rfl) X at_197 (by decide) (by decide) rfl
  · skip
    have E_139 : Exa Z h_34 o1 "[J" := (E_32.keep Kc_38)
    have le_o133 := X.le
    refine E_new (pc' := 86) X (cells' := 4) (slots' := 14) (w_26 hw) (w_27 hw) (w_28 hw) at_83 rfl rfl rfl (by decide) (by decide) (fun T h_134 o133 g_138 X Ex_135 Ea_136 D_137 => ?_)
    have fr_140 : Z.heap.size ≤ o133 := by rw [g_138]; exact le_o133
    have ne_141 : o1 ≠ o133 := Nat.ne_of_lt (by rw [g_138]; exact E_139.lt)
    have ne_142 : o19 ≠ o133 := Nat.ne_of_lt (by rw [g_138]; exact E_40.lt)
    have ne_143 : r_37 ≠ o133 := Nat.ne_of_lt (by rw [g_138]; exact A_42.lt)
    refine E_dup (pc' := 87) X at_86 rfl rfl ?_
    refine E_lload (pc' := 89) X at_87 rfl rfl ?_
    refine E_lload (pc' := 91) X at_89 rfl rfl ?_
    refine E_iload (pc' := 93) X at_91 rfl rfl ?_
    have F_144 : Fld Z h_134 o133 "com/example/steiner/steiner/service/Relevance" "allNodes" "J" (.long (0 : Int64)) := (D_137 (Or.inr (w_34 hw)) (ty := .long) (by decide))
    have F_145 : Fld Z h_134 o133 "com/example/steiner/steiner/service/Relevance" "allRelationships" "J" (.long (0 : Int64)) := (D_137 (Or.inr (w_36 hw)) (ty := .long) (by decide))
    have F_146 : Fld Z h_134 o133 "com/example/steiner/steiner/service/Relevance" "dmax" "I" (.int (0 : Int32)) := (D_137 (Or.inr (w_38 hw)) (ty := .int) (by decide))
    refine E_callI (a := o133) (pc' := 96) (W := 1) (cells' := 4) (slots' := 14) (argsL := [(.long i5), (.long i5), (.int (3 : Int32))]) (rest := [(.ref o133)]) X (rm3 l Z a0 hw o133 i5 i5 (3 : Int32) h_134 X.ext Ea_136 F_144 F_145 F_146 fr_140) (w_29 hw) (w_30 hw) (w_28 hw) (w_31 hw) rfl (by decide) rfl rfl pd_2 rfl rfl at_93 rfl (Nat.le_refl _) (by decide) (by decide) rfl rfl (by decide) (by decide) (fun v147 T h_148 X hQ149 => ?_)
    obtain ⟨rfl, Kc_150, E_151, F_152⟩ := hQ149
    show End Z p e below s _ _ _ _ (mkF m 96 #[.val (.int i0), .val (.long i1), .second, .val (.long i2), .second, .val (.long i3), .second, .val (.long i4), .second, .val (.long i5), .second, .val (.int (3 : Int32)), .val (.double fi), .second, .val (.long y0), .second, .val (.long y1), .second, .val (.long y2), .second, .val (.long y3), .second, .val (.ref o1), .val (.ref o19), .unset, .unset, .unset, .unset, .unset] [(.ref o133)])
    refine E_astore (Ls' := #[.val (.int i0), .val (.long i1), .second, .val (.long i2), .second, .val (.long i3), .second, .val (.long i4), .second, .val (.long i5), .second, .val (.int (3 : Int32)), .val (.double fi), .second, .val (.long y0), .second, .val (.long y1), .second, .val (.long y2), .second, .val (.long y3), .second, .val (.ref o1), .val (.ref o19), .val (.ref o133), .unset, .unset, .unset, .unset]) (pc' := 98) X at_96 rfl rfl rfl ?_
    refine E_aload (v := (.ref o133)) (pc' := 100) X at_98 rfl rfl rfl ?_
    refine E_aload (v := (.ref o19)) (pc' := 102) X at_100 rfl rfl rfl ?_
    refine E_dload (pc' := 104) X at_102 rfl rfl ?_
    have F_153 : Fld Z h_148 o19 "com/example/steiner/steiner/model/Relationship" "byDistance" "[J" (.ref r_37) := ((F_41.ext Ex_135).keep Kc_150 (ninS ne_142 nin0))
    have E_154 : Exa Z h_148 o19 "com/example/steiner/steiner/model/Relationship" := ((E_40.ext Ex_135).keep Kc_150)
    have A_155 : Ar Z h_148 r_37 .long [(.long y0), (.long y1), (.long y2), (.long y3)] := ((A_42.ext Ex_135).keep Kc_150 (ninS ne_143 nin0))
    refine E_callV (a := o133) (pc' := 107) (W := 0) (cells' := 4) (slots' := 14) (argsL := [(.ref o19), (.double fi)]) (rest := []) X (rm_r3 l Z a0 hw o133 o19 fi r_37 y0 y1 y2 y3 h_148 X.ext F_152 E_154 F_153 A_155 hf) E_151 (w_39 hw) (w_40 hw) (w_42 hw) (w_41 hw) (w_28 hw) (w_43 hw) rfl (by decide) rfl rfl pd_3 rfl rfl at_104 rfl (Nat.le_refl _) (by decide) (by decide) rfl rfl (by decide) (by decide) (fun v156 T h_157 X hQ158 => ?_)
    obtain ⟨rfl, rfl⟩ := hQ158
    show End Z p e below s _ _ _ _ (mkF m 107 #[.val (.int i0), .val (.long i1), .second, .val (.long i2), .second, .val (.long i3), .second, .val (.long i4), .second, .val (.long i5), .second, .val (.int (3 : Int32)), .val (.double fi), .second, .val (.long y0), .second, .val (.long y1), .second, .val (.long y2), .second, .val (.long y3), .second, .val (.ref o1), .val (.ref o19), .val (.ref o133), .unset, .unset, .unset, .unset] [(.double (FP.dadd (FP.dadd (FP.dadd (FP.dadd FP.dconst0 (ownT y0 fi (1 : Int32))) (ownT y1 fi (2 : Int32))) (ownT y2 fi (3 : Int32))) (ownT y3 fi (4 : Int32))))])
    refine E_dstore (Ls' := #[.val (.int i0), .val (.long i1), .second, .val (.long i2), .second, .val (.long i3), .second, .val (.long i4), .second, .val (.long i5), .second, .val (.int (3 : Int32)), .val (.double fi), .second, .val (.long y0), .second, .val (.long y1), .second, .val (.long y2), .second, .val (.long y3), .second, .val (.ref o1), .val (.ref o19), .val (.ref o133), .val (.double (FP.dadd (FP.dadd (FP.dadd (FP.dadd FP.dconst0 (ownT y0 fi (1 : Int32))) (ownT y1 fi (2 : Int32))) (ownT y2 fi (3 : Int32))) (ownT y3 fi (4 : Int32)))), .second, .unset, .unset]) (pc' := 109) X at_107 rfl rfl ?_
    refine E_dconst0 (v := FP.dconst0) (pc' := 110) X at_109 rfl rfl ?_
    refine E_lload (pc' := 112) X at_110 rfl rfl ?_
    refine E_l2d (pc' := 113) X at_112 rfl ?_
    refine E_dload (pc' := 115) X at_113 rfl rfl ?_
    refine E_dmul (x := (FP.l2d y0)) (y := fi) (pc' := 116) X at_115 rfl (own_nn (own_m _ hf) (by decide)) ?_
    refine E_dconst1 (v := (FP.i2d (1 : Int32))) (pc' := 117) X at_116 rfl (by decide +kernel) ?_
    refine E_ddiv (x := (FP.dmul (FP.l2d y0) fi)) (y := (FP.i2d (1 : Int32))) (pc' := 118) X at_117 rfl (own_nn (own_t y0 hf (1 : Int32) (by decide)) (by decide)) ?_
    refine E_eqV (z := (.double (ownT y0 fi (1 : Int32)))) rfl ?_
    have ma160 : Mag64 1125 (FP.dadd FP.dconst0 (ownT y0 fi (1 : Int32))) := own_a own_0 (own_t y0 hf (1 : Int32) (by decide)) (by decide) (by decide)
    refine E_dadd (x := FP.dconst0) (y := (ownT y0 fi (1 : Int32))) (pc' := 119) X at_118 rfl (own_nn ma160 (by decide)) ?_
    refine E_dstore (Ls' := #[.val (.int i0), .val (.long i1), .second, .val (.long i2), .second, .val (.long i3), .second, .val (.long i4), .second, .val (.long i5), .second, .val (.int (3 : Int32)), .val (.double fi), .second, .val (.long y0), .second, .val (.long y1), .second, .val (.long y2), .second, .val (.long y3), .second, .val (.ref o1), .val (.ref o19), .val (.ref o133), .val (.double (FP.dadd (FP.dadd (FP.dadd (FP.dadd FP.dconst0 (ownT y0 fi (1 : Int32))) (ownT y1 fi (2 : Int32))) (ownT y2 fi (3 : Int32))) (ownT y3 fi (4 : Int32)))), .second, .val (.double (FP.dadd FP.dconst0 (ownT y0 fi (1 : Int32)))), .second]) (pc' := 121) X at_119 rfl rfl ?_
    refine E_iload (pc' := 123) X at_121 rfl rfl ?_
    refine E_iconst (v := (1 : Int32)) (pc' := 124) X at_123 rfl rfl ?_
    refine E_icmp (pcY := 142) (pcN := 127) X (ic_lt _ _) at_124 (by decide) rfl rfl (fun hc124_0 => absurd hc124_0 (by decide)) (fun hc124_0 => ?_)
    refine E_dload (pc' := 129) X at_127 rfl rfl ?_
    refine E_lload (pc' := 131) X at_129 rfl rfl ?_
    refine E_l2d (pc' := 132) X at_131 rfl ?_
    refine E_dload (pc' := 134) X at_132 rfl rfl ?_
    refine E_dmul (x := (FP.l2d y1)) (y := fi) (pc' := 135) X at_134 rfl (own_nn (own_m _ hf) (by decide)) ?_
    refine E_ldcD (b := (4611686018427387904 : UInt64)) (pc' := 138) X (w_49 hw) at_135 rfl ?_
    refine E_eqV (z := (.double (FP.i2d (2 : Int32)))) (congrArg Value.double (by decide +kernel)) ?_
    refine E_ddiv (x := (FP.dmul (FP.l2d y1) fi)) (y := (FP.i2d (2 : Int32))) (pc' := 139) X at_138 rfl (own_nn (own_t y1 hf (2 : Int32) (by decide)) (by decide)) ?_
    refine E_eqV (z := (.double (ownT y1 fi (2 : Int32)))) rfl ?_
    have ma161 : Mag64 1127 (FP.dadd (FP.dadd FP.dconst0 (ownT y0 fi (1 : Int32))) (ownT y1 fi (2 : Int32))) := own_a ma160 (own_t y1 hf (2 : Int32) (by decide)) (by decide) (by decide)
    refine E_dadd (x := (FP.dadd FP.dconst0 (ownT y0 fi (1 : Int32)))) (y := (ownT y1 fi (2 : Int32))) (pc' := 140) X at_139 rfl (own_nn ma161 (by decide)) ?_
    refine E_dstore (Ls' := #[.val (.int i0), .val (.long i1), .second, .val (.long i2), .second, .val (.long i3), .second, .val (.long i4), .second, .val (.long i5), .second, .val (.int (3 : Int32)), .val (.double fi), .second, .val (.long y0), .second, .val (.long y1), .second, .val (.long y2), .second, .val (.long y3), .second, .val (.ref o1), .val (.ref o19), .val (.ref o133), .val (.double (FP.dadd (FP.dadd (FP.dadd (FP.dadd FP.dconst0 (ownT y0 fi (1 : Int32))) (ownT y1 fi (2 : Int32))) (ownT y2 fi (3 : Int32))) (ownT y3 fi (4 : Int32)))), .second, .val (.double (FP.dadd (FP.dadd FP.dconst0 (ownT y0 fi (1 : Int32))) (ownT y1 fi (2 : Int32)))), .second]) (pc' := 142) X at_140 rfl rfl ?_
    refine E_iload (pc' := 144) X at_142 rfl rfl ?_
    refine E_iconst (v := (2 : Int32)) (pc' := 145) X at_144 rfl rfl ?_
    refine E_icmp (pcY := 163) (pcN := 148) X (ic_lt _ _) at_145 (by decide) rfl rfl (fun hc145_0 => absurd hc145_0 (by decide)) (fun hc145_0 => ?_)
    refine E_dload (pc' := 150) X at_148 rfl rfl ?_
    refine E_lload (pc' := 152) X at_150 rfl rfl ?_
    refine E_l2d (pc' := 153) X at_152 rfl ?_
    refine E_dload (pc' := 155) X at_153 rfl rfl ?_
    refine E_dmul (x := (FP.l2d y2)) (y := fi) (pc' := 156) X at_155 rfl (own_nn (own_m _ hf) (by decide)) ?_
    refine E_ldcD (b := (4613937818241073152 : UInt64)) (pc' := 159) X (w_50 hw) at_156 rfl ?_
    refine E_eqV (z := (.double (FP.i2d (3 : Int32)))) (congrArg Value.double (by decide +kernel)) ?_
    refine E_ddiv (x := (FP.dmul (FP.l2d y2) fi)) (y := (FP.i2d (3 : Int32))) (pc' := 160) X at_159 rfl (own_nn (own_t y2 hf (3 : Int32) (by decide)) (by decide)) ?_
    refine E_eqV (z := (.double (ownT y2 fi (3 : Int32)))) rfl ?_
    have ma162 : Mag64 1129 (FP.dadd (FP.dadd (FP.dadd FP.dconst0 (ownT y0 fi (1 : Int32))) (ownT y1 fi (2 : Int32))) (ownT y2 fi (3 : Int32))) := own_a ma161 (own_t y2 hf (3 : Int32) (by decide)) (by decide) (by decide)
    refine E_dadd (x := (FP.dadd (FP.dadd FP.dconst0 (ownT y0 fi (1 : Int32))) (ownT y1 fi (2 : Int32)))) (y := (ownT y2 fi (3 : Int32))) (pc' := 161) X at_160 rfl (own_nn ma162 (by decide)) ?_
    refine E_dstore (Ls' := #[.val (.int i0), .val (.long i1), .second, .val (.long i2), .second, .val (.long i3), .second, .val (.long i4), .second, .val (.long i5), .second, .val (.int (3 : Int32)), .val (.double fi), .second, .val (.long y0), .second, .val (.long y1), .second, .val (.long y2), .second, .val (.long y3), .second, .val (.ref o1), .val (.ref o19), .val (.ref o133), .val (.double (FP.dadd (FP.dadd (FP.dadd (FP.dadd FP.dconst0 (ownT y0 fi (1 : Int32))) (ownT y1 fi (2 : Int32))) (ownT y2 fi (3 : Int32))) (ownT y3 fi (4 : Int32)))), .second, .val (.double (FP.dadd (FP.dadd (FP.dadd FP.dconst0 (ownT y0 fi (1 : Int32))) (ownT y1 fi (2 : Int32))) (ownT y2 fi (3 : Int32)))), .second]) (pc' := 163) X at_161 rfl rfl ?_
    refine E_iload (pc' := 165) X at_163 rfl rfl ?_
    refine E_iconst (v := (3 : Int32)) (pc' := 166) X at_165 rfl rfl ?_
    refine E_icmp (pcY := 184) (pcN := 169) X (ic_lt _ _) at_166 (by decide) rfl rfl (fun hc166_0 => absurd hc166_0 (by decide)) (fun hc166_0 => ?_)
    refine E_dload (pc' := 171) X at_169 rfl rfl ?_
    refine E_lload (pc' := 173) X at_171 rfl rfl ?_
    refine E_l2d (pc' := 174) X at_173 rfl ?_
    refine E_dload (pc' := 176) X at_174 rfl rfl ?_
    refine E_dmul (x := (FP.l2d y3)) (y := fi) (pc' := 177) X at_176 rfl (own_nn (own_m _ hf) (by decide)) ?_
    refine E_ldcD (b := (4616189618054758400 : UInt64)) (pc' := 180) X (w_51 hw) at_177 rfl ?_
    refine E_eqV (z := (.double (FP.i2d (4 : Int32)))) (congrArg Value.double (by decide +kernel)) ?_
    refine E_ddiv (x := (FP.dmul (FP.l2d y3) fi)) (y := (FP.i2d (4 : Int32))) (pc' := 181) X at_180 rfl (own_nn (own_t y3 hf (4 : Int32) (by decide)) (by decide)) ?_
    refine E_eqV (z := (.double (ownT y3 fi (4 : Int32)))) rfl ?_
    have ma163 : Mag64 1131 (FP.dadd (FP.dadd (FP.dadd (FP.dadd FP.dconst0 (ownT y0 fi (1 : Int32))) (ownT y1 fi (2 : Int32))) (ownT y2 fi (3 : Int32))) (ownT y3 fi (4 : Int32))) := own_a ma162 (own_t y3 hf (4 : Int32) (by decide)) (by decide) (by decide)
    refine E_dadd (x := (FP.dadd (FP.dadd (FP.dadd FP.dconst0 (ownT y0 fi (1 : Int32))) (ownT y1 fi (2 : Int32))) (ownT y2 fi (3 : Int32)))) (y := (ownT y3 fi (4 : Int32))) (pc' := 182) X at_181 rfl (own_nn ma163 (by decide)) ?_
    refine E_dstore (Ls' := #[.val (.int i0), .val (.long i1), .second, .val (.long i2), .second, .val (.long i3), .second, .val (.long i4), .second, .val (.long i5), .second, .val (.int (3 : Int32)), .val (.double fi), .second, .val (.long y0), .second, .val (.long y1), .second, .val (.long y2), .second, .val (.long y3), .second, .val (.ref o1), .val (.ref o19), .val (.ref o133), .val (.double (FP.dadd (FP.dadd (FP.dadd (FP.dadd FP.dconst0 (ownT y0 fi (1 : Int32))) (ownT y1 fi (2 : Int32))) (ownT y2 fi (3 : Int32))) (ownT y3 fi (4 : Int32)))), .second, .val (.double (FP.dadd (FP.dadd (FP.dadd (FP.dadd FP.dconst0 (ownT y0 fi (1 : Int32))) (ownT y1 fi (2 : Int32))) (ownT y2 fi (3 : Int32))) (ownT y3 fi (4 : Int32)))), .second]) (pc' := 184) X at_182 rfl rfl ?_
    refine E_dload (pc' := 186) X at_184 rfl rfl ?_
    refine E_dload (pc' := 188) X at_186 rfl rfl ?_
    refine E_dcmp (v := (0 : Int32)) (pc' := 189) X at_188 rfl (dcmpV_self (own_nn ma163 (by decide)) .l) ?_
    refine E_if (pcY := 196) (pcN := 192) X (i0_ne _) at_189 (by decide) rfl rfl (fun hc189_0 => absurd hc189_0 (by decide)) (fun hc189_0 => ?_)
    refine E_iconst (v := (1 : Int32)) (pc' := 193) X at_192 rfl rfl ?_
    refine E_goto (pc' := 197) X at_193 (by decide) rfl ?_
    exact E_retZ (Or.inr rfl) X at_197 (by decide) (by decide) rfl
set_option maxRecDepth 65536 in
set_option maxHeartbeats 2000000 in
theorem comes_1 {Post : Tables → Env → Array Value → State → Outcome → State → Prop} (hpost : ∀ tb e args s v u, (limb_1_1.after args s (.returned v) u = true ∧ limb_1_2.after args s (.returned v) u = true ∧ True) → FrameEnd s (.returned v) u (Jvm.fieldLocs frame_1_writes args s ++ Jvm.arrayLocs frame_1_arrays args s ++ Jvm.staticLocs frame_1_statics s) 16 128 → Post tb e args s (.returned v) u) :
    ArmFor flags0 classFile x code maxLocals ret World_1 tables_1 room_1 Calls_1 rest_1 Pre_1 Post := by
  intro l hfl _ _ p e ha hc hk s m args below hf hA hF happ hP
  obtain ⟨hcalls, hrest, hpre⟩ := hP
  obtain ⟨-, -, -, hnamed, -, -, -, hat⟩ := (Spec.applies_iff hf).mp happ
  obtain ⟨hg, hn⟩ := and_e (Cond.before_iff.mp (show (Jvm.Cond.and given_1 narrow_1).before args s = true from hpre))
  obtain ⟨hcnt, hrst⟩ := and_e hg
  obtain ⟨hk0, hrst⟩ := and_e hrst
  obtain ⟨hk1, hrst⟩ := and_e hrst
  obtain ⟨hk2, hrst⟩ := and_e hrst
  obtain ⟨hk3, hrst⟩ := and_e hrst
  obtain ⟨hk4, hrst⟩ := and_e hrst
  have hk5 := hrst
  obtain ⟨w0, w1, w2, w3, w4, w5, rfl⟩ : ∃ w0 w1 w2 w3 w4 w5 : Value, args = #[w0, w1, w2, w3, w4, w5] := by
    have hs : args.size = 6 := by simpa [Cond.value, given_1] using hcnt
    obtain ⟨L⟩ := args
    match L, hs with
    | [w0, w1, w2, w3, w4, w5], _ => exact ⟨w0, w1, w2, w3, w4, w5, rfl⟩
  have hw := fun d (hd : d ∈ tables_1) => atoms_spec (ws := Jvm.Cond.code x code maxLocals ret :: tables_1) hat d (List.mem_cons_of_mem _ hd)
  have hfit : Fit s := fun {y c} hc i hi => by
    obtain ⟨ha, rfl⟩ := Array.getElem?_eq_some_iff.mp hc
    have q := List.all_eq_true.mp ((Array.all_eq_true_iff_forall_mem.mp hF) _ (Array.getElem_mem ha)) i (List.mem_range.mpr hi)
    simpa [Array.getElem?_eq_getElem hi] using q
  obtain ⟨i0, e0⟩ := is_v hk0
  obtain rfl : w0 = (.int i0) := Option.some.inj e0
  obtain ⟨i1, e1⟩ := isL_v hk1
  obtain rfl : w1 = (.long i1) := Option.some.inj e1
  obtain ⟨i2, e2⟩ := isL_v hk2
  obtain rfl : w2 = (.long i2) := Option.some.inj e2
  obtain ⟨i3, e3⟩ := isL_v hk3
  obtain rfl : w3 = (.long i3) := Option.some.inj e3
  obtain ⟨i4, e4⟩ := isL_v hk4
  obtain rfl : w4 = (.long i4) := Option.some.inj e4
  obtain ⟨i5, e5⟩ := isL_v hk5
  obtain rfl : w5 = (.long i5) := Option.some.inj e5
  obtain ⟨n, o, h1, h2, h3, _, L, rfl, ⟨N, _, rfl⟩, hq⟩ := rm0 l s _ hw i0 i1 i2 i3 i4 i5 s.heap (Ext.refl _) tables_1 p e ha hc hk s m _ below hf ((Spec.applies_iff_loose hf).mp happ).1 ⟨rfl, State.Warmed39.refl s, rfl⟩ trivial
  refine ⟨n, _, h1, h2, h3, hpost _ _ _ _ _ _ ⟨Cond.after_iff.mpr rfl, Cond.after_iff.mpr (eq_i res_at (Term.int_eval (1)) rfl), trivial⟩ ⟨hq.1, hq.2.1, (hq.2.2.sift fun y hy => Or.inr (N y hy)).mono (by decide) (by decide)⟩⟩
theorem main_1_1 : Claimed_1_1 := comes_1 fun _ _ _ _ _ _ h hF => ⟨h.1, hF⟩
theorem main_1_2 : Claimed_1_2 := comes_1 fun _ _ _ _ _ _ h hF => ⟨h.2.1, hF⟩
end Jvm.Pilot.@@N@@
namespace Jvm.Pilot.@@N@@
open Jvm Jvm.ClassFile Sem Op Lib Jvm.Free Jvm.Stand Jvm.Pilot.@@N@@.Jvm.D
/-! MADE BY PROGRAM (witnessworld.py) out of the Statement's table words and the real class files: 12 classes; the members and pool entries that the words name. The judged class is class 1, her method 1. -/
namespace start1
open Jvm.ClassFile
def u (s : String) : CpInfo := .utf8 (stringToUtf16 s)
/-- a pool by its gaps: so many unusable entries, then the entry; so many at the end -/
def gap : Nat → List CpInfo → List CpInfo
  | 0, r => r
  | n + 1, r => .unusable :: gap n r
def poolList (es : List (Nat × CpInfo)) (last : Nat) : List CpInfo := es.foldr (fun e r => gap e.1 (e.2 :: r)) (gap last [])
def pool (es : List (Nat × CpInfo)) (last : Nat) : Array CpInfo := ⟨poolList es last⟩
def fileOf (pool : Array CpInfo) (this : Nat) (attrs : Array Attribute := #[]) (ms : Array MethodInfo := #[]) (fl : Nat := 33) (sup : Nat := 0) (ifs : Array Nat := #[]) (fds : Array FieldInfo := #[]) : ClassFile where
  minorVersion := 0
  majorVersion := 65
  constantPool := pool
  accessFlags := fl
  thisClass := this
  superClass := sup
  interfaces := ifs
  fields := fds
  methods := ms
  attributes := attrs
def plain (name : String) (sup : Option ClassId) : Class where
  name := name
  kind := .ordinary
  loader := none
  accessFlags := 33
  super := sup
  interfaces := #[]
  cf := none
  fields := #[]
  methods := #[]
  instanceTypes := #[]
  staticTypes := #[]
  resolved := #[]
  callSites := []
  init := .initialized
  statics := none
  mirror := none

def pool0 : Array CpInfo := pool [(5, u "<init>"), (0, u "()V"), (1, .class_ 10), (1, u "java/lang/Object"), (85, u "clone"), (0, u "()Ljava/lang/Object;")] 26

def k0c0 : Code := { maxStack := 0, maxLocals := 1, code := object_method_1_code, exceptionTable := #[], attributes := #[] }
def k0m0 : Method := { name := "<init>", desc := "()V", sig := { parameters := [], returnType := none }, accessFlags := 1, code := some k0c0 }
def k0m1 : Method := { name := "clone", desc := "()Ljava/lang/Object;", sig := { parameters := [], returnType := some (.object "java/lang/Object") }, accessFlags := 260, code := none }
/-- java/lang/Object -/
def k0 : Class := { plain "java/lang/Object" none with
  accessFlags := 33
  interfaces := #[]
  cf := some (fileOf pool0 8 #[] #[{ accessFlags := 1, nameIndex := 5, descriptorIndex := 6, attributes := #[] }, { accessFlags := 260, nameIndex := 96, descriptorIndex := 97, attributes := #[] }] 33 0 #[] #[])
  fields := #[]
  methods := #[k0m0, k0m1]
  instanceTypes := #[]
  staticTypes := #[]
  resolved := Array.replicate 124 none
  statics := none }

def pool1 : Array CpInfo := pool [(2, .class_ 4), (1, u "java/lang/Object"), (0, u "<init>"), (0, u "()V"), (2, .long 9223372036854775807), (1, .class_ 12), (0, u "com/example/steiner/steiner/model/Relationship"), (0, .methodref 11 14), (0, .nameAndType 5 15), (0, u "(II[J)V"), (0, .class_ 17), (0, u "com/example/steiner/steiner/service/Relevance"), (0, .methodref 16 19), (0, .nameAndType 5 20), (0, u "(JJI)V"), (0, .methodref 16 22), (0, .nameAndType 23 24), (0, u "relationship"), (0, u "(Lcom/example/steiner/steiner/model/Relationship;D)D"), (0, .double 4611686018427387904), (1, .double 4613937818241073152), (1, .double 4616189618054758400), (1, .class_ 32), (0, u "com/example/steiner/steiner/service/RelevanceRelationshipPinLaw"), (2, u "law"), (0, u "(IJJJJJ)Z")] 5

def k1m0 : Method := { name := "<init>", desc := "()V", sig := { parameters := [], returnType := none }, accessFlags := 1, code := none }
def k1c1 : Code := { maxStack := 7, maxLocals := 29, code := code, exceptionTable := #[], attributes := #[] }
def k1m1 : Method := { name := "law", desc := "(IJJJJJ)Z", sig := { parameters := [.int, .long, .long, .long, .long, .long], returnType := some .boolean }, accessFlags := 9, code := some k1c1 }
/-- com/example/steiner/steiner/service/RelevanceRelationshipPinLaw -/
def k1 : Class := { plain "com/example/steiner/steiner/service/RelevanceRelationshipPinLaw" (some 0) with
  accessFlags := 49
  interfaces := #[]
  cf := some (fileOf pool1 31 #[] #[{ accessFlags := 1, nameIndex := 5, descriptorIndex := 6, attributes := #[] }, { accessFlags := 9, nameIndex := 35, descriptorIndex := 36, attributes := #[] }] 49 2 #[] #[])
  fields := #[]
  methods := #[k1m0, k1m1]
  instanceTypes := #[]
  staticTypes := #[]
  resolved := Array.replicate 42 none
  statics := none }

def pool2 : Array CpInfo := pool [(1, .methodref 2 3), (0, .class_ 4), (0, .nameAndType 5 6), (0, u "java/lang/Object"), (0, u "<init>"), (0, u "()V"), (0, .fieldref 8 9), (0, .class_ 10), (0, .nameAndType 11 12), (0, u "com/example/steiner/steiner/model/Relationship"), (0, u "first"), (0, u "I"), (0, .fieldref 8 14), (0, .nameAndType 15 12), (0, u "second"), (0, .methodref 17 18), (0, .class_ 19), (0, .nameAndType 20 21), (0, u "[J"), (0, u "clone"), (0, u "()Ljava/lang/Object;"), (0, .fieldref 8 23), (0, .nameAndType 24 19), (0, u "byDistance"), (0, u "(II[J)V"), (3, u "elementRelationships"), (0, u "(I)J")] 5

def k2c0 : Code := { maxStack := 2, maxLocals := 4, code := prog_18_method_1_code, exceptionTable := #[], attributes := #[] }
def k2m0 : Method := { name := "<init>", desc := "(II[J)V", sig := { parameters := [.int, .int, (.array .long)], returnType := none }, accessFlags := 1, code := some k2c0 }
def k2c1 : Code := { maxStack := 2, maxLocals := 2, code := prog_18_method_4_code, exceptionTable := #[], attributes := #[] }
def k2m1 : Method := { name := "elementRelationships", desc := "(I)J", sig := { parameters := [.int], returnType := some .long }, accessFlags := 1, code := some k2c1 }
/-- com/example/steiner/steiner/model/Relationship -/
def k2 : Class := { plain "com/example/steiner/steiner/model/Relationship" (some 0) with
  accessFlags := 49
  interfaces := #[]
  cf := some (fileOf pool2 8 #[] #[{ accessFlags := 1, nameIndex := 5, descriptorIndex := 25, attributes := #[] }, { accessFlags := 1, nameIndex := 29, descriptorIndex := 30, attributes := #[] }] 49 2 #[] #[{ accessFlags := 18, nameIndex := 11, descriptorIndex := 12, attributes := #[] }, { accessFlags := 18, nameIndex := 15, descriptorIndex := 12, attributes := #[] }, { accessFlags := 18, nameIndex := 24, descriptorIndex := 19, attributes := #[] }])
  fields := #[{ name := "first", type := .int, accessFlags := 18, slot := 0, constantValue := 0 }, { name := "second", type := .int, accessFlags := 18, slot := 1, constantValue := 0 }, { name := "byDistance", type := (.array .long), accessFlags := 18, slot := 2, constantValue := 0 }]
  methods := #[k2m0, k2m1]
  instanceTypes := #[.int, .int, (.array .long)]
  staticTypes := #[]
  resolved := Array.replicate 36 none
  statics := none }

def pool3 : Array CpInfo := pool [(1, .class_ 2), (0, u "java/lang/Cloneable"), (0, .class_ 4), (0, u "java/lang/Object")] 2

/-- java/lang/Cloneable -/
def k3 : Class := { plain "java/lang/Cloneable" (some 0) with
  accessFlags := 1537
  interfaces := #[]
  cf := some (fileOf pool3 1 #[] #[] 1537 3 #[] #[])
  fields := #[]
  methods := #[]
  instanceTypes := #[]
  staticTypes := #[]
  resolved := Array.replicate 7 none
  statics := none }

def pool4 : Array CpInfo := pool [(1, .methodref 2 3), (0, .class_ 4), (0, .nameAndType 5 6), (0, u "java/lang/Object"), (0, u "<init>"), (0, u "()V"), (0, .fieldref 8 9), (0, .class_ 10), (0, .nameAndType 11 12), (0, u "com/example/steiner/steiner/service/Relevance"), (0, u "allNodes"), (0, u "J"), (0, .fieldref 8 14), (0, .nameAndType 15 12), (0, u "allRelationships"), (0, .fieldref 8 17), (0, .nameAndType 18 19), (0, u "dmax"), (0, u "I"), (21, .class_ 43), (1, u "com/example/steiner/steiner/model/Relationship"), (2, .methodref 41 47), (0, .nameAndType 48 49), (0, u "elementRelationships"), (0, u "(I)J"), (85, u "TIE"), (0, u "D"), (1, u "(JJI)V"), (13, u "relationship"), (0, u "(Lcom/example/steiner/steiner/model/Relationship;D)D")] 33

def k4c0 : Code := { maxStack := 3, maxLocals := 6, code := prog_33_method_1_code, exceptionTable := #[], attributes := #[] }
def k4m0 : Method := { name := "<init>", desc := "(JJI)V", sig := { parameters := [.long, .long, .int], returnType := none }, accessFlags := 0, code := some k4c0 }
def k4c1 : Code := { maxStack := 6, maxLocals := 7, code := prog_33_method_5_code, exceptionTable := #[], attributes := #[] }
def k4m1 : Method := { name := "relationship", desc := "(Lcom/example/steiner/steiner/model/Relationship;D)D", sig := { parameters := [(.object "com/example/steiner/steiner/model/Relationship"), .double], returnType := some .double }, accessFlags := 0, code := some k4c1 }
/-- com/example/steiner/steiner/service/Relevance -/
def k4 : Class := { plain "com/example/steiner/steiner/service/Relevance" (some 0) with
  accessFlags := 48
  interfaces := #[]
  cf := some (fileOf pool4 8 #[] #[{ accessFlags := 0, nameIndex := 5, descriptorIndex := 138, attributes := #[] }, { accessFlags := 0, nameIndex := 152, descriptorIndex := 153, attributes := #[] }] 48 2 #[] #[{ accessFlags := 24, nameIndex := 135, descriptorIndex := 136, attributes := #[] }, { accessFlags := 18, nameIndex := 11, descriptorIndex := 12, attributes := #[] }, { accessFlags := 18, nameIndex := 15, descriptorIndex := 12, attributes := #[] }, { accessFlags := 18, nameIndex := 18, descriptorIndex := 19, attributes := #[] }])
  fields := #[{ name := "TIE", type := .double, accessFlags := 24, slot := 0, constantValue := 0 }, { name := "allNodes", type := .long, accessFlags := 18, slot := 0, constantValue := 0 }, { name := "allRelationships", type := .long, accessFlags := 18, slot := 1, constantValue := 0 }, { name := "dmax", type := .int, accessFlags := 18, slot := 2, constantValue := 0 }]
  methods := #[k4m0, k4m1]
  instanceTypes := #[.long, .long, .int]
  staticTypes := #[.double]
  resolved := Array.replicate 187 none
  statics := none }

def pool5 : Array CpInfo := pool [(1, u "java/io/Serializable"), (0, .class_ 1), (0, u "java/lang/Object"), (0, .class_ 3)] 3

/-- java/io/Serializable -/
def k5 : Class := { plain "java/io/Serializable" (some 0) with
  accessFlags := 1537
  interfaces := #[]
  cf := some (fileOf pool5 2 #[] #[] 1537 4 #[] #[])
  fields := #[]
  methods := #[]
  instanceTypes := #[]
  staticTypes := #[]
  resolved := Array.replicate 8 none
  statics := none }

/-- the primitive byte -/
def k6 : Class := { plain "byte" none with kind := .primitive 'B', accessFlags := 0x411 }
/-- [B -/
def k7 : Class := { plain "[B" (some 0) with kind := .array 6 .byte, interfaces := #[3, 5], accessFlags := 1041 }

/-- the primitive int -/
def k8 : Class := { plain "int" none with kind := .primitive 'I', accessFlags := 0x411 }
/-- [I -/
def k9 : Class := { plain "[I" (some 0) with kind := .array 8 .int, interfaces := #[3, 5], accessFlags := 1041 }

/-- the primitive long -/
def k10 : Class := { plain "long" none with kind := .primitive 'J', accessFlags := 0x411 }
/-- [J -/
def k11 : Class := { plain "[J" (some 0) with kind := .array 10 .long, interfaces := #[3, 5], accessFlags := 1041 }

def heap : Heap := #[]
def classes : Array Class := #[k0, k1, k2, k3, k4, k5, k6, k7, k8, k9, k10, k11]
def interned : List (Array UInt16 × Addr) := []
def slotsUsed : Nat := 0
def theMethod : MethodId := ⟨1, 1⟩
def args0 : Array Value := #[.int 3, .long 2, .long 1, .long 8, .long 9, .long 10]
def aboutOver (below : List Frame) : State where
  vm := { classes := classes, interned := interned.toArray }
  heap := heap
  slotsUsed := slotsUsed
  threads := #[{ frames := .invoking theMethod args0 :: below }]
def below0 : List Frame := [.native { method := ⟨0, 0⟩, args := #[] }]
def about1 : State := aboutOver below0
def p0 : Program := .bare "" "" ""
def e0 : Env := launch0.env 0 0 0
theorem w_frames : about1.frames = Frame.invoking theMethod args0 :: below0 := rfl
set_option maxRecDepth 65536 in
theorem w_args : argsFit about1.vm theMethod args0 = true := by decide +kernel
set_option maxRecDepth 65536 in
theorem w_heap : heapFits about1 = true := by decide +kernel
set_option maxRecDepth 65536 in
theorem w_runnable : about1.curStatus? = some .runnable := by decide +kernel
set_option maxRecDepth 65536 in
theorem w_alone : about1.alone = true := by decide +kernel
set_option maxRecDepth 65536 in
theorem w_named : about1.methodNamed? x = some theMethod := by decide +kernel
set_option maxRecDepth 65536 in
theorem w_hears : about1.hears theMethod below0 = true := by decide +kernel
set_option maxRecDepth 65536 in
theorem w_ripe : about1.ripe theMethod args0 below0 = true := by decide +kernel
theorem w_running : about1.status = .running := rfl
set_option maxRecDepth 65536 in
theorem w_room : about1.hasRoom e0.platform room_1 = true :=
  launch0.hasRoom_least _ room_1 (by decide +kernel) (by decide +kernel) (by decide +kernel) (by decide +kernel) (by decide +kernel) (by decide +kernel)
theorem allAtoms_all (ts : List Jvm.Cond) (a : Array Jvm.Value) (st : Jvm.State) : (allAtoms ts).before a st = ts.all (fun c => c.before a st) := by
  induction ts with
  | nil => rfl
  | cons c t ih =>
    show (Jvm.Cond.and c (allAtoms t)).before a st = _
    rw [Jvm.Cond.before_and, ih, List.all_cons]
def words1 : List Jvm.Cond := Jvm.Cond.code x code maxLocals ret :: tables_1
/-- a 'code' word, met by the world's own term for the bytes: nothing is compared byte by byte -/
theorem code_word {y : MethodName} {bytes : ByteArray} {mx : Nat} {rt : Option FieldType} {a : Array Value} {s : State} {m : MethodId} {meth : Method} {c : Code} (h1 : s.methodNamed? y = some m) (h2 : s.vm.method? m = some meth) (h3 : meth.code = some c) (h4 : c.code = bytes)
    (h5 : (c.maxLocals == mx && c.exceptionTable.isEmpty && decide (c.maxStack ≤ mostOperands) && decide (meth.sig.returnType = rt) && !meth.locks && decide (parseMethodDescriptor y.desc = some meth.sig)) = true) : (Jvm.Cond.code y bytes mx rt).before a s = true := by
  simp only [Bool.and_eq_true, beq_iff_eq, Bool.not_eq_true', decide_eq_true_eq] at h5
  obtain ⟨⟨⟨⟨⟨g1, g2⟩, g3⟩, g4⟩, g5⟩, g6⟩ := h5
  simp [Cond.before, Cond.holds, Cond.value, h1, h2, h3, h4, g1, g2, g3, g4, g5, g6]
def isCode : Jvm.Cond → Bool
  | .code _ _ _ _ => true
  | _ => false
theorem all_split {L : List Jvm.Cond} {P : Jvm.Cond → Bool} (h1 : L.all (fun c => isCode c || P c) = true) (h2 : ∀ c ∈ L.filter isCode, P c = true) : L.all P = true := by
  refine List.all_eq_true.mpr fun c hc => ?_
  have h := List.all_eq_true.mp h1 c hc
  rcases Bool.eq_false_or_eq_true (isCode c) with hi | hi
  · exact h2 c (List.mem_filter.mpr ⟨hc, hi⟩)
  · simpa [hi] using h
set_option maxRecDepth 65536 in
theorem w_c0 : (Jvm.Cond.code x code maxLocals ret).before args0 about1 = true := code_word (m := ⟨1, 1⟩) (meth := k1m1) (c := k1c1) (by decide +kernel) rfl rfl rfl (by decide +kernel)
set_option maxRecDepth 65536 in
theorem w_c1 : (Jvm.Cond.code ({ cls := "com/example/steiner/steiner/model/Relationship", name := "<init>", desc := "(II[J)V" } : Jvm.MethodName) prog_18_method_1_code (4 : Nat) (Option.none : Option Jvm.ClassFile.FieldType)).before args0 about1 = true := code_word (m := ⟨2, 0⟩) (meth := k2m0) (c := k2c0) (by decide +kernel) rfl rfl rfl (by decide +kernel)
set_option maxRecDepth 65536 in
theorem w_c2 : (Jvm.Cond.code ({ cls := "java/lang/Object", name := "<init>", desc := "()V" } : Jvm.MethodName) object_method_1_code (1 : Nat) (Option.none : Option Jvm.ClassFile.FieldType)).before args0 about1 = true := code_word (m := ⟨0, 0⟩) (meth := k0m0) (c := k0c0) (by decide +kernel) rfl rfl rfl (by decide +kernel)
set_option maxRecDepth 65536 in
theorem w_c3 : (Jvm.Cond.code ({ cls := "com/example/steiner/steiner/service/Relevance", name := "<init>", desc := "(JJI)V" } : Jvm.MethodName) prog_33_method_1_code (6 : Nat) (Option.none : Option Jvm.ClassFile.FieldType)).before args0 about1 = true := code_word (m := ⟨4, 0⟩) (meth := k4m0) (c := k4c0) (by decide +kernel) rfl rfl rfl (by decide +kernel)
set_option maxRecDepth 65536 in
theorem w_c4 : (Jvm.Cond.code ({ cls := "com/example/steiner/steiner/service/Relevance", name := "relationship", desc := "(Lcom/example/steiner/steiner/model/Relationship;D)D" } : Jvm.MethodName) prog_33_method_5_code (7 : Nat) (Option.some Jvm.ClassFile.FieldType.double)).before args0 about1 = true := code_word (m := ⟨4, 1⟩) (meth := k4m1) (c := k4c1) (by decide +kernel) rfl rfl rfl (by decide +kernel)
set_option maxRecDepth 65536 in
theorem w_c5 : (Jvm.Cond.code ({ cls := "com/example/steiner/steiner/model/Relationship", name := "elementRelationships", desc := "(I)J" } : Jvm.MethodName) prog_18_method_4_code (2 : Nat) (Option.some Jvm.ClassFile.FieldType.long)).before args0 about1 = true := code_word (m := ⟨2, 1⟩) (meth := k2m1) (c := k2c1) (by decide +kernel) rfl rfl rfl (by decide +kernel)
def codes1 : List Jvm.Cond := [Jvm.Cond.code x code maxLocals ret, Jvm.Cond.code ({ cls := "com/example/steiner/steiner/model/Relationship", name := "<init>", desc := "(II[J)V" } : Jvm.MethodName) prog_18_method_1_code (4 : Nat) (Option.none : Option Jvm.ClassFile.FieldType), Jvm.Cond.code ({ cls := "java/lang/Object", name := "<init>", desc := "()V" } : Jvm.MethodName) object_method_1_code (1 : Nat) (Option.none : Option Jvm.ClassFile.FieldType), Jvm.Cond.code ({ cls := "com/example/steiner/steiner/service/Relevance", name := "<init>", desc := "(JJI)V" } : Jvm.MethodName) prog_33_method_1_code (6 : Nat) (Option.none : Option Jvm.ClassFile.FieldType), Jvm.Cond.code ({ cls := "com/example/steiner/steiner/service/Relevance", name := "relationship", desc := "(Lcom/example/steiner/steiner/model/Relationship;D)D" } : Jvm.MethodName) prog_33_method_5_code (7 : Nat) (Option.some Jvm.ClassFile.FieldType.double), Jvm.Cond.code ({ cls := "com/example/steiner/steiner/model/Relationship", name := "elementRelationships", desc := "(I)J" } : Jvm.MethodName) prog_18_method_4_code (2 : Nat) (Option.some Jvm.ClassFile.FieldType.long)]
set_option maxRecDepth 65536 in
theorem codes_eq : words1.filter isCode = codes1 := rfl
theorem w_codes : ∀ c ∈ words1.filter isCode, c.before args0 about1 = true := by
  rw [codes_eq]
  intro c hc
  simp only [codes1, List.mem_cons, List.not_mem_nil, or_false] at hc
  rcases hc with rfl | rfl | rfl | rfl | rfl | rfl
  · exact w_c0
  · exact w_c1
  · exact w_c2
  · exact w_c3
  · exact w_c4
  · exact w_c5
set_option maxRecDepth 65536 in
theorem w_t1 : (words1.take 24).all (fun c => isCode c || c.before args0 about1) = true := by decide +kernel
set_option maxRecDepth 65536 in
theorem w_t2 : ((words1.drop 24).take 24).all (fun c => isCode c || c.before args0 about1) = true := by decide +kernel
set_option maxRecDepth 65536 in
theorem w_t3 : ((words1.drop 24).drop 24).all (fun c => isCode c || c.before args0 about1) = true := by decide +kernel
theorem w_tables : (allAtoms (Jvm.Cond.code x code maxLocals ret :: tables_1)).before args0 about1 = true := by
  rw [allAtoms_all]
  show words1.all (fun c => c.before args0 about1) = true
  refine all_split ?_ w_codes
  rw [← List.take_append_drop 24 words1, List.all_append, w_t1, ← List.take_append_drop 24 (words1.drop 24), List.all_append, w_t2, w_t3]
  rfl
set_option maxRecDepth 65536 in
theorem w_case : (Jvm.Cond.and given_1 narrow_1).before args0 about1 = true := by decide +kernel
theorem w_applies : (headSpec (Jvm.Cond.code x code maxLocals ret :: tables_1) room_1).applies x e0.platform about1 = true :=
  (Spec.applies_iff w_frames).mpr ⟨w_running, w_runnable, w_alone, w_named, w_hears, w_ripe, w_room, w_tables⟩
theorem atStart : AtStart classFile x code maxLocals ret World_1 tables_1 room_1 Calls_1 rest_1 Pre_1 launch0 p0 e0 about1 theMethod args0 below0 :=
  ⟨lists_1, trivial, launch0.admits_env _ _ _, launch0.least_env, fairChoices_fair.cas, fairChoices_fair.clock, w_frames, w_args, w_heap, w_applies, trivial, trivial, w_case⟩
end start1
theorem witness_1 : WitnessClaimed_1 := ⟨start1.p0, start1.e0, start1.about1, start1.theMethod, start1.args0, start1.below0, start1.atStart⟩
end Jvm.Pilot.@@N@@
