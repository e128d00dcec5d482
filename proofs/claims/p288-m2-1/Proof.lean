import JvmDerived
import JvmDerived.Pilot.@@N@@Statement
import JvmDerived.Pilot.@@N@@Code
set_option linter.unusedVariables false
set_option linter.unusedSimpArgs false
namespace Jvm.RoadKit
open Sem ClassFile Op Lib Jvm.Stand Jvm.Free Jvm.LawKit
section Own
/-- the walk comes to its end from here: it returns, what it returns and the heap are as Q says, nothing old is written -/
def End (Z : State) (p : Program) (e : Env) (below : List Frame) (s : State) (Q : Option Value → Heap → Prop) (kc ks : Nat) (T : State) (g : JFrame) : Prop :=
  ∃ s₂ o, Steps p.tables e below (T.setTop g) s₂ ∧ s₂.status = .running ∧ Ended s₂ below o ∧ ∃ v L, o = .returned v ∧ (Fr Z.heap.size L ∧ Ext Z.heap s₂.heap ∧ Q v s₂.heap) ∧ FrameEnd s o s₂ L kc ks
/-- where the walk stands, with all that is fixed in a body -/
def Sd (l : Launch) (Z : State) (own nm : String) (bytes : ByteArray) (ml : Nat) (ret : Option FieldType) (R : Room) (p : Program) (e : Env) (s : State) (m : MethodId) (args : Array Value) (below : List Frame) (T : State) (h : Heap) (cells slots : Nat) : Prop :=
  ∃ (meth : Method) (c : Code) (locs : List Loc), Stand p l e R s m args below meth c T locs cells slots ∧ Fr Z.heap.size locs ∧ T.heap = h ∧ Ext Z.heap h ∧ p.tables.exec = Jvm.exec ∧ c.code = bytes ∧ c.maxLocals = ml ∧ s.vm.findClass own = some m.cls ∧ meth.name = nm ∧ meth.sig.returnType = ret ∧ meth.locks = false ∧ Z.Warmed39 s.vm
/-- a contract: called with these arguments over the heap h0 the body returns, as Q says -/
def Con (l : Launch) (Z : State) (y : MethodName) (bytes : ByteArray) (ml : Nat) (ret : Option FieldType) (rm : Room) (as : Array Value) (h0 : Heap) (Q : Option Value → Heap → Prop) : Prop :=
  ∀ ws : List Jvm.Cond, MetFree l y (head1 (Jvm.Cond.code y bytes ml ret :: ws) rm) (fun a U => a = as ∧ Z.Warmed39 U.vm ∧ U.heap = h0) (fun _ _ _ _ _ => True) (fun _ U o U' => ∃ v L, o = .returned v ∧ (Fr Z.heap.size L ∧ Ext Z.heap U'.heap ∧ Q v U'.heap) ∧ FrameEnd U o U' L rm.cells rm.slots)
theorem Ext.refl (h : Heap) : Ext h h := ⟨Nat.le_refl _, fun _ _ q => q⟩
theorem Ext.trans {h h' h'' : Heap} (E : Ext h h') (E' : Ext h' h'') : Ext h h'' := ⟨Nat.le_trans E.1 E'.1, fun a c q => E'.2 a c (E.2 a c q)⟩
theorem Ext.keep {h0 h h' : Heap} {ws : List Addr} (E : Ext h0 h) (K : Keep h h' ws) (q : ∀ x ∈ ws, h0.size ≤ x) : Ext h0 h' := ⟨Nat.le_trans E.1 K.1, fun x c r => K.2.1 x c (E.2 x c r) fun z => absurd (Array.getElem?_eq_some_iff.mp r).1 (Nat.not_lt.mpr (q x z))⟩
theorem Ext.wr {h0 h h' : Heap} {a : Addr} {sl : Nat} {v : Value} (E : Ext h0 h) (W : Wr h h' a sl v) (q : h0.size ≤ a) : Ext h0 h' := E.keep (Keep.of_wr W) (allS q all0)
theorem Keep.of_ext {h h' : Heap} (E : Ext h h') (ws : List Addr) : Keep h h' ws := (Keep.refl h ws).ext E
theorem Keep.ext0 {h h' : Heap} (K : Keep h h' []) : Ext h h' := ⟨K.1, fun x c q => K.2.1 x c q nin0⟩
theorem Keep.sub {h h' : Heap} {ws ws' : List Addr} (K : Keep h h' ws) (q : ∀ x ∈ ws, x ∈ ws') : Keep h h' ws' := ⟨K.1, fun x c r n => K.2.1 x c r fun z => n (q x z), K.2.2⟩
theorem Con.of {l : Launch} {Z : State} {y : MethodName} {bytes : ByteArray} {ml : Nat} {ret : Option FieldType} {rm : Room} {as : Array Value} {h0 : Heap} {Q : Option Value → Heap → Prop} (pn : plainFor y = true) (hE : Ext Z.heap h0)
    (body : ∀ (p : Program) (e : Env) (s : State) (m : MethodId) (below : List Frame) (T : State), Sd l Z y.cls y.name bytes ml ret rm p e s m as below T h0 0 0 → End Z p e below s Q rm.cells rm.slots T (entryFrame m as ml)) : Con l Z y bytes ml ret rm as h0 Q := by
  intro ws
  refine MetFree.of_bodySF pn hisR ?_
  intro p e s m args below meth c s₁ Bd hml hP hK
  obtain ⟨rfl, hZ, hh⟩ := hP
  have X : Stand p l e rm s m args below meth c s₁ [] 0 0 := Stand.of_body Bd
  have e0 : s₁.heap = h0 := by rw [← hh, Bd.state]; rfl
  exact body p e s m below s₁ ⟨meth, c, [], X, Fr.nil _, e0, hE, Bd.exec, Bd.bytes, hml, findClass_of_methodNamed Bd.named, (name_of_methodNamed Bd.named Bd.method).1, Bd.returns, Bd.notSynchronized, hZ⟩
variable {l : Launch} {Z : State} {own nm : String} {bytes : ByteArray} {ml : Nat} {ret : Option FieldType} {R : Room} {p : Program} {e : Env} {s : State} {m : MethodId} {args : Array Value} {below : List Frame} {T : State} {h : Heap} {cells slots : Nat} {Q : Option Value → Heap → Prop} {kc ks : Nat} {pc pc' : Nat} {Ls : Array Slot} {st : List Value} {a0 : Array Value}
theorem End.go {T' : State} {g g' : JFrame} (k : End Z p e below s Q kc ks T' g') (stp : ∀ target, Steps p.tables e below (T'.setTop g') target → Steps p.tables e below (T.setTop g) target) : End Z p e below s Q kc ks T g := by
  obtain ⟨s2, o, h1, h2⟩ := k
  exact ⟨s2, o, stp _ h1, h2⟩
theorem End.frame {g g' : JFrame} (q : g = g') (k : End Z p e below s Q kc ks T g') : End Z p e below s Q kc ks T g := q ▸ k
theorem End.of {Q' : Option Value → Heap → Prop} {g : JFrame} (k : End Z p e below s Q kc ks T g) (q : ∀ v h, Q v h → Q' v h) : End Z p e below s Q' kc ks T g := by
  obtain ⟨s2, o, h1, h2, h3, v, L, h4, ⟨h5, h6, h7⟩, h8⟩ := k
  exact ⟨s2, o, h1, h2, h3, v, L, h4, ⟨h5, h6, q _ _ h7⟩, h8⟩
theorem Con.imp {y : MethodName} {rm : Room} {as : Array Value} {h0 : Heap} {Q' : Option Value → Heap → Prop} (C : Con l Z y bytes ml ret rm as h0 Q) (q : ∀ v h, Q v h → Q' v h) : Con l Z y bytes ml ret rm as h0 Q' := by
  intro ws p e ha hc hk s m args below hf happ hP hK
  obtain ⟨n, o, h1, h2, h3, v, L, h4, ⟨h5, h6, h7⟩, h8⟩ := C ws p e ha hc hk s m args below hf happ hP hK
  exact ⟨n, o, h1, h2, h3, v, L, h4, ⟨h5, h6, q _ _ h7⟩, h8⟩
theorem Sd.ext (X : Sd l Z own nm bytes ml ret R p e s m args below T h cells slots) : Ext Z.heap h := by obtain ⟨meth, c, locs, X, N, e0, E, -⟩ := X; exact E
theorem Sd.le (X : Sd l Z own nm bytes ml ret R p e s m args below T h cells slots) : Z.heap.size ≤ h.size := X.ext.1
theorem Sd.more (X : Sd l Z own nm bytes ml ret R p e s m args below T h cells slots) {cells' slots' : Nat} (h1 : cells ≤ cells') (h2 : slots ≤ slots') : Sd l Z own nm bytes ml ret R p e s m args below T h cells' slots' := by
  obtain ⟨meth, c, locs, X, r⟩ := X; exact ⟨meth, c, locs, X.more h1 h2, r⟩
/-! returns -/
theorem E_ret0 (X : Sd l Z own nm bytes ml none R p e s m args below T h cells slots) (hd : decode bytes pc = .ok (.return_, 1)) (h1 : cells ≤ kc) (h2 : slots ≤ ks) (hq : Q none h) : End Z p e below s Q kc ks T (mkF m pc Ls []) := by
  obtain ⟨meth, c, locs, X, N, e0, E, hx, hb, hml, hown, hnm, hret, hlk, hZ⟩ := X
  subst hb
  obtain ⟨fs, hr, hrun, hended, hW, hsame⟩ := X.leave (v := none) (fun _ => rfl)
  exact ⟨_, _, X.returnOut hx hret hd hr, hrun, hended, _, _, rfl, ⟨N, by show Ext Z.heap T.heap; rw [e0]; exact E, by show Q none T.heap; rw [e0]; exact hq⟩, ⟨_, rfl⟩, hW, hsame.mono h1 h2⟩
theorem E_retW {t : FieldType} {w : Value} {i : Instr} (hn : narrow t w = w) (hi : (i = .ireturn ∧ (t = .int ∨ t = .boolean ∨ t = .byte ∨ t = .char ∨ t = .short) ∧ ∃ z, w = .int z) ∨ (i = .lreturn ∧ t = .long ∧ ∃ z, w = .long z) ∨ (i = .dreturn ∧ t = .double ∧ ∃ z, w = .double z) ∨ (i = .freturn ∧ t = .float ∧ ∃ z, w = .float z) ∨ (i = .areturn ∧ t.isReference = true ∧ w.isRef = true))
    (X : Sd l Z own nm bytes ml (some t) R p e s m args below T h cells slots) (hd : decode bytes pc = .ok (i, 1)) (h1 : cells ≤ kc) (h2 : slots ≤ ks) (hq : Q (some w) h) : End Z p e below s Q kc ks T (mkF m pc Ls (w :: st)) := by
  obtain ⟨meth, c, locs, X, N, e0, E, hx, hb, hml, hown, hnm, hret, hlk, hZ⟩ := X
  subst hb
  obtain ⟨fs, hr, hrun, hended, hW, hsame⟩ := X.leave (v := some w) (fun h => by rw [hret] at h; cases h)
  exact ⟨_, _, retOut X hx hret hn hi hd hr, hrun, hended, _, _, rfl, ⟨N, by show Ext Z.heap T.heap; rw [e0]; exact E, by show Q (some w) T.heap; rw [e0]; exact hq⟩, ⟨_, rfl⟩, hW, hsame.mono h1 h2⟩
theorem E_retI {z : Int32} (X : Sd l Z own nm bytes ml (some .int) R p e s m args below T h cells slots) (hd : decode bytes pc = .ok (.ireturn, 1)) (h1 : cells ≤ kc) (h2 : slots ≤ ks) (hq : Q (some (.int z)) h) : End Z p e below s Q kc ks T (mkF m pc Ls (.int z :: st)) :=
  E_retW (t := .int) rfl (Or.inl ⟨rfl, Or.inl rfl, z, rfl⟩) X hd h1 h2 hq
theorem E_retL {z : Int64} (X : Sd l Z own nm bytes ml (some .long) R p e s m args below T h cells slots) (hd : decode bytes pc = .ok (.lreturn, 1)) (h1 : cells ≤ kc) (h2 : slots ≤ ks) (hq : Q (some (.long z)) h) : End Z p e below s Q kc ks T (mkF m pc Ls (.long z :: st)) :=
  E_retW (t := .long) rfl (Or.inr (Or.inl ⟨rfl, rfl, z, rfl⟩)) X hd h1 h2 hq
theorem E_retA {t : FieldType} {w : Value} (X : Sd l Z own nm bytes ml (some t) R p e s m args below T h cells slots) (hd : decode bytes pc = .ok (.areturn, 1)) (ht : t.isReference = true) (hw : w.isRef = true) (h1 : cells ≤ kc) (h2 : slots ≤ ks) (hq : Q (some w) h) : End Z p e below s Q kc ks T (mkF m pc Ls (w :: st)) :=
  E_retW (by rcases ref_cases hw with rfl | ⟨a, rfl⟩ <;> (cases t <;> first | rfl | (simp [FieldType.isReference] at ht))) (Or.inr (Or.inr (Or.inr (Or.inr ⟨rfl, ht, hw⟩)))) X hd h1 h2 hq
theorem E_retZ {z : Int32} (hz : z = 0 ∨ z = 1) (X : Sd l Z own nm bytes ml (some .boolean) R p e s m args below T h cells slots) (hd : decode bytes pc = .ok (.ireturn, 1)) (h1 : cells ≤ kc) (h2 : slots ≤ ks) (hq : Q (some (.int z)) h) : End Z p e below s Q kc ks T (mkF m pc Ls (.int z :: st)) :=
  E_retW (t := .boolean) (by rcases hz with rfl | rfl <;> rfl) (Or.inl ⟨rfl, Or.inr (Or.inl rfl), z, rfl⟩) X hd h1 h2 hq
theorem E_iloadN (X : Sd l Z own nm bytes ml ret R p e s m args below T h cells slots) {i : Fin 4} {v : Int32} (hd : decode bytes pc = .ok (.iload_n i, 1)) (hp : pc + 1 = pc') (hl : Ls[i.val]? = some (.val (.int v))) (k : End Z p e below s Q kc ks T (mkF m pc' Ls (.int v :: st))) : End Z p e below s Q kc ks T (mkF m pc Ls st) := by
  subst hp; obtain ⟨meth, c, locs, X, -, -, -, hx, hb, -⟩ := X; subst hb
  exact k.go fun _ => XS.iloadN X.here hx (g := mkF m pc Ls st) rfl hd hl
theorem E_iload (X : Sd l Z own nm bytes ml ret R p e s m args below T h cells slots) {i : Nat} {v : Int32} (hd : decode bytes pc = .ok (.iload i, 2)) (hp : pc + 2 = pc') (hl : Ls[i]? = some (.val (.int v))) (k : End Z p e below s Q kc ks T (mkF m pc' Ls (.int v :: st))) : End Z p e below s Q kc ks T (mkF m pc Ls st) := by
  subst hp; obtain ⟨meth, c, locs, X, -, -, -, hx, hb, -⟩ := X; subst hb
  exact k.go fun _ => XS.iload X.here hx (g := mkF m pc Ls st) rfl hd hl
theorem E_istoreN (X : Sd l Z own nm bytes ml ret R p e s m args below T h cells slots) {i : Fin 4} {v : Int32} {Ls' : Array Slot} (hd : decode bytes pc = .ok (.istore_n i, 1)) (hp : pc + 1 = pc') (hl : storeLocals Ls i.val (.int v) = some Ls') (k : End Z p e below s Q kc ks T (mkF m pc' Ls' st)) : End Z p e below s Q kc ks T (mkF m pc Ls (.int v :: st)) := by
  subst hp; obtain ⟨meth, c, locs, X, -, -, -, hx, hb, -⟩ := X; subst hb
  exact k.go fun _ => XS.istoreN X.here hx (g := mkF m pc Ls (.int v :: st)) rfl hd rfl hl
theorem E_istore (X : Sd l Z own nm bytes ml ret R p e s m args below T h cells slots) {i : Nat} {v : Int32} {Ls' : Array Slot} (hd : decode bytes pc = .ok (.istore i, 2)) (hp : pc + 2 = pc') (hl : storeLocals Ls i (.int v) = some Ls') (k : End Z p e below s Q kc ks T (mkF m pc' Ls' st)) : End Z p e below s Q kc ks T (mkF m pc Ls (.int v :: st)) := by
  subst hp; obtain ⟨meth, c, locs, X, -, -, -, hx, hb, -⟩ := X; subst hb
  exact k.go fun _ => XS.istore X.here hx (g := mkF m pc Ls (.int v :: st)) rfl hd rfl hl
theorem E_lloadN (X : Sd l Z own nm bytes ml ret R p e s m args below T h cells slots) {i : Fin 4} {v : Int64} (hd : decode bytes pc = .ok (.lload_n i, 1)) (hp : pc + 1 = pc') (hl : Ls[i.val]? = some (.val (.long v))) (k : End Z p e below s Q kc ks T (mkF m pc' Ls (.long v :: st))) : End Z p e below s Q kc ks T (mkF m pc Ls st) := by
  subst hp; obtain ⟨meth, c, locs, X, -, -, -, hx, hb, -⟩ := X; subst hb
  exact k.go fun _ => XS.lloadN X.here hx (g := mkF m pc Ls st) rfl hd hl
theorem E_lload (X : Sd l Z own nm bytes ml ret R p e s m args below T h cells slots) {i : Nat} {v : Int64} (hd : decode bytes pc = .ok (.lload i, 2)) (hp : pc + 2 = pc') (hl : Ls[i]? = some (.val (.long v))) (k : End Z p e below s Q kc ks T (mkF m pc' Ls (.long v :: st))) : End Z p e below s Q kc ks T (mkF m pc Ls st) := by
  subst hp; obtain ⟨meth, c, locs, X, -, -, -, hx, hb, -⟩ := X; subst hb
  exact k.go fun _ => XS.lload X.here hx (g := mkF m pc Ls st) rfl hd hl
theorem E_lstoreN (X : Sd l Z own nm bytes ml ret R p e s m args below T h cells slots) {i : Fin 4} {v : Int64} {Ls' : Array Slot} (hd : decode bytes pc = .ok (.lstore_n i, 1)) (hp : pc + 1 = pc') (hl : storeLocals Ls i.val (.long v) = some Ls') (k : End Z p e below s Q kc ks T (mkF m pc' Ls' st)) : End Z p e below s Q kc ks T (mkF m pc Ls (.long v :: st)) := by
  subst hp; obtain ⟨meth, c, locs, X, -, -, -, hx, hb, -⟩ := X; subst hb
  exact k.go fun _ => XS.lstoreN X.here hx (g := mkF m pc Ls (.long v :: st)) rfl hd rfl hl
theorem E_lstore (X : Sd l Z own nm bytes ml ret R p e s m args below T h cells slots) {i : Nat} {v : Int64} {Ls' : Array Slot} (hd : decode bytes pc = .ok (.lstore i, 2)) (hp : pc + 2 = pc') (hl : storeLocals Ls i (.long v) = some Ls') (k : End Z p e below s Q kc ks T (mkF m pc' Ls' st)) : End Z p e below s Q kc ks T (mkF m pc Ls (.long v :: st)) := by
  subst hp; obtain ⟨meth, c, locs, X, -, -, -, hx, hb, -⟩ := X; subst hb
  exact k.go fun _ => XS.lstore X.here hx (g := mkF m pc Ls (.long v :: st)) rfl hd rfl hl
theorem E_aloadN (X : Sd l Z own nm bytes ml ret R p e s m args below T h cells slots) {i : Fin 4} {v : Value} (hd : decode bytes pc = .ok (.aload_n i, 1)) (hp : pc + 1 = pc') (hl : Ls[i.val]? = some (.val v)) (hv : v.isRef = true) (k : End Z p e below s Q kc ks T (mkF m pc' Ls (v :: st))) : End Z p e below s Q kc ks T (mkF m pc Ls st) := by
  subst hp; obtain ⟨meth, c, locs, X, -, -, -, hx, hb, -⟩ := X; subst hb
  exact k.go fun _ => XS.aloadN X.here hx (g := mkF m pc Ls st) rfl hd hl hv
theorem E_aload (X : Sd l Z own nm bytes ml ret R p e s m args below T h cells slots) {i : Nat} {v : Value} (hd : decode bytes pc = .ok (.aload i, 2)) (hp : pc + 2 = pc') (hl : Ls[i]? = some (.val v)) (hv : v.isRef = true) (k : End Z p e below s Q kc ks T (mkF m pc' Ls (v :: st))) : End Z p e below s Q kc ks T (mkF m pc Ls st) := by
  subst hp; obtain ⟨meth, c, locs, X, -, -, -, hx, hb, -⟩ := X; subst hb
  exact k.go fun _ => XS.aload X.here hx (g := mkF m pc Ls st) rfl hd hl hv
theorem E_astoreN (X : Sd l Z own nm bytes ml ret R p e s m args below T h cells slots) {i : Fin 4} {v : Value} {Ls' : Array Slot} (hd : decode bytes pc = .ok (.astore_n i, 1)) (hp : pc + 1 = pc') (hv : v.isRef = true) (hl : storeLocals Ls i.val v = some Ls') (k : End Z p e below s Q kc ks T (mkF m pc' Ls' st)) : End Z p e below s Q kc ks T (mkF m pc Ls (v :: st)) := by
  subst hp; obtain ⟨meth, c, locs, X, -, -, -, hx, hb, -⟩ := X; subst hb
  exact k.go fun _ => XS.astoreN X.here hx (g := mkF m pc Ls (v :: st)) rfl hd rfl hv hl
theorem E_astore (X : Sd l Z own nm bytes ml ret R p e s m args below T h cells slots) {i : Nat} {v : Value} {Ls' : Array Slot} (hd : decode bytes pc = .ok (.astore i, 2)) (hp : pc + 2 = pc') (hv : v.isRef = true) (hl : storeLocals Ls i v = some Ls') (k : End Z p e below s Q kc ks T (mkF m pc' Ls' st)) : End Z p e below s Q kc ks T (mkF m pc Ls (v :: st)) := by
  subst hp; obtain ⟨meth, c, locs, X, -, -, -, hx, hb, -⟩ := X; subst hb
  exact k.go fun _ => XS.astore X.here hx (g := mkF m pc Ls (v :: st)) rfl hd rfl hv hl
theorem E_iconst (X : Sd l Z own nm bytes ml ret R p e s m args below T h cells slots) {i : Int} {v : Int32} (hd : decode bytes pc = .ok (.iconst i, 1)) (hp : pc + 1 = pc') (hv : Int32.ofInt i = v) (k : End Z p e below s Q kc ks T (mkF m pc' Ls (.int v :: st))) : End Z p e below s Q kc ks T (mkF m pc Ls st) := by
  subst hp; obtain ⟨meth, c, locs, X, -, -, -, hx, hb, -⟩ := X; subst hb
  exact k.go fun _ => by subst hv; exact XS.iconst X.here hx (g := mkF m pc Ls st) rfl hd
theorem E_bipush (X : Sd l Z own nm bytes ml ret R p e s m args below T h cells slots) {i : Int} {v : Int32} (hd : decode bytes pc = .ok (.bipush i, 2)) (hp : pc + 2 = pc') (hv : (Int8.ofInt i).toInt32 = v) (k : End Z p e below s Q kc ks T (mkF m pc' Ls (.int v :: st))) : End Z p e below s Q kc ks T (mkF m pc Ls st) := by
  subst hp; obtain ⟨meth, c, locs, X, -, -, -, hx, hb, -⟩ := X; subst hb
  exact k.go fun _ => by subst hv; exact XS.bipush X.here hx (g := mkF m pc Ls st) rfl hd
theorem E_sipush (X : Sd l Z own nm bytes ml ret R p e s m args below T h cells slots) {i : Int} {v : Int32} (hd : decode bytes pc = .ok (.sipush i, 3)) (hp : pc + 3 = pc') (hv : (Int16.ofInt i).toInt32 = v) (k : End Z p e below s Q kc ks T (mkF m pc' Ls (.int v :: st))) : End Z p e below s Q kc ks T (mkF m pc Ls st) := by
  subst hp; obtain ⟨meth, c, locs, X, -, -, -, hx, hb, -⟩ := X; subst hb
  exact k.go fun _ => by subst hv; exact XS.sipush X.here hx (g := mkF m pc Ls st) rfl hd
theorem E_lconst (X : Sd l Z own nm bytes ml ret R p e s m args below T h cells slots) {i : Fin 2} {v : Int64} (hd : decode bytes pc = .ok (.lconst i, 1)) (hp : pc + 1 = pc') (hv : Int64.ofNat i = v) (k : End Z p e below s Q kc ks T (mkF m pc' Ls (.long v :: st))) : End Z p e below s Q kc ks T (mkF m pc Ls st) := by
  subst hp; obtain ⟨meth, c, locs, X, -, -, -, hx, hb, -⟩ := X; subst hb
  exact k.go fun _ => by subst hv; exact XS.lconst X.here hx (g := mkF m pc Ls st) rfl hd
theorem E_null (X : Sd l Z own nm bytes ml ret R p e s m args below T h cells slots)  (hd : decode bytes pc = .ok (.aconst_null, 1)) (hp : pc + 1 = pc') (k : End Z p e below s Q kc ks T (mkF m pc' Ls (.null :: st))) : End Z p e below s Q kc ks T (mkF m pc Ls st) := by
  subst hp; obtain ⟨meth, c, locs, X, -, -, -, hx, hb, -⟩ := X; subst hb
  exact k.go fun _ => XS.aconstNull X.here hx (g := mkF m pc Ls st) rfl hd
theorem E_iadd (X : Sd l Z own nm bytes ml ret R p e s m args below T h cells slots) {x y : Int32} (hd : decode bytes pc = .ok (.iadd, 1)) (hp : pc + 1 = pc') (k : End Z p e below s Q kc ks T (mkF m pc' Ls (.int (x + y) :: st))) : End Z p e below s Q kc ks T (mkF m pc Ls (.int y :: .int x :: st)) := by
  subst hp; obtain ⟨meth, c, locs, X, -, -, -, hx, hb, -⟩ := X; subst hb
  exact k.go fun _ => XS.iadd X.here hx (g := mkF m pc Ls (.int y :: .int x :: st)) rfl hd rfl
theorem E_isub (X : Sd l Z own nm bytes ml ret R p e s m args below T h cells slots) {x y : Int32} (hd : decode bytes pc = .ok (.isub, 1)) (hp : pc + 1 = pc') (k : End Z p e below s Q kc ks T (mkF m pc' Ls (.int (x - y) :: st))) : End Z p e below s Q kc ks T (mkF m pc Ls (.int y :: .int x :: st)) := by
  subst hp; obtain ⟨meth, c, locs, X, -, -, -, hx, hb, -⟩ := X; subst hb
  exact k.go fun _ => XS.isub X.here hx (g := mkF m pc Ls (.int y :: .int x :: st)) rfl hd rfl
theorem E_imul (X : Sd l Z own nm bytes ml ret R p e s m args below T h cells slots) {x y : Int32} (hd : decode bytes pc = .ok (.imul, 1)) (hp : pc + 1 = pc') (k : End Z p e below s Q kc ks T (mkF m pc' Ls (.int (x * y) :: st))) : End Z p e below s Q kc ks T (mkF m pc Ls (.int y :: .int x :: st)) := by
  subst hp; obtain ⟨meth, c, locs, X, -, -, -, hx, hb, -⟩ := X; subst hb
  exact k.go fun _ => XS.imul X.here hx (g := mkF m pc Ls (.int y :: .int x :: st)) rfl hd rfl
theorem E_iand (X : Sd l Z own nm bytes ml ret R p e s m args below T h cells slots) {x y : Int32} (hd : decode bytes pc = .ok (.iand, 1)) (hp : pc + 1 = pc') (k : End Z p e below s Q kc ks T (mkF m pc' Ls (.int (x &&& y) :: st))) : End Z p e below s Q kc ks T (mkF m pc Ls (.int y :: .int x :: st)) := by
  subst hp; obtain ⟨meth, c, locs, X, -, -, -, hx, hb, -⟩ := X; subst hb
  exact k.go fun _ => XS.iand X.here hx (g := mkF m pc Ls (.int y :: .int x :: st)) rfl hd rfl
theorem E_ior (X : Sd l Z own nm bytes ml ret R p e s m args below T h cells slots) {x y : Int32} (hd : decode bytes pc = .ok (.ior, 1)) (hp : pc + 1 = pc') (k : End Z p e below s Q kc ks T (mkF m pc' Ls (.int (x ||| y) :: st))) : End Z p e below s Q kc ks T (mkF m pc Ls (.int y :: .int x :: st)) := by
  subst hp; obtain ⟨meth, c, locs, X, -, -, -, hx, hb, -⟩ := X; subst hb
  exact k.go fun _ => XS.ior X.here hx (g := mkF m pc Ls (.int y :: .int x :: st)) rfl hd rfl
theorem E_ixor (X : Sd l Z own nm bytes ml ret R p e s m args below T h cells slots) {x y : Int32} (hd : decode bytes pc = .ok (.ixor, 1)) (hp : pc + 1 = pc') (k : End Z p e below s Q kc ks T (mkF m pc' Ls (.int (x ^^^ y) :: st))) : End Z p e below s Q kc ks T (mkF m pc Ls (.int y :: .int x :: st)) := by
  subst hp; obtain ⟨meth, c, locs, X, -, -, -, hx, hb, -⟩ := X; subst hb
  exact k.go fun _ => XS.ixor X.here hx (g := mkF m pc Ls (.int y :: .int x :: st)) rfl hd rfl
theorem E_idiv (X : Sd l Z own nm bytes ml ret R p e s m args below T h cells slots) {x y : Int32} (hd : decode bytes pc = .ok (.idiv, 1)) (hp : pc + 1 = pc') (hy : y ≠ 0) (k : End Z p e below s Q kc ks T (mkF m pc' Ls (.int (x / y) :: st))) : End Z p e below s Q kc ks T (mkF m pc Ls (.int y :: .int x :: st)) := by
  subst hp; obtain ⟨meth, c, locs, X, -, -, -, hx, hb, -⟩ := X; subst hb
  exact k.go fun _ => XS.idiv X.here hx (g := mkF m pc Ls (.int y :: .int x :: st)) rfl hd rfl hy
theorem E_ineg (X : Sd l Z own nm bytes ml ret R p e s m args below T h cells slots) {x : Int32} (hd : decode bytes pc = .ok (.ineg, 1)) (hp : pc + 1 = pc') (k : End Z p e below s Q kc ks T (mkF m pc' Ls (.int (-x) :: st))) : End Z p e below s Q kc ks T (mkF m pc Ls (.int x :: st)) := by
  subst hp; obtain ⟨meth, c, locs, X, -, -, -, hx, hb, -⟩ := X; subst hb
  exact k.go fun _ => XS.ineg X.here hx (g := mkF m pc Ls (.int x :: st)) rfl hd rfl
theorem E_ladd (X : Sd l Z own nm bytes ml ret R p e s m args below T h cells slots) {x y : Int64} (hd : decode bytes pc = .ok (.ladd, 1)) (hp : pc + 1 = pc') (k : End Z p e below s Q kc ks T (mkF m pc' Ls (.long (x + y) :: st))) : End Z p e below s Q kc ks T (mkF m pc Ls (.long y :: .long x :: st)) := by
  subst hp; obtain ⟨meth, c, locs, X, -, -, -, hx, hb, -⟩ := X; subst hb
  exact k.go fun _ => XS.ladd X.here hx (g := mkF m pc Ls (.long y :: .long x :: st)) rfl hd rfl
theorem E_lsub (X : Sd l Z own nm bytes ml ret R p e s m args below T h cells slots) {x y : Int64} (hd : decode bytes pc = .ok (.lsub, 1)) (hp : pc + 1 = pc') (k : End Z p e below s Q kc ks T (mkF m pc' Ls (.long (x - y) :: st))) : End Z p e below s Q kc ks T (mkF m pc Ls (.long y :: .long x :: st)) := by
  subst hp; obtain ⟨meth, c, locs, X, -, -, -, hx, hb, -⟩ := X; subst hb
  exact k.go fun _ => XS.lsub X.here hx (g := mkF m pc Ls (.long y :: .long x :: st)) rfl hd rfl
theorem E_lmul (X : Sd l Z own nm bytes ml ret R p e s m args below T h cells slots) {x y : Int64} (hd : decode bytes pc = .ok (.lmul, 1)) (hp : pc + 1 = pc') (k : End Z p e below s Q kc ks T (mkF m pc' Ls (.long (x * y) :: st))) : End Z p e below s Q kc ks T (mkF m pc Ls (.long y :: .long x :: st)) := by
  subst hp; obtain ⟨meth, c, locs, X, -, -, -, hx, hb, -⟩ := X; subst hb
  exact k.go fun _ => XS.lmul X.here hx (g := mkF m pc Ls (.long y :: .long x :: st)) rfl hd rfl
theorem E_land (X : Sd l Z own nm bytes ml ret R p e s m args below T h cells slots) {x y : Int64} (hd : decode bytes pc = .ok (.land, 1)) (hp : pc + 1 = pc') (k : End Z p e below s Q kc ks T (mkF m pc' Ls (.long (x &&& y) :: st))) : End Z p e below s Q kc ks T (mkF m pc Ls (.long y :: .long x :: st)) := by
  subst hp; obtain ⟨meth, c, locs, X, -, -, -, hx, hb, -⟩ := X; subst hb
  exact k.go fun _ => XS.land X.here hx (g := mkF m pc Ls (.long y :: .long x :: st)) rfl hd rfl
theorem E_lor (X : Sd l Z own nm bytes ml ret R p e s m args below T h cells slots) {x y : Int64} (hd : decode bytes pc = .ok (.lor, 1)) (hp : pc + 1 = pc') (k : End Z p e below s Q kc ks T (mkF m pc' Ls (.long (x ||| y) :: st))) : End Z p e below s Q kc ks T (mkF m pc Ls (.long y :: .long x :: st)) := by
  subst hp; obtain ⟨meth, c, locs, X, -, -, -, hx, hb, -⟩ := X; subst hb
  exact k.go fun _ => XS.lor X.here hx (g := mkF m pc Ls (.long y :: .long x :: st)) rfl hd rfl
theorem E_lxor (X : Sd l Z own nm bytes ml ret R p e s m args below T h cells slots) {x y : Int64} (hd : decode bytes pc = .ok (.lxor, 1)) (hp : pc + 1 = pc') (k : End Z p e below s Q kc ks T (mkF m pc' Ls (.long (x ^^^ y) :: st))) : End Z p e below s Q kc ks T (mkF m pc Ls (.long y :: .long x :: st)) := by
  subst hp; obtain ⟨meth, c, locs, X, -, -, -, hx, hb, -⟩ := X; subst hb
  exact k.go fun _ => XS.lxor X.here hx (g := mkF m pc Ls (.long y :: .long x :: st)) rfl hd rfl
theorem E_ldiv (X : Sd l Z own nm bytes ml ret R p e s m args below T h cells slots) {x y : Int64} (hd : decode bytes pc = .ok (.ldiv, 1)) (hp : pc + 1 = pc') (hy : y ≠ 0) (k : End Z p e below s Q kc ks T (mkF m pc' Ls (.long (x / y) :: st))) : End Z p e below s Q kc ks T (mkF m pc Ls (.long y :: .long x :: st)) := by
  subst hp; obtain ⟨meth, c, locs, X, -, -, -, hx, hb, -⟩ := X; subst hb
  exact k.go fun _ => XS.ldiv X.here hx (g := mkF m pc Ls (.long y :: .long x :: st)) rfl hd rfl hy
theorem E_lneg (X : Sd l Z own nm bytes ml ret R p e s m args below T h cells slots) {x : Int64} (hd : decode bytes pc = .ok (.lneg, 1)) (hp : pc + 1 = pc') (k : End Z p e below s Q kc ks T (mkF m pc' Ls (.long (-x) :: st))) : End Z p e below s Q kc ks T (mkF m pc Ls (.long x :: st)) := by
  subst hp; obtain ⟨meth, c, locs, X, -, -, -, hx, hb, -⟩ := X; subst hb
  exact k.go fun _ => XS.lneg X.here hx (g := mkF m pc Ls (.long x :: st)) rfl hd rfl
theorem E_irem (X : Sd l Z own nm bytes ml ret R p e s m args below T h cells slots) {x y : Int32} (hd : decode bytes pc = .ok (.irem, 1)) (hp : pc + 1 = pc') (hy : y ≠ 0) (k : End Z p e below s Q kc ks T (mkF m pc' Ls (.int (x % y) :: st))) : End Z p e below s Q kc ks T (mkF m pc Ls (.int y :: .int x :: st)) := by
  subst hp; obtain ⟨meth, c, locs, X, -, -, -, hx, hb, -⟩ := X; subst hb
  exact k.go fun _ => iremM X hx (g := mkF m pc Ls (.int y :: .int x :: st)) rfl hd rfl hy
theorem E_lrem (X : Sd l Z own nm bytes ml ret R p e s m args below T h cells slots) {x y : Int64} (hd : decode bytes pc = .ok (.lrem, 1)) (hp : pc + 1 = pc') (hy : y ≠ 0) (k : End Z p e below s Q kc ks T (mkF m pc' Ls (.long (x % y) :: st))) : End Z p e below s Q kc ks T (mkF m pc Ls (.long y :: .long x :: st)) := by
  subst hp; obtain ⟨meth, c, locs, X, -, -, -, hx, hb, -⟩ := X; subst hb
  exact k.go fun _ => fun hr => XS.lrem X.here hx (g := mkF m pc Ls (.long y :: .long x :: st)) rfl hd rfl hy (by rw [lrem_mod x y]; exact hr)
theorem E_ishl (X : Sd l Z own nm bytes ml ret R p e s m args below T h cells slots) {x y : Int32} (hd : decode bytes pc = .ok (.ishl, 1)) (hp : pc + 1 = pc') (k : End Z p e below s Q kc ks T (mkF m pc' Ls (.int (x <<< (y &&& 31)) :: st))) : End Z p e below s Q kc ks T (mkF m pc Ls (.int y :: .int x :: st)) := by
  subst hp; obtain ⟨meth, c, locs, X, -, -, -, hx, hb, -⟩ := X; subst hb
  exact k.go fun _ => XS.ishl X.here hx (g := mkF m pc Ls (.int y :: .int x :: st)) rfl hd rfl
theorem E_ishr (X : Sd l Z own nm bytes ml ret R p e s m args below T h cells slots) {x y : Int32} (hd : decode bytes pc = .ok (.ishr, 1)) (hp : pc + 1 = pc') (k : End Z p e below s Q kc ks T (mkF m pc' Ls (.int (x >>> (y &&& 31)) :: st))) : End Z p e below s Q kc ks T (mkF m pc Ls (.int y :: .int x :: st)) := by
  subst hp; obtain ⟨meth, c, locs, X, -, -, -, hx, hb, -⟩ := X; subst hb
  exact k.go fun _ => XS.ishr X.here hx (g := mkF m pc Ls (.int y :: .int x :: st)) rfl hd rfl
theorem E_iushr (X : Sd l Z own nm bytes ml ret R p e s m args below T h cells slots) {x y : Int32} (hd : decode bytes pc = .ok (.iushr, 1)) (hp : pc + 1 = pc') (k : End Z p e below s Q kc ks T (mkF m pc' Ls (.int ((x.toUInt32 >>> (y &&& 31).toUInt32).toInt32) :: st))) : End Z p e below s Q kc ks T (mkF m pc Ls (.int y :: .int x :: st)) := by
  subst hp; obtain ⟨meth, c, locs, X, -, -, -, hx, hb, -⟩ := X; subst hb
  exact k.go fun _ => XS.iushr X.here hx (g := mkF m pc Ls (.int y :: .int x :: st)) rfl hd rfl
theorem E_lshl (X : Sd l Z own nm bytes ml ret R p e s m args below T h cells slots) {x : Int64} {y : Int32} (hd : decode bytes pc = .ok (.lshl, 1)) (hp : pc + 1 = pc') (k : End Z p e below s Q kc ks T (mkF m pc' Ls (.long (x <<< (y &&& 0x3f).toInt64) :: st))) : End Z p e below s Q kc ks T (mkF m pc Ls (.int y :: .long x :: st)) := by
  subst hp; obtain ⟨meth, c, locs, X, -, -, -, hx, hb, -⟩ := X; subst hb
  exact k.go fun _ => XS.lshl X.here hx (g := mkF m pc Ls (.int y :: .long x :: st)) rfl hd rfl
theorem E_lshr (X : Sd l Z own nm bytes ml ret R p e s m args below T h cells slots) {x : Int64} {y : Int32} (hd : decode bytes pc = .ok (.lshr, 1)) (hp : pc + 1 = pc') (k : End Z p e below s Q kc ks T (mkF m pc' Ls (.long (x >>> (y &&& 0x3f).toInt64) :: st))) : End Z p e below s Q kc ks T (mkF m pc Ls (.int y :: .long x :: st)) := by
  subst hp; obtain ⟨meth, c, locs, X, -, -, -, hx, hb, -⟩ := X; subst hb
  exact k.go fun _ => XS.lshr X.here hx (g := mkF m pc Ls (.int y :: .long x :: st)) rfl hd rfl
theorem E_lushr (X : Sd l Z own nm bytes ml ret R p e s m args below T h cells slots) {x : Int64} {y : Int32} (hd : decode bytes pc = .ok (.lushr, 1)) (hp : pc + 1 = pc') (k : End Z p e below s Q kc ks T (mkF m pc' Ls (.long ((x.toUInt64 >>> (y &&& 0x3f).toInt64.toUInt64).toInt64) :: st))) : End Z p e below s Q kc ks T (mkF m pc Ls (.int y :: .long x :: st)) := by
  subst hp; obtain ⟨meth, c, locs, X, -, -, -, hx, hb, -⟩ := X; subst hb
  exact k.go fun _ => XS.lushr X.here hx (g := mkF m pc Ls (.int y :: .long x :: st)) rfl hd rfl
theorem E_i2l (X : Sd l Z own nm bytes ml ret R p e s m args below T h cells slots) {x : Int32} (hd : decode bytes pc = .ok (.i2l, 1)) (hp : pc + 1 = pc') (k : End Z p e below s Q kc ks T (mkF m pc' Ls (.long (x.toInt64) :: st))) : End Z p e below s Q kc ks T (mkF m pc Ls (.int x :: st)) := by
  subst hp; obtain ⟨meth, c, locs, X, -, -, -, hx, hb, -⟩ := X; subst hb
  exact k.go fun _ => XS.i2l X.here hx (g := mkF m pc Ls (.int x :: st)) rfl hd rfl
theorem E_l2i (X : Sd l Z own nm bytes ml ret R p e s m args below T h cells slots) {x : Int64} (hd : decode bytes pc = .ok (.l2i, 1)) (hp : pc + 1 = pc') (k : End Z p e below s Q kc ks T (mkF m pc' Ls (.int (x.toInt32) :: st))) : End Z p e below s Q kc ks T (mkF m pc Ls (.long x :: st)) := by
  subst hp; obtain ⟨meth, c, locs, X, -, -, -, hx, hb, -⟩ := X; subst hb
  exact k.go fun _ => XS.l2i X.here hx (g := mkF m pc Ls (.long x :: st)) rfl hd rfl
theorem E_i2b (X : Sd l Z own nm bytes ml ret R p e s m args below T h cells slots) {x : Int32} (hd : decode bytes pc = .ok (.i2b, 1)) (hp : pc + 1 = pc') (k : End Z p e below s Q kc ks T (mkF m pc' Ls (.int (x.toInt8.toInt32) :: st))) : End Z p e below s Q kc ks T (mkF m pc Ls (.int x :: st)) := by
  subst hp; obtain ⟨meth, c, locs, X, -, -, -, hx, hb, -⟩ := X; subst hb
  exact k.go fun _ => XS.i2b X.here hx (g := mkF m pc Ls (.int x :: st)) rfl hd rfl
theorem E_i2c (X : Sd l Z own nm bytes ml ret R p e s m args below T h cells slots) {x : Int32} (hd : decode bytes pc = .ok (.i2c, 1)) (hp : pc + 1 = pc') (k : End Z p e below s Q kc ks T (mkF m pc' Ls (.int (x.toUInt32.toUInt16.toUInt32.toInt32) :: st))) : End Z p e below s Q kc ks T (mkF m pc Ls (.int x :: st)) := by
  subst hp; obtain ⟨meth, c, locs, X, -, -, -, hx, hb, -⟩ := X; subst hb
  exact k.go fun _ => XS.i2c X.here hx (g := mkF m pc Ls (.int x :: st)) rfl hd rfl
theorem E_i2s (X : Sd l Z own nm bytes ml ret R p e s m args below T h cells slots) {x : Int32} (hd : decode bytes pc = .ok (.i2s, 1)) (hp : pc + 1 = pc') (k : End Z p e below s Q kc ks T (mkF m pc' Ls (.int (x.toInt16.toInt32) :: st))) : End Z p e below s Q kc ks T (mkF m pc Ls (.int x :: st)) := by
  subst hp; obtain ⟨meth, c, locs, X, -, -, -, hx, hb, -⟩ := X; subst hb
  exact k.go fun _ => XS.i2s X.here hx (g := mkF m pc Ls (.int x :: st)) rfl hd rfl
theorem E_lcmp (X : Sd l Z own nm bytes ml ret R p e s m args below T h cells slots) {x y : Int64} (hd : decode bytes pc = .ok (.lcmp, 1)) (hp : pc + 1 = pc') (k : End Z p e below s Q kc ks T (mkF m pc' Ls (.int (lcmpW x y) :: st))) : End Z p e below s Q kc ks T (mkF m pc Ls (.long y :: .long x :: st)) := by
  subst hp; obtain ⟨meth, c, locs, X, -, -, -, hx, hb, -⟩ := X; subst hb
  exact k.go fun _ => XS.lcmp X.here hx (g := mkF m pc Ls (.long y :: .long x :: st)) rfl hd rfl
theorem E_iinc (X : Sd l Z own nm bytes ml ret R p e s m args below T h cells slots) {i : Nat} {cst : Int} {x z : Int32} {Ls' : Array Slot} (hd : decode bytes pc = .ok (.iinc i cst, 3)) (hp : pc + 3 = pc') (hl : Ls[i]? = some (.val (.int x))) (hz : x + Int32.ofInt cst = z) (hl' : storeLocals Ls i (.int z) = some Ls') (k : End Z p e below s Q kc ks T (mkF m pc' Ls' st)) : End Z p e below s Q kc ks T (mkF m pc Ls st) := by
  subst hp; obtain ⟨meth, c, locs, X, -, -, -, hx, hb, -⟩ := X; subst hb
  exact k.go fun _ => by subst hz; exact XS.iinc X.here hx (g := mkF m pc Ls st) rfl hd hl hl'
theorem E_dup (X : Sd l Z own nm bytes ml ret R p e s m args below T h cells slots) {v : Value} (hd : decode bytes pc = .ok (.dup, 1)) (hp : pc + 1 = pc') (hc : v.category = 1) (k : End Z p e below s Q kc ks T (mkF m pc' Ls (v :: v :: st))) : End Z p e below s Q kc ks T (mkF m pc Ls (v :: st)) := by
  subst hp; obtain ⟨meth, c, locs, X, -, -, -, hx, hb, -⟩ := X; subst hb
  exact k.go fun _ => XS.dup X.here hx (g := mkF m pc Ls (v :: st)) rfl hd rfl hc
theorem E_pop (X : Sd l Z own nm bytes ml ret R p e s m args below T h cells slots) {v : Value} (hd : decode bytes pc = .ok (.pop, 1)) (hp : pc + 1 = pc') (hc : v.category = 1) (k : End Z p e below s Q kc ks T (mkF m pc' Ls st)) : End Z p e below s Q kc ks T (mkF m pc Ls (v :: st)) := by
  subst hp; obtain ⟨meth, c, locs, X, -, -, -, hx, hb, -⟩ := X; subst hb
  exact k.go fun _ => XS.pop X.here hx (g := mkF m pc Ls (v :: st)) rfl hd rfl hc
theorem E_dup_x1 (X : Sd l Z own nm bytes ml ret R p e s m args below T h cells slots) {v w : Value} (hd : decode bytes pc = .ok (.dup_x1, 1)) (hp : pc + 1 = pc') (hc : v.category = 1) (hc' : w.category = 1) (k : End Z p e below s Q kc ks T (mkF m pc' Ls (v :: w :: v :: st))) : End Z p e below s Q kc ks T (mkF m pc Ls (v :: w :: st)) := by
  subst hp; obtain ⟨meth, c, locs, X, -, -, -, hx, hb, -⟩ := X; subst hb
  exact k.go fun _ => XS.dupX1 X.here hx (g := mkF m pc Ls (v :: w :: st)) rfl hd rfl hc hc'
theorem E_dup2 (X : Sd l Z own nm bytes ml ret R p e s m args below T h cells slots) {v w : Value} (hd : decode bytes pc = .ok (.dup2, 1)) (hp : pc + 1 = pc') (hc : v.category = 1) (hc' : w.category = 1) (k : End Z p e below s Q kc ks T (mkF m pc' Ls (v :: w :: v :: w :: st))) : End Z p e below s Q kc ks T (mkF m pc Ls (v :: w :: st)) := by
  subst hp; obtain ⟨meth, c, locs, X, -, -, -, hx, hb, -⟩ := X; subst hb
  exact k.go fun _ => XT.dup2 X.here hx (g := mkF m pc Ls (v :: w :: st)) rfl hd rfl hc hc'
theorem E_dup2L (X : Sd l Z own nm bytes ml ret R p e s m args below T h cells slots) {x : Int64} (hd : decode bytes pc = .ok (.dup2, 1)) (hp : pc + 1 = pc') (k : End Z p e below s Q kc ks T (mkF m pc' Ls (.long x :: .long x :: st))) : End Z p e below s Q kc ks T (mkF m pc Ls (.long x :: st)) := by
  subst hp; obtain ⟨meth, c, locs, X, -, -, -, hx, hb, -⟩ := X; subst hb
  exact k.go fun _ => XT.dup2L X.here hx (g := mkF m pc Ls (.long x :: st)) rfl hd rfl
theorem E_goto (X : Sd l Z own nm bytes ml ret R p e s m args below T h cells slots) {o : Int} (hd : decode bytes pc = .ok (.goto o, 3)) (ho : 0 ≤ (pc : Int) + o) (hp : ((pc : Int) + o).toNat = pc') (k : End Z p e below s Q kc ks T (mkF m pc' Ls st)) : End Z p e below s Q kc ks T (mkF m pc Ls st) := by
  obtain ⟨meth, c, locs, X, -, -, -, hx, hb, -⟩ := X; subst hb
  exact k.go fun _ => XS.goto X.here hx (g := mkF m pc Ls st) rfl rfl hd ho hp
theorem E_if (X : Sd l Z own nm bytes ml ret R p e s m args below T h cells slots) {cd : ClassFile.Cond} {o : Int} {x : Int32} {P : Prop} [Decidable P] (hP : ifCond.holds cd x = decide P) (hd : decode bytes pc = .ok (.ifCond cd o, 3)) {pcY pcN : Nat} (ho : 0 ≤ (pc : Int) + o) (hY : ((pc : Int) + o).toNat = pcY) (hN : pc + 3 = pcN)
    (kY : P → End Z p e below s Q kc ks T (mkF m pcY Ls st)) (kN : ¬ P → End Z p e below s Q kc ks T (mkF m pcN Ls st)) : End Z p e below s Q kc ks T (mkF m pc Ls (.int x :: st)) := by
  obtain ⟨meth, c, locs, X, -, -, -, hx, hb, -⟩ := X; subst hb hN
  by_cases q : P
  · exact (kY q).go fun _ => XS.ifYes X.here hx (g := mkF m pc Ls (.int x :: st)) rfl rfl hd rfl (by rw [hP]; simp [q]) ho hY
  · exact (kN q).go fun _ => XS.ifNo X.here hx (g := mkF m pc Ls (.int x :: st)) rfl hd rfl (by rw [hP]; simp [q])
theorem E_icmp (X : Sd l Z own nm bytes ml ret R p e s m args below T h cells slots) {cd : ClassFile.Cond} {o : Int} {x y : Int32} {P : Prop} [Decidable P] (hP : if_icmp.holds cd x y = decide P) (hd : decode bytes pc = .ok (.if_icmp cd o, 3)) {pcY pcN : Nat} (ho : 0 ≤ (pc : Int) + o) (hY : ((pc : Int) + o).toNat = pcY) (hN : pc + 3 = pcN)
    (kY : P → End Z p e below s Q kc ks T (mkF m pcY Ls st)) (kN : ¬ P → End Z p e below s Q kc ks T (mkF m pcN Ls st)) : End Z p e below s Q kc ks T (mkF m pc Ls (.int y :: .int x :: st)) := by
  obtain ⟨meth, c, locs, X, -, -, -, hx, hb, -⟩ := X; subst hb hN
  by_cases q : P
  · exact (kY q).go fun _ => XS.icmpYes X.here hx (g := mkF m pc Ls (.int y :: .int x :: st)) rfl rfl hd rfl (by rw [hP]; simp [q]) ho hY
  · exact (kN q).go fun _ => XS.icmpNo X.here hx (g := mkF m pc Ls (.int y :: .int x :: st)) rfl hd rfl (by rw [hP]; simp [q])
theorem ic_lt (x y : Int32) : if_icmp.holds .lt x y = decide (x < y) := by
  by_cases q : x < y
  · rw [(tlt q).1]; simp [q]
  · rw [(flt q).1]; simp [q]
theorem ic_ge (x y : Int32) : if_icmp.holds .ge x y = decide (¬ x < y) := by
  by_cases q : x < y
  · rw [(tlt q).2.1]; simp [q]
  · rw [(flt q).2.1]; simp [q]
theorem ic_gt (x y : Int32) : if_icmp.holds .gt x y = decide (y < x) := by
  by_cases q : y < x
  · rw [(tlt q).2.2.1]; simp [q]
  · rw [(flt q).2.2.1]; simp [q]
theorem ic_le (x y : Int32) : if_icmp.holds .le x y = decide (¬ y < x) := by
  by_cases q : y < x
  · rw [(tlt q).2.2.2]; simp [q]
  · rw [(flt q).2.2.2]; simp [q]
theorem ic_eq (x y : Int32) : if_icmp.holds .eq x y = decide (x = y) := by
  by_cases q : x = y
  · rw [(teq q).1]; simp [q]
  · rw [(feq q).1]; simp [q]
theorem ic_ne (x y : Int32) : if_icmp.holds .ne x y = decide (¬ x = y) := by
  by_cases q : x = y
  · rw [(teq q).2]; simp [q]
  · rw [(feq q).2]; simp [q]
theorem i0_lt (x : Int32) : ifCond.holds .lt x = decide (x < 0) := (if0 _ _).trans (ic_lt _ _)
theorem i0_ge (x : Int32) : ifCond.holds .ge x = decide (¬ x < 0) := (if0 _ _).trans (ic_ge _ _)
theorem i0_gt (x : Int32) : ifCond.holds .gt x = decide (0 < x) := (if0 _ _).trans (ic_gt _ _)
theorem i0_le (x : Int32) : ifCond.holds .le x = decide (¬ 0 < x) := (if0 _ _).trans (ic_le _ _)
theorem i0_eq (x : Int32) : ifCond.holds .eq x = decide (x = 0) := (if0 _ _).trans (ic_eq _ _)
theorem i0_ne (x : Int32) : ifCond.holds .ne x = decide (¬ x = 0) := (if0 _ _).trans (ic_ne _ _)
theorem il_lt (x y : Int64) : ifCond.holds .lt (lcmpW x y) = decide (x < y) := (i0_lt _).trans (by simp only [lw_lt])
theorem il_ge (x y : Int64) : ifCond.holds .ge (lcmpW x y) = decide (¬ x < y) := (i0_ge _).trans (by simp only [lw_lt])
theorem il_gt (x y : Int64) : ifCond.holds .gt (lcmpW x y) = decide (y < x) := (i0_gt _).trans (by simp only [lw_gt])
theorem il_le (x y : Int64) : ifCond.holds .le (lcmpW x y) = decide (¬ y < x) := (i0_le _).trans (by simp only [lw_gt])
theorem il_eq (x y : Int64) : ifCond.holds .eq (lcmpW x y) = decide (x = y) := (i0_eq _).trans (by simp only [lw_eq])
theorem il_ne (x y : Int64) : ifCond.holds .ne (lcmpW x y) = decide (¬ x = y) := (i0_ne _).trans (by simp only [lw_eq])
theorem E_acmp (X : Sd l Z own nm bytes ml ret R p e s m args below T h cells slots) {cd : ACond} {o : Int} {x y : Value} {pcE pcU : Nat} (hd : decode bytes pc = .ok (.if_acmp cd o, 3)) (hx1 : x.isRef = true) (hy1 : y.isRef = true) (ho : 0 ≤ (pc : Int) + o) (hE : pcE = if acV cd true = true then ((pc : Int) + o).toNat else pc + 3) (hU : pcU = if acV cd false = true then ((pc : Int) + o).toNat else pc + 3)
    (kE : x = y → End Z p e below s Q kc ks T (mkF m pcE Ls st)) (kU : ¬ x = y → End Z p e below s Q kc ks T (mkF m pcU Ls st)) : End Z p e below s Q kc ks T (mkF m pc Ls (y :: x :: st)) := by
  obtain ⟨meth, c, locs, X, -, -, -, hx, hb, -⟩ := X; subst hb
  by_cases q : x = y
  · exact (kE q).go fun _ => Jvm.RoadKit.acmp (g := mkF m pc Ls (y :: x :: st)) X hx rfl hx1 hy1 (same := true) rfl hd rfl (decide_eq_true q) ho hE
  · exact (kU q).go fun _ => Jvm.RoadKit.acmp (g := mkF m pc Ls (y :: x :: st)) X hx rfl hx1 hy1 (same := false) rfl hd rfl (decide_eq_false q) ho hU
theorem E_ifnullY (X : Sd l Z own nm bytes ml ret R p e s m args below T h cells slots) {o : Int} (hd : decode bytes pc = .ok (.ifnull o, 3)) (ho : 0 ≤ (pc : Int) + o) (hp : ((pc : Int) + o).toNat = pc') (k : End Z p e below s Q kc ks T (mkF m pc' Ls st)) : End Z p e below s Q kc ks T (mkF m pc Ls (.null :: st)) := by
  obtain ⟨meth, c, locs, X, -, -, -, hx, hb, -⟩ := X; subst hb
  exact k.go fun _ => XS.ifnullYes X.here hx (g := mkF m pc Ls (.null :: st)) rfl rfl hd rfl ho hp
theorem E_ifnullN (X : Sd l Z own nm bytes ml ret R p e s m args below T h cells slots) {o : Int} {b : Addr} (hd : decode bytes pc = .ok (.ifnull o, 3)) (hp : pc + 3 = pc') (k : End Z p e below s Q kc ks T (mkF m pc' Ls st)) : End Z p e below s Q kc ks T (mkF m pc Ls (.ref b :: st)) := by
  subst hp; obtain ⟨meth, c, locs, X, -, -, -, hx, hb, -⟩ := X; subst hb
  exact k.go fun _ => XS.ifnullNo X.here hx (g := mkF m pc Ls (.ref b :: st)) rfl hd rfl
theorem E_ifnonnullY (X : Sd l Z own nm bytes ml ret R p e s m args below T h cells slots) {o : Int} {b : Addr} (hd : decode bytes pc = .ok (.ifnonnull o, 3)) (ho : 0 ≤ (pc : Int) + o) (hp : ((pc : Int) + o).toNat = pc') (k : End Z p e below s Q kc ks T (mkF m pc' Ls st)) : End Z p e below s Q kc ks T (mkF m pc Ls (.ref b :: st)) := by
  obtain ⟨meth, c, locs, X, -, -, -, hx, hb, -⟩ := X; subst hb
  exact k.go fun _ => XS.ifnonnullYes X.here hx (g := mkF m pc Ls (.ref b :: st)) rfl rfl hd rfl ho hp
theorem E_ifnonnullN (X : Sd l Z own nm bytes ml ret R p e s m args below T h cells slots) {o : Int} (hd : decode bytes pc = .ok (.ifnonnull o, 3)) (hp : pc + 3 = pc') (k : End Z p e below s Q kc ks T (mkF m pc' Ls st)) : End Z p e below s Q kc ks T (mkF m pc Ls (.null :: st)) := by
  subst hp; obtain ⟨meth, c, locs, X, -, -, -, hx, hb, -⟩ := X; subst hb
  exact k.go fun _ => XS.ifnonnullNo X.here hx (g := mkF m pc Ls (.null :: st)) rfl hd rfl
/-! constants -/
theorem E_ldcI (X : Sd l Z own nm bytes ml ret R p e s m args below T h cells slots) {i : Nat} {v : Int32} (w : (Jvm.Cond.constant own i v).before a0 Z = true) (hd : decode bytes pc = .ok (.ldc i, 2)) (hp : pc + 2 = pc') (k : End Z p e below s Q kc ks T (mkF m pc' Ls (.int v :: st))) : End Z p e below s Q kc ks T (mkF m pc Ls st) := by
  subst hp; obtain ⟨meth, c, locs, X, N, e0, E, hx, hb, hml, hown, hnm, hret, hlk, hZ⟩ := X; subst hb
  exact k.go (X.ldcInt hx hown (mvT hZ w) (g := mkF m pc Ls st) rfl hd)
theorem E_ldcJ (X : Sd l Z own nm bytes ml ret R p e s m args below T h cells slots) {i : Nat} {v : Int64} (w : (Jvm.Cond.constantLong own i v).before a0 Z = true) (hd : decode bytes pc = .ok (.ldc2_w i, 3)) (hp : pc + 3 = pc') (k : End Z p e below s Q kc ks T (mkF m pc' Ls (.long v :: st))) : End Z p e below s Q kc ks T (mkF m pc Ls st) := by
  subst hp; obtain ⟨meth, c, locs, X, N, e0, E, hx, hb, hml, hown, hnm, hret, hlk, hZ⟩ := X; subst hb
  exact k.go (X.ldc2Long hx hown (mvT hZ w) (g := mkF m pc Ls st) rfl hd)
/-! fields, statics -/
theorem E_getF (X : Sd l Z own nm bytes ml ret R p e s m args below T h cells slots) {R0 O n d host : String} {i : Nat} {a : Addr} {v : Value} (w : (Jvm.Cond.fieldLink own i R0 n d).before a0 Z = true ∨ (Jvm.Cond.fieldLinkNest own i R0 n d host).before a0 Z = true) (via : Via Z R0 O n d) (F : Fld Z h a O n d v) (hd : decode bytes pc = .ok (.getfield i, 3)) (hp : pc + 3 = pc')
    (k : ∀ T', Sd l Z own nm bytes ml ret R p e s m args below T' h cells slots → End Z p e below s Q kc ks T' (mkF m pc' Ls (v :: st))) : End Z p e below s Q kc ks T (mkF m pc Ls (.ref a :: st)) := by
  subst hp; obtain ⟨meth, c, locs, X, N, e0, E, hx, hb, hml, hown, r⟩ := X; subst hb
  obtain ⟨T', X', e', stp⟩ := getF X hx r.2.2.2 hown w via e0 F (g := mkF m pc Ls (.ref a :: st)) rfl rfl hd
  exact (k T' ⟨meth, c, locs, X', N, e', E, hx, rfl, hml, hown, r⟩).go stp
theorem E_putF (X : Sd l Z own nm bytes ml ret R p e s m args below T h cells slots) {R0 O n d host C : String} {i kk : Nat} {ty : FieldType} {a : Addr} {v old : Value} (w : (Jvm.Cond.fieldLink own i R0 n d).before a0 Z = true ∨ (Jvm.Cond.fieldLinkNest own i R0 n d host).before a0 Z = true) (via : Via Z R0 O n d) (F : Fld Z h a O n d old) (E1 : Exa Z h a C)
    (L : (Jvm.Cond.lays C O n d).before a0 Z = true ∨ ((Jvm.Cond.laysFinal C O n d).before a0 Z = true ∧ own = O ∧ nm = "<init>")) (wi : (Jvm.Cond.instantiable C kk).before a0 Z = true) (hty : parseFieldDescriptor d = some ty) (hn : narrow ty v = v) (hf : fits ty v = true) (ha : Z.heap.size ≤ a) (hd : decode bytes pc = .ok (.putfield i, 3)) (hp : pc + 3 = pc')
    (k : ∀ T' h', Sd l Z own nm bytes ml ret R p e s m args below T' h' cells slots → Wr h h' a (slotOf Z O n d) v → End Z p e below s Q kc ks T' (mkF m pc' Ls st)) : End Z p e below s Q kc ks T (mkF m pc Ls (v :: .ref a :: st)) := by
  subst hp; obtain ⟨meth, c, locs, X, N, e0, E, hx, hb, hml, hown, hnm, r⟩ := X; subst hb
  obtain ⟨T', h', X', e', W, stp⟩ := putF X hx r.2.2 hown w via e0 F E1 (L.imp id fun q => ⟨q.1, q.2.1, hnm.trans q.2.2⟩) wi hty hn hf (g := mkF m pc Ls (v :: .ref a :: st)) rfl rfl hd
  exact (k T' h' ⟨meth, c, _, X', Fr.snoc X' N ha, e', E.wr W ha, hx, rfl, hml, hown, hnm, r⟩ W).go stp
theorem E_getS (X : Sd l Z own nm bytes ml ret R p e s m args below T h cells slots) {R0 O n d host : String} {i : Nat} {v : Value} (w : (Jvm.Cond.fieldLink own i R0 n d).before a0 Z = true ∨ (Jvm.Cond.fieldLinkNest own i R0 n d host).before a0 Z = true) (via : Via Z R0 O n d) (F : Sta Z Z.heap O n d v) (hd : decode bytes pc = .ok (.getstatic i, 3)) (hp : pc + 3 = pc')
    (k : ∀ T', Sd l Z own nm bytes ml ret R p e s m args below T' h cells slots → End Z p e below s Q kc ks T' (mkF m pc' Ls (v :: st))) : End Z p e below s Q kc ks T (mkF m pc Ls st) := by
  subst hp; obtain ⟨meth, c, locs, X, N, e0, E, hx, hb, hml, hown, r⟩ := X; subst hb
  obtain ⟨T', X', e', stp⟩ := getS2 X hx r.2.2.2 hown w via e0 (F.ext E) (g := mkF m pc Ls st) rfl hd
  exact (k T' ⟨meth, c, locs, X', N, e', E, hx, rfl, hml, hown, r⟩).go stp
/-! new objects -/
theorem E_new (X : Sd l Z own nm bytes ml ret R p e s m args below T h cells slots) {C : String} {i n : Nat} {cells' slots' : Nat} (w : (Jvm.Cond.classLink own i C).before a0 Z = true) (wi : (Jvm.Cond.instantiable C n).before a0 Z = true) (wz : (Jvm.Cond.initialized C).before a0 Z = true) (hd : decode bytes pc = .ok (.new i, 3)) (hp : pc + 3 = pc') (hcc : cells + 1 = cells') (hss : slots + n = slots') (hc : cells' ≤ R.cells) (hl : slots' ≤ R.slots)
    (k : ∀ T' h' a, a = h.size → Sd l Z own nm bytes ml ret R p e s m args below T' h' cells' slots' → Ext h h' → Exa Z h' a C → (∀ {O n d : String} {ty : FieldType}, Laid Z a0 C O n d → parseFieldDescriptor d = some ty → Fld Z h' a O n d (defaultValue ty)) → End Z p e below s Q kc ks T' (mkF m pc' Ls (.ref a :: st))) : End Z p e below s Q kc ks T (mkF m pc Ls st) := by
  subst hp hcc hss; obtain ⟨meth, c, locs, X, N, e0, E, hx, hb, hml, hown, r⟩ := X; subst hb
  obtain ⟨T', h', X', e', E2, A2, D2, -, stp⟩ := newO X hx r.2.2.2 hown w wi wz e0 (g := mkF m pc Ls st) rfl hd hc hl
  exact (k T' h' h.size rfl ⟨meth, c, locs, X', N, e', E.trans E2, hx, rfl, hml, hown, r⟩ E2 A2 (fun q1 q2 => D2 q1 q2)).go stp
theorem E_initO (X : Sd l Z own nm bytes ml ret R p e s m args below T h cells slots) {i : Nat} {a : Addr} (w1 : (Jvm.Cond.methodLink own i Lib.objectInit).before a0 Z = true) (w2 : (Jvm.Cond.instanceMethod Lib.objectInit).before a0 Z = true) (w3 : (Jvm.Cond.code Lib.objectInit ⟨#[0xb1]⟩ 1 none).before a0 Z = true) (hsz : Ls.size = ml) (hd : decode bytes pc = .ok (.invokespecial i, 3)) (hp : pc + 3 = pc') (hf : 1 ≤ R.frames) {W : Nat} (hW : (st.map fun v => v.category).sum ≤ W) (hl : W + 12 ≤ R.locals)
    (k : ∀ T', Sd l Z own nm bytes ml ret R p e s m args below T' h cells slots → End Z p e below s Q kc ks T' (mkF m pc' Ls st)) : End Z p e below s Q kc ks T (mkF m pc Ls (.ref a :: st)) := by
  subst hp; obtain ⟨meth, c, locs, X, N, e0, E, hx, hb, hml, hown, r⟩ := X; subst hb
  obtain ⟨T', X', e', stp⟩ := initO X hx r.2.2.2 hown w1 w2 w3 e0 (g := mkF m pc Ls (.ref a :: st)) rfl (hsz.trans hml.symm) rfl hd hf (W := W) (by show 2 * 0 + _ ≤ _; omega) hl
  exact (k T' ⟨meth, c, locs, X', N, e', E, hx, rfl, hml, hown, r⟩).go stp
/-! calls by a contract -/
theorem E_callS (X : Sd l Z own nm bytes ml ret R p e s m args below T h cells slots) {i : Nat} {y : MethodName} {bytes' : ByteArray} {ml' : Nat} {ret' : Option FieldType} {rm : Room} {Qc : Option Value → Heap → Prop} {as : Array Value} {ps : List FieldType} {rr : Option FieldType} {argsL rest : List Value} {W : Nat} {cells' slots' : Nat} (C : Con l Z y bytes' ml' ret' rm as h Qc)
    (w1 : (Jvm.Cond.methodLink own i y).before a0 Z = true) (w2 : (Jvm.Cond.static y).before a0 Z = true) (w3 : (Jvm.Cond.initialized y.cls).before a0 Z = true) (w4 : (Jvm.Cond.code y bytes' ml' ret').before a0 Z = true) (hy : y.cls ≠ "java/lang/invoke/MethodHandle" ∧ y.cls ≠ "java/lang/invoke/VarHandle") (hsz : Ls.size = ml) (has : argsL.toArray = as) (hpd : parseMethodDescriptor y.desc = some ⟨ps, rr⟩) (hlen : argsL.length = ps.length) (hst : st = argsL.reverse ++ rest)
    (hd : decode bytes pc = .ok (.invokestatic i, 3)) (hp : pc + 3 = pc') (hW : (rest.map fun v => v.category).sum ≤ W) (hf : rm.frames + 1 ≤ R.frames) (hl : W + (ml' + 11) + rm.locals ≤ R.locals) (hcc : cells + rm.cells = cells') (hss : slots + rm.slots = slots') (hc : cells' ≤ R.cells) (hs : slots' ≤ R.slots)
    (k : ∀ v T' h', Sd l Z own nm bytes ml ret R p e s m args below T' h' cells' slots' → Qc v h' → End Z p e below s Q kc ks T' (mkF m pc' Ls (v.toList ++ rest))) : End Z p e below s Q kc ks T (mkF m pc Ls st) := by
  subst hp hst hcc hss; obtain ⟨meth, c, locs, X, N, e0, E, hx, hb, hml, hown, r⟩ := X; subst hb
  obtain ⟨v, _, ⟨T', L', k', n'⟩, -, X', ⟨Lc, hQ, l1, l2, l3⟩, stp⟩ := Jvm.LawKit.callS X hx (y := y) hown (mvT r.2.2.2 w1) (mvT r.2.2.2 w2) (mvT r.2.2.2 w3) (mvT r.2.2.2 w4) hy (backOf (W := W) (Q := fun v h L => Fr Z.heap.size L ∧ Ext Z.heap h ∧ Qc v h) (C []) r.2.2.2 w4 w3 hf hl) (g := mkF m pc Ls (argsL.reverse ++ rest)) rfl (hsz.trans hml.symm) (argsL := argsL) (rest := rest) (lenOf hpd hlen) rfl (by show 2 * 0 + _ ≤ _; omega) hd (fun _ _ => ⟨has, e0, hc, hs⟩)
  dsimp only [Pt.U, Pt.locs, Pt.cells, Pt.slots] at X' l1 l2 l3 stp hQ
  subst l1 l2 l3
  exact (k v T' T'.heap ⟨meth, c, _, X', Fr.app N hQ.1, rfl, hQ.2.1, hx, rfl, hml, hown, r⟩ hQ.2.2).go stp
theorem E_callI (X : Sd l Z own nm bytes ml ret R p e s m args below T h cells slots) {i : Nat} {y : MethodName} {bytes' : ByteArray} {ml' : Nat} {rm : Room} {Qc : Option Value → Heap → Prop} {a : Addr} {as : Array Value} {ps : List FieldType} {rr : Option FieldType} {argsL rest : List Value} {W : Nat} {cells' slots' : Nat} (C : Con l Z y bytes' ml' none rm as h Qc)
    (w1 : (Jvm.Cond.methodLink own i y).before a0 Z = true) (w2 : (Jvm.Cond.instanceMethod y).before a0 Z = true) (w3 : (Jvm.Cond.initialized y.cls).before a0 Z = true) (w4 : (Jvm.Cond.code y bytes' ml' none).before a0 Z = true) (hy1 : y.name = "<init>") (hy : y.cls ≠ "java/lang/invoke/MethodHandle" ∧ y.cls ≠ "java/lang/invoke/VarHandle") (hsz : Ls.size = ml) (has : (.ref a :: argsL).toArray = as) (hpd : parseMethodDescriptor y.desc = some ⟨ps, rr⟩) (hlen : argsL.length = ps.length) (hst : st = argsL.reverse ++ .ref a :: rest)
    (hd : decode bytes pc = .ok (.invokespecial i, 3)) (hp : pc + 3 = pc') (hW : (rest.map fun v => v.category).sum ≤ W) (hf : rm.frames + 1 ≤ R.frames) (hl : W + (ml' + 11) + rm.locals ≤ R.locals) (hcc : cells + rm.cells = cells') (hss : slots + rm.slots = slots') (hc : cells' ≤ R.cells) (hs : slots' ≤ R.slots)
    (k : ∀ v T' h', Sd l Z own nm bytes ml ret R p e s m args below T' h' cells' slots' → Qc v h' → End Z p e below s Q kc ks T' (mkF m pc' Ls (v.toList ++ rest))) : End Z p e below s Q kc ks T (mkF m pc Ls st) := by
  subst hp hst hcc hss; obtain ⟨meth, c, locs, X, N, e0, E, hx, hb, hml, hown, r⟩ := X; subst hb
  obtain ⟨v, _, ⟨T', L', k', n'⟩, -, X', ⟨Lc, hQ, l1, l2, l3⟩, stp⟩ := X.specialBack hx (y := y) hy1 hown (mvT r.2.2.2 w1) (mvT r.2.2.2 w2) (mvT r.2.2.2 w4) hy (backOf (W := W) (Q := fun v h L => Fr Z.heap.size L ∧ Ext Z.heap h ∧ Qc v h) (C []) r.2.2.2 w4 w3 hf hl) (g := mkF m pc Ls (argsL.reverse ++ .ref a :: rest)) rfl (hsz.trans hml.symm) (Steps.refl _) (a := a) (argsL := argsL) (rest := rest) (lenOf hpd hlen) rfl (by show 2 * 0 + _ ≤ _; omega) hd (fun _ _ => ⟨has, e0, hc, hs⟩)
  dsimp only [Pt.U, Pt.locs, Pt.cells, Pt.slots] at X' l1 l2 l3 stp hQ
  subst l1 l2 l3
  exact (k v T' T'.heap ⟨meth, c, _, X', Fr.app N hQ.1, rfl, hQ.2.1, hx, rfl, hml, hown, r⟩ hQ.2.2).go fun _ q => stp.trans q
theorem E_callV (X : Sd l Z own nm bytes ml ret R p e s m args below T h cells slots) {i : Nat} {y : MethodName} {K : String} {bytes' : ByteArray} {ml' : Nat} {ret' : Option FieldType} {rm : Room} {Qc : Option Value → Heap → Prop} {a : Addr} {as : Array Value} {ps : List FieldType} {rr : Option FieldType} {argsL rest : List Value} {W : Nat} {cells' slots' : Nat} (C : Con l Z y bytes' ml' ret' rm as h Qc) (E1 : Exa Z h a K)
    (w1 : (Jvm.Cond.methodLink own i y).before a0 Z = true) (wd : (Jvm.Cond.declares y).before a0 Z = true) (ws : (Jvm.Cond.selects K y y).before a0 Z = true) (w2 : (Jvm.Cond.instanceMethod y).before a0 Z = true) (w3 : (Jvm.Cond.initialized y.cls).before a0 Z = true) (w4 : (Jvm.Cond.code y bytes' ml' ret').before a0 Z = true) (hK : K = y.cls) (hy : y.cls ≠ "java/lang/invoke/MethodHandle" ∧ y.cls ≠ "java/lang/invoke/VarHandle") (hsz : Ls.size = ml) (has : (.ref a :: argsL).toArray = as) (hpd : parseMethodDescriptor y.desc = some ⟨ps, rr⟩) (hlen : argsL.length = ps.length) (hst : st = argsL.reverse ++ .ref a :: rest)
    (hd : decode bytes pc = .ok (.invokevirtual i, 3)) (hp : pc + 3 = pc') (hW : (rest.map fun v => v.category).sum ≤ W) (hf : rm.frames + 1 ≤ R.frames) (hl : W + (ml' + 11) + rm.locals ≤ R.locals) (hcc : cells + rm.cells = cells') (hss : slots + rm.slots = slots') (hc : cells' ≤ R.cells) (hs : slots' ≤ R.slots)
    (k : ∀ v T' h', Sd l Z own nm bytes ml ret R p e s m args below T' h' cells' slots' → Qc v h' → End Z p e below s Q kc ks T' (mkF m pc' Ls (v.toList ++ rest))) : End Z p e below s Q kc ks T (mkF m pc Ls st) := by
  subst hp hst hcc hss; obtain ⟨meth, c, locs, X, N, e0, E, hx, hb, hml, hown, r⟩ := X; subst hb
  subst hK
  obtain ⟨cq, kq, qa, qb, qc⟩ := isOf r.2.2.2 e0 E1
  obtain ⟨v, _, ⟨T', L', k', n'⟩, -, X', ⟨Lc, hQ, l1, l2, l3⟩, stp⟩ := X.virtualBack hx (y := y) (z := y) hown (mvT r.2.2.2 w1) (mvT r.2.2.2 wd) (notFace_of_selects (args := #[]) (mvT r.2.2.2 ws)) (mvT r.2.2.2 ws) (mvT r.2.2.2 w2) hy (backOf (W := W) (Q := fun v h L => Fr Z.heap.size L ∧ Ext Z.heap h ∧ Qc v h) (C []) r.2.2.2 w4 w3 hf hl) qa qc (g := mkF m pc Ls (argsL.reverse ++ .ref a :: rest)) rfl (hsz.trans hml.symm) (Steps.refl _) (argsL := argsL) (rest := rest) (lenOf hpd hlen) rfl (by show 2 * 0 + _ ≤ _; omega) hd (fun _ _ => ⟨has, e0, hc, hs⟩)
  dsimp only [Pt.U, Pt.locs, Pt.cells, Pt.slots] at X' l1 l2 l3 stp hQ
  subst l1 l2 l3
  exact (k v T' T'.heap ⟨meth, c, _, X', Fr.app N hQ.1, rfl, hQ.2.1, hx, rfl, hml, hown, r⟩ hQ.2.2).go fun _ q => stp.trans q
/-! arrays by their list of values -/
def Ar (Z : State) (h : Heap) (a : Addr) (ty : FieldType) (vs : List Value) : Prop := ∃ c : Cell, Arr Z h a c ty ∧ c.slots = vs.toArray
section ArFacts
variable {h' : Heap} {a b : Addr} {ty : FieldType} {vs : List Value} {ws : List Addr} {v : Value} {sl : Nat}
theorem Ar.lt (F : Ar Z h a ty vs) : a < h.size := by obtain ⟨c, A, -⟩ := F; exact A.lt
theorem Ar.ext (F : Ar Z h a ty vs) (E : Ext h h') : Ar Z h' a ty vs := by obtain ⟨c, A, r⟩ := F; exact ⟨c, A.ext E, r⟩
theorem Ar.other (F : Ar Z h b ty vs) (W : Wr h h' a sl v) (q : b ≠ a) : Ar Z h' b ty vs := by obtain ⟨c, A, r⟩ := F; exact ⟨c, A.other W q, r⟩
theorem Ar.keep (F : Ar Z h a ty vs) (K : Keep h h' ws) (q : a ∉ ws) : Ar Z h' a ty vs := by obtain ⟨c, A, r⟩ := F; exact ⟨c, ⟨K.2.1 a c A.1 q, A.2⟩, r⟩
theorem Ar.set (F : Ar Z h a ty vs) (W : Wr h h' a sl v) : Ar Z h' a ty (vs.set sl v) := by
  obtain ⟨c, A, r⟩ := F
  exact ⟨_, A.same W, by simp [Cell.setSlot, r]⟩
theorem Ar.ne_exa {C : String} {k : Nat} (F : Ar Z h b ty vs) (E : Exa Z h a C) (wi : (Jvm.Cond.instantiable C k).before a0 Z = true) : a ≠ b := by obtain ⟨c, A, r⟩ := F; exact ne_arr E wi A
theorem Ar.ne {vs' : List Value} (F : Ar Z h a ty vs) (G : Ar Z h b ty vs') (q : vs ≠ vs') : a ≠ b := fun e => by
  subst e; obtain ⟨c, A, r⟩ := F; obtain ⟨c', A', r'⟩ := G
  cases A.1.symm.trans A'.1
  exact q (by simpa using congrArg Array.toList (r.symm.trans r'))
theorem Ar.at {c : Cell} {j : Int32} (r : c.slots = vs.toArray) (hj : ¬ j < 0) (hv : vs[j.toNatClampNeg]? = some v) : ¬ (j < 0 ∨ c.slots.size ≤ j.toNatClampNeg) ∧ c.slots[j.toNatClampNeg]? = some v := by
  refine ⟨fun q => ?_, by rw [r]; simpa using hv⟩
  rcases q with q | q
  · exact hj q
  · rw [r] at q
    have := (List.getElem?_eq_some_iff.mp hv).1
    simp at q; omega
theorem Ar.inb {c : Cell} {j : Int32} (r : c.slots = vs.toArray) (hj : ¬ j < 0) (hl : j.toNatClampNeg < vs.length) : ¬ (j < 0 ∨ c.slots.size ≤ j.toNatClampNeg) := (Ar.at r hj (List.getElem?_eq_getElem hl)).1
end ArFacts
theorem E_newA (X : Sd l Z own nm bytes ml ret R p e s m args below T h cells slots) {aty : ArrayType} {n : Int32} {cap : Nat} {vs : List Value} {cells' slots' : Nat} (w : (Jvm.Cond.arrayClass (newarray.typeOf aty)).before a0 Z = true) (hd : decode bytes pc = .ok (.newarray aty, 2)) (hp : pc + 2 = pc') (hn : ¬ n < 0) (hcap : n.toNatClampNeg ≤ cap) (hb8 : cap * 8 ≤ 536870912) (hvs : List.replicate n.toNatClampNeg (defaultValue (newarray.typeOf aty)) = vs) (hcc : cells + 1 = cells') (hss : slots + cap = slots') (hc : cells' ≤ R.cells) (hl : slots' ≤ R.slots)
    (k : ∀ T' h' a, a = h.size → Sd l Z own nm bytes ml ret R p e s m args below T' h' cells' slots' → Ext h h' → Ar Z h' a (newarray.typeOf aty) vs → End Z p e below s Q kc ks T' (mkF m pc' Ls (.ref a :: st))) : End Z p e below s Q kc ks T (mkF m pc Ls (.int n :: st)) := by
  subst hp hcc hss hvs; obtain ⟨meth, c, locs, X, N, e0, E, hx, hb, hml, hown, r⟩ := X; subst hb
  obtain ⟨T', h', cA, X', e', E2, A2, stp⟩ := newP X hx r.2.2.2 w e0 (g := mkF m pc Ls (.int n :: st)) rfl hd rfl hn hcap hb8 hc hl
  exact (k T' h' h.size rfl ⟨meth, c, locs, X', N, e', E.trans E2, hx, rfl, hml, hown, r⟩ E2 ⟨_, A2, by simp [newA]⟩).go stp
theorem E_newAE (X : Sd l Z own nm bytes ml ret R p e s m args below T h cells slots) {aty : ArrayType} {n : Int32} {cap : Nat} {vs : List Value} {cells' slots' : Nat} {ad : String} (had : "[" ++ (newarray.typeOf aty).toString = ad) (w : (Jvm.Cond.arrayClass (newarray.typeOf aty)).before a0 Z = true) (hd : decode bytes pc = .ok (.newarray aty, 2)) (hp : pc + 2 = pc') (hn : ¬ n < 0) (hcap : n.toNatClampNeg ≤ cap) (hb8 : cap * 8 ≤ 536870912) (hvs : List.replicate n.toNatClampNeg (defaultValue (newarray.typeOf aty)) = vs) (hcc : cells + 1 = cells') (hss : slots + cap = slots') (hc : cells' ≤ R.cells) (hl : slots' ≤ R.slots)
    (k : ∀ T' h' a, a = h.size → Sd l Z own nm bytes ml ret R p e s m args below T' h' cells' slots' → Ext h h' → Ar Z h' a (newarray.typeOf aty) vs → Exa Z h' a ad → End Z p e below s Q kc ks T' (mkF m pc' Ls (.ref a :: st))) : End Z p e below s Q kc ks T (mkF m pc Ls (.int n :: st)) := by
  subst hp hcc hss hvs; obtain ⟨meth, c, locs, X, N, e0, E, hx, hb, hml, hown, r⟩ := X; subst hb
  obtain ⟨T', h', cA, X', e', E2, A2, A3, stp⟩ := newPE X hx r.2.2.2 w e0 (g := mkF m pc Ls (.int n :: st)) rfl hd rfl hn hcap hb8 hc hl had
  exact (k T' h' h.size rfl ⟨meth, c, locs, X', N, e', E.trans E2, hx, rfl, hml, hown, r⟩ E2 ⟨_, A2, by simp [newA]⟩ A3).go stp
theorem E_alen (X : Sd l Z own nm bytes ml ret R p e s m args below T h cells slots) {a : Addr} {ty : FieldType} {vs : List Value} {n : Int32} (F : Ar Z h a ty vs) (hn : vs.length.toInt32 = n) (hd : decode bytes pc = .ok (.arraylength, 1)) (hp : pc + 1 = pc') (k : End Z p e below s Q kc ks T (mkF m pc' Ls (.int n :: st))) : End Z p e below s Q kc ks T (mkF m pc Ls (.ref a :: st)) := by
  subst hp hn; obtain ⟨meth, c, locs, X, N, e0, E, hx, hb, hml, hown, r⟩ := X; subst hb
  obtain ⟨cl, A, q⟩ := F
  have q2 : cl.slots.size = vs.length := by rw [q]; simp
  rw [← q2] at k
  exact k.go fun t => X.arraylength hx (by rw [e0]; exact A.1) (State.isArrayOf_alike r.2.2.2.alike A.2.1) (g := mkF m pc Ls (.ref a :: st)) rfl rfl hd t
theorem E_iaload (X : Sd l Z own nm bytes ml ret R p e s m args below T h cells slots) {a : Addr} {vs : List Value} {j : Int32} {v : Value} (F : Ar Z h a .int vs) (hj : ¬ j < 0) (hv : vs[j.toNatClampNeg]? = some v) (hd : decode bytes pc = .ok (.iaload, 1)) (hp : pc + 1 = pc') (k : End Z p e below s Q kc ks T (mkF m pc' Ls (v :: st))) : End Z p e below s Q kc ks T (mkF m pc Ls (.int j :: .ref a :: st)) := by
  subst hp; obtain ⟨meth, c, locs, X, N, e0, E, hx, hb, hml, hown, r⟩ := X; subst hb
  obtain ⟨cl, A, q⟩ := F
  obtain ⟨i1, i2⟩ := Ar.at q hj hv
  exact k.go fun t => X.iaload hx (by rw [e0]; exact A.1) (State.isArrayOf_alike r.2.2.2.alike A.2.1) A.2.2 i1 i2 (g := mkF m pc Ls (.int j :: .ref a :: st)) rfl rfl hd t
theorem E_laload (X : Sd l Z own nm bytes ml ret R p e s m args below T h cells slots) {a : Addr} {vs : List Value} {j : Int32} {v : Value} (F : Ar Z h a .long vs) (hj : ¬ j < 0) (hv : vs[j.toNatClampNeg]? = some v) (hd : decode bytes pc = .ok (.laload, 1)) (hp : pc + 1 = pc') (k : End Z p e below s Q kc ks T (mkF m pc' Ls (v :: st))) : End Z p e below s Q kc ks T (mkF m pc Ls (.int j :: .ref a :: st)) := by
  subst hp; obtain ⟨meth, c, locs, X, N, e0, E, hx, hb, hml, hown, r⟩ := X; subst hb
  obtain ⟨cl, A, q⟩ := F
  obtain ⟨i1, i2⟩ := Ar.at q hj hv
  exact k.go fun t => X.laload hx (by rw [e0]; exact A.1) (State.isArrayOf_alike r.2.2.2.alike A.2.1) A.2.2 i1 i2 (g := mkF m pc Ls (.int j :: .ref a :: st)) rfl rfl hd t
theorem E_caload (X : Sd l Z own nm bytes ml ret R p e s m args below T h cells slots) {a : Addr} {vs : List Value} {j : Int32} {v : Value} (F : Ar Z h a .char vs) (hj : ¬ j < 0) (hv : vs[j.toNatClampNeg]? = some v) (hd : decode bytes pc = .ok (.caload, 1)) (hp : pc + 1 = pc') (k : End Z p e below s Q kc ks T (mkF m pc' Ls (v :: st))) : End Z p e below s Q kc ks T (mkF m pc Ls (.int j :: .ref a :: st)) := by
  subst hp; obtain ⟨meth, c, locs, X, N, e0, E, hx, hb, hml, hown, r⟩ := X; subst hb
  obtain ⟨cl, A, q⟩ := F
  obtain ⟨i1, i2⟩ := Ar.at q hj hv
  exact k.go fun t => X.caload hx (by rw [e0]; exact A.1) (State.isArrayOf_alike r.2.2.2.alike A.2.1) A.2.2 i1 i2 (g := mkF m pc Ls (.int j :: .ref a :: st)) rfl rfl hd t
theorem E_baload (X : Sd l Z own nm bytes ml ret R p e s m args below T h cells slots) {a : Addr} {vs : List Value} {j : Int32} {v : Value} (F : Ar Z h a .byte vs) (hj : ¬ j < 0) (hv : vs[j.toNatClampNeg]? = some v) (hd : decode bytes pc = .ok (.baload, 1)) (hp : pc + 1 = pc') (k : End Z p e below s Q kc ks T (mkF m pc' Ls (v :: st))) : End Z p e below s Q kc ks T (mkF m pc Ls (.int j :: .ref a :: st)) := by
  subst hp; obtain ⟨meth, c, locs, X, N, e0, E, hx, hb, hml, hown, r⟩ := X; subst hb
  obtain ⟨cl, A, q⟩ := F
  obtain ⟨i1, i2⟩ := Ar.at q hj hv
  exact k.go fun t => X.baloadBytes hx (by rw [e0]; exact A.1) (State.isArrayOf_alike r.2.2.2.alike A.2.1) A.2.2 i1 i2 (g := mkF m pc Ls (.int j :: .ref a :: st)) rfl rfl hd t
theorem E_baload_Z (X : Sd l Z own nm bytes ml ret R p e s m args below T h cells slots) {a : Addr} {vs : List Value} {j : Int32} {v : Value} (F : Ar Z h a .boolean vs) (hj : ¬ j < 0) (hv : vs[j.toNatClampNeg]? = some v) (hd : decode bytes pc = .ok (.baload, 1)) (hp : pc + 1 = pc') (k : End Z p e below s Q kc ks T (mkF m pc' Ls (v :: st))) : End Z p e below s Q kc ks T (mkF m pc Ls (.int j :: .ref a :: st)) := by
  subst hp; obtain ⟨meth, c, locs, X, N, e0, E, hx, hb, hml, hown, r⟩ := X; subst hb
  obtain ⟨cl, A, q⟩ := F
  obtain ⟨i1, i2⟩ := Ar.at q hj hv
  exact k.go fun t => X.baloadBooleans hx (by rw [e0]; exact A.1) (State.isArrayOf_alike r.2.2.2.alike A.2.1) A.2.2 i1 i2 (g := mkF m pc Ls (.int j :: .ref a :: st)) rfl rfl hd t
theorem E_aaload (X : Sd l Z own nm bytes ml ret R p e s m args below T h cells slots) {a : Addr} {vs : List Value} {j : Int32} {v : Value} {ty : FieldType} (F : Ar Z h a ty vs) (hty : ty.isReference = true) (hj : ¬ j < 0) (hv : vs[j.toNatClampNeg]? = some v) (hd : decode bytes pc = .ok (.aaload, 1)) (hp : pc + 1 = pc') (k : End Z p e below s Q kc ks T (mkF m pc' Ls (v :: st))) : End Z p e below s Q kc ks T (mkF m pc Ls (.int j :: .ref a :: st)) := by
  subst hp; obtain ⟨meth, c, locs, X, N, e0, E, hx, hb, hml, hown, r⟩ := X; subst hb
  obtain ⟨cl, A, q⟩ := F
  obtain ⟨i1, i2⟩ := Ar.at q hj hv
  exact k.go fun t => X.aaload hx (by rw [e0]; exact A.1) (State.isArrayOf_alike r.2.2.2.alike A.2.1) hty A.2.2 i1 i2 (g := mkF m pc Ls (.int j :: .ref a :: st)) rfl rfl hd t
theorem E_iastore (X : Sd l Z own nm bytes ml ret R p e s m args below T h cells slots) {a : Addr} {vs vs' : List Value} {j : Int32} {x : Int32} (F : Ar Z h a .int vs) (hj : ¬ j < 0) (hl : j.toNatClampNeg < vs.length) (hvs : vs.set j.toNatClampNeg (.int x) = vs') (ha : Z.heap.size ≤ a) (hd : decode bytes pc = .ok (.iastore, 1)) (hp : pc + 1 = pc')
    (k : ∀ T' h', Sd l Z own nm bytes ml ret R p e s m args below T' h' cells slots → Wr h h' a j.toNatClampNeg (.int x) → Ar Z h' a .int vs' → End Z p e below s Q kc ks T' (mkF m pc' Ls st)) : End Z p e below s Q kc ks T (mkF m pc Ls (.int x :: .int j :: .ref a :: st)) := by
  subst hp hvs; obtain ⟨meth, c, locs, X, N, e0, E, hx, hb, hml, hown, r⟩ := X; subst hb
  have F0 := F
  obtain ⟨cl, A, q⟩ := F
  obtain ⟨T', h', X', e', W, stp⟩ := stI X hx r.2.2.2 e0 A (Ar.inb q hj hl) (g := mkF m pc Ls (.int x :: .int j :: .ref a :: st)) rfl rfl hd
  exact (k T' h' ⟨meth, c, _, X', Fr.snoc X' N ha, e', E.wr W ha, hx, rfl, hml, hown, r⟩ W (F0.set W)).go stp
theorem E_lastore (X : Sd l Z own nm bytes ml ret R p e s m args below T h cells slots) {a : Addr} {vs vs' : List Value} {j : Int32} {x : Int64} (F : Ar Z h a .long vs) (hj : ¬ j < 0) (hl : j.toNatClampNeg < vs.length) (hvs : vs.set j.toNatClampNeg (.long x) = vs') (ha : Z.heap.size ≤ a) (hd : decode bytes pc = .ok (.lastore, 1)) (hp : pc + 1 = pc')
    (k : ∀ T' h', Sd l Z own nm bytes ml ret R p e s m args below T' h' cells slots → Wr h h' a j.toNatClampNeg (.long x) → Ar Z h' a .long vs' → End Z p e below s Q kc ks T' (mkF m pc' Ls st)) : End Z p e below s Q kc ks T (mkF m pc Ls (.long x :: .int j :: .ref a :: st)) := by
  subst hp hvs; obtain ⟨meth, c, locs, X, N, e0, E, hx, hb, hml, hown, r⟩ := X; subst hb
  have F0 := F
  obtain ⟨cl, A, q⟩ := F
  obtain ⟨T', h', X', e', W, stp⟩ := stJ X hx r.2.2.2 e0 A (Ar.inb q hj hl) (g := mkF m pc Ls (.long x :: .int j :: .ref a :: st)) rfl rfl hd
  exact (k T' h' ⟨meth, c, _, X', Fr.snoc X' N ha, e', E.wr W ha, hx, rfl, hml, hown, r⟩ W (F0.set W)).go stp
theorem E_castore (X : Sd l Z own nm bytes ml ret R p e s m args below T h cells slots) {a : Addr} {vs vs' : List Value} {j : Int32} {x : Int32} (F : Ar Z h a .char vs) (hj : ¬ j < 0) (hl : j.toNatClampNeg < vs.length) (hvs : vs.set j.toNatClampNeg (.int (nar .char x)) = vs') (ha : Z.heap.size ≤ a) (hd : decode bytes pc = .ok (.castore, 1)) (hp : pc + 1 = pc')
    (k : ∀ T' h', Sd l Z own nm bytes ml ret R p e s m args below T' h' cells slots → Wr h h' a j.toNatClampNeg (.int (nar .char x)) → Ar Z h' a .char vs' → End Z p e below s Q kc ks T' (mkF m pc' Ls st)) : End Z p e below s Q kc ks T (mkF m pc Ls (.int x :: .int j :: .ref a :: st)) := by
  subst hp hvs; obtain ⟨meth, c, locs, X, N, e0, E, hx, hb, hml, hown, r⟩ := X; subst hb
  have F0 := F
  obtain ⟨cl, A, q⟩ := F
  obtain ⟨T', h', X', e', W, stp⟩ := stC X hx r.2.2.2 e0 A (Ar.inb q hj hl) (g := mkF m pc Ls (.int x :: .int j :: .ref a :: st)) rfl rfl hd
  exact (k T' h' ⟨meth, c, _, X', Fr.snoc X' N ha, e', E.wr W ha, hx, rfl, hml, hown, r⟩ W (F0.set W)).go stp
theorem E_bastore (X : Sd l Z own nm bytes ml ret R p e s m args below T h cells slots) {a : Addr} {vs vs' : List Value} {j : Int32} {x : Int32} (F : Ar Z h a .byte vs) (hj : ¬ j < 0) (hl : j.toNatClampNeg < vs.length) (hvs : vs.set j.toNatClampNeg (.int (nar .byte x)) = vs') (ha : Z.heap.size ≤ a) (hd : decode bytes pc = .ok (.bastore, 1)) (hp : pc + 1 = pc')
    (k : ∀ T' h', Sd l Z own nm bytes ml ret R p e s m args below T' h' cells slots → Wr h h' a j.toNatClampNeg (.int (nar .byte x)) → Ar Z h' a .byte vs' → End Z p e below s Q kc ks T' (mkF m pc' Ls st)) : End Z p e below s Q kc ks T (mkF m pc Ls (.int x :: .int j :: .ref a :: st)) := by
  subst hp hvs; obtain ⟨meth, c, locs, X, N, e0, E, hx, hb, hml, hown, r⟩ := X; subst hb
  have F0 := F
  obtain ⟨cl, A, q⟩ := F
  obtain ⟨T', h', X', e', W, stp⟩ := stB X hx r.2.2.2 e0 A (Ar.inb q hj hl) (g := mkF m pc Ls (.int x :: .int j :: .ref a :: st)) rfl rfl hd
  exact (k T' h' ⟨meth, c, _, X', Fr.snoc X' N ha, e', E.wr W ha, hx, rfl, hml, hown, r⟩ W (F0.set W)).go stp
theorem E_bastore_Z (X : Sd l Z own nm bytes ml ret R p e s m args below T h cells slots) {a : Addr} {vs vs' : List Value} {j : Int32} {x : Int32} (F : Ar Z h a .boolean vs) (hj : ¬ j < 0) (hl : j.toNatClampNeg < vs.length) (hvs : vs.set j.toNatClampNeg (.int (nar .boolean x)) = vs') (ha : Z.heap.size ≤ a) (hd : decode bytes pc = .ok (.bastore, 1)) (hp : pc + 1 = pc')
    (k : ∀ T' h', Sd l Z own nm bytes ml ret R p e s m args below T' h' cells slots → Wr h h' a j.toNatClampNeg (.int (nar .boolean x)) → Ar Z h' a .boolean vs' → End Z p e below s Q kc ks T' (mkF m pc' Ls st)) : End Z p e below s Q kc ks T (mkF m pc Ls (.int x :: .int j :: .ref a :: st)) := by
  subst hp hvs; obtain ⟨meth, c, locs, X, N, e0, E, hx, hb, hml, hown, r⟩ := X; subst hb
  have F0 := F
  obtain ⟨cl, A, q⟩ := F
  obtain ⟨T', h', X', e', W, stp⟩ := stZ X hx r.2.2.2 e0 A (Ar.inb q hj hl) (g := mkF m pc Ls (.int x :: .int j :: .ref a :: st)) rfl rfl hd
  exact (k T' h' ⟨meth, c, _, X', Fr.snoc X' N ha, e', E.wr W ha, hx, rfl, hml, hown, r⟩ W (F0.set W)).go stp
theorem E_clone (X : Sd l Z own nm bytes ml ret R p e s m args below T h cells slots) {ad : String} {i cap W : Nat} {a : Addr} {ty : FieldType} {vs : List Value} {cells' slots' : Nat} (w1 : (Jvm.Cond.methodLink own i ⟨ad, "clone", "()Ljava/lang/Object;"⟩).before a0 Z = true) (w2 : (Jvm.Cond.sameMethod ad "java/lang/Object" "clone" "()Ljava/lang/Object;").before a0 Z = true) (w3 : (Jvm.Cond.native ⟨"java/lang/Object", "clone", "()Ljava/lang/Object;"⟩).before a0 Z = true)
    (w4 : (Jvm.Cond.instanceMethod ⟨"java/lang/Object", "clone", "()Ljava/lang/Object;"⟩).before a0 Z = true) (w5 : (Jvm.Cond.selects ad ⟨ad, "clone", "()Ljava/lang/Object;"⟩ ⟨"java/lang/Object", "clone", "()Ljava/lang/Object;"⟩).before a0 Z = true) (w6 : (Jvm.Cond.castable ad "java/lang/Cloneable").before a0 Z = true) (F : Ar Z h a ty vs) (E1 : Exa Z h a ad) (hfit : ∀ v ∈ vs, fits ty v = true) (hsz : Ls.size = ml) (hd : decode bytes pc = .ok (.invokevirtual i, 3)) (hp : pc + 3 = pc')
    (hf : 1 ≤ R.frames) (hW : (st.map fun v => v.category).sum ≤ W) (hl : W + 14 ≤ R.locals) (hcap : vs.length ≤ cap) (hcc : cells + 1 = cells') (hss : slots + cap = slots') (hc : cells' ≤ R.cells) (hsl : slots' ≤ R.slots)
    (k : ∀ T' h' b, b = h.size → Sd l Z own nm bytes ml ret R p e s m args below T' h' cells' slots' → Ext h h' → Ar Z h' b ty vs → Exa Z h' b ad → End Z p e below s Q kc ks T' (mkF m pc' Ls (.ref b :: st))) : End Z p e below s Q kc ks T (mkF m pc Ls (.ref a :: st)) := by
  subst hp hcc hss; obtain ⟨meth, c, locs, X, N, e0, E, hx, hb, hml, hown, r⟩ := X; subst hb
  obtain ⟨cl, A, q⟩ := F
  have FC : FitC Z cl := fitC_of A fun i hi v hv => hfit v (by rw [q] at hv; exact List.mem_of_getElem? (by simpa using hv))
  obtain ⟨T', h', X', e', E2, A2, A3, stp⟩ := cloneA X hx r.2.2.2 hown w1 w2 w3 w4 w5 w6 e0 A E1 FC (g := mkF m pc Ls (.ref a :: st)) rfl (hsz.trans hml.symm) rfl hd hf (W := W) (cap := cap) (by show 2 * 0 + _ ≤ _; omega) hl (by rw [q]; simpa using hcap) hc hsl
  exact (k T' h' h.size rfl ⟨meth, c, locs, X', N, e', E.trans E2, hx, rfl, hml, hown, r⟩ E2 ⟨_, A2, q⟩ A3).go stp
theorem E_cast (X : Sd l Z own nm bytes ml ret R p e s m args below T h cells slots) {K : String} {i : Nat} {a : Addr} (w : (Jvm.Cond.classLink own i K).before a0 Z = true) (F : Ins Z h a K true) (hd : decode bytes pc = .ok (.checkcast i, 3)) (hp : pc + 3 = pc')
    (k : ∀ T', Sd l Z own nm bytes ml ret R p e s m args below T' h cells slots → End Z p e below s Q kc ks T' (mkF m pc' Ls (.ref a :: st))) : End Z p e below s Q kc ks T (mkF m pc Ls (.ref a :: st)) := by
  subst hp; obtain ⟨meth, c, locs, X, N, e0, E, hx, hb, hml, hown, r⟩ := X; subst hb
  obtain ⟨T', X', e', stp⟩ := castY X hx r.2.2.2 hown w e0 F (g := mkF m pc Ls (.ref a :: st)) rfl rfl hd
  exact (k T' ⟨meth, c, locs, X', N, e', E, hx, rfl, hml, hown, r⟩).go stp
theorem E_instY (X : Sd l Z own nm bytes ml ret R p e s m args below T h cells slots) {K : String} {i : Nat} {a : Addr} (w : (Jvm.Cond.classLink own i K).before a0 Z = true) (F : Ins Z h a K true) (hd : decode bytes pc = .ok (.instanceof i, 3)) (hp : pc + 3 = pc')
    (k : ∀ T', Sd l Z own nm bytes ml ret R p e s m args below T' h cells slots → End Z p e below s Q kc ks T' (mkF m pc' Ls (.int 1 :: st))) : End Z p e below s Q kc ks T (mkF m pc Ls (.ref a :: st)) := by
  subst hp; obtain ⟨meth, c, locs, X, N, e0, E, hx, hb, hml, hown, r⟩ := X; subst hb
  obtain ⟨T', X', e', stp⟩ := instY X hx r.2.2.2 hown w e0 F (g := mkF m pc Ls (.ref a :: st)) rfl rfl hd
  exact (k T' ⟨meth, c, locs, X', N, e', E, hx, rfl, hml, hown, r⟩).go stp
theorem isref_cat {v : Value} (h : v.isRef = true) : v.category = 1 := by rcases ref_cases h with rfl | ⟨a, rfl⟩ <;> rfl
theorem own_irr (x : Int32) : ¬ x < x := by rw [Int32.lt_iff_toInt_lt]; omega
theorem own_irrL (x : Int64) : ¬ x < x := by rw [Int64.lt_iff_toInt_lt]; omega
theorem E_callP (X : Sd l Z own nm bytes ml ret R p e s m args below T h cells slots) {i : Nat} {y : MethodName} {K : String} {bytes' : ByteArray} {ml' : Nat} {ret' : Option FieldType} {rm : Room} {Qc : Option Value → Heap → Prop} {a : Addr} {as : Array Value} {ps : List FieldType} {rr : Option FieldType} {argsL rest : List Value} {W : Nat} {cells' slots' : Nat} (C : Con l Z y bytes' ml' ret' rm as h Qc) (E1 : Exa Z h a K)
    (w1 : (Jvm.Cond.methodLink own i y).before a0 Z = true) (w2 : (Jvm.Cond.instanceMethod y).before a0 Z = true) (ws : (Jvm.Cond.selects y.cls y y).before a0 Z = true) (wp : (Jvm.Cond.privateMethod y).before a0 Z = true) (w3 : (Jvm.Cond.initialized y.cls).before a0 Z = true) (w4 : (Jvm.Cond.code y bytes' ml' ret').before a0 Z = true) (hy : y.cls ≠ "java/lang/invoke/MethodHandle" ∧ y.cls ≠ "java/lang/invoke/VarHandle") (hsz : Ls.size = ml) (has : (.ref a :: argsL).toArray = as) (hpd : parseMethodDescriptor y.desc = some ⟨ps, rr⟩) (hlen : argsL.length = ps.length) (hst : st = argsL.reverse ++ .ref a :: rest)
    (hd : decode bytes pc = .ok (.invokevirtual i, 3)) (hp : pc + 3 = pc') (hW : (rest.map fun v => v.category).sum ≤ W) (hf : rm.frames + 1 ≤ R.frames) (hl : W + (ml' + 11) + rm.locals ≤ R.locals) (hcc : cells + rm.cells = cells') (hss : slots + rm.slots = slots') (hc : cells' ≤ R.cells) (hs : slots' ≤ R.slots)
    (k : ∀ v T' h', Sd l Z own nm bytes ml ret R p e s m args below T' h' cells' slots' → Qc v h' → End Z p e below s Q kc ks T' (mkF m pc' Ls (v.toList ++ rest))) : End Z p e below s Q kc ks T (mkF m pc Ls st) := by
  subst hp hst hcc hss; obtain ⟨meth, c, locs, X, N, e0, E, hx, hb, hml, hown, r⟩ := X; subst hb
  obtain ⟨cq, q1, q2⟩ := E1.cell
  obtain ⟨v, _, ⟨T', L', k', n'⟩, -, X', ⟨Lc, hQ, l1, l2, l3⟩, stp⟩ := X.privateBack hx (y := y) hown (mvT r.2.2.2 w1) (mvT r.2.2.2 w2) (mvT r.2.2.2 ws) (Cond.privateMethod_at (mvP r.2.2.2 wp (args := #[]))) (mvT r.2.2.2 w4) hy (backOf (W := W) (Q := fun v h L => Fr Z.heap.size L ∧ Ext Z.heap h ∧ Qc v h) (C []) r.2.2.2 w4 w3 hf hl) (g := mkF m pc Ls (argsL.reverse ++ .ref a :: rest)) rfl (hsz.trans hml.symm) (Steps.refl _) (a := a) (by rw [e0]; exact q1) q2 (argsL := argsL) (rest := rest) (lenOf hpd hlen) rfl (by show 2 * 0 + _ ≤ _; omega) hd (fun _ _ => ⟨has, e0, hc, hs⟩)
  dsimp only [Pt.U, Pt.locs, Pt.cells, Pt.slots] at X' l1 l2 l3 stp hQ
  subst l1 l2 l3
  exact (k v T' T'.heap ⟨meth, c, _, X', Fr.app N hQ.1, rfl, hQ.2.1, hx, rfl, hml, hown, r⟩ hQ.2.2).go fun _ q => stp.trans q
theorem E_callU (X : Sd l Z own nm bytes ml ret R p e s m args below T h cells slots) {i : Nat} {x y : MethodName} {K : String} {bytes' : ByteArray} {ml' : Nat} {ret' : Option FieldType} {rm : Room} {Qc : Option Value → Heap → Prop} {a : Addr} {as : Array Value} {ps : List FieldType} {rr : Option FieldType} {argsL rest : List Value} {W : Nat} {cells' slots' : Nat} (C : Con l Z y bytes' ml' ret' rm as h Qc) (E1 : Exa Z h a K)
    (w1 : (Jvm.Cond.methodLink own i x).before a0 Z = true) (wm : (Jvm.Cond.sameMethod x.cls y.cls x.name x.desc).before a0 Z = true) (wd : (Jvm.Cond.declares ⟨y.cls, x.name, x.desc⟩).before a0 Z = true) (ws : (Jvm.Cond.selects K x y).before a0 Z = true) (w2 : (Jvm.Cond.instanceMethod y).before a0 Z = true) (w3 : (Jvm.Cond.initialized y.cls).before a0 Z = true) (w4 : (Jvm.Cond.code y bytes' ml' ret').before a0 Z = true) (hy : y.cls ≠ "java/lang/invoke/MethodHandle" ∧ y.cls ≠ "java/lang/invoke/VarHandle") (hsz : Ls.size = ml) (has : (.ref a :: argsL).toArray = as) (hpd : parseMethodDescriptor x.desc = some ⟨ps, rr⟩) (hlen : argsL.length = ps.length) (hst : st = argsL.reverse ++ .ref a :: rest)
    (hd : decode bytes pc = .ok (.invokevirtual i, 3)) (hp : pc + 3 = pc') (hW : (rest.map fun v => v.category).sum ≤ W) (hf : rm.frames + 1 ≤ R.frames) (hl : W + (ml' + 11) + rm.locals ≤ R.locals) (hcc : cells + rm.cells = cells') (hss : slots + rm.slots = slots') (hc : cells' ≤ R.cells) (hs : slots' ≤ R.slots)
    (k : ∀ v T' h', Sd l Z own nm bytes ml ret R p e s m args below T' h' cells' slots' → Qc v h' → End Z p e below s Q kc ks T' (mkF m pc' Ls (v.toList ++ rest))) : End Z p e below s Q kc ks T (mkF m pc Ls st) := by
  subst hp hst hcc hss; obtain ⟨meth, c, locs, X, N, e0, E, hx, hb, hml, hown, r⟩ := X; subst hb
  obtain ⟨cq, kq, qa, qb, qc⟩ := isOf r.2.2.2 e0 E1
  obtain ⟨v, _, ⟨T', L', k', n'⟩, -, X', ⟨Lc, hQ, l1, l2, l3⟩, stp⟩ := X.virtualBackUp hx (x := x) (y := y) (owner := y.cls) hown (mvT r.2.2.2 w1) (mvT r.2.2.2 wm) (mvT r.2.2.2 wd) hy (mvT r.2.2.2 ws) (mvT r.2.2.2 w2) (backOf (W := W) (Q := fun v h L => Fr Z.heap.size L ∧ Ext Z.heap h ∧ Qc v h) (C []) r.2.2.2 w4 w3 hf hl) qa qc (g := mkF m pc Ls (argsL.reverse ++ .ref a :: rest)) rfl (hsz.trans hml.symm) (Steps.refl _) (argsL := argsL) (rest := rest) (lenOf hpd hlen) rfl (by show 2 * 0 + _ ≤ _; omega) hd (fun _ _ => ⟨has, e0, hc, hs⟩)
  dsimp only [Pt.U, Pt.locs, Pt.cells, Pt.slots] at X' l1 l2 l3 stp hQ
  subst l1 l2 l3
  exact (k v T' T'.heap ⟨meth, c, _, X', Fr.app N hQ.1, rfl, hQ.2.1, hx, rfl, hml, hown, r⟩ hQ.2.2).go fun _ q => stp.trans q
theorem E_eqI {x z : Int32} (q : x = z) (k : End Z p e below s Q kc ks T (mkF m pc Ls (.int z :: st))) : End Z p e below s Q kc ks T (mkF m pc Ls (.int x :: st)) := by subst q; exact k
theorem E_eqJ {x z : Int64} (q : x = z) (k : End Z p e below s Q kc ks T (mkF m pc Ls (.long z :: st))) : End Z p e below s Q kc ks T (mkF m pc Ls (.long x :: st)) := by subst q; exact k
theorem E_eqV {x z : Value} (q : x = z) (k : End Z p e below s Q kc ks T (mkF m pc Ls (z :: st))) : End Z p e below s Q kc ks T (mkF m pc Ls (x :: st)) := by subst q; exact k
/-! from the case's words -/
theorem own_eq {first : State} {o : Option Outcome} {idx : List Nat} {a b : Term} (h : (Jvm.Cond.eq a b).value args first o s idx = some true) : ∃ v, a.eval args first o idx s = some v ∧ b.eval args first o idx s = some v := by
  simp only [Cond.value] at h
  split at h <;> simp_all
theorem own_exa {t : Term} {K : String} (h : (Jvm.Cond.exactly t K).value args s none s [] = some true) : ∃ a, t.eval args s none [] s = some (.ref a) ∧ Exa s s.heap a K := by
  obtain ⟨a, c, cell, k, e1, r⟩ := Cond.exactly_spec (Cond.before_iff.mpr h)
  exact ⟨a, e1, Exa.start e1 h⟩
theorem own_eqi {t u : Term} {v : Value} (h : (Jvm.Cond.eq t u).value args s none s [] = some true) (hu : u.eval args s none [] s = some v) : t.eval args s none [] s = some v := by
  obtain ⟨w, h1, h2⟩ := own_eq h
  rw [h1, ← h2, hu]
theorem own_fld {t : Term} {C n d : String} {v : Value} {a : Addr} (ev : t.eval args s none [] s = some (.ref a)) (h : (Term.field t C n d).eval args s none [] s = some v) : Fld s s.heap a C n d v :=
  Fld.start (by simpa [Term.eval, ev] using h)
theorem own_arr {t : Term} {ty : FieldType} {a : Addr} (ev : t.eval args s none [] s = some (.ref a)) (h : (Jvm.Cond.arrayOf t ty).value args s none s [] = some true) : ∃ c, Arr s s.heap a c ty ∧ s.arrayAt? a = some c := by
  obtain ⟨c, A⟩ := Arr.start ev h
  exact ⟨c, A, A.fin (Vm.Alike.refl _)⟩
theorem own_len {t : Term} {a : Addr} {c : Cell} {n : Int32} (ev : t.eval args s none [] s = some (.ref a)) (hc : s.arrayAt? a = some c) (h : (Term.length t).eval args s none [] s = some (.int n)) : c.slots.size = n.toNatClampNeg := by
  simp only [Term.eval, ev, hc, Option.bind_eq_bind, Option.bind_some] at h
  split at h
  · rename_i q
    have h := Value.int.inj (Option.some.inj h)
    rw [← h]
    have h2 := len_toInt q
    show _ = (Int32.toInt _).toNat
    rw [h2]; rfl
  · cases h
theorem own_el {t : Term} {a : Addr} {c : Cell} {k : Int32} {v : Value} (ev : t.eval args s none [] s = some (.ref a)) (hc : s.arrayAt? a = some c) (h : (Term.elem t (.int k)).eval args s none [] s = some v) : c.slots[k.toNatClampNeg]? = some v := by
  simp only [Term.eval, ev, hc, Option.bind_eq_bind, Option.bind_some] at h
  split at h
  · cases h
  · exact h
theorem own_ar {a : Addr} {c : Cell} {ty : FieldType} {vs : List Value} (A : Arr Z h a c ty) (hs : c.slots.size = vs.length) (H : HasL c 0 vs) : Ar Z h a ty vs := by
  refine ⟨c, A, ?_⟩
  apply Array.ext'
  apply List.ext_getElem?
  intro i
  by_cases hi : i < vs.length
  · have := HasL.at (dv := .null) vs 0 H i hi
    rw [Nat.zero_add] at this
    simp only [List.getElem?_toArray, Array.getElem?_toList] at *
    rw [this, List.getD_eq_getElem?_getD, List.getElem?_eq_getElem hi]; rfl
  · rw [List.getElem?_eq_none (by simpa [hs] using Nat.le_of_not_lt hi), List.getElem?_eq_none (by simpa using Nat.le_of_not_lt hi)]
theorem E_ldcF (X : Sd l Z own nm bytes ml ret R p e s m args below T h cells slots) {i : Nat} {b : UInt32} (w : (Jvm.Cond.constantFloat own i b).before a0 Z = true) (hd : decode bytes pc = .ok (.ldc i, 2)) (hp : pc + 2 = pc') (k : End Z p e below s Q kc ks T (mkF m pc' Ls (.float b :: st))) : End Z p e below s Q kc ks T (mkF m pc Ls st) := by
  subst hp; obtain ⟨meth, c, locs, X, N, e0, E, hx, hb, hml, hown, hnm, hret, hlk, hZ⟩ := X; subst hb
  obtain ⟨kk, cf, hk, hcf, hc⟩ := Cond.constantFloat_spec hown (mvT (args := args) hZ w)
  exact k.go (X.ldcFloat hx hk hcf hc (g := mkF m pc Ls st) rfl hd)
/-! arrays of references, with what they take -/
def ArR (Z : State) (h : Heap) (a : Addr) (ty : FieldType) (C : String) (vs : List Value) : Prop := ∃ c : Cell, Arr Z h a c ty ∧ c.slots = vs.toArray ∧ (Ovr Z c.cls C ∨ ∃ t, OvrA Z c.cls t C)
section ArRFacts
variable {h' : Heap} {a b y : Addr} {ty : FieldType} {C : String} {vs : List Value} {ws : List Addr} {v : Value} {sl : Nat}
theorem ArR.ar (F : ArR Z h a ty C vs) : Ar Z h a ty vs := by obtain ⟨c, A, r, -⟩ := F; exact ⟨c, A, r⟩
theorem ArR.lt (F : ArR Z h a ty C vs) : a < h.size := F.ar.lt
theorem ArR.ext (F : ArR Z h a ty C vs) (E : Ext h h') : ArR Z h' a ty C vs := by obtain ⟨c, A, r⟩ := F; exact ⟨c, A.ext E, r⟩
theorem ArR.other (F : ArR Z h b ty C vs) (W : Wr h h' a sl v) (q : b ≠ a) : ArR Z h' b ty C vs := by obtain ⟨c, A, r⟩ := F; exact ⟨c, A.other W q, r⟩
theorem ArR.keep (F : ArR Z h a ty C vs) (K : Keep h h' ws) (q : a ∉ ws) : ArR Z h' a ty C vs := by obtain ⟨c, A, r⟩ := F; exact ⟨c, ⟨K.2.1 a c A.1 q, A.2⟩, r⟩
theorem ArR.set (F : ArR Z h a ty C vs) (W : Wr h h' a sl v) : ArR Z h' a ty C (vs.set sl v) := by
  obtain ⟨c, A, r, O⟩ := F
  exact ⟨_, A.same W, by simp [Cell.setSlot, r], O⟩
theorem ArR.sto (F : ArR Z h a ty C vs) (I : Ins Z h y C true) : Sto Z h a (.ref y) := by
  obtain ⟨c, A, -, O | ⟨t, O⟩⟩ := F
  · exact Sto.of A O I
  · exact Sto.ofVA A rfl O I
end ArRFacts
theorem E_newRA (X : Sd l Z own nm bytes ml ret R p e s m args below T h cells slots) {C : String} {ty : FieldType} {i cap : Nat} {n : Int32} {vs : List Value} {cells' slots' : Nat} (hC : (FieldType.array ty).toString = C) (w1 : (Jvm.Cond.classLink own i C).before a0 Z = true) (w2 : (Jvm.Cond.arrayOver (.array ty)).before a0 Z = true) (hd : decode bytes pc = .ok (.anewarray i, 3)) (hp : pc + 3 = pc') (hn : ¬ n < 0) (hcap : n.toNatClampNeg ≤ cap) (hb8 : cap * 8 ≤ 536870912) (hvs : List.replicate n.toNatClampNeg Value.null = vs) (hcc : cells + 1 = cells') (hss : slots + cap = slots') (hc : cells' ≤ R.cells) (hl : slots' ≤ R.slots)
    (k : ∀ T' h' a, a = h.size → Sd l Z own nm bytes ml ret R p e s m args below T' h' cells' slots' → Ext h h' → ArR Z h' a (.array ty) C vs → End Z p e below s Q kc ks T' (mkF m pc' Ls (.ref a :: st))) : End Z p e below s Q kc ks T (mkF m pc Ls (.int n :: st)) := by
  subst hp hcc hss hvs; obtain ⟨meth, c, locs, X, N, e0, E, hx, hb, hml, hown, r⟩ := X; subst hb
  obtain ⟨T', h', cA, X', e', E2, A2, -, O2, stp⟩ := newRA X hx r.2.2.2 hown hC w1 w2 e0 (g := mkF m pc Ls (.int n :: st)) rfl hd rfl hn hcap hb8 hc hl rfl
  exact (k T' h' h.size rfl ⟨meth, c, locs, X', N, e', E.trans E2, hx, rfl, hml, hown, r⟩ E2 ⟨_, A2, by simp [newA, defaultValue], Or.inr ⟨_, O2⟩⟩).go stp
theorem E_newR (X : Sd l Z own nm bytes ml ret R p e s m args below T h cells slots) {C : String} {i cap : Nat} {n : Int32} {vs : List Value} {cells' slots' : Nat} (w1 : (Jvm.Cond.classLink own i C).before a0 Z = true) (w2 : (Jvm.Cond.arrayOver (.object C)).before a0 Z = true) (hd : decode bytes pc = .ok (.anewarray i, 3)) (hp : pc + 3 = pc') (hn : ¬ n < 0) (hcap : n.toNatClampNeg ≤ cap) (hb8 : cap * 8 ≤ 536870912) (hvs : List.replicate n.toNatClampNeg Value.null = vs) (hcc : cells + 1 = cells') (hss : slots + cap = slots') (hc : cells' ≤ R.cells) (hl : slots' ≤ R.slots)
    (k : ∀ T' h' a, a = h.size → Sd l Z own nm bytes ml ret R p e s m args below T' h' cells' slots' → Ext h h' → ArR Z h' a (.object C) C vs → End Z p e below s Q kc ks T' (mkF m pc' Ls (.ref a :: st))) : End Z p e below s Q kc ks T (mkF m pc Ls (.int n :: st)) := by
  subst hp hcc hss hvs; obtain ⟨meth, c, locs, X, N, e0, E, hx, hb, hml, hown, r⟩ := X; subst hb
  obtain ⟨T', h', cA, X', e', E2, A2, O2, stp⟩ := newR X hx r.2.2.2 hown w1 w2 e0 (g := mkF m pc Ls (.int n :: st)) rfl hd rfl hn hcap hb8 hc hl
  exact (k T' h' h.size rfl ⟨meth, c, locs, X', N, e', E.trans E2, hx, rfl, hml, hown, r⟩ E2 ⟨_, A2, by simp [newA, defaultValue], Or.inl O2⟩).go stp
theorem E_aastore (X : Sd l Z own nm bytes ml ret R p e s m args below T h cells slots) {a y : Addr} {ty : FieldType} {C : String} {vs vs' : List Value} {j : Int32} (F : ArR Z h a ty C vs) (I : Ins Z h y C true) (hty : ty.isReference = true) (hj : ¬ j < 0) (hl : j.toNatClampNeg < vs.length) (hvs : vs.set j.toNatClampNeg (.ref y) = vs') (ha : Z.heap.size ≤ a) (hd : decode bytes pc = .ok (.aastore, 1)) (hp : pc + 1 = pc')
    (k : ∀ T' h', Sd l Z own nm bytes ml ret R p e s m args below T' h' cells slots → Wr h h' a j.toNatClampNeg (.ref y) → ArR Z h' a ty C vs' → End Z p e below s Q kc ks T' (mkF m pc' Ls st)) : End Z p e below s Q kc ks T (mkF m pc Ls (.ref y :: .int j :: .ref a :: st)) := by
  subst hp hvs; obtain ⟨meth, c, locs, X, N, e0, E, hx, hb, hml, hown, r⟩ := X; subst hb
  have F0 := F
  have S := F.sto I
  obtain ⟨cl, A, q, -⟩ := F
  obtain ⟨T', h', X', e', W, stp⟩ := stR X hx r.2.2.2 e0 A (Ar.inb q hj hl) hty S (g := mkF m pc Ls (.ref y :: .int j :: .ref a :: st)) rfl rfl hd
  exact (k T' h' ⟨meth, c, _, X', Fr.snoc X' N ha, e', E.wr W ha, hx, rfl, hml, hown, r⟩ W (F0.set W)).go stp
theorem E_ldcwI (X : Sd l Z own nm bytes ml ret R p e s m args below T h cells slots) {i : Nat} {v : Int32} (w : (Jvm.Cond.constant own i v).before a0 Z = true) (hd : decode bytes pc = .ok (.ldc_w i, 3)) (hp : pc + 3 = pc') (k : End Z p e below s Q kc ks T (mkF m pc' Ls (.int v :: st))) : End Z p e below s Q kc ks T (mkF m pc Ls st) := by
  subst hp; obtain ⟨meth, c, locs, X, N, e0, E, hx, hb, hml, hown, hnm, hret, hlk, hZ⟩ := X; subst hb
  exact k.go (X.ldcwInt hx hown (mvT hZ w) (g := mkF m pc Ls st) rfl hd)
theorem Ar.arv {a : Addr} {ty : FieldType} {vs : List Value} {z : Int32} (dv : Value) (F : Ar Z h a ty vs) (hf : ∀ v ∈ vs, fits ty v = true) (hn : vs.length = z.toNatClampNeg) (hz : ¬ z < 0) : ∃ k, Arv Z h a k ty z vs dv := by
  obtain ⟨c, A, r⟩ := F
  have hs : c.slots.size = vs.length := by rw [r]; simp
  refine ⟨c.cls, c, A, rfl, by rw [hs]; exact hn, hz, fun i hi => ?_, fun i hi => ?_⟩
  · rw [hs] at hi
    rw [r, List.getD_eq_getElem?_getD]; simp [hi]
  · rw [hs] at hi
    rw [List.getD_eq_getElem?_getD, List.getElem?_eq_getElem hi]
    exact hf _ (List.getElem_mem hi)
theorem Ar.of_arv {a : Addr} {ty : FieldType} {vs : List Value} {z : Int32} {dv : Value} {k : ClassId} (F : Arv Z h a k ty z vs dv) (hn : vs.length = z.toNatClampNeg) : Ar Z h a ty vs := by
  obtain ⟨c, A, -, hs, -, H, -⟩ := F
  refine ⟨c, A, ?_⟩
  apply Array.ext'
  apply List.ext_getElem?
  intro i
  by_cases hi : i < vs.length
  · have := H i (by omega)
    rw [Array.getElem?_toList, this, List.getD_eq_getElem?_getD, List.getElem?_eq_getElem hi]
    simp [hi]
  · rw [List.getElem?_eq_none (by rw [Array.length_toList]; omega), List.getElem?_eq_none (by simpa using Nat.le_of_not_lt hi)]
theorem E_acopy (X : Sd l Z own nm bytes ml ret R p e s m args below T h cells slots) {i W : Nat} {a b : Addr} {ty : FieldType} {vs vd vd2 : List Value} {sp dp nn z z' : Int32} (w1 : (Jvm.Cond.methodLink own i Jvm.Stand.acN).before a0 Z = true) (w2 : (Jvm.Cond.native Jvm.Stand.acN).before a0 Z = true) (w3 : (Jvm.Cond.static Jvm.Stand.acN).before a0 Z = true) (w4 : (Jvm.Cond.initialized "java/lang/System").before a0 Z = true)
    (A : Ar Z h a ty vs) (B : Ar Z h b ty vd) (hty : refKind ty = false) (fa : ∀ v ∈ vs, fits ty v = true) (fb : ∀ v ∈ vd, fits ty v = true) (za : vs.length = z.toNatClampNeg) (hz : ¬ z < 0) (zb : vd.length = z'.toNatClampNeg) (hz' : ¬ z' < 0) (h1 : ¬ sp < 0) (h2 : ¬ dp < 0) (h3 : ¬ nn < 0) (h4 : sp.toNatClampNeg + nn.toNatClampNeg ≤ vs.length) (h5 : dp.toNatClampNeg + nn.toNatClampNeg ≤ vd.length)
    (hvd : vd.take dp.toNatClampNeg ++ ((List.range nn.toNatClampNeg).map fun i => vs.getD (sp.toNatClampNeg + i) .null) ++ vd.drop (dp.toNatClampNeg + nn.toNatClampNeg) = vd2) (hb0 : Z.heap.size ≤ b) (hsz : Ls.size = ml) (hd : decode bytes pc = .ok (.invokestatic i, 3)) (hp : pc + 3 = pc') (hf : 1 ≤ R.frames) (hW : (st.map fun v => v.category).sum ≤ W) (hlo : W + (nativeFrameWords "java/lang/System" "arraycopy" 5 + 11) ≤ R.locals)
    (k : ∀ T' h', Sd l Z own nm bytes ml ret R p e s m args below T' h' cells slots → Keep h h' [b] → Ar Z h' b ty vd2 → End Z p e below s Q kc ks T' (mkF m pc' Ls st)) : End Z p e below s Q kc ks T (mkF m pc Ls (.int nn :: .int dp :: .ref b :: .int sp :: .ref a :: st)) := by
  subst hp hvd; obtain ⟨meth, c, locs, X, N, e0, E, hx, hb, hml, hown, r⟩ := X; subst hb
  obtain ⟨k1, A1⟩ := A.arv .null fa za hz
  obtain ⟨k2, B1⟩ := B.arv .null fb zb hz'
  obtain ⟨T', h', L, X', e', N', K, B2, stp⟩ := cpA X hx r.2.2.2 hown w1 w2 w3 w4 e0 A1 B1 (Or.inl ⟨rfl, hty⟩) h1 h2 h3 (by rw [← za]; exact h4) (by rw [← zb]; exact h5) rfl h5 N hb0 (g := mkF m pc Ls (.int nn :: .int dp :: .ref b :: .int sp :: .ref a :: st)) rfl (hsz.trans hml.symm) rfl hd hf (W := W) (by show 2 * 0 + _ ≤ _; omega) hlo
  refine (k T' h' ⟨meth, c, _, X', N', e', E.keep K (allS hb0 all0), hx, rfl, hml, hown, r⟩ K (Ar.of_arv B2 ?_)).go stp
  simp; omega
end Own
end Jvm.RoadKit
namespace Jvm.Pilot.@@N@@
open Jvm Jvm.ClassFile Sem Op Lib Jvm.Free Jvm.Stand Jvm.LawKit Jvm.RoadKit Bundle Jvm.Pilot.@@N@@.Jvm.D
theorem w_0 {a0 : Array Value} {Z : State} (hw : ∀ d ∈ tables_1, d.before a0 Z = true) : (Jvm.Cond.methodLink "com/example/mullion/mullion/core/HoldingAddPinLaw" (32 : Nat) ({ cls := "com/example/mullion/mullion/core/HoldingAddPinLaw", name := "pick", desc := "(I)Lcom/example/mullion/mullion/core/Room;" } : Jvm.MethodName)).before a0 Z = true := hw _ (List.mem_of_getElem? (i := 0) rfl)
theorem w_1 {a0 : Array Value} {Z : State} (hw : ∀ d ∈ tables_1, d.before a0 Z = true) : (Jvm.Cond.static ({ cls := "com/example/mullion/mullion/core/HoldingAddPinLaw", name := "pick", desc := "(I)Lcom/example/mullion/mullion/core/Room;" } : Jvm.MethodName)).before a0 Z = true := hw _ (List.mem_of_getElem? (i := 1) rfl)
theorem w_2 {a0 : Array Value} {Z : State} (hw : ∀ d ∈ tables_1, d.before a0 Z = true) : (Jvm.Cond.initialized "com/example/mullion/mullion/core/HoldingAddPinLaw").before a0 Z = true := hw _ (List.mem_of_getElem? (i := 2) rfl)
theorem w_3 {a0 : Array Value} {Z : State} (hw : ∀ d ∈ tables_1, d.before a0 Z = true) : (Jvm.Cond.code ({ cls := "com/example/mullion/mullion/core/HoldingAddPinLaw", name := "pick", desc := "(I)Lcom/example/mullion/mullion/core/Room;" } : Jvm.MethodName) method_2_code (2 : Nat) (Option.some (Jvm.ClassFile.FieldType.object "com/example/mullion/mullion/core/Room"))).before a0 Z = true := hw _ (List.mem_of_getElem? (i := 3) rfl)
theorem w_4 {a0 : Array Value} {Z : State} (hw : ∀ d ∈ tables_1, d.before a0 Z = true) : (Jvm.Cond.constant "com/example/mullion/mullion/core/HoldingAddPinLaw" (7 : Nat) (2147483647 : Int32)).before a0 Z = true := hw _ (List.mem_of_getElem? (i := 4) rfl)
theorem w_5 {a0 : Array Value} {Z : State} (hw : ∀ d ∈ tables_1, d.before a0 Z = true) : (Jvm.Cond.fieldLink "com/example/mullion/mullion/core/HoldingAddPinLaw" (8 : Nat) "com/example/mullion/mullion/core/Room" "WINDOWS" "Lcom/example/mullion/mullion/core/Room;").before a0 Z = true := hw _ (List.mem_of_getElem? (i := 5) rfl)
theorem w_6 {a0 : Array Value} {Z : State} (hw : ∀ d ∈ tables_1, d.before a0 Z = true) : (Jvm.Cond.initialized "com/example/mullion/mullion/core/Room").before a0 Z = true := hw _ (List.mem_of_getElem? (i := 6) rfl)
theorem w_7 {a0 : Array Value} {Z : State} (hw : ∀ d ∈ tables_1, d.before a0 Z = true) : (Jvm.Cond.laysStatic "com/example/mullion/mullion/core/Room" "WINDOWS" "Lcom/example/mullion/mullion/core/Room;").before a0 Z = true := hw _ (List.mem_of_getElem? (i := 7) rfl)
theorem w_8 {a0 : Array Value} {Z : State} (hw : ∀ d ∈ tables_1, d.before a0 Z = true) : (Jvm.Cond.fieldLink "com/example/mullion/mullion/core/HoldingAddPinLaw" (14 : Nat) "com/example/mullion/mullion/core/Room" "WINDOW_TEXT" "Lcom/example/mullion/mullion/core/Room;").before a0 Z = true := hw _ (List.mem_of_getElem? (i := 8) rfl)
theorem w_9 {a0 : Array Value} {Z : State} (hw : ∀ d ∈ tables_1, d.before a0 Z = true) : (Jvm.Cond.laysStatic "com/example/mullion/mullion/core/Room" "WINDOW_TEXT" "Lcom/example/mullion/mullion/core/Room;").before a0 Z = true := hw _ (List.mem_of_getElem? (i := 9) rfl)
theorem w_10 {a0 : Array Value} {Z : State} (hw : ∀ d ∈ tables_1, d.before a0 Z = true) : (Jvm.Cond.fieldLink "com/example/mullion/mullion/core/HoldingAddPinLaw" (17 : Nat) "com/example/mullion/mullion/core/Room" "LISTED_TEXT" "Lcom/example/mullion/mullion/core/Room;").before a0 Z = true := hw _ (List.mem_of_getElem? (i := 10) rfl)
theorem w_11 {a0 : Array Value} {Z : State} (hw : ∀ d ∈ tables_1, d.before a0 Z = true) : (Jvm.Cond.laysStatic "com/example/mullion/mullion/core/Room" "LISTED_TEXT" "Lcom/example/mullion/mullion/core/Room;").before a0 Z = true := hw _ (List.mem_of_getElem? (i := 11) rfl)
theorem w_12 {a0 : Array Value} {Z : State} (hw : ∀ d ∈ tables_1, d.before a0 Z = true) : (Jvm.Cond.classLink "com/example/mullion/mullion/core/HoldingAddPinLaw" (38 : Nat) "com/example/mullion/mullion/core/Holding").before a0 Z = true := hw _ (List.mem_of_getElem? (i := 12) rfl)
theorem w_13 {a0 : Array Value} {Z : State} (hw : ∀ d ∈ tables_1, d.before a0 Z = true) : (Jvm.Cond.instantiable "com/example/mullion/mullion/core/Holding" (1 : Nat)).before a0 Z = true := hw _ (List.mem_of_getElem? (i := 13) rfl)
theorem w_14 {a0 : Array Value} {Z : State} (hw : ∀ d ∈ tables_1, d.before a0 Z = true) : (Jvm.Cond.initialized "com/example/mullion/mullion/core/Holding").before a0 Z = true := hw _ (List.mem_of_getElem? (i := 14) rfl)
theorem w_15 {a0 : Array Value} {Z : State} (hw : ∀ d ∈ tables_1, d.before a0 Z = true) : (Jvm.Cond.methodLink "com/example/mullion/mullion/core/HoldingAddPinLaw" (40 : Nat) ({ cls := "com/example/mullion/mullion/core/Holding", name := "<init>", desc := "()V" } : Jvm.MethodName)).before a0 Z = true := hw _ (List.mem_of_getElem? (i := 15) rfl)
theorem w_16 {a0 : Array Value} {Z : State} (hw : ∀ d ∈ tables_1, d.before a0 Z = true) : (Jvm.Cond.instanceMethod ({ cls := "com/example/mullion/mullion/core/Holding", name := "<init>", desc := "()V" } : Jvm.MethodName)).before a0 Z = true := hw _ (List.mem_of_getElem? (i := 16) rfl)
theorem w_17 {a0 : Array Value} {Z : State} (hw : ∀ d ∈ tables_1, d.before a0 Z = true) : (Jvm.Cond.code ({ cls := "com/example/mullion/mullion/core/Holding", name := "<init>", desc := "()V" } : Jvm.MethodName) prog_21_method_1_code (1 : Nat) (Option.none : Option Jvm.ClassFile.FieldType)).before a0 Z = true := hw _ (List.mem_of_getElem? (i := 17) rfl)
theorem w_18 {a0 : Array Value} {Z : State} (hw : ∀ d ∈ tables_1, d.before a0 Z = true) : (Jvm.Cond.methodLink "com/example/mullion/mullion/core/Holding" (1 : Nat) ({ cls := "java/lang/Object", name := "<init>", desc := "()V" } : Jvm.MethodName)).before a0 Z = true := hw _ (List.mem_of_getElem? (i := 18) rfl)
theorem w_19 {a0 : Array Value} {Z : State} (hw : ∀ d ∈ tables_1, d.before a0 Z = true) : (Jvm.Cond.instanceMethod ({ cls := "java/lang/Object", name := "<init>", desc := "()V" } : Jvm.MethodName)).before a0 Z = true := hw _ (List.mem_of_getElem? (i := 19) rfl)
theorem w_20 {a0 : Array Value} {Z : State} (hw : ∀ d ∈ tables_1, d.before a0 Z = true) : (Jvm.Cond.code ({ cls := "java/lang/Object", name := "<init>", desc := "()V" } : Jvm.MethodName) object_method_1_code (1 : Nat) (Option.none : Option Jvm.ClassFile.FieldType)).before a0 Z = true := hw _ (List.mem_of_getElem? (i := 20) rfl)
theorem w_21 {a0 : Array Value} {Z : State} (hw : ∀ d ∈ tables_1, d.before a0 Z = true) : (Jvm.Cond.methodLink "com/example/mullion/mullion/core/Holding" (7 : Nat) ({ cls := "com/example/mullion/mullion/core/Room", name := "values", desc := "()[Lcom/example/mullion/mullion/core/Room;" } : Jvm.MethodName)).before a0 Z = true := hw _ (List.mem_of_getElem? (i := 21) rfl)
theorem w_22 {a0 : Array Value} {Z : State} (hw : ∀ d ∈ tables_1, d.before a0 Z = true) : (Jvm.Cond.static ({ cls := "com/example/mullion/mullion/core/Room", name := "values", desc := "()[Lcom/example/mullion/mullion/core/Room;" } : Jvm.MethodName)).before a0 Z = true := hw _ (List.mem_of_getElem? (i := 22) rfl)
theorem w_23 {a0 : Array Value} {Z : State} (hw : ∀ d ∈ tables_1, d.before a0 Z = true) : (Jvm.Cond.code ({ cls := "com/example/mullion/mullion/core/Room", name := "values", desc := "()[Lcom/example/mullion/mullion/core/Room;" } : Jvm.MethodName) prog_35_method_1_code (0 : Nat) (Option.some (Jvm.ClassFile.FieldType.array (Jvm.ClassFile.FieldType.object "com/example/mullion/mullion/core/Room")))).before a0 Z = true := hw _ (List.mem_of_getElem? (i := 23) rfl)
theorem w_24 {a0 : Array Value} {Z : State} (hw : ∀ d ∈ tables_1, d.before a0 Z = true) : (Jvm.Cond.fieldLink "com/example/mullion/mullion/core/Room" (25 : Nat) "com/example/mullion/mullion/core/Room" "$VALUES" "[Lcom/example/mullion/mullion/core/Room;").before a0 Z = true := hw _ (List.mem_of_getElem? (i := 24) rfl)
theorem w_25 {a0 : Array Value} {Z : State} (hw : ∀ d ∈ tables_1, d.before a0 Z = true) : (Jvm.Cond.laysStatic "com/example/mullion/mullion/core/Room" "$VALUES" "[Lcom/example/mullion/mullion/core/Room;").before a0 Z = true := hw _ (List.mem_of_getElem? (i := 25) rfl)
theorem w_26 {a0 : Array Value} {Z : State} (hw : ∀ d ∈ tables_1, d.before a0 Z = true) : (Jvm.Cond.methodLink "com/example/mullion/mullion/core/Room" (29 : Nat) ({ cls := "[Lcom/example/mullion/mullion/core/Room;", name := "clone", desc := "()Ljava/lang/Object;" } : Jvm.MethodName)).before a0 Z = true := hw _ (List.mem_of_getElem? (i := 26) rfl)
theorem w_27 {a0 : Array Value} {Z : State} (hw : ∀ d ∈ tables_1, d.before a0 Z = true) : (Jvm.Cond.sameMethod "[Lcom/example/mullion/mullion/core/Room;" "java/lang/Object" "clone" "()Ljava/lang/Object;").before a0 Z = true := hw _ (List.mem_of_getElem? (i := 27) rfl)
theorem w_29 {a0 : Array Value} {Z : State} (hw : ∀ d ∈ tables_1, d.before a0 Z = true) : (Jvm.Cond.instanceMethod ({ cls := "java/lang/Object", name := "clone", desc := "()Ljava/lang/Object;" } : Jvm.MethodName)).before a0 Z = true := hw _ (List.mem_of_getElem? (i := 29) rfl)
theorem w_30 {a0 : Array Value} {Z : State} (hw : ∀ d ∈ tables_1, d.before a0 Z = true) : (Jvm.Cond.selects "[Lcom/example/mullion/mullion/core/Room;" ({ cls := "[Lcom/example/mullion/mullion/core/Room;", name := "clone", desc := "()Ljava/lang/Object;" } : Jvm.MethodName) ({ cls := "java/lang/Object", name := "clone", desc := "()Ljava/lang/Object;" } : Jvm.MethodName)).before a0 Z = true := hw _ (List.mem_of_getElem? (i := 30) rfl)
theorem w_31 {a0 : Array Value} {Z : State} (hw : ∀ d ∈ tables_1, d.before a0 Z = true) : (Jvm.Cond.native ({ cls := "java/lang/Object", name := "clone", desc := "()Ljava/lang/Object;" } : Jvm.MethodName)).before a0 Z = true := hw _ (List.mem_of_getElem? (i := 31) rfl)
theorem w_32 {a0 : Array Value} {Z : State} (hw : ∀ d ∈ tables_1, d.before a0 Z = true) : (Jvm.Cond.castable "[Lcom/example/mullion/mullion/core/Room;" "java/lang/Cloneable").before a0 Z = true := hw _ (List.mem_of_getElem? (i := 32) rfl)
theorem w_33 {a0 : Array Value} {Z : State} (hw : ∀ d ∈ tables_1, d.before a0 Z = true) : (Jvm.Cond.laysStatic "com/example/mullion/mullion/core/Room" "TOKENS" "Lcom/example/mullion/mullion/core/Room;").before a0 Z = true := hw _ (List.mem_of_getElem? (i := 33) rfl)
theorem w_34 {a0 : Array Value} {Z : State} (hw : ∀ d ∈ tables_1, d.before a0 Z = true) : (Jvm.Cond.laysStatic "com/example/mullion/mullion/core/Room" "TOKEN_TEXT" "Lcom/example/mullion/mullion/core/Room;").before a0 Z = true := hw _ (List.mem_of_getElem? (i := 34) rfl)
theorem w_35 {a0 : Array Value} {Z : State} (hw : ∀ d ∈ tables_1, d.before a0 Z = true) : (Jvm.Cond.laysStatic "com/example/mullion/mullion/core/Room" "BUFFERS" "Lcom/example/mullion/mullion/core/Room;").before a0 Z = true := hw _ (List.mem_of_getElem? (i := 35) rfl)
theorem w_36 {a0 : Array Value} {Z : State} (hw : ∀ d ∈ tables_1, d.before a0 Z = true) : (Jvm.Cond.laysStatic "com/example/mullion/mullion/core/Room" "BUFFER_FILES" "Lcom/example/mullion/mullion/core/Room;").before a0 Z = true := hw _ (List.mem_of_getElem? (i := 36) rfl)
theorem w_38 {a0 : Array Value} {Z : State} (hw : ∀ d ∈ tables_1, d.before a0 Z = true) : (Jvm.Cond.classLink "com/example/mullion/mullion/core/Room" (30 : Nat) "[Lcom/example/mullion/mullion/core/Room;").before a0 Z = true := hw _ (List.mem_of_getElem? (i := 38) rfl)
theorem w_40 {a0 : Array Value} {Z : State} (hw : ∀ d ∈ tables_1, d.before a0 Z = true) : (Jvm.Cond.arrayClass Jvm.ClassFile.FieldType.long).before a0 Z = true := hw _ (List.mem_of_getElem? (i := 40) rfl)
theorem w_41 {a0 : Array Value} {Z : State} (hw : ∀ d ∈ tables_1, d.before a0 Z = true) : (Jvm.Cond.fieldLink "com/example/mullion/mullion/core/Holding" (13 : Nat) "com/example/mullion/mullion/core/Holding" "amounts" "[J").before a0 Z = true := hw _ (List.mem_of_getElem? (i := 41) rfl)
theorem w_42 {a0 : Array Value} {Z : State} (hw : ∀ d ∈ tables_1, d.before a0 Z = true) : (Jvm.Cond.laysFinal "com/example/mullion/mullion/core/Holding" "com/example/mullion/mullion/core/Holding" "amounts" "[J").before a0 Z = true := hw _ (List.mem_of_getElem? (i := 42) rfl)
theorem w_43 {a0 : Array Value} {Z : State} (hw : ∀ d ∈ tables_1, d.before a0 Z = true) : (Jvm.Cond.methodLink "com/example/mullion/mullion/core/HoldingAddPinLaw" (41 : Nat) ({ cls := "com/example/mullion/mullion/core/Holding", name := "add", desc := "(Lcom/example/mullion/mullion/core/Room;J)Lcom/example/mullion/mullion/core/Holding;" } : Jvm.MethodName)).before a0 Z = true := hw _ (List.mem_of_getElem? (i := 43) rfl)
theorem w_44 {a0 : Array Value} {Z : State} (hw : ∀ d ∈ tables_1, d.before a0 Z = true) : (Jvm.Cond.declares ({ cls := "com/example/mullion/mullion/core/Holding", name := "add", desc := "(Lcom/example/mullion/mullion/core/Room;J)Lcom/example/mullion/mullion/core/Holding;" } : Jvm.MethodName)).before a0 Z = true := hw _ (List.mem_of_getElem? (i := 44) rfl)
theorem w_45 {a0 : Array Value} {Z : State} (hw : ∀ d ∈ tables_1, d.before a0 Z = true) : (Jvm.Cond.instanceMethod ({ cls := "com/example/mullion/mullion/core/Holding", name := "add", desc := "(Lcom/example/mullion/mullion/core/Room;J)Lcom/example/mullion/mullion/core/Holding;" } : Jvm.MethodName)).before a0 Z = true := hw _ (List.mem_of_getElem? (i := 45) rfl)
theorem w_46 {a0 : Array Value} {Z : State} (hw : ∀ d ∈ tables_1, d.before a0 Z = true) : (Jvm.Cond.selects "com/example/mullion/mullion/core/Holding" ({ cls := "com/example/mullion/mullion/core/Holding", name := "add", desc := "(Lcom/example/mullion/mullion/core/Room;J)Lcom/example/mullion/mullion/core/Holding;" } : Jvm.MethodName) ({ cls := "com/example/mullion/mullion/core/Holding", name := "add", desc := "(Lcom/example/mullion/mullion/core/Room;J)Lcom/example/mullion/mullion/core/Holding;" } : Jvm.MethodName)).before a0 Z = true := hw _ (List.mem_of_getElem? (i := 46) rfl)
theorem w_47 {a0 : Array Value} {Z : State} (hw : ∀ d ∈ tables_1, d.before a0 Z = true) : (Jvm.Cond.code ({ cls := "com/example/mullion/mullion/core/Holding", name := "add", desc := "(Lcom/example/mullion/mullion/core/Room;J)Lcom/example/mullion/mullion/core/Holding;" } : Jvm.MethodName) prog_21_method_3_code (4 : Nat) (Option.some (Jvm.ClassFile.FieldType.object "com/example/mullion/mullion/core/Holding"))).before a0 Z = true := hw _ (List.mem_of_getElem? (i := 47) rfl)
theorem w_48 {a0 : Array Value} {Z : State} (hw : ∀ d ∈ tables_1, d.before a0 Z = true) : (Jvm.Cond.methodLink "com/example/mullion/mullion/core/Holding" (19 : Nat) ({ cls := "com/example/mullion/mullion/core/Room", name := "ordinal", desc := "()I" } : Jvm.MethodName)).before a0 Z = true := hw _ (List.mem_of_getElem? (i := 48) rfl)
theorem w_49 {a0 : Array Value} {Z : State} (hw : ∀ d ∈ tables_1, d.before a0 Z = true) : (Jvm.Cond.sameMethod "com/example/mullion/mullion/core/Room" "java/lang/Enum" "ordinal" "()I").before a0 Z = true := hw _ (List.mem_of_getElem? (i := 49) rfl)
theorem w_50 {a0 : Array Value} {Z : State} (hw : ∀ d ∈ tables_1, d.before a0 Z = true) : (Jvm.Cond.declares ({ cls := "java/lang/Enum", name := "ordinal", desc := "()I" } : Jvm.MethodName)).before a0 Z = true := hw _ (List.mem_of_getElem? (i := 50) rfl)
theorem w_51 {a0 : Array Value} {Z : State} (hw : ∀ d ∈ tables_1, d.before a0 Z = true) : (Jvm.Cond.instanceMethod ({ cls := "java/lang/Enum", name := "ordinal", desc := "()I" } : Jvm.MethodName)).before a0 Z = true := hw _ (List.mem_of_getElem? (i := 51) rfl)
theorem w_52 {a0 : Array Value} {Z : State} (hw : ∀ d ∈ tables_1, d.before a0 Z = true) : (Jvm.Cond.selects "com/example/mullion/mullion/core/Room" ({ cls := "com/example/mullion/mullion/core/Room", name := "ordinal", desc := "()I" } : Jvm.MethodName) ({ cls := "java/lang/Enum", name := "ordinal", desc := "()I" } : Jvm.MethodName)).before a0 Z = true := hw _ (List.mem_of_getElem? (i := 52) rfl)
theorem w_53 {a0 : Array Value} {Z : State} (hw : ∀ d ∈ tables_1, d.before a0 Z = true) : (Jvm.Cond.initialized "java/lang/Enum").before a0 Z = true := hw _ (List.mem_of_getElem? (i := 53) rfl)
theorem w_54 {a0 : Array Value} {Z : State} (hw : ∀ d ∈ tables_1, d.before a0 Z = true) : (Jvm.Cond.code ({ cls := "java/lang/Enum", name := "ordinal", desc := "()I" } : Jvm.MethodName) jdk_37_method_2_code (1 : Nat) (Option.some Jvm.ClassFile.FieldType.int)).before a0 Z = true := hw _ (List.mem_of_getElem? (i := 54) rfl)
theorem w_55 {a0 : Array Value} {Z : State} (hw : ∀ d ∈ tables_1, d.before a0 Z = true) : (Jvm.Cond.fieldLink "java/lang/Enum" (7 : Nat) "java/lang/Enum" "ordinal" "I").before a0 Z = true := hw _ (List.mem_of_getElem? (i := 55) rfl)
theorem w_57 {a0 : Array Value} {Z : State} (hw : ∀ d ∈ tables_1, d.before a0 Z = true) : (Jvm.Cond.methodLink "com/example/mullion/mullion/core/HoldingAddPinLaw" (45 : Nat) ({ cls := "com/example/mullion/mullion/core/Holding", name := "of", desc := "(Lcom/example/mullion/mullion/core/Room;)J" } : Jvm.MethodName)).before a0 Z = true := hw _ (List.mem_of_getElem? (i := 57) rfl)
theorem w_58 {a0 : Array Value} {Z : State} (hw : ∀ d ∈ tables_1, d.before a0 Z = true) : (Jvm.Cond.declares ({ cls := "com/example/mullion/mullion/core/Holding", name := "of", desc := "(Lcom/example/mullion/mullion/core/Room;)J" } : Jvm.MethodName)).before a0 Z = true := hw _ (List.mem_of_getElem? (i := 58) rfl)
theorem w_59 {a0 : Array Value} {Z : State} (hw : ∀ d ∈ tables_1, d.before a0 Z = true) : (Jvm.Cond.instanceMethod ({ cls := "com/example/mullion/mullion/core/Holding", name := "of", desc := "(Lcom/example/mullion/mullion/core/Room;)J" } : Jvm.MethodName)).before a0 Z = true := hw _ (List.mem_of_getElem? (i := 59) rfl)
theorem w_60 {a0 : Array Value} {Z : State} (hw : ∀ d ∈ tables_1, d.before a0 Z = true) : (Jvm.Cond.selects "com/example/mullion/mullion/core/Holding" ({ cls := "com/example/mullion/mullion/core/Holding", name := "of", desc := "(Lcom/example/mullion/mullion/core/Room;)J" } : Jvm.MethodName) ({ cls := "com/example/mullion/mullion/core/Holding", name := "of", desc := "(Lcom/example/mullion/mullion/core/Room;)J" } : Jvm.MethodName)).before a0 Z = true := hw _ (List.mem_of_getElem? (i := 60) rfl)
theorem w_61 {a0 : Array Value} {Z : State} (hw : ∀ d ∈ tables_1, d.before a0 Z = true) : (Jvm.Cond.code ({ cls := "com/example/mullion/mullion/core/Holding", name := "of", desc := "(Lcom/example/mullion/mullion/core/Room;)J" } : Jvm.MethodName) prog_21_method_2_code (2 : Nat) (Option.some Jvm.ClassFile.FieldType.long)).before a0 Z = true := hw _ (List.mem_of_getElem? (i := 61) rfl)
theorem w_62 {a0 : Array Value} {Z : State} (hw : ∀ d ∈ tables_1, d.before a0 Z = true) : (Jvm.Cond.methodLink "com/example/mullion/mullion/core/HoldingAddPinLaw" (49 : Nat) ({ cls := "com/example/mullion/mullion/core/HoldingAddPinLaw", name := "expected", desc := "(Lcom/example/mullion/mullion/core/Room;Lcom/example/mullion/mullion/core/Room;JLcom/example/mullion/mullion/core/Room;J)J" } : Jvm.MethodName)).before a0 Z = true := hw _ (List.mem_of_getElem? (i := 62) rfl)
theorem w_63 {a0 : Array Value} {Z : State} (hw : ∀ d ∈ tables_1, d.before a0 Z = true) : (Jvm.Cond.static ({ cls := "com/example/mullion/mullion/core/HoldingAddPinLaw", name := "expected", desc := "(Lcom/example/mullion/mullion/core/Room;Lcom/example/mullion/mullion/core/Room;JLcom/example/mullion/mullion/core/Room;J)J" } : Jvm.MethodName)).before a0 Z = true := hw _ (List.mem_of_getElem? (i := 63) rfl)
theorem w_64 {a0 : Array Value} {Z : State} (hw : ∀ d ∈ tables_1, d.before a0 Z = true) : (Jvm.Cond.code ({ cls := "com/example/mullion/mullion/core/HoldingAddPinLaw", name := "expected", desc := "(Lcom/example/mullion/mullion/core/Room;Lcom/example/mullion/mullion/core/Room;JLcom/example/mullion/mullion/core/Room;J)J" } : Jvm.MethodName) method_3_code (9 : Nat) (Option.some Jvm.ClassFile.FieldType.long)).before a0 Z = true := hw _ (List.mem_of_getElem? (i := 64) rfl)
theorem w_65 {a0 : Array Value} {Z : State} (hw : ∀ d ∈ tables_1, d.before a0 Z = true) : (Jvm.Cond.fieldLink "com/example/mullion/mullion/core/HoldingAddPinLaw" (26 : Nat) "com/example/mullion/mullion/core/Room" "BUFFERS" "Lcom/example/mullion/mullion/core/Room;").before a0 Z = true := hw _ (List.mem_of_getElem? (i := 65) rfl)
theorem w_66 {a0 : Array Value} {Z : State} (hw : ∀ d ∈ tables_1, d.before a0 Z = true) : (Jvm.Cond.fieldLink "com/example/mullion/mullion/core/HoldingAddPinLaw" (29 : Nat) "com/example/mullion/mullion/core/Room" "BUFFER_FILES" "Lcom/example/mullion/mullion/core/Room;").before a0 Z = true := hw _ (List.mem_of_getElem? (i := 66) rfl)
theorem w_67 {a0 : Array Value} {Z : State} (hw : ∀ d ∈ tables_1, d.before a0 Z = true) : (Jvm.Cond.fieldLink "com/example/mullion/mullion/core/HoldingAddPinLaw" (20 : Nat) "com/example/mullion/mullion/core/Room" "TOKENS" "Lcom/example/mullion/mullion/core/Room;").before a0 Z = true := hw _ (List.mem_of_getElem? (i := 67) rfl)
theorem w_68 {a0 : Array Value} {Z : State} (hw : ∀ d ∈ tables_1, d.before a0 Z = true) : (Jvm.Cond.fieldLink "com/example/mullion/mullion/core/HoldingAddPinLaw" (23 : Nat) "com/example/mullion/mullion/core/Room" "TOKEN_TEXT" "Lcom/example/mullion/mullion/core/Room;").before a0 Z = true := hw _ (List.mem_of_getElem? (i := 68) rfl)
theorem own_rem7 (x : Int32) : (x &&& (2147483647 : Int32)) % (7 : Int32) = (0 : Int32) ∨ (x &&& (2147483647 : Int32)) % (7 : Int32) = (1 : Int32) ∨ (x &&& (2147483647 : Int32)) % (7 : Int32) = (2 : Int32) ∨ (x &&& (2147483647 : Int32)) % (7 : Int32) = (3 : Int32) ∨ (x &&& (2147483647 : Int32)) % (7 : Int32) = (4 : Int32) ∨ (x &&& (2147483647 : Int32)) % (7 : Int32) = (5 : Int32) ∨ (x &&& (2147483647 : Int32)) % (7 : Int32) = (6 : Int32) := by
  have h := (c_and x 2147483647 (by decide)).1
  have h2 := (c_irem (x &&& (2147483647 : Int32)) (7 : Int32) 7 rfl).1 h
  generalize (x &&& (2147483647 : Int32)) % (7 : Int32) = z at h2 ⊢
  generalize (x &&& (2147483647 : Int32)).toInt = y at h2
  simp only [← Int32.toInt_inj]
  have q0 : (0 : Int32).toInt = 0 := rfl
  have q1 : (1 : Int32).toInt = 1 := rfl
  have q2 : (2 : Int32).toInt = 2 := rfl
  have q3 : (3 : Int32).toInt = 3 := rfl
  have q4 : (4 : Int32).toInt = 4 := rfl
  have q5 : (5 : Int32).toInt = 5 := rfl
  have q6 : (6 : Int32).toInt = 6 := rfl
  omega
def ownRm (j : Int32) (oWINDOWS oWINDOW_TEXT oLISTED_TEXT oTOKENS oTOKEN_TEXT oBUFFERS oBUFFER_FILES : Addr) : Addr := if j = 0 then oWINDOWS else if j = 1 then oWINDOW_TEXT else if j = 2 then oLISTED_TEXT else if j = 3 then oTOKENS else if j = 4 then oTOKEN_TEXT else if j = 5 then oBUFFERS else oBUFFER_FILES
def ownExp (r ra rb : Addr) (a b : Int64) : Int64 := if r = rb then (if r = ra then 0 + a else 0) + b else (if r = ra then 0 + a else 0)
def ownZ : List Value := [.long 0, .long 0, .long 0, .long 0, .long 0, .long 0, .long 0]
def ownV (j ja jb : Nat) (a b : Int64) : Int64 := if j = jb then (if jb = ja then 0 + a else 0) + b else (if j = ja then 0 + a else 0)
theorem own_z (j : Nat) (h : j < 7) : ownZ[j]? = some (.long 0) := by
  match j, h with
  | 0, _ => rfl
  | 1, _ => rfl
  | 2, _ => rfl
  | 3, _ => rfl
  | 4, _ => rfl
  | 5, _ => rfl
  | 6, _ => rfl
theorem own_z1 (j ja : Nat) (a : Int64) (h : j < 7) (ha : ja < 7) : (ownZ.set ja (.long (0 + a)))[j]? = some (.long (if j = ja then 0 + a else 0)) := by
  rw [List.getElem?_set]
  by_cases q : ja = j
  · subst q; simp [ownZ]; omega
  · rw [if_neg q, own_z j h, if_neg (fun e => q e.symm)]
theorem own_z2 (j ja jb : Nat) (a b : Int64) (h : j < 7) (ha : ja < 7) (hb : jb < 7) : ((ownZ.set ja (.long (0 + a))).set jb (.long ((if jb = ja then 0 + a else 0) + b)))[j]? = some (.long (ownV j ja jb a b)) := by
  unfold ownV
  rw [List.getElem?_set]
  by_cases q : jb = j
  · subst q; simp [ownZ]; omega
  · rw [if_neg q, own_z1 j ja a h ha, if_neg (c := j = jb) (fun e => q e.symm)]
theorem own_nat {i j : Int32} (hi : ¬ i < 0) (hj : ¬ j < 0) : i.toNatClampNeg = j.toNatClampNeg ↔ i = j := by
  constructor
  · intro h
    have a := nat_of hi
    have b := nat_of hj
    exact Int32.toInt_inj.mp (by omega)
  · intro h; rw [h]
theorem own_fin {Z : State} {h : Heap} {r ra rb : Addr} {j ja jb : Int32} {a b : Int64} {oWINDOWS oWINDOW_TEXT oLISTED_TEXT oTOKENS oTOKEN_TEXT oBUFFERS oBUFFER_FILES : Addr} (h1 : r = ownRm j oWINDOWS oWINDOW_TEXT oLISTED_TEXT oTOKENS oTOKEN_TEXT oBUFFERS oBUFFER_FILES) (h2 : ra = ownRm ja oWINDOWS oWINDOW_TEXT oLISTED_TEXT oTOKENS oTOKEN_TEXT oBUFFERS oBUFFER_FILES) (h3 : rb = ownRm jb oWINDOWS oWINDOW_TEXT oLISTED_TEXT oTOKENS oTOKEN_TEXT oBUFFERS oBUFFER_FILES) (f1 : Fld Z h r "java/lang/Enum" "ordinal" "I" (.int j)) (f2 : Fld Z h ra "java/lang/Enum" "ordinal" "I" (.int ja)) (f3 : Fld Z h rb "java/lang/Enum" "ordinal" "I" (.int jb)) (p1 : ¬ j < 0) (p2 : ¬ ja < 0) (p3 : ¬ jb < 0) :
    ownV j.toNatClampNeg ja.toNatClampNeg jb.toNatClampNeg a b = ownExp r ra rb a b := by
  have qa : j = ja ↔ r = ra := ⟨fun q => by rw [h1, h2, q], fun q => by subst q; exact Classical.byContradiction fun z => Fld.ne f1 f2 (fun y => z (Value.int.inj y)) rfl⟩
  have qb : j = jb ↔ r = rb := ⟨fun q => by rw [h1, h3, q], fun q => by subst q; exact Classical.byContradiction fun z => Fld.ne f1 f3 (fun y => z (Value.int.inj y)) rfl⟩
  have qc : jb = ja ↔ rb = ra := ⟨fun q => by rw [h3, h2, q], fun q => by subst q; exact Classical.byContradiction fun z => Fld.ne f3 f2 (fun y => z (Value.int.inj y)) rfl⟩
  unfold ownV ownExp
  simp only [own_nat p1 p3, own_nat p1 p2, own_nat p3 p2, qa, qb, qc]
  by_cases z : r = rb
  · subst z; simp
  · simp [z]
theorem d1_0 : decode method_2_code 0 = .ok (.iload_n 0, 1) := by decide +kernel
theorem d1_1 : decode method_2_code 1 = .ok (.ldc 7, 2) := by decide +kernel
theorem d1_3 : decode method_2_code 3 = .ok (.iand, 1) := by decide +kernel
theorem d1_4 : decode method_2_code 4 = .ok (.bipush 7, 2) := by decide +kernel
theorem d1_6 : decode method_2_code 6 = .ok (.irem, 1) := by decide +kernel
theorem d1_7 : decode method_2_code 7 = .ok (.istore_n 1, 1) := by decide +kernel
theorem d1_8 : decode method_2_code 8 = .ok (.iload_n 1, 1) := by decide +kernel
theorem d1_9 : decode method_2_code 9 = .ok (.ifCond .ne 7, 3) := by decide +kernel
theorem d1_12 : decode method_2_code 12 = .ok (.getstatic 8, 3) := by decide +kernel
theorem d1_15 : decode method_2_code 15 = .ok (.areturn, 1) := by decide +kernel
theorem d1_16 : decode method_2_code 16 = .ok (.iload_n 1, 1) := by decide +kernel
theorem d1_17 : decode method_2_code 17 = .ok (.iconst 1, 1) := by decide +kernel
theorem d1_18 : decode method_2_code 18 = .ok (.if_icmp .ne 7, 3) := by decide +kernel
theorem d1_21 : decode method_2_code 21 = .ok (.getstatic 14, 3) := by decide +kernel
theorem d1_24 : decode method_2_code 24 = .ok (.areturn, 1) := by decide +kernel
theorem d1_25 : decode method_2_code 25 = .ok (.iload_n 1, 1) := by decide +kernel
theorem d1_26 : decode method_2_code 26 = .ok (.iconst 2, 1) := by decide +kernel
theorem d1_27 : decode method_2_code 27 = .ok (.if_icmp .ne 7, 3) := by decide +kernel
theorem d1_30 : decode method_2_code 30 = .ok (.getstatic 17, 3) := by decide +kernel
theorem d1_33 : decode method_2_code 33 = .ok (.areturn, 1) := by decide +kernel
theorem d1_34 : decode method_2_code 34 = .ok (.iload_n 1, 1) := by decide +kernel
theorem d1_35 : decode method_2_code 35 = .ok (.iconst 3, 1) := by decide +kernel
theorem d1_36 : decode method_2_code 36 = .ok (.if_icmp .ne 7, 3) := by decide +kernel
theorem d1_39 : decode method_2_code 39 = .ok (.getstatic 20, 3) := by decide +kernel
theorem d1_42 : decode method_2_code 42 = .ok (.areturn, 1) := by decide +kernel
theorem d1_43 : decode method_2_code 43 = .ok (.iload_n 1, 1) := by decide +kernel
theorem d1_44 : decode method_2_code 44 = .ok (.iconst 4, 1) := by decide +kernel
theorem d1_45 : decode method_2_code 45 = .ok (.if_icmp .ne 7, 3) := by decide +kernel
theorem d1_48 : decode method_2_code 48 = .ok (.getstatic 23, 3) := by decide +kernel
theorem d1_51 : decode method_2_code 51 = .ok (.areturn, 1) := by decide +kernel
theorem d1_52 : decode method_2_code 52 = .ok (.iload_n 1, 1) := by decide +kernel
theorem d1_53 : decode method_2_code 53 = .ok (.iconst 5, 1) := by decide +kernel
theorem d1_54 : decode method_2_code 54 = .ok (.if_icmp .ne 7, 3) := by decide +kernel
theorem d1_57 : decode method_2_code 57 = .ok (.getstatic 26, 3) := by decide +kernel
theorem d1_60 : decode method_2_code 60 = .ok (.areturn, 1) := by decide +kernel
theorem d1_61 : decode method_2_code 61 = .ok (.getstatic 29, 3) := by decide +kernel
theorem d1_64 : decode method_2_code 64 = .ok (.areturn, 1) := by decide +kernel
theorem ef_rm1 (m : MethodId) (x0 : Int32) : entryFrame m #[(.int x0)] 2 = mkF m 0 #[.val (.int x0), .unset] [] := by first | (simp [entryFrame, mkF, argsToLocals, Value.category]; done) | (simp [entryFrame, mkF, argsToLocals, *]; done) | rfl
set_option maxRecDepth 65536 in
set_option maxHeartbeats 2000000 in
theorem rm1 (l : Launch) (Z : State) (a0 : Array Value) (hw : ∀ d ∈ tables_1, d.before a0 Z = true) (i : Int32) (oWINDOWS : Addr) (oWINDOW_TEXT : Addr) (oLISTED_TEXT : Addr) (oTOKENS : Addr) (oTOKEN_TEXT : Addr) (oBUFFERS : Addr) (oBUFFER_FILES : Addr) (h0 : Heap) (hE : Ext Z.heap h0) (hS0 : Sta Z Z.heap "com/example/mullion/mullion/core/Room" "WINDOWS" "Lcom/example/mullion/mullion/core/Room;" (.ref oWINDOWS)) (hS1 : Sta Z Z.heap "com/example/mullion/mullion/core/Room" "WINDOW_TEXT" "Lcom/example/mullion/mullion/core/Room;" (.ref oWINDOW_TEXT)) (hS2 : Sta Z Z.heap "com/example/mullion/mullion/core/Room" "LISTED_TEXT" "Lcom/example/mullion/mullion/core/Room;" (.ref oLISTED_TEXT)) (hS3 : Sta Z Z.heap "com/example/mullion/mullion/core/Room" "TOKENS" "Lcom/example/mullion/mullion/core/Room;" (.ref oTOKENS)) (hS4 : Sta Z Z.heap "com/example/mullion/mullion/core/Room" "TOKEN_TEXT" "Lcom/example/mullion/mullion/core/Room;" (.ref oTOKEN_TEXT)) (hS5 : Sta Z Z.heap "com/example/mullion/mullion/core/Room" "BUFFERS" "Lcom/example/mullion/mullion/core/Room;" (.ref oBUFFERS)) (hS6 : Sta Z Z.heap "com/example/mullion/mullion/core/Room" "BUFFER_FILES" "Lcom/example/mullion/mullion/core/Room;" (.ref oBUFFER_FILES)) (hoE7 : Exa Z Z.heap oWINDOWS "com/example/mullion/mullion/core/Room") (hoE8 : Exa Z Z.heap oWINDOW_TEXT "com/example/mullion/mullion/core/Room") (hoE9 : Exa Z Z.heap oLISTED_TEXT "com/example/mullion/mullion/core/Room") (hoE10 : Exa Z Z.heap oTOKENS "com/example/mullion/mullion/core/Room") (hoE11 : Exa Z Z.heap oTOKEN_TEXT "com/example/mullion/mullion/core/Room") (hoE12 : Exa Z Z.heap oBUFFERS "com/example/mullion/mullion/core/Room") (hoE13 : Exa Z Z.heap oBUFFER_FILES "com/example/mullion/mullion/core/Room") (hoF14 : Fld Z Z.heap oWINDOWS "java/lang/Enum" "ordinal" "I" (.int (0 : Int32))) (hoF15 : Fld Z Z.heap oWINDOW_TEXT "java/lang/Enum" "ordinal" "I" (.int (1 : Int32))) (hoF16 : Fld Z Z.heap oLISTED_TEXT "java/lang/Enum" "ordinal" "I" (.int (2 : Int32))) (hoF17 : Fld Z Z.heap oTOKENS "java/lang/Enum" "ordinal" "I" (.int (3 : Int32))) (hoF18 : Fld Z Z.heap oTOKEN_TEXT "java/lang/Enum" "ordinal" "I" (.int (4 : Int32))) (hoF19 : Fld Z Z.heap oBUFFERS "java/lang/Enum" "ordinal" "I" (.int (5 : Int32))) (hoF20 : Fld Z Z.heap oBUFFER_FILES "java/lang/Enum" "ordinal" "I" (.int (6 : Int32))) :
    Con l Z (⟨"com/example/mullion/mullion/core/HoldingAddPinLaw", "pick", "(I)Lcom/example/mullion/mullion/core/Room;"⟩ : MethodName) method_2_code 2 (some (.object "com/example/mullion/mullion/core/Room")) ({ frames := 0, cells := 0, slots := 0, locals := 0 } : Room) #[(.int i)] h0 (fun vv hh => ∃ r : Addr, ∃ j : Int32, vv = some (.ref r) ∧ h0 = hh ∧ Exa Z Z.heap r "com/example/mullion/mullion/core/Room" ∧ Fld Z Z.heap r "java/lang/Enum" "ordinal" "I" (.int j) ∧ ¬ j < 0 ∧ j.toNatClampNeg < 7 ∧ r = ownRm j oWINDOWS oWINDOW_TEXT oLISTED_TEXT oTOKENS oTOKEN_TEXT oBUFFERS oBUFFER_FILES) := by
  refine Con.of (plainFor_of_name (by first | (simp [plainName, overriddenIn]; done) | decide +kernel)) hE ?_
  intro p e s m below T (X : Sd l Z "com/example/mullion/mullion/core/HoldingAddPinLaw" "pick" method_2_code 2 (some (.object "com/example/mullion/mullion/core/Room")) ({ frames := 0, cells := 0, slots := 0, locals := 0 } : Room) p e s m #[(.int i)] below T h0 0 0)
  refine End.frame (ef_rm1 m i) ?_
  show End Z p e below s _ _ _ _ (mkF m 0 #[.val (.int i), .unset] [])
  refine E_iloadN (pc' := 1) X d1_0 rfl rfl ?_
  refine E_ldcI (v := (2147483647 : Int32)) (pc' := 3) X (w_4 hw) d1_1 rfl ?_
  refine E_iand (pc' := 4) X d1_3 rfl ?_
  refine E_bipush (v := (7 : Int32)) (pc' := 6) X d1_4 rfl rfl ?_
  refine E_irem (pc' := 7) X d1_6 rfl (by decide) ?_
  refine E_istoreN (Ls' := #[.val (.int i), .val (.int ((i &&& (2147483647 : Int32)) % (7 : Int32)))]) (pc' := 8) X d1_7 rfl rfl ?_
  refine E_iloadN (pc' := 9) X d1_8 rfl rfl ?_
  refine E_if (pcY := 16) (pcN := 12) X (i0_ne _) d1_9 (by decide) rfl rfl (fun hc9_0 => ?_) (fun hc9_0 => ?_)
  · skip
    refine E_iloadN (pc' := 17) X d1_16 rfl rfl ?_
    refine E_iconst (v := (1 : Int32)) (pc' := 18) X d1_17 rfl rfl ?_
    refine E_icmp (pcY := 25) (pcN := 21) X (ic_ne _ _) d1_18 (by decide) rfl rfl (fun hc18_0 => ?_) (fun hc18_0 => ?_)
    · skip
      refine E_iloadN (pc' := 26) X d1_25 rfl rfl ?_
      refine E_iconst (v := (2 : Int32)) (pc' := 27) X d1_26 rfl rfl ?_
      refine E_icmp (pcY := 34) (pcN := 30) X (ic_ne _ _) d1_27 (by decide) rfl rfl (fun hc27_0 => ?_) (fun hc27_0 => ?_)
      · skip
        refine E_iloadN (pc' := 35) X d1_34 rfl rfl ?_
        refine E_iconst (v := (3 : Int32)) (pc' := 36) X d1_35 rfl rfl ?_
        refine E_icmp (pcY := 43) (pcN := 39) X (ic_ne _ _) d1_36 (by decide) rfl rfl (fun hc36_0 => ?_) (fun hc36_0 => ?_)
        · skip
          refine E_iloadN (pc' := 44) X d1_43 rfl rfl ?_
          refine E_iconst (v := (4 : Int32)) (pc' := 45) X d1_44 rfl rfl ?_
          refine E_icmp (pcY := 52) (pcN := 48) X (ic_ne _ _) d1_45 (by decide) rfl rfl (fun hc45_0 => ?_) (fun hc45_0 => ?_)
          · skip
            refine E_iloadN (pc' := 53) X d1_52 rfl rfl ?_
            refine E_iconst (v := (5 : Int32)) (pc' := 54) X d1_53 rfl rfl ?_
            refine E_icmp (pcY := 61) (pcN := 57) X (ic_ne _ _) d1_54 (by decide) rfl rfl (fun hc54_0 => ?_) (fun hc54_0 => ?_)
            · skip
              refine E_getS (pc' := 64) X (host := "") (Or.inl (w_66 hw)) Via.refl hS6 d1_61 rfl (fun T X => ?_)
              exact E_retA X d1_64 rfl rfl (by decide) (by decide) ⟨oBUFFER_FILES, (6 : Int32), rfl, rfl, hoE13, hoF20, (by decide), (by decide), (by simp [ownRm])⟩
            · skip
              replace hc54_0 := Decidable.not_not.mp hc54_0
              refine E_getS (pc' := 60) X (host := "") (Or.inl (w_65 hw)) Via.refl hS5 d1_57 rfl (fun T X => ?_)
              exact E_retA X d1_60 rfl rfl (by decide) (by decide) ⟨oBUFFERS, (5 : Int32), rfl, rfl, hoE12, hoF19, (by decide), (by decide), (by simp [ownRm])⟩
          · skip
            replace hc45_0 := Decidable.not_not.mp hc45_0
            refine E_getS (pc' := 51) X (host := "") (Or.inl (w_68 hw)) Via.refl hS4 d1_48 rfl (fun T X => ?_)
            exact E_retA X d1_51 rfl rfl (by decide) (by decide) ⟨oTOKEN_TEXT, (4 : Int32), rfl, rfl, hoE11, hoF18, (by decide), (by decide), (by simp [ownRm])⟩
        · skip
          replace hc36_0 := Decidable.not_not.mp hc36_0
          refine E_getS (pc' := 42) X (host := "") (Or.inl (w_67 hw)) Via.refl hS3 d1_39 rfl (fun T X => ?_)
          exact E_retA X d1_42 rfl rfl (by decide) (by decide) ⟨oTOKENS, (3 : Int32), rfl, rfl, hoE10, hoF17, (by decide), (by decide), (by simp [ownRm])⟩
      · skip
        replace hc27_0 := Decidable.not_not.mp hc27_0
        refine E_getS (pc' := 33) X (host := "") (Or.inl (w_10 hw)) Via.refl hS2 d1_30 rfl (fun T X => ?_)
        exact E_retA X d1_33 rfl rfl (by decide) (by decide) ⟨oLISTED_TEXT, (2 : Int32), rfl, rfl, hoE9, hoF16, (by decide), (by decide), (by simp [ownRm])⟩
    · skip
      replace hc18_0 := Decidable.not_not.mp hc18_0
      refine E_getS (pc' := 24) X (host := "") (Or.inl (w_8 hw)) Via.refl hS1 d1_21 rfl (fun T X => ?_)
      exact E_retA X d1_24 rfl rfl (by decide) (by decide) ⟨oWINDOW_TEXT, (1 : Int32), rfl, rfl, hoE8, hoF15, (by decide), (by decide), (by simp [ownRm])⟩
  · skip
    replace hc9_0 := Decidable.not_not.mp hc9_0
    refine E_getS (pc' := 15) X (host := "") (Or.inl (w_5 hw)) Via.refl hS0 d1_12 rfl (fun T X => ?_)
    exact E_retA X d1_15 rfl rfl (by decide) (by decide) ⟨oWINDOWS, (0 : Int32), rfl, rfl, hoE7, hoF14, (by decide), (by decide), (by simp [ownRm])⟩
theorem d4_0 : decode prog_35_method_1_code 0 = .ok (.getstatic 25, 3) := by decide +kernel
theorem d4_3 : decode prog_35_method_1_code 3 = .ok (.invokevirtual 29, 3) := by decide +kernel
theorem d4_6 : decode prog_35_method_1_code 6 = .ok (.checkcast 30, 3) := by decide +kernel
theorem d4_9 : decode prog_35_method_1_code 9 = .ok (.areturn, 1) := by decide +kernel
theorem ef_rm4 (m : MethodId)  : entryFrame m #[] 0 = mkF m 0 #[] [] := by first | (simp [entryFrame, mkF, argsToLocals, Value.category]; done) | (simp [entryFrame, mkF, argsToLocals, *]; done) | rfl
set_option maxRecDepth 65536 in
set_option maxHeartbeats 2000000 in
theorem rm4 (l : Launch) (Z : State) (a0 : Array Value) (hw : ∀ d ∈ tables_1, d.before a0 Z = true) (oWINDOWS : Addr) (oWINDOW_TEXT : Addr) (oLISTED_TEXT : Addr) (oTOKENS : Addr) (oTOKEN_TEXT : Addr) (oBUFFERS : Addr) (oBUFFER_FILES : Addr) (oVALUES : Addr) (h0 : Heap) (hE : Ext Z.heap h0) (hS0 : Sta Z Z.heap "com/example/mullion/mullion/core/Room" "$VALUES" "[Lcom/example/mullion/mullion/core/Room;" (.ref oVALUES)) (hoE1 : Exa Z Z.heap oVALUES "[Lcom/example/mullion/mullion/core/Room;") (hoA2 : Ar Z Z.heap oVALUES (.object "com/example/mullion/mullion/core/Room") [(.ref oWINDOWS), (.ref oWINDOW_TEXT), (.ref oLISTED_TEXT), (.ref oTOKENS), (.ref oTOKEN_TEXT), (.ref oBUFFERS), (.ref oBUFFER_FILES)]) :
    Con l Z (⟨"com/example/mullion/mullion/core/Room", "values", "()[Lcom/example/mullion/mullion/core/Room;"⟩ : MethodName) prog_35_method_1_code 0 (some (.array (.object "com/example/mullion/mullion/core/Room"))) ({ frames := 1, cells := 1, slots := 7, locals := 14 } : Room) #[] h0 (fun vv hh => ∃ r : Addr, vv = some (.ref r) ∧ Keep h0 hh [] ∧ h0.size ≤ r ∧ Ar Z hh r (.object "com/example/mullion/mullion/core/Room") [(.ref oWINDOWS), (.ref oWINDOW_TEXT), (.ref oLISTED_TEXT), (.ref oTOKENS), (.ref oTOKEN_TEXT), (.ref oBUFFERS), (.ref oBUFFER_FILES)]) := by
  refine Con.of (plainFor_of_name (by first | (simp [plainName, overriddenIn]; done) | decide +kernel)) hE ?_
  intro p e s m below T (X : Sd l Z "com/example/mullion/mullion/core/Room" "values" prog_35_method_1_code 0 (some (.array (.object "com/example/mullion/mullion/core/Room"))) ({ frames := 1, cells := 1, slots := 7, locals := 14 } : Room) p e s m #[] below T h0 0 0)
  refine End.frame (ef_rm4 m ) ?_
  have K_0 : Keep h0 h0 [] := Keep.refl _ _
  show End Z p e below s _ _ _ _ (mkF m 0 #[] [])
  refine E_getS (pc' := 3) X (host := "") (Or.inl (w_24 hw)) Via.refl hS0 d4_0 rfl (fun T X => ?_)
  have O_1 := hoA2.ext X.ext
  have O_2 := hoE1.ext X.ext
  have le_o3 := X.le
  refine E_clone (pc' := 6) X (cap := 7) (W := 0) (cells' := 1) (slots' := 7) (w_26 hw) (w_27 hw) (w_31 hw) (w_29 hw) (w_30 hw) (w_32 hw) O_1 O_2 (by simp [fits]) rfl d4_3 rfl (by decide) (Nat.le_refl _) (by decide) (Nat.le_of_ble_eq_true rfl) rfl rfl (by decide) (by decide) (fun T h_4 o3 g_7 X Ex_5 Aa_6 EaAa_6 => ?_)
  have b_8 : h0.size ≤ o3 := by rw [g_7]; exact K_0.1
  have K_9 : Keep h0 h_4 [] := K_0.ext Ex_5
  have fr_10 : Z.heap.size ≤ o3 := by rw [g_7]; exact le_o3
  refine E_cast (pc' := 9) X (w_38 hw) (Ins.self EaAa_6) d4_6 rfl (fun T X => ?_)
  exact E_retA X d4_9 rfl rfl (by decide) (by decide) ⟨o3, rfl, K_9, b_8, Aa_6⟩
theorem d2_0 : decode prog_21_method_1_code 0 = .ok (.aload_n 0, 1) := by decide +kernel
theorem d2_1 : decode prog_21_method_1_code 1 = .ok (.invokespecial 1, 3) := by decide +kernel
theorem d2_4 : decode prog_21_method_1_code 4 = .ok (.aload_n 0, 1) := by decide +kernel
theorem d2_5 : decode prog_21_method_1_code 5 = .ok (.invokestatic 7, 3) := by decide +kernel
theorem d2_8 : decode prog_21_method_1_code 8 = .ok (.arraylength, 1) := by decide +kernel
theorem d2_9 : decode prog_21_method_1_code 9 = .ok (.newarray .long, 2) := by decide +kernel
theorem d2_11 : decode prog_21_method_1_code 11 = .ok (.putfield 13, 3) := by decide +kernel
theorem d2_14 : decode prog_21_method_1_code 14 = .ok (.return_, 1) := by decide +kernel
theorem pd_0 : parseMethodDescriptor "()[Lcom/example/mullion/mullion/core/Room;" = some ⟨[], some (.array (.object "com/example/mullion/mullion/core/Room"))⟩ := by decide +kernel
theorem ef_rm2 (m : MethodId) (x0 : Addr) : entryFrame m #[(.ref x0)] 1 = mkF m 0 #[.val (.ref x0)] [] := by first | (simp [entryFrame, mkF, argsToLocals, Value.category]; done) | (simp [entryFrame, mkF, argsToLocals, *]; done) | rfl
set_option maxRecDepth 65536 in
set_option maxHeartbeats 2000000 in
theorem rm2 (l : Launch) (Z : State) (a0 : Array Value) (hw : ∀ d ∈ tables_1, d.before a0 Z = true) (a : Addr) (oWINDOWS : Addr) (oWINDOW_TEXT : Addr) (oLISTED_TEXT : Addr) (oTOKENS : Addr) (oTOKEN_TEXT : Addr) (oBUFFERS : Addr) (oBUFFER_FILES : Addr) (oVALUES : Addr) (h0 : Heap) (hE : Ext Z.heap h0) (hE0 : Exa Z h0 a "com/example/mullion/mullion/core/Holding") (hF1 : Fld Z h0 a "com/example/mullion/mullion/core/Holding" "amounts" "[J" .null) (hfr2 : Z.heap.size ≤ a) (hS3 : Sta Z Z.heap "com/example/mullion/mullion/core/Room" "$VALUES" "[Lcom/example/mullion/mullion/core/Room;" (.ref oVALUES)) (hoE4 : Exa Z Z.heap oVALUES "[Lcom/example/mullion/mullion/core/Room;") (hoA5 : Ar Z Z.heap oVALUES (.object "com/example/mullion/mullion/core/Room") [(.ref oWINDOWS), (.ref oWINDOW_TEXT), (.ref oLISTED_TEXT), (.ref oTOKENS), (.ref oTOKEN_TEXT), (.ref oBUFFERS), (.ref oBUFFER_FILES)]) :
    Con l Z (⟨"com/example/mullion/mullion/core/Holding", "<init>", "()V"⟩ : MethodName) prog_21_method_1_code 1 none ({ frames := 2, cells := 2, slots := 14, locals := 26 } : Room) #[(.ref a)] h0 (fun vv hh => ∃ t : Addr, vv = none ∧ Keep h0 hh [a] ∧ h0.size ≤ t ∧ Exa Z hh a "com/example/mullion/mullion/core/Holding" ∧ Fld Z hh a "com/example/mullion/mullion/core/Holding" "amounts" "[J" (.ref t) ∧ Ar Z hh t .long ownZ) := by
  refine Con.of (plainFor_of_name (by first | (simp [plainName, overriddenIn]; done) | decide +kernel)) hE ?_
  intro p e s m below T (X : Sd l Z "com/example/mullion/mullion/core/Holding" "<init>" prog_21_method_1_code 1 none ({ frames := 2, cells := 2, slots := 14, locals := 26 } : Room) p e s m #[(.ref a)] below T h0 0 0)
  refine End.frame (ef_rm2 m a) ?_
  have K_0 : Keep h0 h0 [a] := Keep.refl _ _
  show End Z p e below s _ _ _ _ (mkF m 0 #[.val (.ref a)] [])
  refine E_aloadN (v := (.ref a)) (pc' := 1) X d2_0 rfl rfl rfl ?_
  refine E_initO (pc' := 4) X (w_18 hw) (w_19 hw) (w_20 hw) rfl d2_1 rfl (by decide) (W := 0) (Nat.le_refl _) (by decide) (fun T X => ?_)
  refine E_aloadN (v := (.ref a)) (pc' := 5) X d2_4 rfl rfl rfl ?_
  have le_4 := X.le
  refine E_callS (pc' := 8) (W := 1) (cells' := 1) (slots' := 7) (argsL := []) (rest := [(.ref a)]) X (rm4 l Z a0 hw oWINDOWS oWINDOW_TEXT oLISTED_TEXT oTOKENS oTOKEN_TEXT oBUFFERS oBUFFER_FILES oVALUES h0 X.ext hS3 hoE4 hoA5) (w_21 hw) (w_22 hw) (w_6 hw) (w_23 hw) (by decide) rfl rfl pd_0 rfl rfl d2_5 rfl (Nat.le_refl _) (by decide) (by decide) rfl rfl (by decide) (by decide) (fun v1 T h_2 X hQ3 => ?_)
  obtain ⟨r_5, rfl, Kc_6, nw_7, A_8⟩ := hQ3
  have K_9 : Keep h0 h_2 [a] := K_0.trans Kc_6 all0
  have ne_10 : a ≠ r_5 := Nat.ne_of_lt (Nat.lt_of_lt_of_le hE0.lt nw_7)
  have fr_11 : Z.heap.size ≤ r_5 := Nat.le_trans le_4 nw_7
  show End Z p e below s _ _ _ _ (mkF m 8 #[.val (.ref a)] [(.ref r_5), (.ref a)])
  refine E_alen (n := (7 : Int32)) (pc' := 9) X A_8 rfl d2_8 rfl ?_
  have E_17 : Exa Z h_2 a "com/example/mullion/mullion/core/Holding" := (hE0.keep Kc_6)
  have le_o12 := X.le
  refine E_newA (pc' := 11) X (aty := .long) (n := (7 : Int32)) (cap := 7) (vs := [(.long (0 : Int64)), (.long (0 : Int64)), (.long (0 : Int64)), (.long (0 : Int64)), (.long (0 : Int64)), (.long (0 : Int64)), (.long (0 : Int64))]) (cells' := 2) (slots' := 14) (w_40 hw) d2_9 rfl (by decide) (by decide) (by decide) rfl rfl rfl (by decide) (by decide) (fun T h_13 o12 g_16 X Ex_14 Aa_15 => ?_)
  have b_18 : h0.size ≤ o12 := by rw [g_16]; exact K_9.1
  have K_19 : Keep h0 h_13 [a] := K_9.ext Ex_14
  have fr_20 : Z.heap.size ≤ o12 := by rw [g_16]; exact le_o12
  have ne_21 : a ≠ o12 := Nat.ne_of_lt (by rw [g_16]; exact E_17.lt)
  have ne_22 : r_5 ≠ o12 := Nat.ne_of_lt (by rw [g_16]; exact A_8.lt)
  have F_23 : Fld Z h_13 a "com/example/mullion/mullion/core/Holding" "amounts" "[J" .null := ((hF1.keep Kc_6 nin0).ext Ex_14)
  have E_24 : Exa Z h_13 a "com/example/mullion/mullion/core/Holding" := (E_17.ext Ex_14)
  refine E_putF (pc' := 14) X (host := "") (Or.inl (w_41 hw)) Via.refl F_23 E_24 (Or.inr ⟨(w_42 hw), rfl, rfl⟩) (w_13 hw) (ty := (.array .long)) (by decide) rfl rfl hfr2 d2_11 rfl (fun T h_26 X W_25 => ?_)
  have K_27 : Keep h0 h_26 [a] := K_19.wr W_25 (Or.inl (List.mem_of_getElem? (i := 0) rfl))
  have E_28 : Exa Z h_26 a "com/example/mullion/mullion/core/Holding" := (E_24.wr W_25)
  have F_29 : Fld Z h_26 a "com/example/mullion/mullion/core/Holding" "amounts" "[J" (.ref o12) := (F_23.same W_25)
  have A_30 : Ar Z h_26 o12 .long [(.long (0 : Int64)), (.long (0 : Int64)), (.long (0 : Int64)), (.long (0 : Int64)), (.long (0 : Int64)), (.long (0 : Int64)), (.long (0 : Int64))] := (Aa_15.other W_25 (Ne.symm ne_21))
  exact E_ret0 X d2_14 (by decide) (by decide) ⟨o12, rfl, K_27, b_18, E_28, F_29, A_30⟩
theorem d6_0 : decode jdk_37_method_2_code 0 = .ok (.aload_n 0, 1) := by decide +kernel
theorem d6_1 : decode jdk_37_method_2_code 1 = .ok (.getfield 7, 3) := by decide +kernel
theorem d6_4 : decode jdk_37_method_2_code 4 = .ok (.ireturn, 1) := by decide +kernel
theorem ef_rm6 (m : MethodId) (x0 : Addr) : entryFrame m #[(.ref x0)] 1 = mkF m 0 #[.val (.ref x0)] [] := by first | (simp [entryFrame, mkF, argsToLocals, Value.category]; done) | (simp [entryFrame, mkF, argsToLocals, *]; done) | rfl
set_option maxRecDepth 65536 in
set_option maxHeartbeats 2000000 in
theorem rm6 (l : Launch) (Z : State) (a0 : Array Value) (hw : ∀ d ∈ tables_1, d.before a0 Z = true) (a : Addr) (j : Int32) (h0 : Heap) (hE : Ext Z.heap h0) (hoF0 : Fld Z Z.heap a "java/lang/Enum" "ordinal" "I" (.int j)) :
    Con l Z (⟨"java/lang/Enum", "ordinal", "()I"⟩ : MethodName) jdk_37_method_2_code 1 (some .int) ({ frames := 0, cells := 0, slots := 0, locals := 0 } : Room) #[(.ref a)] h0 (fun vv hh => vv = some (.int j) ∧ h0 = hh) := by
  refine Con.of (plainFor_of_name (by first | (simp [plainName, overriddenIn]; done) | decide +kernel)) hE ?_
  intro p e s m below T (X : Sd l Z "java/lang/Enum" "ordinal" jdk_37_method_2_code 1 (some .int) ({ frames := 0, cells := 0, slots := 0, locals := 0 } : Room) p e s m #[(.ref a)] below T h0 0 0)
  refine End.frame (ef_rm6 m a) ?_
  show End Z p e below s _ _ _ _ (mkF m 0 #[.val (.ref a)] [])
  refine E_aloadN (v := (.ref a)) (pc' := 1) X d6_0 rfl rfl rfl ?_
  have O_1 := hoF0.ext X.ext
  refine E_getF (pc' := 4) X (host := "") (Or.inl (w_55 hw)) Via.refl O_1 d6_1 rfl (fun T X => ?_)
  exact E_retI X d6_4 (by decide) (by decide) ⟨rfl, rfl⟩
theorem d5_0 : decode prog_21_method_3_code 0 = .ok (.aload_n 0, 1) := by decide +kernel
theorem d5_1 : decode prog_21_method_3_code 1 = .ok (.getfield 13, 3) := by decide +kernel
theorem d5_4 : decode prog_21_method_3_code 4 = .ok (.aload_n 1, 1) := by decide +kernel
theorem d5_5 : decode prog_21_method_3_code 5 = .ok (.invokevirtual 19, 3) := by decide +kernel
theorem d5_8 : decode prog_21_method_3_code 8 = .ok (.dup2, 1) := by decide +kernel
theorem d5_9 : decode prog_21_method_3_code 9 = .ok (.laload, 1) := by decide +kernel
theorem d5_10 : decode prog_21_method_3_code 10 = .ok (.lload_n 2, 1) := by decide +kernel
theorem d5_11 : decode prog_21_method_3_code 11 = .ok (.ladd, 1) := by decide +kernel
theorem d5_12 : decode prog_21_method_3_code 12 = .ok (.lastore, 1) := by decide +kernel
theorem d5_13 : decode prog_21_method_3_code 13 = .ok (.aload_n 0, 1) := by decide +kernel
theorem d5_14 : decode prog_21_method_3_code 14 = .ok (.areturn, 1) := by decide +kernel
theorem pd_1 : parseMethodDescriptor "()I" = some ⟨[], some .int⟩ := by decide +kernel
theorem ef_rm5 (m : MethodId) (x0 : Addr) (x1 : Addr) (x2 : Int64) : entryFrame m #[(.ref x0), (.ref x1), (.long x2)] 4 = mkF m 0 #[.val (.ref x0), .val (.ref x1), .val (.long x2), .second] [] := by first | (simp [entryFrame, mkF, argsToLocals, Value.category]; done) | (simp [entryFrame, mkF, argsToLocals, *]; done) | rfl
set_option maxRecDepth 65536 in
set_option maxHeartbeats 2000000 in
theorem rm5 (l : Launch) (Z : State) (a0 : Array Value) (hw : ∀ d ∈ tables_1, d.before a0 Z = true) (a : Addr) (r : Addr) (x : Int64) (t : Addr) (vs : List Value) (j : Int32) (w : Int64) (h0 : Heap) (hE : Ext Z.heap h0) (hF0 : Fld Z h0 a "com/example/mullion/mullion/core/Holding" "amounts" "[J" (.ref t)) (hA1 : Ar Z h0 t .long vs) (hoE2 : Exa Z Z.heap r "com/example/mullion/mullion/core/Room") (hoF3 : Fld Z Z.heap r "java/lang/Enum" "ordinal" "I" (.int j)) (hj0 : ¬ j < 0) (hv : vs[j.toNatClampNeg]? = some (.long w)) (hfr6 : Z.heap.size ≤ t) :
    Con l Z (⟨"com/example/mullion/mullion/core/Holding", "add", "(Lcom/example/mullion/mullion/core/Room;J)Lcom/example/mullion/mullion/core/Holding;"⟩ : MethodName) prog_21_method_3_code 4 (some (.object "com/example/mullion/mullion/core/Holding")) ({ frames := 1, cells := 0, slots := 0, locals := 13 } : Room) #[(.ref a), (.ref r), (.long x)] h0 (fun vv hh => vv = some (.ref a) ∧ Keep h0 hh [t] ∧ Ar Z hh t .long (vs.set j.toNatClampNeg (.long (w + x)))) := by
  refine Con.of (plainFor_of_name (by first | (simp [plainName, overriddenIn]; done) | decide +kernel)) hE ?_
  intro p e s m below T (X : Sd l Z "com/example/mullion/mullion/core/Holding" "add" prog_21_method_3_code 4 (some (.object "com/example/mullion/mullion/core/Holding")) ({ frames := 1, cells := 0, slots := 0, locals := 13 } : Room) p e s m #[(.ref a), (.ref r), (.long x)] below T h0 0 0)
  refine End.frame (ef_rm5 m a r x) ?_
  have K_0 : Keep h0 h0 [t] := Keep.refl _ _
  show End Z p e below s _ _ _ _ (mkF m 0 #[.val (.ref a), .val (.ref r), .val (.long x), .second] [])
  refine E_aloadN (v := (.ref a)) (pc' := 1) X d5_0 rfl rfl rfl ?_
  refine E_getF (pc' := 4) X (host := "") (Or.inl (w_41 hw)) Via.refl hF0 d5_1 rfl (fun T X => ?_)
  refine E_aloadN (v := (.ref r)) (pc' := 5) X d5_4 rfl rfl rfl ?_
  have O_4 := hoE2.ext X.ext
  refine E_callU (a := r) (pc' := 8) (W := 1) (cells' := 0) (slots' := 0) (argsL := []) (rest := [(.ref t)]) X (rm6 l Z a0 hw r j h0 X.ext hoF3) O_4 (w_48 hw) (w_49 hw) (w_50 hw) (w_52 hw) (w_51 hw) (w_53 hw) (w_54 hw) (by decide) rfl rfl pd_1 rfl rfl d5_5 rfl (Nat.le_refl _) (by decide) (by decide) rfl rfl (by decide) (by decide) (fun v1 T h_2 X hQ3 => ?_)
  obtain ⟨rfl, rfl⟩ := hQ3
  show End Z p e below s _ _ _ _ (mkF m 8 #[.val (.ref a), .val (.ref r), .val (.long x), .second] [(.int j), (.ref t)])
  refine E_dup2 (pc' := 9) X d5_8 rfl rfl rfl ?_
  refine E_laload (v := (.long w)) (pc' := 10) X hA1 hj0 hv d5_9 rfl ?_
  refine E_lloadN (pc' := 11) X d5_10 rfl rfl ?_
  refine E_ladd (pc' := 12) X d5_11 rfl ?_
  refine E_lastore (vs' := (vs.set j.toNatClampNeg (.long (w + x)))) (pc' := 13) X hA1 hj0 (List.getElem?_eq_some_iff.mp hv).1 rfl hfr6 d5_12 rfl (fun T h_7 X W_6 Aa_8 => ?_)
  have K_9 : Keep h0 h_7 [t] := K_0.wr W_6 (Or.inl (List.mem_of_getElem? (i := 0) rfl))
  refine E_aloadN (v := (.ref a)) (pc' := 14) X d5_13 rfl rfl rfl ?_
  exact E_retA X d5_14 rfl rfl (by decide) (by decide) ⟨rfl, K_9, Aa_8⟩
theorem d7_0 : decode prog_21_method_2_code 0 = .ok (.aload_n 0, 1) := by decide +kernel
theorem d7_1 : decode prog_21_method_2_code 1 = .ok (.getfield 13, 3) := by decide +kernel
theorem d7_4 : decode prog_21_method_2_code 4 = .ok (.aload_n 1, 1) := by decide +kernel
theorem d7_5 : decode prog_21_method_2_code 5 = .ok (.invokevirtual 19, 3) := by decide +kernel
theorem d7_8 : decode prog_21_method_2_code 8 = .ok (.laload, 1) := by decide +kernel
theorem d7_9 : decode prog_21_method_2_code 9 = .ok (.lreturn, 1) := by decide +kernel
theorem ef_rm7 (m : MethodId) (x0 : Addr) (x1 : Addr) : entryFrame m #[(.ref x0), (.ref x1)] 2 = mkF m 0 #[.val (.ref x0), .val (.ref x1)] [] := by first | (simp [entryFrame, mkF, argsToLocals, Value.category]; done) | (simp [entryFrame, mkF, argsToLocals, *]; done) | rfl
set_option maxRecDepth 65536 in
set_option maxHeartbeats 2000000 in
theorem rm7 (l : Launch) (Z : State) (a0 : Array Value) (hw : ∀ d ∈ tables_1, d.before a0 Z = true) (a : Addr) (r : Addr) (t : Addr) (vs : List Value) (j : Int32) (w : Int64) (h0 : Heap) (hE : Ext Z.heap h0) (hF0 : Fld Z h0 a "com/example/mullion/mullion/core/Holding" "amounts" "[J" (.ref t)) (hA1 : Ar Z h0 t .long vs) (hoE2 : Exa Z Z.heap r "com/example/mullion/mullion/core/Room") (hoF3 : Fld Z Z.heap r "java/lang/Enum" "ordinal" "I" (.int j)) (hj0 : ¬ j < 0) (hv : vs[j.toNatClampNeg]? = some (.long w)) :
    Con l Z (⟨"com/example/mullion/mullion/core/Holding", "of", "(Lcom/example/mullion/mullion/core/Room;)J"⟩ : MethodName) prog_21_method_2_code 2 (some .long) ({ frames := 1, cells := 0, slots := 0, locals := 13 } : Room) #[(.ref a), (.ref r)] h0 (fun vv hh => vv = some (.long w) ∧ h0 = hh) := by
  refine Con.of (plainFor_of_name (by first | (simp [plainName, overriddenIn]; done) | decide +kernel)) hE ?_
  intro p e s m below T (X : Sd l Z "com/example/mullion/mullion/core/Holding" "of" prog_21_method_2_code 2 (some .long) ({ frames := 1, cells := 0, slots := 0, locals := 13 } : Room) p e s m #[(.ref a), (.ref r)] below T h0 0 0)
  refine End.frame (ef_rm7 m a r) ?_
  show End Z p e below s _ _ _ _ (mkF m 0 #[.val (.ref a), .val (.ref r)] [])
  refine E_aloadN (v := (.ref a)) (pc' := 1) X d7_0 rfl rfl rfl ?_
  refine E_getF (pc' := 4) X (host := "") (Or.inl (w_41 hw)) Via.refl hF0 d7_1 rfl (fun T X => ?_)
  refine E_aloadN (v := (.ref r)) (pc' := 5) X d7_4 rfl rfl rfl ?_
  have O_4 := hoE2.ext X.ext
  refine E_callU (a := r) (pc' := 8) (W := 1) (cells' := 0) (slots' := 0) (argsL := []) (rest := [(.ref t)]) X (rm6 l Z a0 hw r j h0 X.ext hoF3) O_4 (w_48 hw) (w_49 hw) (w_50 hw) (w_52 hw) (w_51 hw) (w_53 hw) (w_54 hw) (by decide) rfl rfl pd_1 rfl rfl d7_5 rfl (Nat.le_refl _) (by decide) (by decide) rfl rfl (by decide) (by decide) (fun v1 T h_2 X hQ3 => ?_)
  obtain ⟨rfl, rfl⟩ := hQ3
  show End Z p e below s _ _ _ _ (mkF m 8 #[.val (.ref a), .val (.ref r)] [(.int j), (.ref t)])
  refine E_laload (v := (.long w)) (pc' := 9) X hA1 hj0 hv d7_8 rfl ?_
  exact E_retL X d7_9 (by decide) (by decide) ⟨rfl, rfl⟩
theorem d8_0 : decode method_3_code 0 = .ok (.lconst 0, 1) := by decide +kernel
theorem d8_1 : decode method_3_code 1 = .ok (.lstore 7, 2) := by decide +kernel
theorem d8_3 : decode method_3_code 3 = .ok (.aload_n 0, 1) := by decide +kernel
theorem d8_4 : decode method_3_code 4 = .ok (.aload_n 1, 1) := by decide +kernel
theorem d8_5 : decode method_3_code 5 = .ok (.if_acmp .ne 9, 3) := by decide +kernel
theorem d8_8 : decode method_3_code 8 = .ok (.lload 7, 2) := by decide +kernel
theorem d8_10 : decode method_3_code 10 = .ok (.lload_n 2, 1) := by decide +kernel
theorem d8_11 : decode method_3_code 11 = .ok (.ladd, 1) := by decide +kernel
theorem d8_12 : decode method_3_code 12 = .ok (.lstore 7, 2) := by decide +kernel
theorem d8_14 : decode method_3_code 14 = .ok (.aload_n 0, 1) := by decide +kernel
theorem d8_15 : decode method_3_code 15 = .ok (.aload 4, 2) := by decide +kernel
theorem d8_17 : decode method_3_code 17 = .ok (.if_acmp .ne 10, 3) := by decide +kernel
theorem d8_20 : decode method_3_code 20 = .ok (.lload 7, 2) := by decide +kernel
theorem d8_22 : decode method_3_code 22 = .ok (.lload 5, 2) := by decide +kernel
theorem d8_24 : decode method_3_code 24 = .ok (.ladd, 1) := by decide +kernel
theorem d8_25 : decode method_3_code 25 = .ok (.lstore 7, 2) := by decide +kernel
theorem d8_27 : decode method_3_code 27 = .ok (.lload 7, 2) := by decide +kernel
theorem d8_29 : decode method_3_code 29 = .ok (.lreturn, 1) := by decide +kernel
theorem ef_rm8 (m : MethodId) (x0 : Addr) (x1 : Addr) (x2 : Int64) (x3 : Addr) (x4 : Int64) : entryFrame m #[(.ref x0), (.ref x1), (.long x2), (.ref x3), (.long x4)] 9 = mkF m 0 #[.val (.ref x0), .val (.ref x1), .val (.long x2), .second, .val (.ref x3), .val (.long x4), .second, .unset, .unset] [] := by first | (simp [entryFrame, mkF, argsToLocals, Value.category]; done) | (simp [entryFrame, mkF, argsToLocals, *]; done) | rfl
set_option maxRecDepth 65536 in
set_option maxHeartbeats 2000000 in
theorem rm8 (l : Launch) (Z : State) (a0 : Array Value) (hw : ∀ d ∈ tables_1, d.before a0 Z = true) (r : Addr) (ra : Addr) (x : Int64) (rb : Addr) (y : Int64) (h0 : Heap) (hE : Ext Z.heap h0) :
    Con l Z (⟨"com/example/mullion/mullion/core/HoldingAddPinLaw", "expected", "(Lcom/example/mullion/mullion/core/Room;Lcom/example/mullion/mullion/core/Room;JLcom/example/mullion/mullion/core/Room;J)J"⟩ : MethodName) method_3_code 9 (some .long) ({ frames := 0, cells := 0, slots := 0, locals := 0 } : Room) #[(.ref r), (.ref ra), (.long x), (.ref rb), (.long y)] h0 (fun vv hh => vv = some (.long (ownExp r ra rb x y)) ∧ h0 = hh) := by
  refine Con.of (plainFor_of_name (by first | (simp [plainName, overriddenIn]; done) | decide +kernel)) hE ?_
  intro p e s m below T (X : Sd l Z "com/example/mullion/mullion/core/HoldingAddPinLaw" "expected" method_3_code 9 (some .long) ({ frames := 0, cells := 0, slots := 0, locals := 0 } : Room) p e s m #[(.ref r), (.ref ra), (.long x), (.ref rb), (.long y)] below T h0 0 0)
  refine End.frame (ef_rm8 m r ra x rb y) ?_
  show End Z p e below s _ _ _ _ (mkF m 0 #[.val (.ref r), .val (.ref ra), .val (.long x), .second, .val (.ref rb), .val (.long y), .second, .unset, .unset] [])
  refine E_lconst (v := (0 : Int64)) (pc' := 1) X d8_0 rfl rfl ?_
  refine E_lstore (Ls' := #[.val (.ref r), .val (.ref ra), .val (.long x), .second, .val (.ref rb), .val (.long y), .second, .val (.long (0 : Int64)), .second]) (pc' := 3) X d8_1 rfl rfl ?_
  refine E_aloadN (v := (.ref r)) (pc' := 4) X d8_3 rfl rfl rfl ?_
  refine E_aloadN (v := (.ref ra)) (pc' := 5) X d8_4 rfl rfl rfl ?_
  refine E_acmp (x := (.ref r)) (y := (.ref ra)) (pcE := 8) (pcU := 14) X d8_5 rfl rfl (by decide) (by decide) (by decide) (fun hc5_0 => ?_) (fun hc5_0 => ?_)
  · skip
    refine E_lload (pc' := 10) X d8_8 rfl rfl ?_
    refine E_lloadN (pc' := 11) X d8_10 rfl rfl ?_
    refine E_ladd (pc' := 12) X d8_11 rfl ?_
    refine E_lstore (Ls' := #[.val (.ref r), .val (.ref ra), .val (.long x), .second, .val (.ref rb), .val (.long y), .second, .val (.long ((0 : Int64) + x)), .second]) (pc' := 14) X d8_12 rfl rfl ?_
    refine E_aloadN (v := (.ref r)) (pc' := 15) X d8_14 rfl rfl rfl ?_
    refine E_aload (v := (.ref rb)) (pc' := 17) X d8_15 rfl rfl rfl ?_
    refine E_acmp (x := (.ref r)) (y := (.ref rb)) (pcE := 20) (pcU := 27) X d8_17 rfl rfl (by decide) (by decide) (by decide) (fun hc17_0 => ?_) (fun hc17_0 => ?_)
    · skip
      refine E_lload (pc' := 22) X d8_20 rfl rfl ?_
      refine E_lload (pc' := 24) X d8_22 rfl rfl ?_
      refine E_ladd (pc' := 25) X d8_24 rfl ?_
      refine E_lstore (Ls' := #[.val (.ref r), .val (.ref ra), .val (.long x), .second, .val (.ref rb), .val (.long y), .second, .val (.long (((0 : Int64) + x) + y)), .second]) (pc' := 27) X d8_25 rfl rfl ?_
      refine E_lload (pc' := 29) X d8_27 rfl rfl ?_
      have zhc5_0 : r = ra := Value.ref.inj hc5_0
      have zhc17_0 : r = rb := Value.ref.inj hc17_0
      exact E_retL X d8_29 (by decide) (by decide) ⟨(by unfold ownExp; rw [if_pos zhc17_0]; rw [if_pos zhc5_0]), rfl⟩
    · skip
      refine E_lload (pc' := 29) X d8_27 rfl rfl ?_
      have zhc5_0 : r = ra := Value.ref.inj hc5_0
      have zhc17_0 : ¬ r = rb := fun q => hc17_0 (congrArg Value.ref q)
      exact E_retL X d8_29 (by decide) (by decide) ⟨(by unfold ownExp; rw [if_neg zhc17_0]; rw [if_pos zhc5_0]), rfl⟩
  · skip
    refine E_aloadN (v := (.ref r)) (pc' := 15) X d8_14 rfl rfl rfl ?_
    refine E_aload (v := (.ref rb)) (pc' := 17) X d8_15 rfl rfl rfl ?_
    refine E_acmp (x := (.ref r)) (y := (.ref rb)) (pcE := 20) (pcU := 27) X d8_17 rfl rfl (by decide) (by decide) (by decide) (fun hc17_0 => ?_) (fun hc17_0 => ?_)
    · skip
      refine E_lload (pc' := 22) X d8_20 rfl rfl ?_
      refine E_lload (pc' := 24) X d8_22 rfl rfl ?_
      refine E_ladd (pc' := 25) X d8_24 rfl ?_
      refine E_lstore (Ls' := #[.val (.ref r), .val (.ref ra), .val (.long x), .second, .val (.ref rb), .val (.long y), .second, .val (.long ((0 : Int64) + y)), .second]) (pc' := 27) X d8_25 rfl rfl ?_
      refine E_lload (pc' := 29) X d8_27 rfl rfl ?_
      have zhc5_0 : ¬ r = ra := fun q => hc5_0 (congrArg Value.ref q)
      have zhc17_0 : r = rb := Value.ref.inj hc17_0
      exact E_retL X d8_29 (by decide) (by decide) ⟨(by unfold ownExp; rw [if_pos zhc17_0]; rw [if_neg zhc5_0]), rfl⟩
    · skip
      refine E_lload (pc' := 29) X d8_27 rfl rfl ?_
      have zhc5_0 : ¬ r = ra := fun q => hc5_0 (congrArg Value.ref q)
      have zhc17_0 : ¬ r = rb := fun q => hc17_0 (congrArg Value.ref q)
      exact E_retL X d8_29 (by decide) (by decide) ⟨(by unfold ownExp; rw [if_neg zhc17_0]; rw [if_neg zhc5_0]), rfl⟩
theorem pd_2 : parseMethodDescriptor "(I)Lcom/example/mullion/mullion/core/Room;" = some ⟨[.int], some (.object "com/example/mullion/mullion/core/Room")⟩ := by decide +kernel
theorem pd_3 : parseMethodDescriptor "()V" = some ⟨[], none⟩ := by decide +kernel
theorem pd_4 : parseMethodDescriptor "(Lcom/example/mullion/mullion/core/Room;J)Lcom/example/mullion/mullion/core/Holding;" = some ⟨[(.object "com/example/mullion/mullion/core/Room"), .long], some (.object "com/example/mullion/mullion/core/Holding")⟩ := by decide +kernel
theorem pd_5 : parseMethodDescriptor "(Lcom/example/mullion/mullion/core/Room;)J" = some ⟨[(.object "com/example/mullion/mullion/core/Room")], some .long⟩ := by decide +kernel
theorem pd_6 : parseMethodDescriptor "(Lcom/example/mullion/mullion/core/Room;Lcom/example/mullion/mullion/core/Room;JLcom/example/mullion/mullion/core/Room;J)J" = some ⟨[(.object "com/example/mullion/mullion/core/Room"), (.object "com/example/mullion/mullion/core/Room"), .long, (.object "com/example/mullion/mullion/core/Room"), .long], some .long⟩ := by decide +kernel
theorem ef_rm0 (m : MethodId) (x0 : Int32) (x1 : Int64) (x2 : Int32) (x3 : Int64) (x4 : Int32) : entryFrame m #[(.int x0), (.long x1), (.int x2), (.long x3), (.int x4)] 13 = mkF m 0 #[.val (.int x0), .val (.long x1), .second, .val (.int x2), .val (.long x3), .second, .val (.int x4), .unset, .unset, .unset, .unset, .unset, .unset] [] := by first | (simp [entryFrame, mkF, argsToLocals, Value.category]; done) | (simp [entryFrame, mkF, argsToLocals, *]; done) | rfl
set_option maxRecDepth 65536 in
set_option maxHeartbeats 2000000 in
theorem rm0 (l : Launch) (Z : State) (a0 : Array Value) (hw : ∀ d ∈ tables_1, d.before a0 Z = true) (i0 : Int32) (i1 : Int64) (i2 : Int32) (i3 : Int64) (i4 : Int32) (oWINDOWS : Addr) (oWINDOW_TEXT : Addr) (oLISTED_TEXT : Addr) (oVALUES : Addr) (oTOKENS : Addr) (oTOKEN_TEXT : Addr) (oBUFFERS : Addr) (oBUFFER_FILES : Addr) (h0 : Heap) (hE : Ext Z.heap h0) (hS0 : Sta Z Z.heap "com/example/mullion/mullion/core/Room" "WINDOWS" "Lcom/example/mullion/mullion/core/Room;" (.ref oWINDOWS)) (hoE1 : Exa Z Z.heap oWINDOWS "com/example/mullion/mullion/core/Room") (hS2 : Sta Z Z.heap "com/example/mullion/mullion/core/Room" "WINDOW_TEXT" "Lcom/example/mullion/mullion/core/Room;" (.ref oWINDOW_TEXT)) (hoE3 : Exa Z Z.heap oWINDOW_TEXT "com/example/mullion/mullion/core/Room") (hS4 : Sta Z Z.heap "com/example/mullion/mullion/core/Room" "LISTED_TEXT" "Lcom/example/mullion/mullion/core/Room;" (.ref oLISTED_TEXT)) (hoE5 : Exa Z Z.heap oLISTED_TEXT "com/example/mullion/mullion/core/Room") (hS6 : Sta Z Z.heap "com/example/mullion/mullion/core/Room" "$VALUES" "[Lcom/example/mullion/mullion/core/Room;" (.ref oVALUES)) (hoE7 : Exa Z Z.heap oVALUES "[Lcom/example/mullion/mullion/core/Room;") (hS8 : Sta Z Z.heap "com/example/mullion/mullion/core/Room" "TOKENS" "Lcom/example/mullion/mullion/core/Room;" (.ref oTOKENS)) (hoE9 : Exa Z Z.heap oTOKENS "com/example/mullion/mullion/core/Room") (hS10 : Sta Z Z.heap "com/example/mullion/mullion/core/Room" "TOKEN_TEXT" "Lcom/example/mullion/mullion/core/Room;" (.ref oTOKEN_TEXT)) (hoE11 : Exa Z Z.heap oTOKEN_TEXT "com/example/mullion/mullion/core/Room") (hS12 : Sta Z Z.heap "com/example/mullion/mullion/core/Room" "BUFFERS" "Lcom/example/mullion/mullion/core/Room;" (.ref oBUFFERS)) (hoE13 : Exa Z Z.heap oBUFFERS "com/example/mullion/mullion/core/Room") (hS14 : Sta Z Z.heap "com/example/mullion/mullion/core/Room" "BUFFER_FILES" "Lcom/example/mullion/mullion/core/Room;" (.ref oBUFFER_FILES)) (hoE15 : Exa Z Z.heap oBUFFER_FILES "com/example/mullion/mullion/core/Room") (hoF16 : Fld Z Z.heap oWINDOWS "java/lang/Enum" "ordinal" "I" (.int (0 : Int32))) (hoF17 : Fld Z Z.heap oWINDOW_TEXT "java/lang/Enum" "ordinal" "I" (.int (1 : Int32))) (hoF18 : Fld Z Z.heap oLISTED_TEXT "java/lang/Enum" "ordinal" "I" (.int (2 : Int32))) (hoF19 : Fld Z Z.heap oBUFFERS "java/lang/Enum" "ordinal" "I" (.int (5 : Int32))) (hoF20 : Fld Z Z.heap oBUFFER_FILES "java/lang/Enum" "ordinal" "I" (.int (6 : Int32))) (hoF21 : Fld Z Z.heap oTOKENS "java/lang/Enum" "ordinal" "I" (.int (3 : Int32))) (hoF22 : Fld Z Z.heap oTOKEN_TEXT "java/lang/Enum" "ordinal" "I" (.int (4 : Int32))) (hoA23 : Ar Z Z.heap oVALUES (.object "com/example/mullion/mullion/core/Room") [(.ref oWINDOWS), (.ref oWINDOW_TEXT), (.ref oLISTED_TEXT), (.ref oTOKENS), (.ref oTOKEN_TEXT), (.ref oBUFFERS), (.ref oBUFFER_FILES)]) :
    Con l Z x code maxLocals ret room_1 #[(.int i0), (.long i1), (.int i2), (.long i3), (.int i4)] h0 (fun vv hh => vv = some (.int (1 : Int32))) := by
  refine Con.of (plainFor_of_name (by first | (simp [plainName, overriddenIn]; done) | decide +kernel)) hE ?_
  intro p e s m below T (X : Sd l Z "com/example/mullion/mullion/core/HoldingAddPinLaw" "law" code 13 (some .boolean) room_1 p e s m #[(.int i0), (.long i1), (.int i2), (.long i3), (.int i4)] below T h0 0 0)
  refine End.frame (ef_rm0 m i0 i1 i2 i3 i4) ?_
  show End Z p e below s _ _ _ _ (mkF m 0 #[.val (.int i0), .val (.long i1), .second, .val (.int i2), .val (.long i3), .second, .val (.int i4), .unset, .unset, .unset, .unset, .unset, .unset] [])
  refine E_iloadN (pc' := 1) X at_0 rfl rfl ?_
  have le_4 := X.le
  refine E_callS (pc' := 4) (W := 0) (cells' := 0) (slots' := 0) (argsL := [(.int i0)]) (rest := []) X (rm1 l Z a0 hw i0 oWINDOWS oWINDOW_TEXT oLISTED_TEXT oTOKENS oTOKEN_TEXT oBUFFERS oBUFFER_FILES h0 X.ext hS0 hS2 hS4 hS8 hS10 hS12 hS14 hoE1 hoE3 hoE5 hoE9 hoE11 hoE13 hoE15 hoF16 hoF17 hoF18 hoF21 hoF22 hoF19 hoF20) (w_0 hw) (w_1 hw) (w_2 hw) (w_3 hw) (by decide) rfl rfl pd_2 rfl rfl at_1 rfl (Nat.le_refl _) (by decide) (by decide) rfl rfl (by decide) (by decide) (fun v1 T h_2 X hQ3 => ?_)
  obtain ⟨r_5, j_6, rfl, rfl, P_8, P_9, P_10, P_11, P_12⟩ := hQ3
  show End Z p e below s _ _ _ _ (mkF m 4 #[.val (.int i0), .val (.long i1), .second, .val (.int i2), .val (.long i3), .second, .val (.int i4), .unset, .unset, .unset, .unset, .unset, .unset] [(.ref r_5)])
  refine E_astore (Ls' := #[.val (.int i0), .val (.long i1), .second, .val (.int i2), .val (.long i3), .second, .val (.int i4), .val (.ref r_5), .unset, .unset, .unset, .unset, .unset]) (pc' := 6) X at_4 rfl rfl rfl ?_
  refine E_iloadN (pc' := 7) X at_6 rfl rfl ?_
  have le_16 := X.le
  refine E_callS (pc' := 10) (W := 0) (cells' := 0) (slots' := 0) (argsL := [(.int i2)]) (rest := []) X (rm1 l Z a0 hw i2 oWINDOWS oWINDOW_TEXT oLISTED_TEXT oTOKENS oTOKEN_TEXT oBUFFERS oBUFFER_FILES h0 X.ext hS0 hS2 hS4 hS8 hS10 hS12 hS14 hoE1 hoE3 hoE5 hoE9 hoE11 hoE13 hoE15 hoF16 hoF17 hoF18 hoF21 hoF22 hoF19 hoF20) (w_0 hw) (w_1 hw) (w_2 hw) (w_3 hw) (by decide) rfl rfl pd_2 rfl rfl at_7 rfl (Nat.le_refl _) (by decide) (by decide) rfl rfl (by decide) (by decide) (fun v13 T h_14 X hQ15 => ?_)
  obtain ⟨r_17, j_18, rfl, rfl, P_20, P_21, P_22, P_23, P_24⟩ := hQ15
  show End Z p e below s _ _ _ _ (mkF m 10 #[.val (.int i0), .val (.long i1), .second, .val (.int i2), .val (.long i3), .second, .val (.int i4), .val (.ref r_5), .unset, .unset, .unset, .unset, .unset] [(.ref r_17)])
  refine E_astore (Ls' := #[.val (.int i0), .val (.long i1), .second, .val (.int i2), .val (.long i3), .second, .val (.int i4), .val (.ref r_5), .val (.ref r_17), .unset, .unset, .unset, .unset]) (pc' := 12) X at_10 rfl rfl rfl ?_
  refine E_iload (pc' := 14) X at_12 rfl rfl ?_
  have le_28 := X.le
  refine E_callS (pc' := 17) (W := 0) (cells' := 0) (slots' := 0) (argsL := [(.int i4)]) (rest := []) X (rm1 l Z a0 hw i4 oWINDOWS oWINDOW_TEXT oLISTED_TEXT oTOKENS oTOKEN_TEXT oBUFFERS oBUFFER_FILES h0 X.ext hS0 hS2 hS4 hS8 hS10 hS12 hS14 hoE1 hoE3 hoE5 hoE9 hoE11 hoE13 hoE15 hoF16 hoF17 hoF18 hoF21 hoF22 hoF19 hoF20) (w_0 hw) (w_1 hw) (w_2 hw) (w_3 hw) (by decide) rfl rfl pd_2 rfl rfl at_14 rfl (Nat.le_refl _) (by decide) (by decide) rfl rfl (by decide) (by decide) (fun v25 T h_26 X hQ27 => ?_)
  obtain ⟨r_29, j_30, rfl, rfl, P_32, P_33, P_34, P_35, P_36⟩ := hQ27
  show End Z p e below s _ _ _ _ (mkF m 17 #[.val (.int i0), .val (.long i1), .second, .val (.int i2), .val (.long i3), .second, .val (.int i4), .val (.ref r_5), .val (.ref r_17), .unset, .unset, .unset, .unset] [(.ref r_29)])
  refine E_astore (Ls' := #[.val (.int i0), .val (.long i1), .second, .val (.int i2), .val (.long i3), .second, .val (.int i4), .val (.ref r_5), .val (.ref r_17), .val (.ref r_29), .unset, .unset, .unset]) (pc' := 19) X at_17 rfl rfl rfl ?_
  have le_o37 := X.le
  refine E_new (pc' := 22) X (cells' := 1) (slots' := 1) (w_12 hw) (w_13 hw) (w_14 hw) at_19 rfl rfl rfl (by decide) (by decide) (fun T h_38 o37 g_42 X Ex_39 Ea_40 D_41 => ?_)
  have fr_43 : Z.heap.size ≤ o37 := by rw [g_42]; exact le_o37
  refine E_dup (pc' := 23) X at_22 rfl rfl ?_
  have F_44 : Fld Z h_38 o37 "com/example/mullion/mullion/core/Holding" "amounts" "[J" .null := (D_41 (Or.inr (w_42 hw)) (ty := (.array .long)) (by decide))
  have le_48 := X.le
  refine E_callI (a := o37) (pc' := 26) (W := 1) (cells' := 3) (slots' := 15) (argsL := []) (rest := [(.ref o37)]) X (rm2 l Z a0 hw o37 oWINDOWS oWINDOW_TEXT oLISTED_TEXT oTOKENS oTOKEN_TEXT oBUFFERS oBUFFER_FILES oVALUES h_38 X.ext Ea_40 F_44 fr_43 hS6 hoE7 hoA23) (w_15 hw) (w_16 hw) (w_14 hw) (w_17 hw) rfl (by decide) rfl rfl pd_3 rfl rfl at_23 rfl (Nat.le_refl _) (by decide) (by decide) rfl rfl (by decide) (by decide) (fun v45 T h_46 X hQ47 => ?_)
  obtain ⟨t_49, rfl, Kc_50, nw_51, E_52, F_53, A_54⟩ := hQ47
  have ne_55 : o37 ≠ t_49 := Nat.ne_of_lt (Nat.lt_of_lt_of_le Ea_40.lt nw_51)
  have fr_56 : Z.heap.size ≤ t_49 := Nat.le_trans le_48 nw_51
  show End Z p e below s _ _ _ _ (mkF m 26 #[.val (.int i0), .val (.long i1), .second, .val (.int i2), .val (.long i3), .second, .val (.int i4), .val (.ref r_5), .val (.ref r_17), .val (.ref r_29), .unset, .unset, .unset] [(.ref o37)])
  refine E_astore (Ls' := #[.val (.int i0), .val (.long i1), .second, .val (.int i2), .val (.long i3), .second, .val (.int i4), .val (.ref r_5), .val (.ref r_17), .val (.ref r_29), .val (.ref o37), .unset, .unset]) (pc' := 28) X at_26 rfl rfl rfl ?_
  refine E_aload (v := (.ref o37)) (pc' := 30) X at_28 rfl rfl rfl ?_
  refine E_aload (v := (.ref r_5)) (pc' := 32) X at_30 rfl rfl rfl ?_
  refine E_lloadN (pc' := 33) X at_32 rfl rfl ?_
  refine E_callV (a := o37) (pc' := 36) (W := 0) (cells' := 3) (slots' := 15) (argsL := [(.ref r_5), (.long i1)]) (rest := []) X (rm5 l Z a0 hw o37 r_5 i1 t_49 ownZ j_6 (0 : Int64) h_46 X.ext F_53 A_54 P_8 P_9 P_10 (own_z _ P_11) fr_56) E_52 (w_43 hw) (w_44 hw) (w_46 hw) (w_45 hw) (w_14 hw) (w_47 hw) rfl (by decide) rfl rfl pd_4 rfl rfl at_33 rfl (Nat.le_refl _) (by decide) (by decide) rfl rfl (by decide) (by decide) (fun v57 T h_58 X hQ59 => ?_)
  obtain ⟨rfl, Kc_60, A_61⟩ := hQ59
  show End Z p e below s _ _ _ _ (mkF m 36 #[.val (.int i0), .val (.long i1), .second, .val (.int i2), .val (.long i3), .second, .val (.int i4), .val (.ref r_5), .val (.ref r_17), .val (.ref r_29), .val (.ref o37), .unset, .unset] [(.ref o37)])
  refine E_astore (Ls' := #[.val (.int i0), .val (.long i1), .second, .val (.int i2), .val (.long i3), .second, .val (.int i4), .val (.ref r_5), .val (.ref r_17), .val (.ref r_29), .val (.ref o37), .val (.ref o37), .unset]) (pc' := 38) X at_36 rfl rfl rfl ?_
  refine E_aload (v := (.ref o37)) (pc' := 40) X at_38 rfl rfl rfl ?_
  refine E_aload (v := (.ref r_17)) (pc' := 42) X at_40 rfl rfl rfl ?_
  refine E_lload (pc' := 44) X at_42 rfl rfl ?_
  have F_62 : Fld Z h_58 o37 "com/example/mullion/mullion/core/Holding" "amounts" "[J" (.ref t_49) := (F_53.keep Kc_60 (ninS ne_55 nin0))
  have E_66 : Exa Z h_58 o37 "com/example/mullion/mullion/core/Holding" := (E_52.keep Kc_60)
  refine E_callV (a := o37) (pc' := 47) (W := 0) (cells' := 3) (slots' := 15) (argsL := [(.ref r_17), (.long i3)]) (rest := []) X (rm5 l Z a0 hw o37 r_17 i3 t_49 (ownZ.set j_6.toNatClampNeg (.long ((0 : Int64) + i1))) j_18 (if j_18.toNatClampNeg = j_6.toNatClampNeg then 0 + i1 else 0) h_58 X.ext F_62 A_61 P_20 P_21 P_22 (own_z1 _ _ _ P_23 P_11) fr_56) E_66 (w_43 hw) (w_44 hw) (w_46 hw) (w_45 hw) (w_14 hw) (w_47 hw) rfl (by decide) rfl rfl pd_4 rfl rfl at_44 rfl (Nat.le_refl _) (by decide) (by decide) rfl rfl (by decide) (by decide) (fun v63 T h_64 X hQ65 => ?_)
  obtain ⟨rfl, Kc_67, A_68⟩ := hQ65
  show End Z p e below s _ _ _ _ (mkF m 47 #[.val (.int i0), .val (.long i1), .second, .val (.int i2), .val (.long i3), .second, .val (.int i4), .val (.ref r_5), .val (.ref r_17), .val (.ref r_29), .val (.ref o37), .val (.ref o37), .unset] [(.ref o37)])
  refine E_astore (Ls' := #[.val (.int i0), .val (.long i1), .second, .val (.int i2), .val (.long i3), .second, .val (.int i4), .val (.ref r_5), .val (.ref r_17), .val (.ref r_29), .val (.ref o37), .val (.ref o37), .val (.ref o37)]) (pc' := 49) X at_47 rfl rfl rfl ?_
  refine E_aload (v := (.ref o37)) (pc' := 51) X at_49 rfl rfl rfl ?_
  refine E_aload (v := (.ref o37)) (pc' := 53) X at_51 rfl rfl rfl ?_
  refine E_acmp (x := (.ref o37)) (y := (.ref o37)) (pcE := 56) (pcU := 136) X at_53 rfl rfl (by decide) (by decide) (by decide) (fun hc53_0 => ?_) (fun hc53_0 => absurd rfl hc53_0)
  refine E_aload (v := (.ref o37)) (pc' := 58) X at_56 rfl rfl rfl ?_
  refine E_aload (v := (.ref o37)) (pc' := 60) X at_58 rfl rfl rfl ?_
  refine E_acmp (x := (.ref o37)) (y := (.ref o37)) (pcE := 63) (pcU := 136) X at_60 rfl rfl (by decide) (by decide) (by decide) (fun hc60_0 => ?_) (fun hc60_0 => absurd rfl hc60_0)
  refine E_aload (v := (.ref o37)) (pc' := 65) X at_63 rfl rfl rfl ?_
  refine E_aload (v := (.ref r_5)) (pc' := 67) X at_65 rfl rfl rfl ?_
  have F_69 : Fld Z h_64 o37 "com/example/mullion/mullion/core/Holding" "amounts" "[J" (.ref t_49) := (F_62.keep Kc_67 (ninS ne_55 nin0))
  have E_73 : Exa Z h_64 o37 "com/example/mullion/mullion/core/Holding" := (E_66.keep Kc_67)
  refine E_callV (a := o37) (pc' := 70) (W := 0) (cells' := 3) (slots' := 15) (argsL := [(.ref r_5)]) (rest := []) X (rm7 l Z a0 hw o37 r_5 t_49 ((ownZ.set j_6.toNatClampNeg (.long ((0 : Int64) + i1))).set j_18.toNatClampNeg (.long ((if j_18.toNatClampNeg = j_6.toNatClampNeg then 0 + i1 else 0) + i3))) j_6 (ownV j_6.toNatClampNeg j_6.toNatClampNeg j_18.toNatClampNeg i1 i3) h_64 X.ext F_69 A_68 P_8 P_9 P_10 (own_z2 _ _ _ _ _ P_11 P_11 P_23)) E_73 (w_57 hw) (w_58 hw) (w_60 hw) (w_59 hw) (w_14 hw) (w_61 hw) rfl (by decide) rfl rfl pd_5 rfl rfl at_67 rfl (Nat.le_refl _) (by decide) (by decide) rfl rfl (by decide) (by decide) (fun v70 T h_71 X hQ72 => ?_)
  obtain ⟨rfl, rfl⟩ := hQ72
  show End Z p e below s _ _ _ _ (mkF m 70 #[.val (.int i0), .val (.long i1), .second, .val (.int i2), .val (.long i3), .second, .val (.int i4), .val (.ref r_5), .val (.ref r_17), .val (.ref r_29), .val (.ref o37), .val (.ref o37), .val (.ref o37)] [(.long (ownV j_6.toNatClampNeg j_6.toNatClampNeg j_18.toNatClampNeg i1 i3))])
  refine E_aload (v := (.ref r_5)) (pc' := 72) X at_70 rfl rfl rfl ?_
  refine E_aload (v := (.ref r_5)) (pc' := 74) X at_72 rfl rfl rfl ?_
  refine E_lloadN (pc' := 75) X at_74 rfl rfl ?_
  refine E_aload (v := (.ref r_17)) (pc' := 77) X at_75 rfl rfl rfl ?_
  refine E_lload (pc' := 79) X at_77 rfl rfl ?_
  refine E_callS (pc' := 82) (W := 2) (cells' := 3) (slots' := 15) (argsL := [(.ref r_5), (.ref r_5), (.long i1), (.ref r_17), (.long i3)]) (rest := [(.long (ownV j_6.toNatClampNeg j_6.toNatClampNeg j_18.toNatClampNeg i1 i3))]) X (rm8 l Z a0 hw r_5 r_5 i1 r_17 i3 h_64 X.ext) (w_62 hw) (w_63 hw) (w_2 hw) (w_64 hw) (by decide) rfl rfl pd_6 rfl rfl at_79 rfl (Nat.le_refl _) (by decide) (by decide) rfl rfl (by decide) (by decide) (fun v75 T h_76 X hQ77 => ?_)
  obtain ⟨rfl, rfl⟩ := hQ77
  show End Z p e below s _ _ _ _ (mkF m 82 #[.val (.int i0), .val (.long i1), .second, .val (.int i2), .val (.long i3), .second, .val (.int i4), .val (.ref r_5), .val (.ref r_17), .val (.ref r_29), .val (.ref o37), .val (.ref o37), .val (.ref o37)] [(.long (ownExp r_5 r_5 r_17 i1 i3)), (.long (ownV j_6.toNatClampNeg j_6.toNatClampNeg j_18.toNatClampNeg i1 i3))])
  refine E_lcmp (pc' := 83) X at_82 rfl ?_
  refine E_if (pcY := 136) (pcN := 86) X (il_ne _ _) at_83 (by decide) rfl rfl (fun hc83_0 => absurd hc83_0 (fun q => q (own_fin P_12 P_12 P_24 P_9 P_9 P_21 P_10 P_10 P_22))) (fun hc83_0 => ?_)
  refine E_aload (v := (.ref o37)) (pc' := 88) X at_86 rfl rfl rfl ?_
  refine E_aload (v := (.ref r_17)) (pc' := 90) X at_88 rfl rfl rfl ?_
  refine E_callV (a := o37) (pc' := 93) (W := 0) (cells' := 3) (slots' := 15) (argsL := [(.ref r_17)]) (rest := []) X (rm7 l Z a0 hw o37 r_17 t_49 ((ownZ.set j_6.toNatClampNeg (.long ((0 : Int64) + i1))).set j_18.toNatClampNeg (.long ((if j_18.toNatClampNeg = j_6.toNatClampNeg then 0 + i1 else 0) + i3))) j_18 (ownV j_18.toNatClampNeg j_6.toNatClampNeg j_18.toNatClampNeg i1 i3) h_64 X.ext F_69 A_68 P_20 P_21 P_22 (own_z2 _ _ _ _ _ P_23 P_11 P_23)) E_73 (w_57 hw) (w_58 hw) (w_60 hw) (w_59 hw) (w_14 hw) (w_61 hw) rfl (by decide) rfl rfl pd_5 rfl rfl at_90 rfl (Nat.le_refl _) (by decide) (by decide) rfl rfl (by decide) (by decide) (fun v79 T h_80 X hQ81 => ?_)
  obtain ⟨rfl, rfl⟩ := hQ81
  show End Z p e below s _ _ _ _ (mkF m 93 #[.val (.int i0), .val (.long i1), .second, .val (.int i2), .val (.long i3), .second, .val (.int i4), .val (.ref r_5), .val (.ref r_17), .val (.ref r_29), .val (.ref o37), .val (.ref o37), .val (.ref o37)] [(.long (ownV j_18.toNatClampNeg j_6.toNatClampNeg j_18.toNatClampNeg i1 i3))])
  refine E_aload (v := (.ref r_17)) (pc' := 95) X at_93 rfl rfl rfl ?_
  refine E_aload (v := (.ref r_5)) (pc' := 97) X at_95 rfl rfl rfl ?_
  refine E_lloadN (pc' := 98) X at_97 rfl rfl ?_
  refine E_aload (v := (.ref r_17)) (pc' := 100) X at_98 rfl rfl rfl ?_
  refine E_lload (pc' := 102) X at_100 rfl rfl ?_
  refine E_callS (pc' := 105) (W := 2) (cells' := 3) (slots' := 15) (argsL := [(.ref r_17), (.ref r_5), (.long i1), (.ref r_17), (.long i3)]) (rest := [(.long (ownV j_18.toNatClampNeg j_6.toNatClampNeg j_18.toNatClampNeg i1 i3))]) X (rm8 l Z a0 hw r_17 r_5 i1 r_17 i3 h_64 X.ext) (w_62 hw) (w_63 hw) (w_2 hw) (w_64 hw) (by decide) rfl rfl pd_6 rfl rfl at_102 rfl (Nat.le_refl _) (by decide) (by decide) rfl rfl (by decide) (by decide) (fun v83 T h_84 X hQ85 => ?_)
  obtain ⟨rfl, rfl⟩ := hQ85
  show End Z p e below s _ _ _ _ (mkF m 105 #[.val (.int i0), .val (.long i1), .second, .val (.int i2), .val (.long i3), .second, .val (.int i4), .val (.ref r_5), .val (.ref r_17), .val (.ref r_29), .val (.ref o37), .val (.ref o37), .val (.ref o37)] [(.long (ownExp r_17 r_5 r_17 i1 i3)), (.long (ownV j_18.toNatClampNeg j_6.toNatClampNeg j_18.toNatClampNeg i1 i3))])
  refine E_lcmp (pc' := 106) X at_105 rfl ?_
  refine E_if (pcY := 136) (pcN := 109) X (il_ne _ _) at_106 (by decide) rfl rfl (fun hc106_0 => absurd hc106_0 (fun q => q (own_fin P_24 P_12 P_24 P_21 P_9 P_21 P_22 P_10 P_22))) (fun hc106_0 => ?_)
  refine E_aload (v := (.ref o37)) (pc' := 111) X at_109 rfl rfl rfl ?_
  refine E_aload (v := (.ref r_29)) (pc' := 113) X at_111 rfl rfl rfl ?_
  refine E_callV (a := o37) (pc' := 116) (W := 0) (cells' := 3) (slots' := 15) (argsL := [(.ref r_29)]) (rest := []) X (rm7 l Z a0 hw o37 r_29 t_49 ((ownZ.set j_6.toNatClampNeg (.long ((0 : Int64) + i1))).set j_18.toNatClampNeg (.long ((if j_18.toNatClampNeg = j_6.toNatClampNeg then 0 + i1 else 0) + i3))) j_30 (ownV j_30.toNatClampNeg j_6.toNatClampNeg j_18.toNatClampNeg i1 i3) h_64 X.ext F_69 A_68 P_32 P_33 P_34 (own_z2 _ _ _ _ _ P_35 P_11 P_23)) E_73 (w_57 hw) (w_58 hw) (w_60 hw) (w_59 hw) (w_14 hw) (w_61 hw) rfl (by decide) rfl rfl pd_5 rfl rfl at_113 rfl (Nat.le_refl _) (by decide) (by decide) rfl rfl (by decide) (by decide) (fun v87 T h_88 X hQ89 => ?_)
  obtain ⟨rfl, rfl⟩ := hQ89
  show End Z p e below s _ _ _ _ (mkF m 116 #[.val (.int i0), .val (.long i1), .second, .val (.int i2), .val (.long i3), .second, .val (.int i4), .val (.ref r_5), .val (.ref r_17), .val (.ref r_29), .val (.ref o37), .val (.ref o37), .val (.ref o37)] [(.long (ownV j_30.toNatClampNeg j_6.toNatClampNeg j_18.toNatClampNeg i1 i3))])
  refine E_aload (v := (.ref r_29)) (pc' := 118) X at_116 rfl rfl rfl ?_
  refine E_aload (v := (.ref r_5)) (pc' := 120) X at_118 rfl rfl rfl ?_
  refine E_lloadN (pc' := 121) X at_120 rfl rfl ?_
  refine E_aload (v := (.ref r_17)) (pc' := 123) X at_121 rfl rfl rfl ?_
  refine E_lload (pc' := 125) X at_123 rfl rfl ?_
  refine E_callS (pc' := 128) (W := 2) (cells' := 3) (slots' := 15) (argsL := [(.ref r_29), (.ref r_5), (.long i1), (.ref r_17), (.long i3)]) (rest := [(.long (ownV j_30.toNatClampNeg j_6.toNatClampNeg j_18.toNatClampNeg i1 i3))]) X (rm8 l Z a0 hw r_29 r_5 i1 r_17 i3 h_64 X.ext) (w_62 hw) (w_63 hw) (w_2 hw) (w_64 hw) (by decide) rfl rfl pd_6 rfl rfl at_125 rfl (Nat.le_refl _) (by decide) (by decide) rfl rfl (by decide) (by decide) (fun v91 T h_92 X hQ93 => ?_)
  obtain ⟨rfl, rfl⟩ := hQ93
  show End Z p e below s _ _ _ _ (mkF m 128 #[.val (.int i0), .val (.long i1), .second, .val (.int i2), .val (.long i3), .second, .val (.int i4), .val (.ref r_5), .val (.ref r_17), .val (.ref r_29), .val (.ref o37), .val (.ref o37), .val (.ref o37)] [(.long (ownExp r_29 r_5 r_17 i1 i3)), (.long (ownV j_30.toNatClampNeg j_6.toNatClampNeg j_18.toNatClampNeg i1 i3))])
  refine E_lcmp (pc' := 129) X at_128 rfl ?_
  refine E_if (pcY := 136) (pcN := 132) X (il_ne _ _) at_129 (by decide) rfl rfl (fun hc129_0 => absurd hc129_0 (fun q => q (own_fin P_36 P_12 P_24 P_33 P_9 P_21 P_34 P_10 P_22))) (fun hc129_0 => ?_)
  refine E_iconst (v := (1 : Int32)) (pc' := 133) X at_132 rfl rfl ?_
  refine E_goto (pc' := 137) X at_133 (by decide) rfl ?_
  exact E_retZ (Or.inr rfl) X at_137 (by decide) (by decide) rfl
set_option maxRecDepth 65536 in
set_option maxHeartbeats 2000000 in
theorem comes_1 {Post : Tables → Env → Array Value → State → Outcome → State → Prop} (hpost : ∀ tb e args s v u, (limb_1_1.after args s (.returned v) u = true ∧ limb_1_2.after args s (.returned v) u = true ∧ True) → FrameEnd s (.returned v) u (Jvm.fieldLocs frame_1_writes args s ++ Jvm.arrayLocs frame_1_arrays args s ++ Jvm.staticLocs frame_1_statics s) 16 128 → Post tb e args s (.returned v) u) :
    ArmFor flags0 classFile x code maxLocals ret World_1 tables_1 room_1 Calls_1 rest_1 Pre_1 Post := by
  intro l hfl _ _ p e ha hc hk s m args below hf hA hF happ hP
  obtain ⟨hcalls, hrest, hpre⟩ := hP
  obtain ⟨-, -, -, hnamed, -, -, -, hat⟩ := (Spec.applies_iff hf).mp happ
  obtain ⟨hg, hn⟩ := and_e (Cond.before_iff.mp (show (Jvm.Cond.and given_1 narrow_1).before args s = true from hpre))
  obtain ⟨hcnt, hrst⟩ := and_e hg
  obtain ⟨hk0, hrst⟩ := and_e hrst
  obtain ⟨hk1, hrst⟩ := and_e hrst
  obtain ⟨hk2, hrst⟩ := and_e hrst
  obtain ⟨hk3, hrst⟩ := and_e hrst
  have hk4 := hrst
  obtain ⟨w0, w1, w2, w3, w4, rfl⟩ : ∃ w0 w1 w2 w3 w4 : Value, args = #[w0, w1, w2, w3, w4] := by
    have hs : args.size = 5 := by simpa [Cond.value, given_1] using hcnt
    obtain ⟨L⟩ := args
    match L, hs with
    | [w0, w1, w2, w3, w4], _ => exact ⟨w0, w1, w2, w3, w4, rfl⟩
  have hw := fun d (hd : d ∈ tables_1) => atoms_spec (ws := Jvm.Cond.code x code maxLocals ret :: tables_1) hat d (List.mem_cons_of_mem _ hd)
  have hfit : Fit s := fun {y c} hc i hi => by
    obtain ⟨ha, rfl⟩ := Array.getElem?_eq_some_iff.mp hc
    have q := List.all_eq_true.mp ((Array.all_eq_true_iff_forall_mem.mp hF) _ (Array.getElem_mem ha)) i (List.mem_range.mpr hi)
    simpa [Array.getElem?_eq_getElem hi] using q
  obtain ⟨i0, e0⟩ := is_v hk0
  obtain rfl : w0 = (.int i0) := Option.some.inj e0
  obtain ⟨i1, e1⟩ := isL_v hk1
  obtain rfl : w1 = (.long i1) := Option.some.inj e1
  obtain ⟨i2, e2⟩ := is_v hk2
  obtain rfl : w2 = (.int i2) := Option.some.inj e2
  obtain ⟨i3, e3⟩ := isL_v hk3
  obtain rfl : w3 = (.long i3) := Option.some.inj e3
  obtain ⟨i4, e4⟩ := is_v hk4
  obtain rfl : w4 = (.int i4) := Option.some.inj e4
  obtain ⟨c0, hn⟩ := and_e hn
  obtain ⟨c1, hn⟩ := and_e hn
  obtain ⟨c2, hn⟩ := and_e hn
  obtain ⟨c3, hn⟩ := and_e hn
  obtain ⟨c4, hn⟩ := and_e hn
  obtain ⟨c5, hn⟩ := and_e hn
  obtain ⟨c6, hn⟩ := and_e hn
  obtain ⟨c7, hn⟩ := and_e hn
  obtain ⟨c8, hn⟩ := and_e hn
  obtain ⟨c9, hn⟩ := and_e hn
  obtain ⟨c10, hn⟩ := and_e hn
  obtain ⟨c11, hn⟩ := and_e hn
  obtain ⟨c12, hn⟩ := and_e hn
  obtain ⟨c13, hn⟩ := and_e hn
  obtain ⟨c14, hn⟩ := and_e hn
  obtain ⟨c15, hn⟩ := and_e hn
  obtain ⟨c16, hn⟩ := and_e hn
  obtain ⟨c17, hn⟩ := and_e hn
  obtain ⟨c18, hn⟩ := and_e hn
  obtain ⟨c19, hn⟩ := and_e hn
  obtain ⟨c20, hn⟩ := and_e hn
  obtain ⟨c21, hn⟩ := and_e hn
  obtain ⟨c22, hn⟩ := and_e hn
  have c23 := hn
  obtain ⟨oWINDOWS, ev0, E0⟩ := own_exa c0
  have S0 := Sta.start ev0 (Or.inr ⟨(w_6 hw), (w_7 hw)⟩)
  obtain ⟨oWINDOW_TEXT, ev1, E1⟩ := own_exa c1
  have S1 := Sta.start ev1 (Or.inr ⟨(w_6 hw), (w_9 hw)⟩)
  obtain ⟨oLISTED_TEXT, ev2, E2⟩ := own_exa c2
  have S2 := Sta.start ev2 (Or.inr ⟨(w_6 hw), (w_11 hw)⟩)
  obtain ⟨oVALUES, ev4, E4⟩ := own_exa c4
  have S4 := Sta.start ev4 (Or.inr ⟨(w_6 hw), (w_25 hw)⟩)
  obtain ⟨oTOKENS, ev9, E9⟩ := own_exa c9
  have S9 := Sta.start ev9 (Or.inr ⟨(w_6 hw), (w_33 hw)⟩)
  obtain ⟨oTOKEN_TEXT, ev11, E11⟩ := own_exa c11
  have S11 := Sta.start ev11 (Or.inr ⟨(w_6 hw), (w_34 hw)⟩)
  obtain ⟨oBUFFERS, ev13, E13⟩ := own_exa c13
  have S13 := Sta.start ev13 (Or.inr ⟨(w_6 hw), (w_35 hw)⟩)
  obtain ⟨oBUFFER_FILES, ev15, E15⟩ := own_exa c15
  have S15 := Sta.start ev15 (Or.inr ⟨(w_6 hw), (w_36 hw)⟩)
  obtain ⟨cl3, A3, at3⟩ := own_arr ev4 c3
  have L5 := own_len ev4 at3 (own_eqi c5 (Term.int_eval (7)))
  have H6 := own_el ev4 at3 (own_eqi c6 ev0)
  have H7 := own_el ev4 at3 (own_eqi c7 ev1)
  have H8 := own_el ev4 at3 (own_eqi c8 ev2)
  have H10 := own_el ev4 at3 (own_eqi c10 ev9)
  have H12 := own_el ev4 at3 (own_eqi c12 ev11)
  have H14 := own_el ev4 at3 (own_eqi c14 ev13)
  have H16 := own_el ev4 at3 (own_eqi c16 ev15)
  have F17 := own_fld ev0 (own_eqi c17 (Term.int_eval (0)))
  have F18 := own_fld ev1 (own_eqi c18 (Term.int_eval (1)))
  have F19 := own_fld ev2 (own_eqi c19 (Term.int_eval (2)))
  have F20 := own_fld ev13 (own_eqi c20 (Term.int_eval (5)))
  have F21 := own_fld ev15 (own_eqi c21 (Term.int_eval (6)))
  have F22 := own_fld ev9 (own_eqi c22 (Term.int_eval (3)))
  have F23 := own_fld ev11 (own_eqi c23 (Term.int_eval (4)))
  have Ar3 : Ar s s.heap oVALUES (.object "com/example/mullion/mullion/core/Room") [(.ref oWINDOWS), (.ref oWINDOW_TEXT), (.ref oLISTED_TEXT), (.ref oTOKENS), (.ref oTOKEN_TEXT), (.ref oBUFFERS), (.ref oBUFFER_FILES)] := own_ar A3 L5 ⟨H6, H7, H8, H10, H12, H14, H16, trivial⟩
  obtain ⟨n, o, h1, h2, h3, _, L, rfl, ⟨N, _, rfl⟩, hq⟩ := rm0 l s _ hw i0 i1 i2 i3 i4 oWINDOWS oWINDOW_TEXT oLISTED_TEXT oVALUES oTOKENS oTOKEN_TEXT oBUFFERS oBUFFER_FILES s.heap (Ext.refl _) S0 E0 S1 E1 S2 E2 S4 E4 S9 E9 S11 E11 S13 E13 S15 E15 F17 F18 F19 F20 F21 F22 F23 Ar3 tables_1 p e ha hc hk s m _ below hf ((Spec.applies_iff_loose hf).mp happ).1 ⟨rfl, State.Warmed39.refl s, rfl⟩ trivial
  refine ⟨n, _, h1, h2, h3, hpost _ _ _ _ _ _ ⟨Cond.after_iff.mpr rfl, Cond.after_iff.mpr (eq_i res_at (Term.int_eval (1)) rfl), trivial⟩ ⟨hq.1, hq.2.1, (hq.2.2.sift fun y hy => Or.inr (N y hy)).mono (by decide) (by decide)⟩⟩
theorem main_1_1 : Claimed_1_1 := comes_1 fun _ _ _ _ _ _ h hF => ⟨h.1, hF⟩
theorem main_1_2 : Claimed_1_2 := comes_1 fun _ _ _ _ _ _ h hF => ⟨h.2.1, hF⟩
end Jvm.Pilot.@@N@@
namespace Jvm.Pilot.@@N@@
open Jvm Jvm.ClassFile Sem Op Lib Jvm.Free Jvm.Stand Jvm.Pilot.@@N@@.Jvm.D
/-! MADE BY PROGRAM (witnessworld.py) out of the Statement's table words and the real class files: 16 classes; the members and pool entries that the words name. The judged class is class 1, her method 3. -/
namespace start1
open Jvm.ClassFile
def u (s : String) : CpInfo := .utf8 (stringToUtf16 s)
/-- a pool by its gaps: so many unusable entries, then the entry; so many at the end -/
def gap : Nat → List CpInfo → List CpInfo
  | 0, r => r
  | n + 1, r => .unusable :: gap n r
def poolList (es : List (Nat × CpInfo)) (last : Nat) : List CpInfo := es.foldr (fun e r => gap e.1 (e.2 :: r)) (gap last [])
def pool (es : List (Nat × CpInfo)) (last : Nat) : Array CpInfo := ⟨poolList es last⟩
def fileOf (pool : Array CpInfo) (this : Nat) (attrs : Array Attribute := #[]) (ms : Array MethodInfo := #[]) (fl : Nat := 33) (sup : Nat := 0) (ifs : Array Nat := #[]) (fds : Array FieldInfo := #[]) : ClassFile where
  minorVersion := 0
  majorVersion := 65
  constantPool := pool
  accessFlags := fl
  thisClass := this
  superClass := sup
  interfaces := ifs
  fields := fds
  methods := ms
  attributes := attrs
def plain (name : String) (sup : Option ClassId) : Class where
  name := name
  kind := .ordinary
  loader := none
  accessFlags := 33
  super := sup
  interfaces := #[]
  cf := none
  fields := #[]
  methods := #[]
  instanceTypes := #[]
  staticTypes := #[]
  resolved := #[]
  callSites := []
  init := .initialized
  statics := none
  mirror := none

def pool0 : Array CpInfo := pool [(5, u "<init>"), (0, u "()V"), (1, .class_ 10), (1, u "java/lang/Object"), (85, u "clone"), (0, u "()Ljava/lang/Object;")] 26

def k0c0 : Code := { maxStack := 0, maxLocals := 1, code := object_method_1_code, exceptionTable := #[], attributes := #[] }
def k0m0 : Method := { name := "<init>", desc := "()V", sig := { parameters := [], returnType := none }, accessFlags := 1, code := some k0c0 }
def k0m1 : Method := { name := "clone", desc := "()Ljava/lang/Object;", sig := { parameters := [], returnType := some (.object "java/lang/Object") }, accessFlags := 260, code := none }
/-- java/lang/Object -/
def k0 : Class := { plain "java/lang/Object" none with
  accessFlags := 33
  interfaces := #[]
  cf := some (fileOf pool0 8 #[] #[{ accessFlags := 1, nameIndex := 5, descriptorIndex := 6, attributes := #[] }, { accessFlags := 260, nameIndex := 96, descriptorIndex := 97, attributes := #[] }] 33 0 #[] #[])
  fields := #[]
  methods := #[k0m0, k0m1]
  instanceTypes := #[]
  staticTypes := #[]
  resolved := Array.replicate 124 none
  statics := none }

def pool1 : Array CpInfo := pool [(2, .class_ 4), (0, .nameAndType 5 6), (0, u "java/lang/Object"), (0, u "<init>"), (0, u "()V"), (0, .integer 2147483647), (0, .fieldref 9 10), (0, .class_ 11), (0, .nameAndType 12 13), (0, u "com/example/mullion/mullion/core/Room"), (0, u "WINDOWS"), (0, u "Lcom/example/mullion/mullion/core/Room;"), (0, .fieldref 9 15), (0, .nameAndType 16 13), (0, u "WINDOW_TEXT"), (0, .fieldref 9 18), (0, .nameAndType 19 13), (0, u "LISTED_TEXT"), (0, .fieldref 9 21), (0, .nameAndType 22 13), (0, u "TOKENS"), (0, .fieldref 9 24), (0, .nameAndType 25 13), (0, u "TOKEN_TEXT"), (0, .fieldref 9 27), (0, .nameAndType 28 13), (0, u "BUFFERS"), (0, .fieldref 9 30), (0, .nameAndType 31 13), (0, u "BUFFER_FILES"), (0, .methodref 33 34), (0, .class_ 35), (0, .nameAndType 36 37), (0, u "com/example/mullion/mullion/core/HoldingAddPinLaw"), (0, u "pick"), (0, u "(I)Lcom/example/mullion/mullion/core/Room;"), (0, .class_ 39), (0, u "com/example/mullion/mullion/core/Holding"), (0, .methodref 38 3), (0, .methodref 38 42), (0, .nameAndType 43 44), (0, u "add"), (0, u "(Lcom/example/mullion/mullion/core/Room;J)Lcom/example/mullion/mullion/core/Holding;"), (0, .methodref 38 46), (0, .nameAndType 47 48), (0, u "of"), (0, u "(Lcom/example/mullion/mullion/core/Room;)J"), (0, .methodref 33 50), (0, .nameAndType 51 52), (0, u "expected"), (0, u "(Lcom/example/mullion/mullion/core/Room;Lcom/example/mullion/mullion/core/Room;JLcom/example/mullion/mullion/core/Room;J)J"), (3, u "law"), (0, u "(IJIJI)Z")] 2

def k1m0 : Method := { name := "<init>", desc := "()V", sig := { parameters := [], returnType := none }, accessFlags := 1, code := none }
def k1c1 : Code := { maxStack := 2, maxLocals := 2, code := method_2_code, exceptionTable := #[], attributes := #[] }
def k1m1 : Method := { name := "pick", desc := "(I)Lcom/example/mullion/mullion/core/Room;", sig := { parameters := [.int], returnType := some (.object "com/example/mullion/mullion/core/Room") }, accessFlags := 10, code := some k1c1 }
def k1c2 : Code := { maxStack := 4, maxLocals := 9, code := method_3_code, exceptionTable := #[], attributes := #[] }
def k1m2 : Method := { name := "expected", desc := "(Lcom/example/mullion/mullion/core/Room;Lcom/example/mullion/mullion/core/Room;JLcom/example/mullion/mullion/core/Room;J)J", sig := { parameters := [(.object "com/example/mullion/mullion/core/Room"), (.object "com/example/mullion/mullion/core/Room"), .long, (.object "com/example/mullion/mullion/core/Room"), .long], returnType := some .long }, accessFlags := 10, code := some k1c2 }
def k1c3 : Code := { maxStack := 9, maxLocals := 13, code := code, exceptionTable := #[], attributes := #[] }
def k1m3 : Method := { name := "law", desc := "(IJIJI)Z", sig := { parameters := [.int, .long, .int, .long, .int], returnType := some .boolean }, accessFlags := 9, code := some k1c3 }
/-- com/example/mullion/mullion/core/HoldingAddPinLaw -/
def k1 : Class := { plain "com/example/mullion/mullion/core/HoldingAddPinLaw" (some 0) with
  accessFlags := 49
  interfaces := #[]
  cf := some (fileOf pool1 33 #[] #[{ accessFlags := 1, nameIndex := 5, descriptorIndex := 6, attributes := #[] }, { accessFlags := 10, nameIndex := 36, descriptorIndex := 37, attributes := #[] }, { accessFlags := 10, nameIndex := 51, descriptorIndex := 52, attributes := #[] }, { accessFlags := 9, nameIndex := 56, descriptorIndex := 57, attributes := #[] }] 49 2 #[] #[])
  fields := #[]
  methods := #[k1m0, k1m1, k1m2, k1m3]
  instanceTypes := #[]
  staticTypes := #[]
  resolved := Array.replicate 60 none
  statics := none }

def pool2 : Array CpInfo := pool [(1, .class_ 2), (0, u "java/lang/constant/Constable"), (0, .class_ 4), (0, u "java/lang/Object")] 6

/-- java/lang/constant/Constable -/
def k2 : Class := { plain "java/lang/constant/Constable" (some 0) with
  accessFlags := 1537
  interfaces := #[]
  cf := some (fileOf pool2 1 #[] #[] 1537 3 #[] #[])
  fields := #[]
  methods := #[]
  instanceTypes := #[]
  staticTypes := #[]
  resolved := Array.replicate 11 none
  statics := none }

def pool3 : Array CpInfo := pool [(1, .class_ 2), (0, u "java/lang/Comparable"), (0, .class_ 4), (0, u "java/lang/Object")] 7

/-- java/lang/Comparable -/
def k3 : Class := { plain "java/lang/Comparable" (some 0) with
  accessFlags := 1537
  interfaces := #[]
  cf := some (fileOf pool3 1 #[] #[] 1537 3 #[] #[])
  fields := #[]
  methods := #[]
  instanceTypes := #[]
  staticTypes := #[]
  resolved := Array.replicate 12 none
  statics := none }

def pool4 : Array CpInfo := pool [(1, .class_ 2), (0, u "java/io/Serializable"), (0, .class_ 4), (0, u "java/lang/Object")] 2

/-- java/io/Serializable -/
def k4 : Class := { plain "java/io/Serializable" (some 0) with
  accessFlags := 1537
  interfaces := #[]
  cf := some (fileOf pool4 1 #[] #[] 1537 3 #[] #[])
  fields := #[]
  methods := #[]
  instanceTypes := #[]
  staticTypes := #[]
  resolved := Array.replicate 7 none
  statics := none }

def pool5 : Array CpInfo := pool [(2, .class_ 4), (1, u "java/lang/Enum"), (0, u "name"), (0, u "Ljava/lang/String;"), (0, .fieldref 2 8), (0, .nameAndType 9 10), (0, u "ordinal"), (0, u "I"), (1, .class_ 14), (1, u "java/lang/Object"), (4, u "hash"), (86, .class_ 108), (1, u "java/lang/Enum$EnumDesc"), (2, .class_ 112), (0, u "java/lang/constant/Constable"), (0, .class_ 114), (0, u "java/lang/Comparable"), (0, .class_ 116), (0, u "java/io/Serializable"), (9, u "()I")] 77

def k5c0 : Code := { maxStack := 1, maxLocals := 1, code := jdk_37_method_2_code, exceptionTable := #[], attributes := #[] }
def k5m0 : Method := { name := "ordinal", desc := "()I", sig := { parameters := [], returnType := some .int }, accessFlags := 17, code := some k5c0 }
/-- java/lang/Enum -/
def k5 : Class := { plain "java/lang/Enum" (some 0) with
  accessFlags := 1057
  interfaces := #[2, 3, 4]
  cf := some (fileOf pool5 2 #[.nestMembers #[106]] #[{ accessFlags := 17, nameIndex := 9, descriptorIndex := 126, attributes := #[] }] 1057 12 #[111, 113, 115] #[{ accessFlags := 18, nameIndex := 5, descriptorIndex := 6, attributes := #[] }, { accessFlags := 18, nameIndex := 9, descriptorIndex := 10, attributes := #[] }, { accessFlags := 2, nameIndex := 19, descriptorIndex := 10, attributes := #[] }])
  fields := #[{ name := "name", type := (.object "java/lang/String"), accessFlags := 18, slot := 0, constantValue := 0 }, { name := "ordinal", type := .int, accessFlags := 18, slot := 1, constantValue := 0 }, { name := "hash", type := .int, accessFlags := 2, slot := 2, constantValue := 0 }]
  methods := #[k5m0]
  instanceTypes := #[(.object "java/lang/String"), .int, .int]
  staticTypes := #[]
  resolved := Array.replicate 204 none
  statics := none }

def pool6 : Array CpInfo := pool [(1, .class_ 2), (0, u "com/example/mullion/mullion/core/Room"), (2, u "WINDOWS"), (0, u "Lcom/example/mullion/mullion/core/Room;"), (2, u "WINDOW_TEXT"), (2, u "LISTED_TEXT"), (2, u "TOKENS"), (2, u "TOKEN_TEXT"), (2, u "BUFFERS"), (2, u "BUFFER_FILES"), (0, .fieldref 1 26), (0, .nameAndType 27 28), (0, u "$VALUES"), (0, u "[Lcom/example/mullion/mullion/core/Room;"), (0, .methodref 30 31), (0, .class_ 28), (0, .nameAndType 32 33), (0, u "clone"), (0, u "()Ljava/lang/Object;"), (1, .class_ 37), (1, u "java/lang/Enum"), (8, u "bound"), (0, u "I"), (2, u "what"), (0, u "Ljava/lang/String;"), (2, u "units"), (2, u "values"), (0, u "()[Lcom/example/mullion/mullion/core/Room;")] 135

def k6c0 : Code := { maxStack := 1, maxLocals := 0, code := prog_35_method_1_code, exceptionTable := #[], attributes := #[] }
def k6m0 : Method := { name := "values", desc := "()[Lcom/example/mullion/mullion/core/Room;", sig := { parameters := [], returnType := some (.array (.object "com/example/mullion/mullion/core/Room")) }, accessFlags := 9, code := some k6c0 }
/-- com/example/mullion/mullion/core/Room -/
def k6 : Class := { plain "com/example/mullion/mullion/core/Room" (some 5) with
  accessFlags := 16432
  interfaces := #[]
  cf := some (fileOf pool6 1 #[] #[{ accessFlags := 9, nameIndex := 57, descriptorIndex := 58, attributes := #[] }] 16432 35 #[] #[{ accessFlags := 16409, nameIndex := 5, descriptorIndex := 6, attributes := #[] }, { accessFlags := 16409, nameIndex := 9, descriptorIndex := 6, attributes := #[] }, { accessFlags := 16409, nameIndex := 12, descriptorIndex := 6, attributes := #[] }, { accessFlags := 16409, nameIndex := 15, descriptorIndex := 6, attributes := #[] }, { accessFlags := 16409, nameIndex := 18, descriptorIndex := 6, attributes := #[] }, { accessFlags := 16409, nameIndex := 21, descriptorIndex := 6, attributes := #[] }, { accessFlags := 16409, nameIndex := 24, descriptorIndex := 6, attributes := #[] }, { accessFlags := 18, nameIndex := 46, descriptorIndex := 47, attributes := #[] }, { accessFlags := 18, nameIndex := 50, descriptorIndex := 51, attributes := #[] }, { accessFlags := 18, nameIndex := 54, descriptorIndex := 51, attributes := #[] }, { accessFlags := 4122, nameIndex := 27, descriptorIndex := 28, attributes := #[] }])
  fields := #[{ name := "WINDOWS", type := (.object "com/example/mullion/mullion/core/Room"), accessFlags := 16409, slot := 0, constantValue := 0 }, { name := "WINDOW_TEXT", type := (.object "com/example/mullion/mullion/core/Room"), accessFlags := 16409, slot := 1, constantValue := 0 }, { name := "LISTED_TEXT", type := (.object "com/example/mullion/mullion/core/Room"), accessFlags := 16409, slot := 2, constantValue := 0 }, { name := "TOKENS", type := (.object "com/example/mullion/mullion/core/Room"), accessFlags := 16409, slot := 3, constantValue := 0 }, { name := "TOKEN_TEXT", type := (.object "com/example/mullion/mullion/core/Room"), accessFlags := 16409, slot := 4, constantValue := 0 }, { name := "BUFFERS", type := (.object "com/example/mullion/mullion/core/Room"), accessFlags := 16409, slot := 5, constantValue := 0 }, { name := "BUFFER_FILES", type := (.object "com/example/mullion/mullion/core/Room"), accessFlags := 16409, slot := 6, constantValue := 0 }, { name := "bound", type := .int, accessFlags := 18, slot := 3, constantValue := 0 }, { name := "what", type := (.object "java/lang/String"), accessFlags := 18, slot := 4, constantValue := 0 }, { name := "units", type := (.object "java/lang/String"), accessFlags := 18, slot := 5, constantValue := 0 }, { name := "$VALUES", type := (.array (.object "com/example/mullion/mullion/core/Room")), accessFlags := 4122, slot := 7, constantValue := 0 }]
  methods := #[k6m0]
  instanceTypes := #[(.object "java/lang/String"), .int, .int, .int, (.object "java/lang/String"), (.object "java/lang/String")]
  staticTypes := #[(.object "com/example/mullion/mullion/core/Room"), (.object "com/example/mullion/mullion/core/Room"), (.object "com/example/mullion/mullion/core/Room"), (.object "com/example/mullion/mullion/core/Room"), (.object "com/example/mullion/mullion/core/Room"), (.object "com/example/mullion/mullion/core/Room"), (.object "com/example/mullion/mullion/core/Room"), (.array (.object "com/example/mullion/mullion/core/Room"))]
  resolved := Array.replicate 194 none
  statics := some 0 }

def pool7 : Array CpInfo := pool [(1, .methodref 2 3), (0, .class_ 4), (0, .nameAndType 5 6), (0, u "java/lang/Object"), (0, u "<init>"), (0, u "()V"), (0, .methodref 8 9), (0, .class_ 10), (0, .nameAndType 11 12), (0, u "com/example/mullion/mullion/core/Room"), (0, u "values"), (0, u "()[Lcom/example/mullion/mullion/core/Room;"), (0, .fieldref 14 15), (0, .class_ 16), (0, .nameAndType 17 18), (0, u "com/example/mullion/mullion/core/Holding"), (0, u "amounts"), (0, u "[J"), (0, .methodref 8 20), (0, .nameAndType 21 22), (0, u "ordinal"), (0, u "()I"), (2, u "of"), (0, u "(Lcom/example/mullion/mullion/core/Room;)J"), (0, u "add"), (0, u "(Lcom/example/mullion/mullion/core/Room;J)Lcom/example/mullion/mullion/core/Holding;")] 4

def k7c0 : Code := { maxStack := 2, maxLocals := 1, code := prog_21_method_1_code, exceptionTable := #[], attributes := #[] }
def k7m0 : Method := { name := "<init>", desc := "()V", sig := { parameters := [], returnType := none }, accessFlags := 0, code := some k7c0 }
def k7c1 : Code := { maxStack := 2, maxLocals := 2, code := prog_21_method_2_code, exceptionTable := #[], attributes := #[] }
def k7m1 : Method := { name := "of", desc := "(Lcom/example/mullion/mullion/core/Room;)J", sig := { parameters := [(.object "com/example/mullion/mullion/core/Room")], returnType := some .long }, accessFlags := 0, code := some k7c1 }
def k7c2 : Code := { maxStack := 6, maxLocals := 4, code := prog_21_method_3_code, exceptionTable := #[], attributes := #[] }
def k7m2 : Method := { name := "add", desc := "(Lcom/example/mullion/mullion/core/Room;J)Lcom/example/mullion/mullion/core/Holding;", sig := { parameters := [(.object "com/example/mullion/mullion/core/Room"), .long], returnType := some (.object "com/example/mullion/mullion/core/Holding") }, accessFlags := 0, code := some k7c2 }
/-- com/example/mullion/mullion/core/Holding -/
def k7 : Class := { plain "com/example/mullion/mullion/core/Holding" (some 0) with
  accessFlags := 48
  interfaces := #[]
  cf := some (fileOf pool7 14 #[] #[{ accessFlags := 0, nameIndex := 5, descriptorIndex := 6, attributes := #[] }, { accessFlags := 0, nameIndex := 25, descriptorIndex := 26, attributes := #[] }, { accessFlags := 0, nameIndex := 27, descriptorIndex := 28, attributes := #[] }] 48 2 #[] #[{ accessFlags := 18, nameIndex := 17, descriptorIndex := 18, attributes := #[] }])
  fields := #[{ name := "amounts", type := (.array .long), accessFlags := 18, slot := 0, constantValue := 0 }]
  methods := #[k7m0, k7m1, k7m2]
  instanceTypes := #[(.array .long)]
  staticTypes := #[]
  resolved := Array.replicate 33 none
  statics := none }

def pool8 : Array CpInfo := pool [(1, .class_ 2), (0, u "java/lang/Cloneable"), (0, .class_ 4), (0, u "java/lang/Object")] 2

/-- java/lang/Cloneable -/
def k8 : Class := { plain "java/lang/Cloneable" (some 0) with
  accessFlags := 1537
  interfaces := #[]
  cf := some (fileOf pool8 1 #[] #[] 1537 3 #[] #[])
  fields := #[]
  methods := #[]
  instanceTypes := #[]
  staticTypes := #[]
  resolved := Array.replicate 7 none
  statics := none }

/-- the primitive byte -/
def k9 : Class := { plain "byte" none with kind := .primitive 'B', accessFlags := 0x411 }
/-- [B -/
def k10 : Class := { plain "[B" (some 0) with kind := .array 9 .byte, interfaces := #[8, 4], accessFlags := 1041 }

/-- the primitive int -/
def k11 : Class := { plain "int" none with kind := .primitive 'I', accessFlags := 0x411 }
/-- [I -/
def k12 : Class := { plain "[I" (some 0) with kind := .array 11 .int, interfaces := #[8, 4], accessFlags := 1041 }

/-- the primitive long -/
def k13 : Class := { plain "long" none with kind := .primitive 'J', accessFlags := 0x411 }
/-- [J -/
def k14 : Class := { plain "[J" (some 0) with kind := .array 13 .long, interfaces := #[8, 4], accessFlags := 1041 }

/-- [Lcom/example/mullion/mullion/core/Room; -/
def k15 : Class := { plain "[Lcom/example/mullion/mullion/core/Room;" (some 0) with kind := .array 6 (.object "com/example/mullion/mullion/core/Room"), interfaces := #[8, 4], accessFlags := 1041 }

def heap : Heap := #[{ cls := 6, slots := #[.ref 2, .ref 3, .ref 4, .ref 5, .ref 6, .ref 7, .ref 8, .ref 1], vm := .statics 6 },
  { cls := 15, slots := #[.ref 2, .ref 3, .ref 4, .ref 5, .ref 6, .ref 7, .ref 8], vm := .none },
  { cls := 6, slots := #[.null, .int 0, .int 0, .int 10000, .null, .null], vm := .none },
  { cls := 6, slots := #[.null, .int 1, .int 0, .int 1048576, .null, .null], vm := .none },
  { cls := 6, slots := #[.null, .int 2, .int 0, .int 16777216, .null, .null], vm := .none },
  { cls := 6, slots := #[.null, .int 3, .int 0, .int 10000, .null, .null], vm := .none },
  { cls := 6, slots := #[.null, .int 4, .int 0, .int 1048576, .null, .null], vm := .none },
  { cls := 6, slots := #[.null, .int 5, .int 0, .int 2048, .null, .null], vm := .none },
  { cls := 6, slots := #[.null, .int 6, .int 0, .int 256, .null, .null], vm := .none }]
def classes : Array Class := #[k0, k1, k2, k3, k4, k5, k6, k7, k8, k9, k10, k11, k12, k13, k14, k15]
def interned : List (Array UInt16 × Addr) := []
def slotsUsed : Nat := 57
def theMethod : MethodId := ⟨1, 3⟩
def args0 : Array Value := #[.int 3, .long 5, .int 4, .long 7, .int 3]
def aboutOver (below : List Frame) : State where
  vm := { classes := classes, interned := interned.toArray }
  heap := heap
  slotsUsed := slotsUsed
  threads := #[{ frames := .invoking theMethod args0 :: below }]
def below0 : List Frame := [.native { method := ⟨0, 0⟩, args := #[] }]
def about1 : State := aboutOver below0
def p0 : Program := .bare "" "" ""
def e0 : Env := launch0.env 0 0 0
theorem w_frames : about1.frames = Frame.invoking theMethod args0 :: below0 := rfl
set_option maxRecDepth 65536 in
theorem w_args : argsFit about1.vm theMethod args0 = true := by decide +kernel
set_option maxRecDepth 65536 in
theorem w_heap : heapFits about1 = true := by decide +kernel
set_option maxRecDepth 65536 in
theorem w_runnable : about1.curStatus? = some .runnable := by decide +kernel
set_option maxRecDepth 65536 in
theorem w_alone : about1.alone = true := by decide +kernel
set_option maxRecDepth 65536 in
theorem w_named : about1.methodNamed? x = some theMethod := by decide +kernel
set_option maxRecDepth 65536 in
theorem w_hears : about1.hears theMethod below0 = true := by decide +kernel
set_option maxRecDepth 65536 in
theorem w_ripe : about1.ripe theMethod args0 below0 = true := by decide +kernel
theorem w_running : about1.status = .running := rfl
set_option maxRecDepth 65536 in
theorem w_room : about1.hasRoom e0.platform room_1 = true :=
  launch0.hasRoom_least _ room_1 (by decide +kernel) (by decide +kernel) (by decide +kernel) (by decide +kernel) (by decide +kernel) (by decide +kernel)
theorem allAtoms_all (ts : List Jvm.Cond) (a : Array Jvm.Value) (st : Jvm.State) : (allAtoms ts).before a st = ts.all (fun c => c.before a st) := by
  induction ts with
  | nil => rfl
  | cons c t ih =>
    show (Jvm.Cond.and c (allAtoms t)).before a st = _
    rw [Jvm.Cond.before_and, ih, List.all_cons]
def words1 : List Jvm.Cond := Jvm.Cond.code x code maxLocals ret :: tables_1
/-- a 'code' word, met by the world's own term for the bytes: nothing is compared byte by byte -/
theorem code_word {y : MethodName} {bytes : ByteArray} {mx : Nat} {rt : Option FieldType} {a : Array Value} {s : State} {m : MethodId} {meth : Method} {c : Code} (h1 : s.methodNamed? y = some m) (h2 : s.vm.method? m = some meth) (h3 : meth.code = some c) (h4 : c.code = bytes)
    (h5 : (c.maxLocals == mx && c.exceptionTable.isEmpty && decide (c.maxStack ≤ mostOperands) && decide (meth.sig.returnType = rt) && !meth.locks && decide (parseMethodDescriptor y.desc = some meth.sig)) = true) : (Jvm.Cond.code y bytes mx rt).before a s = true := by
  simp only [Bool.and_eq_true, beq_iff_eq, Bool.not_eq_true', decide_eq_true_eq] at h5
  obtain ⟨⟨⟨⟨⟨g1, g2⟩, g3⟩, g4⟩, g5⟩, g6⟩ := h5
  simp [Cond.before, Cond.holds, Cond.value, h1, h2, h3, h4, g1, g2, g3, g4, g5, g6]
def isCode : Jvm.Cond → Bool
  | .code _ _ _ _ => true
  | _ => false
theorem all_split {L : List Jvm.Cond} {P : Jvm.Cond → Bool} (h1 : L.all (fun c => isCode c || P c) = true) (h2 : ∀ c ∈ L.filter isCode, P c = true) : L.all P = true := by
  refine List.all_eq_true.mpr fun c hc => ?_
  have h := List.all_eq_true.mp h1 c hc
  rcases Bool.eq_false_or_eq_true (isCode c) with hi | hi
  · exact h2 c (List.mem_filter.mpr ⟨hc, hi⟩)
  · simpa [hi] using h
set_option maxRecDepth 65536 in
theorem w_c0 : (Jvm.Cond.code x code maxLocals ret).before args0 about1 = true := code_word (m := ⟨1, 3⟩) (meth := k1m3) (c := k1c3) (by decide +kernel) rfl rfl rfl (by decide +kernel)
set_option maxRecDepth 65536 in
theorem w_c1 : (Jvm.Cond.code ({ cls := "com/example/mullion/mullion/core/HoldingAddPinLaw", name := "pick", desc := "(I)Lcom/example/mullion/mullion/core/Room;" } : Jvm.MethodName) method_2_code (2 : Nat) (Option.some (Jvm.ClassFile.FieldType.object "com/example/mullion/mullion/core/Room"))).before args0 about1 = true := code_word (m := ⟨1, 1⟩) (meth := k1m1) (c := k1c1) (by decide +kernel) rfl rfl rfl (by decide +kernel)
set_option maxRecDepth 65536 in
theorem w_c2 : (Jvm.Cond.code ({ cls := "com/example/mullion/mullion/core/Holding", name := "<init>", desc := "()V" } : Jvm.MethodName) prog_21_method_1_code (1 : Nat) (Option.none : Option Jvm.ClassFile.FieldType)).before args0 about1 = true := code_word (m := ⟨7, 0⟩) (meth := k7m0) (c := k7c0) (by decide +kernel) rfl rfl rfl (by decide +kernel)
set_option maxRecDepth 65536 in
theorem w_c3 : (Jvm.Cond.code ({ cls := "java/lang/Object", name := "<init>", desc := "()V" } : Jvm.MethodName) object_method_1_code (1 : Nat) (Option.none : Option Jvm.ClassFile.FieldType)).before args0 about1 = true := code_word (m := ⟨0, 0⟩) (meth := k0m0) (c := k0c0) (by decide +kernel) rfl rfl rfl (by decide +kernel)
set_option maxRecDepth 65536 in
theorem w_c4 : (Jvm.Cond.code ({ cls := "com/example/mullion/mullion/core/Room", name := "values", desc := "()[Lcom/example/mullion/mullion/core/Room;" } : Jvm.MethodName) prog_35_method_1_code (0 : Nat) (Option.some (Jvm.ClassFile.FieldType.array (Jvm.ClassFile.FieldType.object "com/example/mullion/mullion/core/Room")))).before args0 about1 = true := code_word (m := ⟨6, 0⟩) (meth := k6m0) (c := k6c0) (by decide +kernel) rfl rfl rfl (by decide +kernel)
set_option maxRecDepth 65536 in
theorem w_c5 : (Jvm.Cond.code ({ cls := "com/example/mullion/mullion/core/Holding", name := "add", desc := "(Lcom/example/mullion/mullion/core/Room;J)Lcom/example/mullion/mullion/core/Holding;" } : Jvm.MethodName) prog_21_method_3_code (4 : Nat) (Option.some (Jvm.ClassFile.FieldType.object "com/example/mullion/mullion/core/Holding"))).before args0 about1 = true := code_word (m := ⟨7, 2⟩) (meth := k7m2) (c := k7c2) (by decide +kernel) rfl rfl rfl (by decide +kernel)
set_option maxRecDepth 65536 in
theorem w_c6 : (Jvm.Cond.code ({ cls := "java/lang/Enum", name := "ordinal", desc := "()I" } : Jvm.MethodName) jdk_37_method_2_code (1 : Nat) (Option.some Jvm.ClassFile.FieldType.int)).before args0 about1 = true := code_word (m := ⟨5, 0⟩) (meth := k5m0) (c := k5c0) (by decide +kernel) rfl rfl rfl (by decide +kernel)
set_option maxRecDepth 65536 in
theorem w_c7 : (Jvm.Cond.code ({ cls := "com/example/mullion/mullion/core/Holding", name := "of", desc := "(Lcom/example/mullion/mullion/core/Room;)J" } : Jvm.MethodName) prog_21_method_2_code (2 : Nat) (Option.some Jvm.ClassFile.FieldType.long)).before args0 about1 = true := code_word (m := ⟨7, 1⟩) (meth := k7m1) (c := k7c1) (by decide +kernel) rfl rfl rfl (by decide +kernel)
set_option maxRecDepth 65536 in
theorem w_c8 : (Jvm.Cond.code ({ cls := "com/example/mullion/mullion/core/HoldingAddPinLaw", name := "expected", desc := "(Lcom/example/mullion/mullion/core/Room;Lcom/example/mullion/mullion/core/Room;JLcom/example/mullion/mullion/core/Room;J)J" } : Jvm.MethodName) method_3_code (9 : Nat) (Option.some Jvm.ClassFile.FieldType.long)).before args0 about1 = true := code_word (m := ⟨1, 2⟩) (meth := k1m2) (c := k1c2) (by decide +kernel) rfl rfl rfl (by decide +kernel)
def codes1 : List Jvm.Cond := [Jvm.Cond.code x code maxLocals ret, Jvm.Cond.code ({ cls := "com/example/mullion/mullion/core/HoldingAddPinLaw", name := "pick", desc := "(I)Lcom/example/mullion/mullion/core/Room;" } : Jvm.MethodName) method_2_code (2 : Nat) (Option.some (Jvm.ClassFile.FieldType.object "com/example/mullion/mullion/core/Room")), Jvm.Cond.code ({ cls := "com/example/mullion/mullion/core/Holding", name := "<init>", desc := "()V" } : Jvm.MethodName) prog_21_method_1_code (1 : Nat) (Option.none : Option Jvm.ClassFile.FieldType), Jvm.Cond.code ({ cls := "java/lang/Object", name := "<init>", desc := "()V" } : Jvm.MethodName) object_method_1_code (1 : Nat) (Option.none : Option Jvm.ClassFile.FieldType), Jvm.Cond.code ({ cls := "com/example/mullion/mullion/core/Room", name := "values", desc := "()[Lcom/example/mullion/mullion/core/Room;" } : Jvm.MethodName) prog_35_method_1_code (0 : Nat) (Option.some (Jvm.ClassFile.FieldType.array (Jvm.ClassFile.FieldType.object "com/example/mullion/mullion/core/Room"))), Jvm.Cond.code ({ cls := "com/example/mullion/mullion/core/Holding", name := "add", desc := "(Lcom/example/mullion/mullion/core/Room;J)Lcom/example/mullion/mullion/core/Holding;" } : Jvm.MethodName) prog_21_method_3_code (4 : Nat) (Option.some (Jvm.ClassFile.FieldType.object "com/example/mullion/mullion/core/Holding")), Jvm.Cond.code ({ cls := "java/lang/Enum", name := "ordinal", desc := "()I" } : Jvm.MethodName) jdk_37_method_2_code (1 : Nat) (Option.some Jvm.ClassFile.FieldType.int), Jvm.Cond.code ({ cls := "com/example/mullion/mullion/core/Holding", name := "of", desc := "(Lcom/example/mullion/mullion/core/Room;)J" } : Jvm.MethodName) prog_21_method_2_code (2 : Nat) (Option.some Jvm.ClassFile.FieldType.long), Jvm.Cond.code ({ cls := "com/example/mullion/mullion/core/HoldingAddPinLaw", name := "expected", desc := "(Lcom/example/mullion/mullion/core/Room;Lcom/example/mullion/mullion/core/Room;JLcom/example/mullion/mullion/core/Room;J)J" } : Jvm.MethodName) method_3_code (9 : Nat) (Option.some Jvm.ClassFile.FieldType.long)]
set_option maxRecDepth 65536 in
theorem codes_eq : words1.filter isCode = codes1 := rfl
theorem w_codes : ∀ c ∈ words1.filter isCode, c.before args0 about1 = true := by
  rw [codes_eq]
  intro c hc
  simp only [codes1, List.mem_cons, List.not_mem_nil, or_false] at hc
  rcases hc with rfl | rfl | rfl | rfl | rfl | rfl | rfl | rfl | rfl
  · exact w_c0
  · exact w_c1
  · exact w_c2
  · exact w_c3
  · exact w_c4
  · exact w_c5
  · exact w_c6
  · exact w_c7
  · exact w_c8
set_option maxRecDepth 65536 in
theorem w_t1 : (words1.take 24).all (fun c => isCode c || c.before args0 about1) = true := by decide +kernel
set_option maxRecDepth 65536 in
theorem w_t2 : ((words1.drop 24).take 24).all (fun c => isCode c || c.before args0 about1) = true := by decide +kernel
set_option maxRecDepth 65536 in
theorem w_t3 : ((words1.drop 24).drop 24).all (fun c => isCode c || c.before args0 about1) = true := by decide +kernel
theorem w_tables : (allAtoms (Jvm.Cond.code x code maxLocals ret :: tables_1)).before args0 about1 = true := by
  rw [allAtoms_all]
  show words1.all (fun c => c.before args0 about1) = true
  refine all_split ?_ w_codes
  rw [← List.take_append_drop 24 words1, List.all_append, w_t1, ← List.take_append_drop 24 (words1.drop 24), List.all_append, w_t2, w_t3]
  rfl
set_option maxRecDepth 65536 in
theorem w_case : (Jvm.Cond.and given_1 narrow_1).before args0 about1 = true := by decide +kernel
theorem w_applies : (headSpec (Jvm.Cond.code x code maxLocals ret :: tables_1) room_1).applies x e0.platform about1 = true :=
  (Spec.applies_iff w_frames).mpr ⟨w_running, w_runnable, w_alone, w_named, w_hears, w_ripe, w_room, w_tables⟩
theorem atStart : AtStart classFile x code maxLocals ret World_1 tables_1 room_1 Calls_1 rest_1 Pre_1 launch0 p0 e0 about1 theMethod args0 below0 :=
  ⟨lists_1, trivial, launch0.admits_env _ _ _, launch0.least_env, fairChoices_fair.cas, fairChoices_fair.clock, w_frames, w_args, w_heap, w_applies, trivial, trivial, w_case⟩
end start1
theorem witness_1 : WitnessClaimed_1 := ⟨start1.p0, start1.e0, start1.about1, start1.theMethod, start1.args0, start1.below0, start1.atStart⟩
end Jvm.Pilot.@@N@@
