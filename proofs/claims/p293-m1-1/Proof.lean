import JvmDerived
import JvmDerived.Pilot.@@N@@Statement
import JvmDerived.Pilot.@@N@@Code
set_option linter.unusedVariables false
set_option linter.unusedSimpArgs false
namespace Jvm.RoadKit
open Sem ClassFile Op Lib Jvm.Stand Jvm.Free Jvm.LawKit
section Own
/-- the walk comes to its end from here: it returns, what it returns and the heap are as Q says, nothing old is written -/
def End (Z : State) (p : Program) (e : Env) (below : List Frame) (s : State) (Q : Option Value → Heap → Prop) (kc ks : Nat) (T : State) (g : JFrame) : Prop :=
  ∃ s₂ o, Steps p.tables e below (T.setTop g) s₂ ∧ s₂.status = .running ∧ Ended s₂ below o ∧ ∃ v L, o = .returned v ∧ (Fr Z.heap.size L ∧ Ext Z.heap s₂.heap ∧ Q v s₂.heap) ∧ FrameEnd s o s₂ L kc ks
/-- where the walk stands, with all that is fixed in a body -/
def Sd (l : Launch) (Z : State) (own nm : String) (bytes : ByteArray) (ml : Nat) (ret : Option FieldType) (R : Room) (p : Program) (e : Env) (s : State) (m : MethodId) (args : Array Value) (below : List Frame) (T : State) (h : Heap) (cells slots : Nat) : Prop :=
  ∃ (meth : Method) (c : Code) (locs : List Loc), Stand p l e R s m args below meth c T locs cells slots ∧ Fr Z.heap.size locs ∧ T.heap = h ∧ Ext Z.heap h ∧ p.tables.exec = Jvm.exec ∧ c.code = bytes ∧ c.maxLocals = ml ∧ s.vm.findClass own = some m.cls ∧ meth.name = nm ∧ meth.sig.returnType = ret ∧ meth.locks = false ∧ Z.Warmed39 s.vm
/-- a contract: called with these arguments over the heap h0 the body returns, as Q says -/
def Con (l : Launch) (Z : State) (y : MethodName) (bytes : ByteArray) (ml : Nat) (ret : Option FieldType) (rm : Room) (as : Array Value) (h0 : Heap) (Q : Option Value → Heap → Prop) : Prop :=
  ∀ ws : List Jvm.Cond, MetFree l y (head1 (Jvm.Cond.code y bytes ml ret :: ws) rm) (fun a U => a = as ∧ Z.Warmed39 U.vm ∧ U.heap = h0) (fun _ _ _ _ _ => True) (fun _ U o U' => ∃ v L, o = .returned v ∧ (Fr Z.heap.size L ∧ Ext Z.heap U'.heap ∧ Q v U'.heap) ∧ FrameEnd U o U' L rm.cells rm.slots)
theorem Ext.refl (h : Heap) : Ext h h := ⟨Nat.le_refl _, fun _ _ q => q⟩
theorem Ext.trans {h h' h'' : Heap} (E : Ext h h') (E' : Ext h' h'') : Ext h h'' := ⟨Nat.le_trans E.1 E'.1, fun a c q => E'.2 a c (E.2 a c q)⟩
theorem Ext.keep {h0 h h' : Heap} {ws : List Addr} (E : Ext h0 h) (K : Keep h h' ws) (q : ∀ x ∈ ws, h0.size ≤ x) : Ext h0 h' := ⟨Nat.le_trans E.1 K.1, fun x c r => K.2.1 x c (E.2 x c r) fun z => absurd (Array.getElem?_eq_some_iff.mp r).1 (Nat.not_lt.mpr (q x z))⟩
theorem Ext.wr {h0 h h' : Heap} {a : Addr} {sl : Nat} {v : Value} (E : Ext h0 h) (W : Wr h h' a sl v) (q : h0.size ≤ a) : Ext h0 h' := E.keep (Keep.of_wr W) (allS q all0)
theorem Keep.of_ext {h h' : Heap} (E : Ext h h') (ws : List Addr) : Keep h h' ws := (Keep.refl h ws).ext E
theorem Keep.ext0 {h h' : Heap} (K : Keep h h' []) : Ext h h' := ⟨K.1, fun x c q => K.2.1 x c q nin0⟩
theorem Keep.sub {h h' : Heap} {ws ws' : List Addr} (K : Keep h h' ws) (q : ∀ x ∈ ws, x ∈ ws') : Keep h h' ws' := ⟨K.1, fun x c r n => K.2.1 x c r fun z => n (q x z), K.2.2⟩
theorem Con.of {l : Launch} {Z : State} {y : MethodName} {bytes : ByteArray} {ml : Nat} {ret : Option FieldType} {rm : Room} {as : Array Value} {h0 : Heap} {Q : Option Value → Heap → Prop} (pn : plainFor y = true) (hE : Ext Z.heap h0)
    (body : ∀ (p : Program) (e : Env) (s : State) (m : MethodId) (below : List Frame) (T : State), Sd l Z y.cls y.name bytes ml ret rm p e s m as below T h0 0 0 → End Z p e below s Q rm.cells rm.slots T (entryFrame m as ml)) : Con l Z y bytes ml ret rm as h0 Q := by
  intro ws
  refine MetFree.of_bodySF pn hisR ?_
  intro p e s m args below meth c s₁ Bd hml hP hK
  obtain ⟨rfl, hZ, hh⟩ := hP
  have X : Stand p l e rm s m args below meth c s₁ [] 0 0 := Stand.of_body Bd
  have e0 : s₁.heap = h0 := by rw [← hh, Bd.state]; rfl
  exact body p e s m below s₁ ⟨meth, c, [], X, Fr.nil _, e0, hE, Bd.exec, Bd.bytes, hml, findClass_of_methodNamed Bd.named, (name_of_methodNamed Bd.named Bd.method).1, Bd.returns, Bd.notSynchronized, hZ⟩
variable {l : Launch} {Z : State} {own nm : String} {bytes : ByteArray} {ml : Nat} {ret : Option FieldType} {R : Room} {p : Program} {e : Env} {s : State} {m : MethodId} {args : Array Value} {below : List Frame} {T : State} {h : Heap} {cells slots : Nat} {Q : Option Value → Heap → Prop} {kc ks : Nat} {pc pc' : Nat} {Ls : Array Slot} {st : List Value} {a0 : Array Value}
theorem End.go {T' : State} {g g' : JFrame} (k : End Z p e below s Q kc ks T' g') (stp : ∀ target, Steps p.tables e below (T'.setTop g') target → Steps p.tables e below (T.setTop g) target) : End Z p e below s Q kc ks T g := by
  obtain ⟨s2, o, h1, h2⟩ := k
  exact ⟨s2, o, stp _ h1, h2⟩
theorem End.frame {g g' : JFrame} (q : g = g') (k : End Z p e below s Q kc ks T g') : End Z p e below s Q kc ks T g := q ▸ k
theorem End.of {Q' : Option Value → Heap → Prop} {g : JFrame} (k : End Z p e below s Q kc ks T g) (q : ∀ v h, Q v h → Q' v h) : End Z p e below s Q' kc ks T g := by
  obtain ⟨s2, o, h1, h2, h3, v, L, h4, ⟨h5, h6, h7⟩, h8⟩ := k
  exact ⟨s2, o, h1, h2, h3, v, L, h4, ⟨h5, h6, q _ _ h7⟩, h8⟩
theorem Con.imp {y : MethodName} {rm : Room} {as : Array Value} {h0 : Heap} {Q' : Option Value → Heap → Prop} (C : Con l Z y bytes ml ret rm as h0 Q) (q : ∀ v h, Q v h → Q' v h) : Con l Z y bytes ml ret rm as h0 Q' := by
  intro ws p e ha hc hk s m args below hf happ hP hK
  obtain ⟨n, o, h1, h2, h3, v, L, h4, ⟨h5, h6, h7⟩, h8⟩ := C ws p e ha hc hk s m args below hf happ hP hK
  exact ⟨n, o, h1, h2, h3, v, L, h4, ⟨h5, h6, q _ _ h7⟩, h8⟩
theorem Sd.ext (X : Sd l Z own nm bytes ml ret R p e s m args below T h cells slots) : Ext Z.heap h := by obtain ⟨meth, c, locs, X, N, e0, E, -⟩ := X; exact E
theorem Sd.le (X : Sd l Z own nm bytes ml ret R p e s m args below T h cells slots) : Z.heap.size ≤ h.size := X.ext.1
theorem Sd.more (X : Sd l Z own nm bytes ml ret R p e s m args below T h cells slots) {cells' slots' : Nat} (h1 : cells ≤ cells') (h2 : slots ≤ slots') : Sd l Z own nm bytes ml ret R p e s m args below T h cells' slots' := by
  obtain ⟨meth, c, locs, X, r⟩ := X; exact ⟨meth, c, locs, X.more h1 h2, r⟩
/-! returns -/
theorem E_ret0 (X : Sd l Z own nm bytes ml none R p e s m args below T h cells slots) (hd : decode bytes pc = .ok (.return_, 1)) (h1 : cells ≤ kc) (h2 : slots ≤ ks) (hq : Q none h) : End Z p e below s Q kc ks T (mkF m pc Ls []) := by
  obtain ⟨meth, c, locs, X, N, e0, E, hx, hb, hml, hown, hnm, hret, hlk, hZ⟩ := X
  subst hb
  obtain ⟨fs, hr, hrun, hended, hW, hsame⟩ := X.leave (v := none) (fun _ => rfl)
  exact ⟨_, _, X.returnOut hx hret hd hr, hrun, hended, _, _, rfl, ⟨N, by show Ext Z.heap T.heap; rw [e0]; exact E, by show Q none T.heap; rw [e0]; exact hq⟩, ⟨_, rfl⟩, hW, hsame.mono h1 h2⟩
theorem E_retW {t : FieldType} {w : Value} {i : Instr} (hn : narrow t w = w) (hi : (i = .ireturn ∧ (t = .int ∨ t = .boolean ∨ t = .byte ∨ t = .char ∨ t = .short) ∧ ∃ z, w = .int z) ∨ (i = .lreturn ∧ t = .long ∧ ∃ z, w = .long z) ∨ (i = .dreturn ∧ t = .double ∧ ∃ z, w = .double z) ∨ (i = .freturn ∧ t = .float ∧ ∃ z, w = .float z) ∨ (i = .areturn ∧ t.isReference = true ∧ w.isRef = true))
    (X : Sd l Z own nm bytes ml (some t) R p e s m args below T h cells slots) (hd : decode bytes pc = .ok (i, 1)) (h1 : cells ≤ kc) (h2 : slots ≤ ks) (hq : Q (some w) h) : End Z p e below s Q kc ks T (mkF m pc Ls (w :: st)) := by
  obtain ⟨meth, c, locs, X, N, e0, E, hx, hb, hml, hown, hnm, hret, hlk, hZ⟩ := X
  subst hb
  obtain ⟨fs, hr, hrun, hended, hW, hsame⟩ := X.leave (v := some w) (fun h => by rw [hret] at h; cases h)
  exact ⟨_, _, retOut X hx hret hn hi hd hr, hrun, hended, _, _, rfl, ⟨N, by show Ext Z.heap T.heap; rw [e0]; exact E, by show Q (some w) T.heap; rw [e0]; exact hq⟩, ⟨_, rfl⟩, hW, hsame.mono h1 h2⟩
theorem E_retI {z : Int32} (X : Sd l Z own nm bytes ml (some .int) R p e s m args below T h cells slots) (hd : decode bytes pc = .ok (.ireturn, 1)) (h1 : cells ≤ kc) (h2 : slots ≤ ks) (hq : Q (some (.int z)) h) : End Z p e below s Q kc ks T (mkF m pc Ls (.int z :: st)) :=
  E_retW (t := .int) rfl (Or.inl ⟨rfl, Or.inl rfl, z, rfl⟩) X hd h1 h2 hq
theorem E_retL {z : Int64} (X : Sd l Z own nm bytes ml (some .long) R p e s m args below T h cells slots) (hd : decode bytes pc = .ok (.lreturn, 1)) (h1 : cells ≤ kc) (h2 : slots ≤ ks) (hq : Q (some (.long z)) h) : End Z p e below s Q kc ks T (mkF m pc Ls (.long z :: st)) :=
  E_retW (t := .long) rfl (Or.inr (Or.inl ⟨rfl, rfl, z, rfl⟩)) X hd h1 h2 hq
theorem E_retA {t : FieldType} {w : Value} (X : Sd l Z own nm bytes ml (some t) R p e s m args below T h cells slots) (hd : decode bytes pc = .ok (.areturn, 1)) (ht : t.isReference = true) (hw : w.isRef = true) (h1 : cells ≤ kc) (h2 : slots ≤ ks) (hq : Q (some w) h) : End Z p e below s Q kc ks T (mkF m pc Ls (w :: st)) :=
  E_retW (by rcases ref_cases hw with rfl | ⟨a, rfl⟩ <;> (cases t <;> first | rfl | (simp [FieldType.isReference] at ht))) (Or.inr (Or.inr (Or.inr (Or.inr ⟨rfl, ht, hw⟩)))) X hd h1 h2 hq
theorem E_retZ {z : Int32} (hz : z = 0 ∨ z = 1) (X : Sd l Z own nm bytes ml (some .boolean) R p e s m args below T h cells slots) (hd : decode bytes pc = .ok (.ireturn, 1)) (h1 : cells ≤ kc) (h2 : slots ≤ ks) (hq : Q (some (.int z)) h) : End Z p e below s Q kc ks T (mkF m pc Ls (.int z :: st)) :=
  E_retW (t := .boolean) (by rcases hz with rfl | rfl <;> rfl) (Or.inl ⟨rfl, Or.inr (Or.inl rfl), z, rfl⟩) X hd h1 h2 hq
theorem E_iloadN (X : Sd l Z own nm bytes ml ret R p e s m args below T h cells slots) {i : Fin 4} {v : Int32} (hd : decode bytes pc = .ok (.iload_n i, 1)) (hp : pc + 1 = pc') (hl : Ls[i.val]? = some (.val (.int v))) (k : End Z p e below s Q kc ks T (mkF m pc' Ls (.int v :: st))) : End Z p e below s Q kc ks T (mkF m pc Ls st) := by
  subst hp; obtain ⟨meth, c, locs, X, -, -, -, hx, hb, -⟩ := X; subst hb
  exact k.go fun _ => XS.iloadN X.here hx (g := mkF m pc Ls st) rfl hd hl
theorem E_iload (X : Sd l Z own nm bytes ml ret R p e s m args below T h cells slots) {i : Nat} {v : Int32} (hd : decode bytes pc = .ok (.iload i, 2)) (hp : pc + 2 = pc') (hl : Ls[i]? = some (.val (.int v))) (k : End Z p e below s Q kc ks T (mkF m pc' Ls (.int v :: st))) : End Z p e below s Q kc ks T (mkF m pc Ls st) := by
  subst hp; obtain ⟨meth, c, locs, X, -, -, -, hx, hb, -⟩ := X; subst hb
  exact k.go fun _ => XS.iload X.here hx (g := mkF m pc Ls st) rfl hd hl
theorem E_istoreN (X : Sd l Z own nm bytes ml ret R p e s m args below T h cells slots) {i : Fin 4} {v : Int32} {Ls' : Array Slot} (hd : decode bytes pc = .ok (.istore_n i, 1)) (hp : pc + 1 = pc') (hl : storeLocals Ls i.val (.int v) = some Ls') (k : End Z p e below s Q kc ks T (mkF m pc' Ls' st)) : End Z p e below s Q kc ks T (mkF m pc Ls (.int v :: st)) := by
  subst hp; obtain ⟨meth, c, locs, X, -, -, -, hx, hb, -⟩ := X; subst hb
  exact k.go fun _ => XS.istoreN X.here hx (g := mkF m pc Ls (.int v :: st)) rfl hd rfl hl
theorem E_istore (X : Sd l Z own nm bytes ml ret R p e s m args below T h cells slots) {i : Nat} {v : Int32} {Ls' : Array Slot} (hd : decode bytes pc = .ok (.istore i, 2)) (hp : pc + 2 = pc') (hl : storeLocals Ls i (.int v) = some Ls') (k : End Z p e below s Q kc ks T (mkF m pc' Ls' st)) : End Z p e below s Q kc ks T (mkF m pc Ls (.int v :: st)) := by
  subst hp; obtain ⟨meth, c, locs, X, -, -, -, hx, hb, -⟩ := X; subst hb
  exact k.go fun _ => XS.istore X.here hx (g := mkF m pc Ls (.int v :: st)) rfl hd rfl hl
theorem E_lloadN (X : Sd l Z own nm bytes ml ret R p e s m args below T h cells slots) {i : Fin 4} {v : Int64} (hd : decode bytes pc = .ok (.lload_n i, 1)) (hp : pc + 1 = pc') (hl : Ls[i.val]? = some (.val (.long v))) (k : End Z p e below s Q kc ks T (mkF m pc' Ls (.long v :: st))) : End Z p e below s Q kc ks T (mkF m pc Ls st) := by
  subst hp; obtain ⟨meth, c, locs, X, -, -, -, hx, hb, -⟩ := X; subst hb
  exact k.go fun _ => XS.lloadN X.here hx (g := mkF m pc Ls st) rfl hd hl
theorem E_lload (X : Sd l Z own nm bytes ml ret R p e s m args below T h cells slots) {i : Nat} {v : Int64} (hd : decode bytes pc = .ok (.lload i, 2)) (hp : pc + 2 = pc') (hl : Ls[i]? = some (.val (.long v))) (k : End Z p e below s Q kc ks T (mkF m pc' Ls (.long v :: st))) : End Z p e below s Q kc ks T (mkF m pc Ls st) := by
  subst hp; obtain ⟨meth, c, locs, X, -, -, -, hx, hb, -⟩ := X; subst hb
  exact k.go fun _ => XS.lload X.here hx (g := mkF m pc Ls st) rfl hd hl
theorem E_lstoreN (X : Sd l Z own nm bytes ml ret R p e s m args below T h cells slots) {i : Fin 4} {v : Int64} {Ls' : Array Slot} (hd : decode bytes pc = .ok (.lstore_n i, 1)) (hp : pc + 1 = pc') (hl : storeLocals Ls i.val (.long v) = some Ls') (k : End Z p e below s Q kc ks T (mkF m pc' Ls' st)) : End Z p e below s Q kc ks T (mkF m pc Ls (.long v :: st)) := by
  subst hp; obtain ⟨meth, c, locs, X, -, -, -, hx, hb, -⟩ := X; subst hb
  exact k.go fun _ => XS.lstoreN X.here hx (g := mkF m pc Ls (.long v :: st)) rfl hd rfl hl
theorem E_lstore (X : Sd l Z own nm bytes ml ret R p e s m args below T h cells slots) {i : Nat} {v : Int64} {Ls' : Array Slot} (hd : decode bytes pc = .ok (.lstore i, 2)) (hp : pc + 2 = pc') (hl : storeLocals Ls i (.long v) = some Ls') (k : End Z p e below s Q kc ks T (mkF m pc' Ls' st)) : End Z p e below s Q kc ks T (mkF m pc Ls (.long v :: st)) := by
  subst hp; obtain ⟨meth, c, locs, X, -, -, -, hx, hb, -⟩ := X; subst hb
  exact k.go fun _ => XS.lstore X.here hx (g := mkF m pc Ls (.long v :: st)) rfl hd rfl hl
theorem E_aloadN (X : Sd l Z own nm bytes ml ret R p e s m args below T h cells slots) {i : Fin 4} {v : Value} (hd : decode bytes pc = .ok (.aload_n i, 1)) (hp : pc + 1 = pc') (hl : Ls[i.val]? = some (.val v)) (hv : v.isRef = true) (k : End Z p e below s Q kc ks T (mkF m pc' Ls (v :: st))) : End Z p e below s Q kc ks T (mkF m pc Ls st) := by
  subst hp; obtain ⟨meth, c, locs, X, -, -, -, hx, hb, -⟩ := X; subst hb
  exact k.go fun _ => XS.aloadN X.here hx (g := mkF m pc Ls st) rfl hd hl hv
theorem E_aload (X : Sd l Z own nm bytes ml ret R p e s m args below T h cells slots) {i : Nat} {v : Value} (hd : decode bytes pc = .ok (.aload i, 2)) (hp : pc + 2 = pc') (hl : Ls[i]? = some (.val v)) (hv : v.isRef = true) (k : End Z p e below s Q kc ks T (mkF m pc' Ls (v :: st))) : End Z p e below s Q kc ks T (mkF m pc Ls st) := by
  subst hp; obtain ⟨meth, c, locs, X, -, -, -, hx, hb, -⟩ := X; subst hb
  exact k.go fun _ => XS.aload X.here hx (g := mkF m pc Ls st) rfl hd hl hv
theorem E_astoreN (X : Sd l Z own nm bytes ml ret R p e s m args below T h cells slots) {i : Fin 4} {v : Value} {Ls' : Array Slot} (hd : decode bytes pc = .ok (.astore_n i, 1)) (hp : pc + 1 = pc') (hv : v.isRef = true) (hl : storeLocals Ls i.val v = some Ls') (k : End Z p e below s Q kc ks T (mkF m pc' Ls' st)) : End Z p e below s Q kc ks T (mkF m pc Ls (v :: st)) := by
  subst hp; obtain ⟨meth, c, locs, X, -, -, -, hx, hb, -⟩ := X; subst hb
  exact k.go fun _ => XS.astoreN X.here hx (g := mkF m pc Ls (v :: st)) rfl hd rfl hv hl
theorem E_astore (X : Sd l Z own nm bytes ml ret R p e s m args below T h cells slots) {i : Nat} {v : Value} {Ls' : Array Slot} (hd : decode bytes pc = .ok (.astore i, 2)) (hp : pc + 2 = pc') (hv : v.isRef = true) (hl : storeLocals Ls i v = some Ls') (k : End Z p e below s Q kc ks T (mkF m pc' Ls' st)) : End Z p e below s Q kc ks T (mkF m pc Ls (v :: st)) := by
  subst hp; obtain ⟨meth, c, locs, X, -, -, -, hx, hb, -⟩ := X; subst hb
  exact k.go fun _ => XS.astore X.here hx (g := mkF m pc Ls (v :: st)) rfl hd rfl hv hl
theorem E_iconst (X : Sd l Z own nm bytes ml ret R p e s m args below T h cells slots) {i : Int} {v : Int32} (hd : decode bytes pc = .ok (.iconst i, 1)) (hp : pc + 1 = pc') (hv : Int32.ofInt i = v) (k : End Z p e below s Q kc ks T (mkF m pc' Ls (.int v :: st))) : End Z p e below s Q kc ks T (mkF m pc Ls st) := by
  subst hp; obtain ⟨meth, c, locs, X, -, -, -, hx, hb, -⟩ := X; subst hb
  exact k.go fun _ => by subst hv; exact XS.iconst X.here hx (g := mkF m pc Ls st) rfl hd
theorem E_bipush (X : Sd l Z own nm bytes ml ret R p e s m args below T h cells slots) {i : Int} {v : Int32} (hd : decode bytes pc = .ok (.bipush i, 2)) (hp : pc + 2 = pc') (hv : (Int8.ofInt i).toInt32 = v) (k : End Z p e below s Q kc ks T (mkF m pc' Ls (.int v :: st))) : End Z p e below s Q kc ks T (mkF m pc Ls st) := by
  subst hp; obtain ⟨meth, c, locs, X, -, -, -, hx, hb, -⟩ := X; subst hb
  exact k.go fun _ => by subst hv; exact XS.bipush X.here hx (g := mkF m pc Ls st) rfl hd
theorem E_sipush (X : Sd l Z own nm bytes ml ret R p e s m args below T h cells slots) {i : Int} {v : Int32} (hd : decode bytes pc = .ok (.sipush i, 3)) (hp : pc + 3 = pc') (hv : (Int16.ofInt i).toInt32 = v) (k : End Z p e below s Q kc ks T (mkF m pc' Ls (.int v :: st))) : End Z p e below s Q kc ks T (mkF m pc Ls st) := by
  subst hp; obtain ⟨meth, c, locs, X, -, -, -, hx, hb, -⟩ := X; subst hb
  exact k.go fun _ => by subst hv; exact XS.sipush X.here hx (g := mkF m pc Ls st) rfl hd
theorem E_lconst (X : Sd l Z own nm bytes ml ret R p e s m args below T h cells slots) {i : Fin 2} {v : Int64} (hd : decode bytes pc = .ok (.lconst i, 1)) (hp : pc + 1 = pc') (hv : Int64.ofNat i = v) (k : End Z p e below s Q kc ks T (mkF m pc' Ls (.long v :: st))) : End Z p e below s Q kc ks T (mkF m pc Ls st) := by
  subst hp; obtain ⟨meth, c, locs, X, -, -, -, hx, hb, -⟩ := X; subst hb
  exact k.go fun _ => by subst hv; exact XS.lconst X.here hx (g := mkF m pc Ls st) rfl hd
theorem E_null (X : Sd l Z own nm bytes ml ret R p e s m args below T h cells slots)  (hd : decode bytes pc = .ok (.aconst_null, 1)) (hp : pc + 1 = pc') (k : End Z p e below s Q kc ks T (mkF m pc' Ls (.null :: st))) : End Z p e below s Q kc ks T (mkF m pc Ls st) := by
  subst hp; obtain ⟨meth, c, locs, X, -, -, -, hx, hb, -⟩ := X; subst hb
  exact k.go fun _ => XS.aconstNull X.here hx (g := mkF m pc Ls st) rfl hd
theorem E_iadd (X : Sd l Z own nm bytes ml ret R p e s m args below T h cells slots) {x y : Int32} (hd : decode bytes pc = .ok (.iadd, 1)) (hp : pc + 1 = pc') (k : End Z p e below s Q kc ks T (mkF m pc' Ls (.int (x + y) :: st))) : End Z p e below s Q kc ks T (mkF m pc Ls (.int y :: .int x :: st)) := by
  subst hp; obtain ⟨meth, c, locs, X, -, -, -, hx, hb, -⟩ := X; subst hb
  exact k.go fun _ => XS.iadd X.here hx (g := mkF m pc Ls (.int y :: .int x :: st)) rfl hd rfl
theorem E_isub (X : Sd l Z own nm bytes ml ret R p e s m args below T h cells slots) {x y : Int32} (hd : decode bytes pc = .ok (.isub, 1)) (hp : pc + 1 = pc') (k : End Z p e below s Q kc ks T (mkF m pc' Ls (.int (x - y) :: st))) : End Z p e below s Q kc ks T (mkF m pc Ls (.int y :: .int x :: st)) := by
  subst hp; obtain ⟨meth, c, locs, X, -, -, -, hx, hb, -⟩ := X; subst hb
  exact k.go fun _ => XS.isub X.here hx (g := mkF m pc Ls (.int y :: .int x :: st)) rfl hd rfl
theorem E_imul (X : Sd l Z own nm bytes ml ret R p e s m args below T h cells slots) {x y : Int32} (hd : decode bytes pc = .ok (.imul, 1)) (hp : pc + 1 = pc') (k : End Z p e below s Q kc ks T (mkF m pc' Ls (.int (x * y) :: st))) : End Z p e below s Q kc ks T (mkF m pc Ls (.int y :: .int x :: st)) := by
  subst hp; obtain ⟨meth, c, locs, X, -, -, -, hx, hb, -⟩ := X; subst hb
  exact k.go fun _ => XS.imul X.here hx (g := mkF m pc Ls (.int y :: .int x :: st)) rfl hd rfl
theorem E_iand (X : Sd l Z own nm bytes ml ret R p e s m args below T h cells slots) {x y : Int32} (hd : decode bytes pc = .ok (.iand, 1)) (hp : pc + 1 = pc') (k : End Z p e below s Q kc ks T (mkF m pc' Ls (.int (x &&& y) :: st))) : End Z p e below s Q kc ks T (mkF m pc Ls (.int y :: .int x :: st)) := by
  subst hp; obtain ⟨meth, c, locs, X, -, -, -, hx, hb, -⟩ := X; subst hb
  exact k.go fun _ => XS.iand X.here hx (g := mkF m pc Ls (.int y :: .int x :: st)) rfl hd rfl
theorem E_ior (X : Sd l Z own nm bytes ml ret R p e s m args below T h cells slots) {x y : Int32} (hd : decode bytes pc = .ok (.ior, 1)) (hp : pc + 1 = pc') (k : End Z p e below s Q kc ks T (mkF m pc' Ls (.int (x ||| y) :: st))) : End Z p e below s Q kc ks T (mkF m pc Ls (.int y :: .int x :: st)) := by
  subst hp; obtain ⟨meth, c, locs, X, -, -, -, hx, hb, -⟩ := X; subst hb
  exact k.go fun _ => XS.ior X.here hx (g := mkF m pc Ls (.int y :: .int x :: st)) rfl hd rfl
theorem E_ixor (X : Sd l Z own nm bytes ml ret R p e s m args below T h cells slots) {x y : Int32} (hd : decode bytes pc = .ok (.ixor, 1)) (hp : pc + 1 = pc') (k : End Z p e below s Q kc ks T (mkF m pc' Ls (.int (x ^^^ y) :: st))) : End Z p e below s Q kc ks T (mkF m pc Ls (.int y :: .int x :: st)) := by
  subst hp; obtain ⟨meth, c, locs, X, -, -, -, hx, hb, -⟩ := X; subst hb
  exact k.go fun _ => XS.ixor X.here hx (g := mkF m pc Ls (.int y :: .int x :: st)) rfl hd rfl
theorem E_idiv (X : Sd l Z own nm bytes ml ret R p e s m args below T h cells slots) {x y : Int32} (hd : decode bytes pc = .ok (.idiv, 1)) (hp : pc + 1 = pc') (hy : y ≠ 0) (k : End Z p e below s Q kc ks T (mkF m pc' Ls (.int (x / y) :: st))) : End Z p e below s Q kc ks T (mkF m pc Ls (.int y :: .int x :: st)) := by
  subst hp; obtain ⟨meth, c, locs, X, -, -, -, hx, hb, -⟩ := X; subst hb
  exact k.go fun _ => XS.idiv X.here hx (g := mkF m pc Ls (.int y :: .int x :: st)) rfl hd rfl hy
theorem E_ineg (X : Sd l Z own nm bytes ml ret R p e s m args below T h cells slots) {x : Int32} (hd : decode bytes pc = .ok (.ineg, 1)) (hp : pc + 1 = pc') (k : End Z p e below s Q kc ks T (mkF m pc' Ls (.int (-x) :: st))) : End Z p e below s Q kc ks T (mkF m pc Ls (.int x :: st)) := by
  subst hp; obtain ⟨meth, c, locs, X, -, -, -, hx, hb, -⟩ := X; subst hb
  exact k.go fun _ => XS.ineg X.here hx (g := mkF m pc Ls (.int x :: st)) rfl hd rfl
theorem E_ladd (X : Sd l Z own nm bytes ml ret R p e s m args below T h cells slots) {x y : Int64} (hd : decode bytes pc = .ok (.ladd, 1)) (hp : pc + 1 = pc') (k : End Z p e below s Q kc ks T (mkF m pc' Ls (.long (x + y) :: st))) : End Z p e below s Q kc ks T (mkF m pc Ls (.long y :: .long x :: st)) := by
  subst hp; obtain ⟨meth, c, locs, X, -, -, -, hx, hb, -⟩ := X; subst hb
  exact k.go fun _ => XS.ladd X.here hx (g := mkF m pc Ls (.long y :: .long x :: st)) rfl hd rfl
theorem E_lsub (X : Sd l Z own nm bytes ml ret R p e s m args below T h cells slots) {x y : Int64} (hd : decode bytes pc = .ok (.lsub, 1)) (hp : pc + 1 = pc') (k : End Z p e below s Q kc ks T (mkF m pc' Ls (.long (x - y) :: st))) : End Z p e below s Q kc ks T (mkF m pc Ls (.long y :: .long x :: st)) := by
  subst hp; obtain ⟨meth, c, locs, X, -, -, -, hx, hb, -⟩ := X; subst hb
  exact k.go fun _ => XS.lsub X.here hx (g := mkF m pc Ls (.long y :: .long x :: st)) rfl hd rfl
theorem E_lmul (X : Sd l Z own nm bytes ml ret R p e s m args below T h cells slots) {x y : Int64} (hd : decode bytes pc = .ok (.lmul, 1)) (hp : pc + 1 = pc') (k : End Z p e below s Q kc ks T (mkF m pc' Ls (.long (x * y) :: st))) : End Z p e below s Q kc ks T (mkF m pc Ls (.long y :: .long x :: st)) := by
  subst hp; obtain ⟨meth, c, locs, X, -, -, -, hx, hb, -⟩ := X; subst hb
  exact k.go fun _ => XS.lmul X.here hx (g := mkF m pc Ls (.long y :: .long x :: st)) rfl hd rfl
theorem E_land (X : Sd l Z own nm bytes ml ret R p e s m args below T h cells slots) {x y : Int64} (hd : decode bytes pc = .ok (.land, 1)) (hp : pc + 1 = pc') (k : End Z p e below s Q kc ks T (mkF m pc' Ls (.long (x &&& y) :: st))) : End Z p e below s Q kc ks T (mkF m pc Ls (.long y :: .long x :: st)) := by
  subst hp; obtain ⟨meth, c, locs, X, -, -, -, hx, hb, -⟩ := X; subst hb
  exact k.go fun _ => XS.land X.here hx (g := mkF m pc Ls (.long y :: .long x :: st)) rfl hd rfl
theorem E_lor (X : Sd l Z own nm bytes ml ret R p e s m args below T h cells slots) {x y : Int64} (hd : decode bytes pc = .ok (.lor, 1)) (hp : pc + 1 = pc') (k : End Z p e below s Q kc ks T (mkF m pc' Ls (.long (x ||| y) :: st))) : End Z p e below s Q kc ks T (mkF m pc Ls (.long y :: .long x :: st)) := by
  subst hp; obtain ⟨meth, c, locs, X, -, -, -, hx, hb, -⟩ := X; subst hb
  exact k.go fun _ => XS.lor X.here hx (g := mkF m pc Ls (.long y :: .long x :: st)) rfl hd rfl
theorem E_lxor (X : Sd l Z own nm bytes ml ret R p e s m args below T h cells slots) {x y : Int64} (hd : decode bytes pc = .ok (.lxor, 1)) (hp : pc + 1 = pc') (k : End Z p e below s Q kc ks T (mkF m pc' Ls (.long (x ^^^ y) :: st))) : End Z p e below s Q kc ks T (mkF m pc Ls (.long y :: .long x :: st)) := by
  subst hp; obtain ⟨meth, c, locs, X, -, -, -, hx, hb, -⟩ := X; subst hb
  exact k.go fun _ => XS.lxor X.here hx (g := mkF m pc Ls (.long y :: .long x :: st)) rfl hd rfl
theorem E_ldiv (X : Sd l Z own nm bytes ml ret R p e s m args below T h cells slots) {x y : Int64} (hd : decode bytes pc = .ok (.ldiv, 1)) (hp : pc + 1 = pc') (hy : y ≠ 0) (k : End Z p e below s Q kc ks T (mkF m pc' Ls (.long (x / y) :: st))) : End Z p e below s Q kc ks T (mkF m pc Ls (.long y :: .long x :: st)) := by
  subst hp; obtain ⟨meth, c, locs, X, -, -, -, hx, hb, -⟩ := X; subst hb
  exact k.go fun _ => XS.ldiv X.here hx (g := mkF m pc Ls (.long y :: .long x :: st)) rfl hd rfl hy
theorem E_lneg (X : Sd l Z own nm bytes ml ret R p e s m args below T h cells slots) {x : Int64} (hd : decode bytes pc = .ok (.lneg, 1)) (hp : pc + 1 = pc') (k : End Z p e below s Q kc ks T (mkF m pc' Ls (.long (-x) :: st))) : End Z p e below s Q kc ks T (mkF m pc Ls (.long x :: st)) := by
  subst hp; obtain ⟨meth, c, locs, X, -, -, -, hx, hb, -⟩ := X; subst hb
  exact k.go fun _ => XS.lneg X.here hx (g := mkF m pc Ls (.long x :: st)) rfl hd rfl
theorem E_irem (X : Sd l Z own nm bytes ml ret R p e s m args below T h cells slots) {x y : Int32} (hd : decode bytes pc = .ok (.irem, 1)) (hp : pc + 1 = pc') (hy : y ≠ 0) (k : End Z p e below s Q kc ks T (mkF m pc' Ls (.int (x % y) :: st))) : End Z p e below s Q kc ks T (mkF m pc Ls (.int y :: .int x :: st)) := by
  subst hp; obtain ⟨meth, c, locs, X, -, -, -, hx, hb, -⟩ := X; subst hb
  exact k.go fun _ => iremM X hx (g := mkF m pc Ls (.int y :: .int x :: st)) rfl hd rfl hy
theorem E_lrem (X : Sd l Z own nm bytes ml ret R p e s m args below T h cells slots) {x y : Int64} (hd : decode bytes pc = .ok (.lrem, 1)) (hp : pc + 1 = pc') (hy : y ≠ 0) (k : End Z p e below s Q kc ks T (mkF m pc' Ls (.long (x % y) :: st))) : End Z p e below s Q kc ks T (mkF m pc Ls (.long y :: .long x :: st)) := by
  subst hp; obtain ⟨meth, c, locs, X, -, -, -, hx, hb, -⟩ := X; subst hb
  exact k.go fun _ => fun hr => XS.lrem X.here hx (g := mkF m pc Ls (.long y :: .long x :: st)) rfl hd rfl hy (by rw [lrem_mod x y]; exact hr)
theorem E_ishl (X : Sd l Z own nm bytes ml ret R p e s m args below T h cells slots) {x y : Int32} (hd : decode bytes pc = .ok (.ishl, 1)) (hp : pc + 1 = pc') (k : End Z p e below s Q kc ks T (mkF m pc' Ls (.int (x <<< (y &&& 31)) :: st))) : End Z p e below s Q kc ks T (mkF m pc Ls (.int y :: .int x :: st)) := by
  subst hp; obtain ⟨meth, c, locs, X, -, -, -, hx, hb, -⟩ := X; subst hb
  exact k.go fun _ => XS.ishl X.here hx (g := mkF m pc Ls (.int y :: .int x :: st)) rfl hd rfl
theorem E_ishr (X : Sd l Z own nm bytes ml ret R p e s m args below T h cells slots) {x y : Int32} (hd : decode bytes pc = .ok (.ishr, 1)) (hp : pc + 1 = pc') (k : End Z p e below s Q kc ks T (mkF m pc' Ls (.int (x >>> (y &&& 31)) :: st))) : End Z p e below s Q kc ks T (mkF m pc Ls (.int y :: .int x :: st)) := by
  subst hp; obtain ⟨meth, c, locs, X, -, -, -, hx, hb, -⟩ := X; subst hb
  exact k.go fun _ => XS.ishr X.here hx (g := mkF m pc Ls (.int y :: .int x :: st)) rfl hd rfl
theorem E_iushr (X : Sd l Z own nm bytes ml ret R p e s m args below T h cells slots) {x y : Int32} (hd : decode bytes pc = .ok (.iushr, 1)) (hp : pc + 1 = pc') (k : End Z p e below s Q kc ks T (mkF m pc' Ls (.int ((x.toUInt32 >>> (y &&& 31).toUInt32).toInt32) :: st))) : End Z p e below s Q kc ks T (mkF m pc Ls (.int y :: .int x :: st)) := by
  subst hp; obtain ⟨meth, c, locs, X, -, -, -, hx, hb, -⟩ := X; subst hb
  exact k.go fun _ => XS.iushr X.here hx (g := mkF m pc Ls (.int y :: .int x :: st)) rfl hd rfl
theorem E_lshl (X : Sd l Z own nm bytes ml ret R p e s m args below T h cells slots) {x : Int64} {y : Int32} (hd : decode bytes pc = .ok (.lshl, 1)) (hp : pc + 1 = pc') (k : End Z p e below s Q kc ks T (mkF m pc' Ls (.long (x <<< (y &&& 0x3f).toInt64) :: st))) : End Z p e below s Q kc ks T (mkF m pc Ls (.int y :: .long x :: st)) := by
  subst hp; obtain ⟨meth, c, locs, X, -, -, -, hx, hb, -⟩ := X; subst hb
  exact k.go fun _ => XS.lshl X.here hx (g := mkF m pc Ls (.int y :: .long x :: st)) rfl hd rfl
theorem E_lshr (X : Sd l Z own nm bytes ml ret R p e s m args below T h cells slots) {x : Int64} {y : Int32} (hd : decode bytes pc = .ok (.lshr, 1)) (hp : pc + 1 = pc') (k : End Z p e below s Q kc ks T (mkF m pc' Ls (.long (x >>> (y &&& 0x3f).toInt64) :: st))) : End Z p e below s Q kc ks T (mkF m pc Ls (.int y :: .long x :: st)) := by
  subst hp; obtain ⟨meth, c, locs, X, -, -, -, hx, hb, -⟩ := X; subst hb
  exact k.go fun _ => XS.lshr X.here hx (g := mkF m pc Ls (.int y :: .long x :: st)) rfl hd rfl
theorem E_lushr (X : Sd l Z own nm bytes ml ret R p e s m args below T h cells slots) {x : Int64} {y : Int32} (hd : decode bytes pc = .ok (.lushr, 1)) (hp : pc + 1 = pc') (k : End Z p e below s Q kc ks T (mkF m pc' Ls (.long ((x.toUInt64 >>> (y &&& 0x3f).toInt64.toUInt64).toInt64) :: st))) : End Z p e below s Q kc ks T (mkF m pc Ls (.int y :: .long x :: st)) := by
  subst hp; obtain ⟨meth, c, locs, X, -, -, -, hx, hb, -⟩ := X; subst hb
  exact k.go fun _ => XS.lushr X.here hx (g := mkF m pc Ls (.int y :: .long x :: st)) rfl hd rfl
theorem E_i2l (X : Sd l Z own nm bytes ml ret R p e s m args below T h cells slots) {x : Int32} (hd : decode bytes pc = .ok (.i2l, 1)) (hp : pc + 1 = pc') (k : End Z p e below s Q kc ks T (mkF m pc' Ls (.long (x.toInt64) :: st))) : End Z p e below s Q kc ks T (mkF m pc Ls (.int x :: st)) := by
  subst hp; obtain ⟨meth, c, locs, X, -, -, -, hx, hb, -⟩ := X; subst hb
  exact k.go fun _ => XS.i2l X.here hx (g := mkF m pc Ls (.int x :: st)) rfl hd rfl
theorem E_l2i (X : Sd l Z own nm bytes ml ret R p e s m args below T h cells slots) {x : Int64} (hd : decode bytes pc = .ok (.l2i, 1)) (hp : pc + 1 = pc') (k : End Z p e below s Q kc ks T (mkF m pc' Ls (.int (x.toInt32) :: st))) : End Z p e below s Q kc ks T (mkF m pc Ls (.long x :: st)) := by
  subst hp; obtain ⟨meth, c, locs, X, -, -, -, hx, hb, -⟩ := X; subst hb
  exact k.go fun _ => XS.l2i X.here hx (g := mkF m pc Ls (.long x :: st)) rfl hd rfl
theorem E_i2b (X : Sd l Z own nm bytes ml ret R p e s m args below T h cells slots) {x : Int32} (hd : decode bytes pc = .ok (.i2b, 1)) (hp : pc + 1 = pc') (k : End Z p e below s Q kc ks T (mkF m pc' Ls (.int (x.toInt8.toInt32) :: st))) : End Z p e below s Q kc ks T (mkF m pc Ls (.int x :: st)) := by
  subst hp; obtain ⟨meth, c, locs, X, -, -, -, hx, hb, -⟩ := X; subst hb
  exact k.go fun _ => XS.i2b X.here hx (g := mkF m pc Ls (.int x :: st)) rfl hd rfl
theorem E_i2c (X : Sd l Z own nm bytes ml ret R p e s m args below T h cells slots) {x : Int32} (hd : decode bytes pc = .ok (.i2c, 1)) (hp : pc + 1 = pc') (k : End Z p e below s Q kc ks T (mkF m pc' Ls (.int (x.toUInt32.toUInt16.toUInt32.toInt32) :: st))) : End Z p e below s Q kc ks T (mkF m pc Ls (.int x :: st)) := by
  subst hp; obtain ⟨meth, c, locs, X, -, -, -, hx, hb, -⟩ := X; subst hb
  exact k.go fun _ => XS.i2c X.here hx (g := mkF m pc Ls (.int x :: st)) rfl hd rfl
theorem E_i2s (X : Sd l Z own nm bytes ml ret R p e s m args below T h cells slots) {x : Int32} (hd : decode bytes pc = .ok (.i2s, 1)) (hp : pc + 1 = pc') (k : End Z p e below s Q kc ks T (mkF m pc' Ls (.int (x.toInt16.toInt32) :: st))) : End Z p e below s Q kc ks T (mkF m pc Ls (.int x :: st)) := by
  subst hp; obtain ⟨meth, c, locs, X, -, -, -, hx, hb, -⟩ := X; subst hb
  exact k.go fun _ => XS.i2s X.here hx (g := mkF m pc Ls (.int x :: st)) rfl hd rfl
theorem E_lcmp (X : Sd l Z own nm bytes ml ret R p e s m args below T h cells slots) {x y : Int64} (hd : decode bytes pc = .ok (.lcmp, 1)) (hp : pc + 1 = pc') (k : End Z p e below s Q kc ks T (mkF m pc' Ls (.int (lcmpW x y) :: st))) : End Z p e below s Q kc ks T (mkF m pc Ls (.long y :: .long x :: st)) := by
  subst hp; obtain ⟨meth, c, locs, X, -, -, -, hx, hb, -⟩ := X; subst hb
  exact k.go fun _ => XS.lcmp X.here hx (g := mkF m pc Ls (.long y :: .long x :: st)) rfl hd rfl
theorem E_iinc (X : Sd l Z own nm bytes ml ret R p e s m args below T h cells slots) {i : Nat} {cst : Int} {x z : Int32} {Ls' : Array Slot} (hd : decode bytes pc = .ok (.iinc i cst, 3)) (hp : pc + 3 = pc') (hl : Ls[i]? = some (.val (.int x))) (hz : x + Int32.ofInt cst = z) (hl' : storeLocals Ls i (.int z) = some Ls') (k : End Z p e below s Q kc ks T (mkF m pc' Ls' st)) : End Z p e below s Q kc ks T (mkF m pc Ls st) := by
  subst hp; obtain ⟨meth, c, locs, X, -, -, -, hx, hb, -⟩ := X; subst hb
  exact k.go fun _ => by subst hz; exact XS.iinc X.here hx (g := mkF m pc Ls st) rfl hd hl hl'
theorem E_dup (X : Sd l Z own nm bytes ml ret R p e s m args below T h cells slots) {v : Value} (hd : decode bytes pc = .ok (.dup, 1)) (hp : pc + 1 = pc') (hc : v.category = 1) (k : End Z p e below s Q kc ks T (mkF m pc' Ls (v :: v :: st))) : End Z p e below s Q kc ks T (mkF m pc Ls (v :: st)) := by
  subst hp; obtain ⟨meth, c, locs, X, -, -, -, hx, hb, -⟩ := X; subst hb
  exact k.go fun _ => XS.dup X.here hx (g := mkF m pc Ls (v :: st)) rfl hd rfl hc
theorem E_pop (X : Sd l Z own nm bytes ml ret R p e s m args below T h cells slots) {v : Value} (hd : decode bytes pc = .ok (.pop, 1)) (hp : pc + 1 = pc') (hc : v.category = 1) (k : End Z p e below s Q kc ks T (mkF m pc' Ls st)) : End Z p e below s Q kc ks T (mkF m pc Ls (v :: st)) := by
  subst hp; obtain ⟨meth, c, locs, X, -, -, -, hx, hb, -⟩ := X; subst hb
  exact k.go fun _ => XS.pop X.here hx (g := mkF m pc Ls (v :: st)) rfl hd rfl hc
theorem E_dup_x1 (X : Sd l Z own nm bytes ml ret R p e s m args below T h cells slots) {v w : Value} (hd : decode bytes pc = .ok (.dup_x1, 1)) (hp : pc + 1 = pc') (hc : v.category = 1) (hc' : w.category = 1) (k : End Z p e below s Q kc ks T (mkF m pc' Ls (v :: w :: v :: st))) : End Z p e below s Q kc ks T (mkF m pc Ls (v :: w :: st)) := by
  subst hp; obtain ⟨meth, c, locs, X, -, -, -, hx, hb, -⟩ := X; subst hb
  exact k.go fun _ => XS.dupX1 X.here hx (g := mkF m pc Ls (v :: w :: st)) rfl hd rfl hc hc'
theorem E_dup2 (X : Sd l Z own nm bytes ml ret R p e s m args below T h cells slots) {v w : Value} (hd : decode bytes pc = .ok (.dup2, 1)) (hp : pc + 1 = pc') (hc : v.category = 1) (hc' : w.category = 1) (k : End Z p e below s Q kc ks T (mkF m pc' Ls (v :: w :: v :: w :: st))) : End Z p e below s Q kc ks T (mkF m pc Ls (v :: w :: st)) := by
  subst hp; obtain ⟨meth, c, locs, X, -, -, -, hx, hb, -⟩ := X; subst hb
  exact k.go fun _ => XT.dup2 X.here hx (g := mkF m pc Ls (v :: w :: st)) rfl hd rfl hc hc'
theorem E_dup2L (X : Sd l Z own nm bytes ml ret R p e s m args below T h cells slots) {x : Int64} (hd : decode bytes pc = .ok (.dup2, 1)) (hp : pc + 1 = pc') (k : End Z p e below s Q kc ks T (mkF m pc' Ls (.long x :: .long x :: st))) : End Z p e below s Q kc ks T (mkF m pc Ls (.long x :: st)) := by
  subst hp; obtain ⟨meth, c, locs, X, -, -, -, hx, hb, -⟩ := X; subst hb
  exact k.go fun _ => XT.dup2L X.here hx (g := mkF m pc Ls (.long x :: st)) rfl hd rfl
theorem E_goto (X : Sd l Z own nm bytes ml ret R p e s m args below T h cells slots) {o : Int} (hd : decode bytes pc = .ok (.goto o, 3)) (ho : 0 ≤ (pc : Int) + o) (hp : ((pc : Int) + o).toNat = pc') (k : End Z p e below s Q kc ks T (mkF m pc' Ls st)) : End Z p e below s Q kc ks T (mkF m pc Ls st) := by
  obtain ⟨meth, c, locs, X, -, -, -, hx, hb, -⟩ := X; subst hb
  exact k.go fun _ => XS.goto X.here hx (g := mkF m pc Ls st) rfl rfl hd ho hp
theorem E_if (X : Sd l Z own nm bytes ml ret R p e s m args below T h cells slots) {cd : ClassFile.Cond} {o : Int} {x : Int32} {P : Prop} [Decidable P] (hP : ifCond.holds cd x = decide P) (hd : decode bytes pc = .ok (.ifCond cd o, 3)) {pcY pcN : Nat} (ho : 0 ≤ (pc : Int) + o) (hY : ((pc : Int) + o).toNat = pcY) (hN : pc + 3 = pcN)
    (kY : P → End Z p e below s Q kc ks T (mkF m pcY Ls st)) (kN : ¬ P → End Z p e below s Q kc ks T (mkF m pcN Ls st)) : End Z p e below s Q kc ks T (mkF m pc Ls (.int x :: st)) := by
  obtain ⟨meth, c, locs, X, -, -, -, hx, hb, -⟩ := X; subst hb hN
  by_cases q : P
  · exact (kY q).go fun _ => XS.ifYes X.here hx (g := mkF m pc Ls (.int x :: st)) rfl rfl hd rfl (by rw [hP]; simp [q]) ho hY
  · exact (kN q).go fun _ => XS.ifNo X.here hx (g := mkF m pc Ls (.int x :: st)) rfl hd rfl (by rw [hP]; simp [q])
theorem E_icmp (X : Sd l Z own nm bytes ml ret R p e s m args below T h cells slots) {cd : ClassFile.Cond} {o : Int} {x y : Int32} {P : Prop} [Decidable P] (hP : if_icmp.holds cd x y = decide P) (hd : decode bytes pc = .ok (.if_icmp cd o, 3)) {pcY pcN : Nat} (ho : 0 ≤ (pc : Int) + o) (hY : ((pc : Int) + o).toNat = pcY) (hN : pc + 3 = pcN)
    (kY : P → End Z p e below s Q kc ks T (mkF m pcY Ls st)) (kN : ¬ P → End Z p e below s Q kc ks T (mkF m pcN Ls st)) : End Z p e below s Q kc ks T (mkF m pc Ls (.int y :: .int x :: st)) := by
  obtain ⟨meth, c, locs, X, -, -, -, hx, hb, -⟩ := X; subst hb hN
  by_cases q : P
  · exact (kY q).go fun _ => XS.icmpYes X.here hx (g := mkF m pc Ls (.int y :: .int x :: st)) rfl rfl hd rfl (by rw [hP]; simp [q]) ho hY
  · exact (kN q).go fun _ => XS.icmpNo X.here hx (g := mkF m pc Ls (.int y :: .int x :: st)) rfl hd rfl (by rw [hP]; simp [q])
theorem ic_lt (x y : Int32) : if_icmp.holds .lt x y = decide (x < y) := by
  by_cases q : x < y
  · rw [(tlt q).1]; simp [q]
  · rw [(flt q).1]; simp [q]
theorem ic_ge (x y : Int32) : if_icmp.holds .ge x y = decide (¬ x < y) := by
  by_cases q : x < y
  · rw [(tlt q).2.1]; simp [q]
  · rw [(flt q).2.1]; simp [q]
theorem ic_gt (x y : Int32) : if_icmp.holds .gt x y = decide (y < x) := by
  by_cases q : y < x
  · rw [(tlt q).2.2.1]; simp [q]
  · rw [(flt q).2.2.1]; simp [q]
theorem ic_le (x y : Int32) : if_icmp.holds .le x y = decide (¬ y < x) := by
  by_cases q : y < x
  · rw [(tlt q).2.2.2]; simp [q]
  · rw [(flt q).2.2.2]; simp [q]
theorem ic_eq (x y : Int32) : if_icmp.holds .eq x y = decide (x = y) := by
  by_cases q : x = y
  · rw [(teq q).1]; simp [q]
  · rw [(feq q).1]; simp [q]
theorem ic_ne (x y : Int32) : if_icmp.holds .ne x y = decide (¬ x = y) := by
  by_cases q : x = y
  · rw [(teq q).2]; simp [q]
  · rw [(feq q).2]; simp [q]
theorem i0_lt (x : Int32) : ifCond.holds .lt x = decide (x < 0) := (if0 _ _).trans (ic_lt _ _)
theorem i0_ge (x : Int32) : ifCond.holds .ge x = decide (¬ x < 0) := (if0 _ _).trans (ic_ge _ _)
theorem i0_gt (x : Int32) : ifCond.holds .gt x = decide (0 < x) := (if0 _ _).trans (ic_gt _ _)
theorem i0_le (x : Int32) : ifCond.holds .le x = decide (¬ 0 < x) := (if0 _ _).trans (ic_le _ _)
theorem i0_eq (x : Int32) : ifCond.holds .eq x = decide (x = 0) := (if0 _ _).trans (ic_eq _ _)
theorem i0_ne (x : Int32) : ifCond.holds .ne x = decide (¬ x = 0) := (if0 _ _).trans (ic_ne _ _)
theorem il_lt (x y : Int64) : ifCond.holds .lt (lcmpW x y) = decide (x < y) := (i0_lt _).trans (by simp only [lw_lt])
theorem il_ge (x y : Int64) : ifCond.holds .ge (lcmpW x y) = decide (¬ x < y) := (i0_ge _).trans (by simp only [lw_lt])
theorem il_gt (x y : Int64) : ifCond.holds .gt (lcmpW x y) = decide (y < x) := (i0_gt _).trans (by simp only [lw_gt])
theorem il_le (x y : Int64) : ifCond.holds .le (lcmpW x y) = decide (¬ y < x) := (i0_le _).trans (by simp only [lw_gt])
theorem il_eq (x y : Int64) : ifCond.holds .eq (lcmpW x y) = decide (x = y) := (i0_eq _).trans (by simp only [lw_eq])
theorem il_ne (x y : Int64) : ifCond.holds .ne (lcmpW x y) = decide (¬ x = y) := (i0_ne _).trans (by simp only [lw_eq])
theorem E_acmp (X : Sd l Z own nm bytes ml ret R p e s m args below T h cells slots) {cd : ACond} {o : Int} {x y : Value} {pcE pcU : Nat} (hd : decode bytes pc = .ok (.if_acmp cd o, 3)) (hx1 : x.isRef = true) (hy1 : y.isRef = true) (ho : 0 ≤ (pc : Int) + o) (hE : pcE = if acV cd true = true then ((pc : Int) + o).toNat else pc + 3) (hU : pcU = if acV cd false = true then ((pc : Int) + o).toNat else pc + 3)
    (kE : x = y → End Z p e below s Q kc ks T (mkF m pcE Ls st)) (kU : ¬ x = y → End Z p e below s Q kc ks T (mkF m pcU Ls st)) : End Z p e below s Q kc ks T (mkF m pc Ls (y :: x :: st)) := by
  obtain ⟨meth, c, locs, X, -, -, -, hx, hb, -⟩ := X; subst hb
  by_cases q : x = y
  · exact (kE q).go fun _ => Jvm.RoadKit.acmp (g := mkF m pc Ls (y :: x :: st)) X hx rfl hx1 hy1 (same := true) rfl hd rfl (decide_eq_true q) ho hE
  · exact (kU q).go fun _ => Jvm.RoadKit.acmp (g := mkF m pc Ls (y :: x :: st)) X hx rfl hx1 hy1 (same := false) rfl hd rfl (decide_eq_false q) ho hU
theorem E_ifnullY (X : Sd l Z own nm bytes ml ret R p e s m args below T h cells slots) {o : Int} (hd : decode bytes pc = .ok (.ifnull o, 3)) (ho : 0 ≤ (pc : Int) + o) (hp : ((pc : Int) + o).toNat = pc') (k : End Z p e below s Q kc ks T (mkF m pc' Ls st)) : End Z p e below s Q kc ks T (mkF m pc Ls (.null :: st)) := by
  obtain ⟨meth, c, locs, X, -, -, -, hx, hb, -⟩ := X; subst hb
  exact k.go fun _ => XS.ifnullYes X.here hx (g := mkF m pc Ls (.null :: st)) rfl rfl hd rfl ho hp
theorem E_ifnullN (X : Sd l Z own nm bytes ml ret R p e s m args below T h cells slots) {o : Int} {b : Addr} (hd : decode bytes pc = .ok (.ifnull o, 3)) (hp : pc + 3 = pc') (k : End Z p e below s Q kc ks T (mkF m pc' Ls st)) : End Z p e below s Q kc ks T (mkF m pc Ls (.ref b :: st)) := by
  subst hp; obtain ⟨meth, c, locs, X, -, -, -, hx, hb, -⟩ := X; subst hb
  exact k.go fun _ => XS.ifnullNo X.here hx (g := mkF m pc Ls (.ref b :: st)) rfl hd rfl
theorem E_ifnonnullY (X : Sd l Z own nm bytes ml ret R p e s m args below T h cells slots) {o : Int} {b : Addr} (hd : decode bytes pc = .ok (.ifnonnull o, 3)) (ho : 0 ≤ (pc : Int) + o) (hp : ((pc : Int) + o).toNat = pc') (k : End Z p e below s Q kc ks T (mkF m pc' Ls st)) : End Z p e below s Q kc ks T (mkF m pc Ls (.ref b :: st)) := by
  obtain ⟨meth, c, locs, X, -, -, -, hx, hb, -⟩ := X; subst hb
  exact k.go fun _ => XS.ifnonnullYes X.here hx (g := mkF m pc Ls (.ref b :: st)) rfl rfl hd rfl ho hp
theorem E_ifnonnullN (X : Sd l Z own nm bytes ml ret R p e s m args below T h cells slots) {o : Int} (hd : decode bytes pc = .ok (.ifnonnull o, 3)) (hp : pc + 3 = pc') (k : End Z p e below s Q kc ks T (mkF m pc' Ls st)) : End Z p e below s Q kc ks T (mkF m pc Ls (.null :: st)) := by
  subst hp; obtain ⟨meth, c, locs, X, -, -, -, hx, hb, -⟩ := X; subst hb
  exact k.go fun _ => XS.ifnonnullNo X.here hx (g := mkF m pc Ls (.null :: st)) rfl hd rfl
/-! constants -/
theorem E_ldcI (X : Sd l Z own nm bytes ml ret R p e s m args below T h cells slots) {i : Nat} {v : Int32} (w : (Jvm.Cond.constant own i v).before a0 Z = true) (hd : decode bytes pc = .ok (.ldc i, 2)) (hp : pc + 2 = pc') (k : End Z p e below s Q kc ks T (mkF m pc' Ls (.int v :: st))) : End Z p e below s Q kc ks T (mkF m pc Ls st) := by
  subst hp; obtain ⟨meth, c, locs, X, N, e0, E, hx, hb, hml, hown, hnm, hret, hlk, hZ⟩ := X; subst hb
  exact k.go (X.ldcInt hx hown (mvT hZ w) (g := mkF m pc Ls st) rfl hd)
theorem E_ldcJ (X : Sd l Z own nm bytes ml ret R p e s m args below T h cells slots) {i : Nat} {v : Int64} (w : (Jvm.Cond.constantLong own i v).before a0 Z = true) (hd : decode bytes pc = .ok (.ldc2_w i, 3)) (hp : pc + 3 = pc') (k : End Z p e below s Q kc ks T (mkF m pc' Ls (.long v :: st))) : End Z p e below s Q kc ks T (mkF m pc Ls st) := by
  subst hp; obtain ⟨meth, c, locs, X, N, e0, E, hx, hb, hml, hown, hnm, hret, hlk, hZ⟩ := X; subst hb
  exact k.go (X.ldc2Long hx hown (mvT hZ w) (g := mkF m pc Ls st) rfl hd)
/-! fields, statics -/
theorem E_getF (X : Sd l Z own nm bytes ml ret R p e s m args below T h cells slots) {R0 O n d host : String} {i : Nat} {a : Addr} {v : Value} (w : (Jvm.Cond.fieldLink own i R0 n d).before a0 Z = true ∨ (Jvm.Cond.fieldLinkNest own i R0 n d host).before a0 Z = true) (via : Via Z R0 O n d) (F : Fld Z h a O n d v) (hd : decode bytes pc = .ok (.getfield i, 3)) (hp : pc + 3 = pc')
    (k : ∀ T', Sd l Z own nm bytes ml ret R p e s m args below T' h cells slots → End Z p e below s Q kc ks T' (mkF m pc' Ls (v :: st))) : End Z p e below s Q kc ks T (mkF m pc Ls (.ref a :: st)) := by
  subst hp; obtain ⟨meth, c, locs, X, N, e0, E, hx, hb, hml, hown, r⟩ := X; subst hb
  obtain ⟨T', X', e', stp⟩ := getF X hx r.2.2.2 hown w via e0 F (g := mkF m pc Ls (.ref a :: st)) rfl rfl hd
  exact (k T' ⟨meth, c, locs, X', N, e', E, hx, rfl, hml, hown, r⟩).go stp
theorem E_putF (X : Sd l Z own nm bytes ml ret R p e s m args below T h cells slots) {R0 O n d host C : String} {i kk : Nat} {ty : FieldType} {a : Addr} {v old : Value} (w : (Jvm.Cond.fieldLink own i R0 n d).before a0 Z = true ∨ (Jvm.Cond.fieldLinkNest own i R0 n d host).before a0 Z = true) (via : Via Z R0 O n d) (F : Fld Z h a O n d old) (E1 : Exa Z h a C)
    (L : (Jvm.Cond.lays C O n d).before a0 Z = true ∨ ((Jvm.Cond.laysFinal C O n d).before a0 Z = true ∧ own = O ∧ nm = "<init>")) (wi : (Jvm.Cond.instantiable C kk).before a0 Z = true) (hty : parseFieldDescriptor d = some ty) (hn : narrow ty v = v) (hf : fits ty v = true) (ha : Z.heap.size ≤ a) (hd : decode bytes pc = .ok (.putfield i, 3)) (hp : pc + 3 = pc')
    (k : ∀ T' h', Sd l Z own nm bytes ml ret R p e s m args below T' h' cells slots → Wr h h' a (slotOf Z O n d) v → End Z p e below s Q kc ks T' (mkF m pc' Ls st)) : End Z p e below s Q kc ks T (mkF m pc Ls (v :: .ref a :: st)) := by
  subst hp; obtain ⟨meth, c, locs, X, N, e0, E, hx, hb, hml, hown, hnm, r⟩ := X; subst hb
  obtain ⟨T', h', X', e', W, stp⟩ := putF X hx r.2.2 hown w via e0 F E1 (L.imp id fun q => ⟨q.1, q.2.1, hnm.trans q.2.2⟩) wi hty hn hf (g := mkF m pc Ls (v :: .ref a :: st)) rfl rfl hd
  exact (k T' h' ⟨meth, c, _, X', Fr.snoc X' N ha, e', E.wr W ha, hx, rfl, hml, hown, hnm, r⟩ W).go stp
theorem E_getS (X : Sd l Z own nm bytes ml ret R p e s m args below T h cells slots) {R0 O n d host : String} {i : Nat} {v : Value} (w : (Jvm.Cond.fieldLink own i R0 n d).before a0 Z = true ∨ (Jvm.Cond.fieldLinkNest own i R0 n d host).before a0 Z = true) (via : Via Z R0 O n d) (F : Sta Z Z.heap O n d v) (hd : decode bytes pc = .ok (.getstatic i, 3)) (hp : pc + 3 = pc')
    (k : ∀ T', Sd l Z own nm bytes ml ret R p e s m args below T' h cells slots → End Z p e below s Q kc ks T' (mkF m pc' Ls (v :: st))) : End Z p e below s Q kc ks T (mkF m pc Ls st) := by
  subst hp; obtain ⟨meth, c, locs, X, N, e0, E, hx, hb, hml, hown, r⟩ := X; subst hb
  obtain ⟨T', X', e', stp⟩ := getS2 X hx r.2.2.2 hown w via e0 (F.ext E) (g := mkF m pc Ls st) rfl hd
  exact (k T' ⟨meth, c, locs, X', N, e', E, hx, rfl, hml, hown, r⟩).go stp
/-! new objects -/
theorem E_new (X : Sd l Z own nm bytes ml ret R p e s m args below T h cells slots) {C : String} {i n : Nat} {cells' slots' : Nat} (w : (Jvm.Cond.classLink own i C).before a0 Z = true) (wi : (Jvm.Cond.instantiable C n).before a0 Z = true) (wz : (Jvm.Cond.initialized C).before a0 Z = true) (hd : decode bytes pc = .ok (.new i, 3)) (hp : pc + 3 = pc') (hcc : cells + 1 = cells') (hss : slots + n = slots') (hc : cells' ≤ R.cells) (hl : slots' ≤ R.slots)
    (k : ∀ T' h' a, a = h.size → Sd l Z own nm bytes ml ret R p e s m args below T' h' cells' slots' → Ext h h' → Exa Z h' a C → (∀ {O n d : String} {ty : FieldType}, Laid Z a0 C O n d → parseFieldDescriptor d = some ty → Fld Z h' a O n d (defaultValue ty)) → End Z p e below s Q kc ks T' (mkF m pc' Ls (.ref a :: st))) : End Z p e below s Q kc ks T (mkF m pc Ls st) := by
  subst hp hcc hss; obtain ⟨meth, c, locs, X, N, e0, E, hx, hb, hml, hown, r⟩ := X; subst hb
  obtain ⟨T', h', X', e', E2, A2, D2, -, stp⟩ := newO X hx r.2.2.2 hown w wi wz e0 (g := mkF m pc Ls st) rfl hd hc hl
  exact (k T' h' h.size rfl ⟨meth, c, locs, X', N, e', E.trans E2, hx, rfl, hml, hown, r⟩ E2 A2 (fun q1 q2 => D2 q1 q2)).go stp
theorem E_initO (X : Sd l Z own nm bytes ml ret R p e s m args below T h cells slots) {i : Nat} {a : Addr} (w1 : (Jvm.Cond.methodLink own i Lib.objectInit).before a0 Z = true) (w2 : (Jvm.Cond.instanceMethod Lib.objectInit).before a0 Z = true) (w3 : (Jvm.Cond.code Lib.objectInit ⟨#[0xb1]⟩ 1 none).before a0 Z = true) (hsz : Ls.size = ml) (hd : decode bytes pc = .ok (.invokespecial i, 3)) (hp : pc + 3 = pc') (hf : 1 ≤ R.frames) {W : Nat} (hW : (st.map fun v => v.category).sum ≤ W) (hl : W + 12 ≤ R.locals)
    (k : ∀ T', Sd l Z own nm bytes ml ret R p e s m args below T' h cells slots → End Z p e below s Q kc ks T' (mkF m pc' Ls st)) : End Z p e below s Q kc ks T (mkF m pc Ls (.ref a :: st)) := by
  subst hp; obtain ⟨meth, c, locs, X, N, e0, E, hx, hb, hml, hown, r⟩ := X; subst hb
  obtain ⟨T', X', e', stp⟩ := initO X hx r.2.2.2 hown w1 w2 w3 e0 (g := mkF m pc Ls (.ref a :: st)) rfl (hsz.trans hml.symm) rfl hd hf (W := W) (by show 2 * 0 + _ ≤ _; omega) hl
  exact (k T' ⟨meth, c, locs, X', N, e', E, hx, rfl, hml, hown, r⟩).go stp
/-! calls by a contract -/
theorem E_callS (X : Sd l Z own nm bytes ml ret R p e s m args below T h cells slots) {i : Nat} {y : MethodName} {bytes' : ByteArray} {ml' : Nat} {ret' : Option FieldType} {rm : Room} {Qc : Option Value → Heap → Prop} {as : Array Value} {ps : List FieldType} {rr : Option FieldType} {argsL rest : List Value} {W : Nat} {cells' slots' : Nat} (C : Con l Z y bytes' ml' ret' rm as h Qc)
    (w1 : (Jvm.Cond.methodLink own i y).before a0 Z = true) (w2 : (Jvm.Cond.static y).before a0 Z = true) (w3 : (Jvm.Cond.initialized y.cls).before a0 Z = true) (w4 : (Jvm.Cond.code y bytes' ml' ret').before a0 Z = true) (hy : y.cls ≠ "java/lang/invoke/MethodHandle" ∧ y.cls ≠ "java/lang/invoke/VarHandle") (hsz : Ls.size = ml) (has : argsL.toArray = as) (hpd : parseMethodDescriptor y.desc = some ⟨ps, rr⟩) (hlen : argsL.length = ps.length) (hst : st = argsL.reverse ++ rest)
    (hd : decode bytes pc = .ok (.invokestatic i, 3)) (hp : pc + 3 = pc') (hW : (rest.map fun v => v.category).sum ≤ W) (hf : rm.frames + 1 ≤ R.frames) (hl : W + (ml' + 11) + rm.locals ≤ R.locals) (hcc : cells + rm.cells = cells') (hss : slots + rm.slots = slots') (hc : cells' ≤ R.cells) (hs : slots' ≤ R.slots)
    (k : ∀ v T' h', Sd l Z own nm bytes ml ret R p e s m args below T' h' cells' slots' → Qc v h' → End Z p e below s Q kc ks T' (mkF m pc' Ls (v.toList ++ rest))) : End Z p e below s Q kc ks T (mkF m pc Ls st) := by
  subst hp hst hcc hss; obtain ⟨meth, c, locs, X, N, e0, E, hx, hb, hml, hown, r⟩ := X; subst hb
  obtain ⟨v, _, ⟨T', L', k', n'⟩, -, X', ⟨Lc, hQ, l1, l2, l3⟩, stp⟩ := Jvm.LawKit.callS X hx (y := y) hown (mvT r.2.2.2 w1) (mvT r.2.2.2 w2) (mvT r.2.2.2 w3) (mvT r.2.2.2 w4) hy (backOf (W := W) (Q := fun v h L => Fr Z.heap.size L ∧ Ext Z.heap h ∧ Qc v h) (C []) r.2.2.2 w4 w3 hf hl) (g := mkF m pc Ls (argsL.reverse ++ rest)) rfl (hsz.trans hml.symm) (argsL := argsL) (rest := rest) (lenOf hpd hlen) rfl (by show 2 * 0 + _ ≤ _; omega) hd (fun _ _ => ⟨has, e0, hc, hs⟩)
  dsimp only [Pt.U, Pt.locs, Pt.cells, Pt.slots] at X' l1 l2 l3 stp hQ
  subst l1 l2 l3
  exact (k v T' T'.heap ⟨meth, c, _, X', Fr.app N hQ.1, rfl, hQ.2.1, hx, rfl, hml, hown, r⟩ hQ.2.2).go stp
theorem E_callI (X : Sd l Z own nm bytes ml ret R p e s m args below T h cells slots) {i : Nat} {y : MethodName} {bytes' : ByteArray} {ml' : Nat} {rm : Room} {Qc : Option Value → Heap → Prop} {a : Addr} {as : Array Value} {ps : List FieldType} {rr : Option FieldType} {argsL rest : List Value} {W : Nat} {cells' slots' : Nat} (C : Con l Z y bytes' ml' none rm as h Qc)
    (w1 : (Jvm.Cond.methodLink own i y).before a0 Z = true) (w2 : (Jvm.Cond.instanceMethod y).before a0 Z = true) (w3 : (Jvm.Cond.initialized y.cls).before a0 Z = true) (w4 : (Jvm.Cond.code y bytes' ml' none).before a0 Z = true) (hy1 : y.name = "<init>") (hy : y.cls ≠ "java/lang/invoke/MethodHandle" ∧ y.cls ≠ "java/lang/invoke/VarHandle") (hsz : Ls.size = ml) (has : (.ref a :: argsL).toArray = as) (hpd : parseMethodDescriptor y.desc = some ⟨ps, rr⟩) (hlen : argsL.length = ps.length) (hst : st = argsL.reverse ++ .ref a :: rest)
    (hd : decode bytes pc = .ok (.invokespecial i, 3)) (hp : pc + 3 = pc') (hW : (rest.map fun v => v.category).sum ≤ W) (hf : rm.frames + 1 ≤ R.frames) (hl : W + (ml' + 11) + rm.locals ≤ R.locals) (hcc : cells + rm.cells = cells') (hss : slots + rm.slots = slots') (hc : cells' ≤ R.cells) (hs : slots' ≤ R.slots)
    (k : ∀ v T' h', Sd l Z own nm bytes ml ret R p e s m args below T' h' cells' slots' → Qc v h' → End Z p e below s Q kc ks T' (mkF m pc' Ls (v.toList ++ rest))) : End Z p e below s Q kc ks T (mkF m pc Ls st) := by
  subst hp hst hcc hss; obtain ⟨meth, c, locs, X, N, e0, E, hx, hb, hml, hown, r⟩ := X; subst hb
  obtain ⟨v, _, ⟨T', L', k', n'⟩, -, X', ⟨Lc, hQ, l1, l2, l3⟩, stp⟩ := X.specialBack hx (y := y) hy1 hown (mvT r.2.2.2 w1) (mvT r.2.2.2 w2) (mvT r.2.2.2 w4) hy (backOf (W := W) (Q := fun v h L => Fr Z.heap.size L ∧ Ext Z.heap h ∧ Qc v h) (C []) r.2.2.2 w4 w3 hf hl) (g := mkF m pc Ls (argsL.reverse ++ .ref a :: rest)) rfl (hsz.trans hml.symm) (Steps.refl _) (a := a) (argsL := argsL) (rest := rest) (lenOf hpd hlen) rfl (by show 2 * 0 + _ ≤ _; omega) hd (fun _ _ => ⟨has, e0, hc, hs⟩)
  dsimp only [Pt.U, Pt.locs, Pt.cells, Pt.slots] at X' l1 l2 l3 stp hQ
  subst l1 l2 l3
  exact (k v T' T'.heap ⟨meth, c, _, X', Fr.app N hQ.1, rfl, hQ.2.1, hx, rfl, hml, hown, r⟩ hQ.2.2).go fun _ q => stp.trans q
theorem E_callV (X : Sd l Z own nm bytes ml ret R p e s m args below T h cells slots) {i : Nat} {y : MethodName} {K : String} {bytes' : ByteArray} {ml' : Nat} {ret' : Option FieldType} {rm : Room} {Qc : Option Value → Heap → Prop} {a : Addr} {as : Array Value} {ps : List FieldType} {rr : Option FieldType} {argsL rest : List Value} {W : Nat} {cells' slots' : Nat} (C : Con l Z y bytes' ml' ret' rm as h Qc) (E1 : Exa Z h a K)
    (w1 : (Jvm.Cond.methodLink own i y).before a0 Z = true) (wd : (Jvm.Cond.declares y).before a0 Z = true) (ws : (Jvm.Cond.selects K y y).before a0 Z = true) (w2 : (Jvm.Cond.instanceMethod y).before a0 Z = true) (w3 : (Jvm.Cond.initialized y.cls).before a0 Z = true) (w4 : (Jvm.Cond.code y bytes' ml' ret').before a0 Z = true) (hK : K = y.cls) (hy : y.cls ≠ "java/lang/invoke/MethodHandle" ∧ y.cls ≠ "java/lang/invoke/VarHandle") (hsz : Ls.size = ml) (has : (.ref a :: argsL).toArray = as) (hpd : parseMethodDescriptor y.desc = some ⟨ps, rr⟩) (hlen : argsL.length = ps.length) (hst : st = argsL.reverse ++ .ref a :: rest)
    (hd : decode bytes pc = .ok (.invokevirtual i, 3)) (hp : pc + 3 = pc') (hW : (rest.map fun v => v.category).sum ≤ W) (hf : rm.frames + 1 ≤ R.frames) (hl : W + (ml' + 11) + rm.locals ≤ R.locals) (hcc : cells + rm.cells = cells') (hss : slots + rm.slots = slots') (hc : cells' ≤ R.cells) (hs : slots' ≤ R.slots)
    (k : ∀ v T' h', Sd l Z own nm bytes ml ret R p e s m args below T' h' cells' slots' → Qc v h' → End Z p e below s Q kc ks T' (mkF m pc' Ls (v.toList ++ rest))) : End Z p e below s Q kc ks T (mkF m pc Ls st) := by
  subst hp hst hcc hss; obtain ⟨meth, c, locs, X, N, e0, E, hx, hb, hml, hown, r⟩ := X; subst hb
  subst hK
  obtain ⟨cq, kq, qa, qb, qc⟩ := isOf r.2.2.2 e0 E1
  obtain ⟨v, _, ⟨T', L', k', n'⟩, -, X', ⟨Lc, hQ, l1, l2, l3⟩, stp⟩ := X.virtualBack hx (y := y) (z := y) hown (mvT r.2.2.2 w1) (mvT r.2.2.2 wd) (notFace_of_selects (args := #[]) (mvT r.2.2.2 ws)) (mvT r.2.2.2 ws) (mvT r.2.2.2 w2) hy (backOf (W := W) (Q := fun v h L => Fr Z.heap.size L ∧ Ext Z.heap h ∧ Qc v h) (C []) r.2.2.2 w4 w3 hf hl) qa qc (g := mkF m pc Ls (argsL.reverse ++ .ref a :: rest)) rfl (hsz.trans hml.symm) (Steps.refl _) (argsL := argsL) (rest := rest) (lenOf hpd hlen) rfl (by show 2 * 0 + _ ≤ _; omega) hd (fun _ _ => ⟨has, e0, hc, hs⟩)
  dsimp only [Pt.U, Pt.locs, Pt.cells, Pt.slots] at X' l1 l2 l3 stp hQ
  subst l1 l2 l3
  exact (k v T' T'.heap ⟨meth, c, _, X', Fr.app N hQ.1, rfl, hQ.2.1, hx, rfl, hml, hown, r⟩ hQ.2.2).go fun _ q => stp.trans q
/-! arrays by their list of values -/
def Ar (Z : State) (h : Heap) (a : Addr) (ty : FieldType) (vs : List Value) : Prop := ∃ c : Cell, Arr Z h a c ty ∧ c.slots = vs.toArray
section ArFacts
variable {h' : Heap} {a b : Addr} {ty : FieldType} {vs : List Value} {ws : List Addr} {v : Value} {sl : Nat}
theorem Ar.lt (F : Ar Z h a ty vs) : a < h.size := by obtain ⟨c, A, -⟩ := F; exact A.lt
theorem Ar.ext (F : Ar Z h a ty vs) (E : Ext h h') : Ar Z h' a ty vs := by obtain ⟨c, A, r⟩ := F; exact ⟨c, A.ext E, r⟩
theorem Ar.other (F : Ar Z h b ty vs) (W : Wr h h' a sl v) (q : b ≠ a) : Ar Z h' b ty vs := by obtain ⟨c, A, r⟩ := F; exact ⟨c, A.other W q, r⟩
theorem Ar.keep (F : Ar Z h a ty vs) (K : Keep h h' ws) (q : a ∉ ws) : Ar Z h' a ty vs := by obtain ⟨c, A, r⟩ := F; exact ⟨c, ⟨K.2.1 a c A.1 q, A.2⟩, r⟩
theorem Ar.set (F : Ar Z h a ty vs) (W : Wr h h' a sl v) : Ar Z h' a ty (vs.set sl v) := by
  obtain ⟨c, A, r⟩ := F
  exact ⟨_, A.same W, by simp [Cell.setSlot, r]⟩
theorem Ar.ne_exa {C : String} {k : Nat} (F : Ar Z h b ty vs) (E : Exa Z h a C) (wi : (Jvm.Cond.instantiable C k).before a0 Z = true) : a ≠ b := by obtain ⟨c, A, r⟩ := F; exact ne_arr E wi A
theorem Ar.ne {vs' : List Value} (F : Ar Z h a ty vs) (G : Ar Z h b ty vs') (q : vs ≠ vs') : a ≠ b := fun e => by
  subst e; obtain ⟨c, A, r⟩ := F; obtain ⟨c', A', r'⟩ := G
  cases A.1.symm.trans A'.1
  exact q (by simpa using congrArg Array.toList (r.symm.trans r'))
theorem Ar.at {c : Cell} {j : Int32} (r : c.slots = vs.toArray) (hj : ¬ j < 0) (hv : vs[j.toNatClampNeg]? = some v) : ¬ (j < 0 ∨ c.slots.size ≤ j.toNatClampNeg) ∧ c.slots[j.toNatClampNeg]? = some v := by
  refine ⟨fun q => ?_, by rw [r]; simpa using hv⟩
  rcases q with q | q
  · exact hj q
  · rw [r] at q
    have := (List.getElem?_eq_some_iff.mp hv).1
    simp at q; omega
theorem Ar.inb {c : Cell} {j : Int32} (r : c.slots = vs.toArray) (hj : ¬ j < 0) (hl : j.toNatClampNeg < vs.length) : ¬ (j < 0 ∨ c.slots.size ≤ j.toNatClampNeg) := (Ar.at r hj (List.getElem?_eq_getElem hl)).1
end ArFacts
theorem E_newA (X : Sd l Z own nm bytes ml ret R p e s m args below T h cells slots) {aty : ArrayType} {n : Int32} {cap : Nat} {vs : List Value} {cells' slots' : Nat} (w : (Jvm.Cond.arrayClass (newarray.typeOf aty)).before a0 Z = true) (hd : decode bytes pc = .ok (.newarray aty, 2)) (hp : pc + 2 = pc') (hn : ¬ n < 0) (hcap : n.toNatClampNeg ≤ cap) (hb8 : cap * 8 ≤ 536870912) (hvs : List.replicate n.toNatClampNeg (defaultValue (newarray.typeOf aty)) = vs) (hcc : cells + 1 = cells') (hss : slots + cap = slots') (hc : cells' ≤ R.cells) (hl : slots' ≤ R.slots)
    (k : ∀ T' h' a, a = h.size → Sd l Z own nm bytes ml ret R p e s m args below T' h' cells' slots' → Ext h h' → Ar Z h' a (newarray.typeOf aty) vs → End Z p e below s Q kc ks T' (mkF m pc' Ls (.ref a :: st))) : End Z p e below s Q kc ks T (mkF m pc Ls (.int n :: st)) := by
  subst hp hcc hss hvs; obtain ⟨meth, c, locs, X, N, e0, E, hx, hb, hml, hown, r⟩ := X; subst hb
  obtain ⟨T', h', cA, X', e', E2, A2, stp⟩ := newP X hx r.2.2.2 w e0 (g := mkF m pc Ls (.int n :: st)) rfl hd rfl hn hcap hb8 hc hl
  exact (k T' h' h.size rfl ⟨meth, c, locs, X', N, e', E.trans E2, hx, rfl, hml, hown, r⟩ E2 ⟨_, A2, by simp [newA]⟩).go stp
theorem E_newAE (X : Sd l Z own nm bytes ml ret R p e s m args below T h cells slots) {aty : ArrayType} {n : Int32} {cap : Nat} {vs : List Value} {cells' slots' : Nat} {ad : String} (had : "[" ++ (newarray.typeOf aty).toString = ad) (w : (Jvm.Cond.arrayClass (newarray.typeOf aty)).before a0 Z = true) (hd : decode bytes pc = .ok (.newarray aty, 2)) (hp : pc + 2 = pc') (hn : ¬ n < 0) (hcap : n.toNatClampNeg ≤ cap) (hb8 : cap * 8 ≤ 536870912) (hvs : List.replicate n.toNatClampNeg (defaultValue (newarray.typeOf aty)) = vs) (hcc : cells + 1 = cells') (hss : slots + cap = slots') (hc : cells' ≤ R.cells) (hl : slots' ≤ R.slots)
    (k : ∀ T' h' a, a = h.size → Sd l Z own nm bytes ml ret R p e s m args below T' h' cells' slots' → Ext h h' → Ar Z h' a (newarray.typeOf aty) vs → Exa Z h' a ad → End Z p e below s Q kc ks T' (mkF m pc' Ls (.ref a :: st))) : End Z p e below s Q kc ks T (mkF m pc Ls (.int n :: st)) := by
  subst hp hcc hss hvs; obtain ⟨meth, c, locs, X, N, e0, E, hx, hb, hml, hown, r⟩ := X; subst hb
  obtain ⟨T', h', cA, X', e', E2, A2, A3, stp⟩ := newPE X hx r.2.2.2 w e0 (g := mkF m pc Ls (.int n :: st)) rfl hd rfl hn hcap hb8 hc hl had
  exact (k T' h' h.size rfl ⟨meth, c, locs, X', N, e', E.trans E2, hx, rfl, hml, hown, r⟩ E2 ⟨_, A2, by simp [newA]⟩ A3).go stp
theorem E_alen (X : Sd l Z own nm bytes ml ret R p e s m args below T h cells slots) {a : Addr} {ty : FieldType} {vs : List Value} {n : Int32} (F : Ar Z h a ty vs) (hn : vs.length.toInt32 = n) (hd : decode bytes pc = .ok (.arraylength, 1)) (hp : pc + 1 = pc') (k : End Z p e below s Q kc ks T (mkF m pc' Ls (.int n :: st))) : End Z p e below s Q kc ks T (mkF m pc Ls (.ref a :: st)) := by
  subst hp hn; obtain ⟨meth, c, locs, X, N, e0, E, hx, hb, hml, hown, r⟩ := X; subst hb
  obtain ⟨cl, A, q⟩ := F
  have q2 : cl.slots.size = vs.length := by rw [q]; simp
  rw [← q2] at k
  exact k.go fun t => X.arraylength hx (by rw [e0]; exact A.1) (State.isArrayOf_alike r.2.2.2.alike A.2.1) (g := mkF m pc Ls (.ref a :: st)) rfl rfl hd t
theorem E_iaload (X : Sd l Z own nm bytes ml ret R p e s m args below T h cells slots) {a : Addr} {vs : List Value} {j : Int32} {v : Value} (F : Ar Z h a .int vs) (hj : ¬ j < 0) (hv : vs[j.toNatClampNeg]? = some v) (hd : decode bytes pc = .ok (.iaload, 1)) (hp : pc + 1 = pc') (k : End Z p e below s Q kc ks T (mkF m pc' Ls (v :: st))) : End Z p e below s Q kc ks T (mkF m pc Ls (.int j :: .ref a :: st)) := by
  subst hp; obtain ⟨meth, c, locs, X, N, e0, E, hx, hb, hml, hown, r⟩ := X; subst hb
  obtain ⟨cl, A, q⟩ := F
  obtain ⟨i1, i2⟩ := Ar.at q hj hv
  exact k.go fun t => X.iaload hx (by rw [e0]; exact A.1) (State.isArrayOf_alike r.2.2.2.alike A.2.1) A.2.2 i1 i2 (g := mkF m pc Ls (.int j :: .ref a :: st)) rfl rfl hd t
theorem E_laload (X : Sd l Z own nm bytes ml ret R p e s m args below T h cells slots) {a : Addr} {vs : List Value} {j : Int32} {v : Value} (F : Ar Z h a .long vs) (hj : ¬ j < 0) (hv : vs[j.toNatClampNeg]? = some v) (hd : decode bytes pc = .ok (.laload, 1)) (hp : pc + 1 = pc') (k : End Z p e below s Q kc ks T (mkF m pc' Ls (v :: st))) : End Z p e below s Q kc ks T (mkF m pc Ls (.int j :: .ref a :: st)) := by
  subst hp; obtain ⟨meth, c, locs, X, N, e0, E, hx, hb, hml, hown, r⟩ := X; subst hb
  obtain ⟨cl, A, q⟩ := F
  obtain ⟨i1, i2⟩ := Ar.at q hj hv
  exact k.go fun t => X.laload hx (by rw [e0]; exact A.1) (State.isArrayOf_alike r.2.2.2.alike A.2.1) A.2.2 i1 i2 (g := mkF m pc Ls (.int j :: .ref a :: st)) rfl rfl hd t
theorem E_caload (X : Sd l Z own nm bytes ml ret R p e s m args below T h cells slots) {a : Addr} {vs : List Value} {j : Int32} {v : Value} (F : Ar Z h a .char vs) (hj : ¬ j < 0) (hv : vs[j.toNatClampNeg]? = some v) (hd : decode bytes pc = .ok (.caload, 1)) (hp : pc + 1 = pc') (k : End Z p e below s Q kc ks T (mkF m pc' Ls (v :: st))) : End Z p e below s Q kc ks T (mkF m pc Ls (.int j :: .ref a :: st)) := by
  subst hp; obtain ⟨meth, c, locs, X, N, e0, E, hx, hb, hml, hown, r⟩ := X; subst hb
  obtain ⟨cl, A, q⟩ := F
  obtain ⟨i1, i2⟩ := Ar.at q hj hv
  exact k.go fun t => X.caload hx (by rw [e0]; exact A.1) (State.isArrayOf_alike r.2.2.2.alike A.2.1) A.2.2 i1 i2 (g := mkF m pc Ls (.int j :: .ref a :: st)) rfl rfl hd t
theorem E_baload (X : Sd l Z own nm bytes ml ret R p e s m args below T h cells slots) {a : Addr} {vs : List Value} {j : Int32} {v : Value} (F : Ar Z h a .byte vs) (hj : ¬ j < 0) (hv : vs[j.toNatClampNeg]? = some v) (hd : decode bytes pc = .ok (.baload, 1)) (hp : pc + 1 = pc') (k : End Z p e below s Q kc ks T (mkF m pc' Ls (v :: st))) : End Z p e below s Q kc ks T (mkF m pc Ls (.int j :: .ref a :: st)) := by
  subst hp; obtain ⟨meth, c, locs, X, N, e0, E, hx, hb, hml, hown, r⟩ := X; subst hb
  obtain ⟨cl, A, q⟩ := F
  obtain ⟨i1, i2⟩ := Ar.at q hj hv
  exact k.go fun t => X.baloadBytes hx (by rw [e0]; exact A.1) (State.isArrayOf_alike r.2.2.2.alike A.2.1) A.2.2 i1 i2 (g := mkF m pc Ls (.int j :: .ref a :: st)) rfl rfl hd t
theorem E_baload_Z (X : Sd l Z own nm bytes ml ret R p e s m args below T h cells slots) {a : Addr} {vs : List Value} {j : Int32} {v : Value} (F : Ar Z h a .boolean vs) (hj : ¬ j < 0) (hv : vs[j.toNatClampNeg]? = some v) (hd : decode bytes pc = .ok (.baload, 1)) (hp : pc + 1 = pc') (k : End Z p e below s Q kc ks T (mkF m pc' Ls (v :: st))) : End Z p e below s Q kc ks T (mkF m pc Ls (.int j :: .ref a :: st)) := by
  subst hp; obtain ⟨meth, c, locs, X, N, e0, E, hx, hb, hml, hown, r⟩ := X; subst hb
  obtain ⟨cl, A, q⟩ := F
  obtain ⟨i1, i2⟩ := Ar.at q hj hv
  exact k.go fun t => X.baloadBooleans hx (by rw [e0]; exact A.1) (State.isArrayOf_alike r.2.2.2.alike A.2.1) A.2.2 i1 i2 (g := mkF m pc Ls (.int j :: .ref a :: st)) rfl rfl hd t
theorem E_aaload (X : Sd l Z own nm bytes ml ret R p e s m args below T h cells slots) {a : Addr} {vs : List Value} {j : Int32} {v : Value} {ty : FieldType} (F : Ar Z h a ty vs) (hty : ty.isReference = true) (hj : ¬ j < 0) (hv : vs[j.toNatClampNeg]? = some v) (hd : decode bytes pc = .ok (.aaload, 1)) (hp : pc + 1 = pc') (k : End Z p e below s Q kc ks T (mkF m pc' Ls (v :: st))) : End Z p e below s Q kc ks T (mkF m pc Ls (.int j :: .ref a :: st)) := by
  subst hp; obtain ⟨meth, c, locs, X, N, e0, E, hx, hb, hml, hown, r⟩ := X; subst hb
  obtain ⟨cl, A, q⟩ := F
  obtain ⟨i1, i2⟩ := Ar.at q hj hv
  exact k.go fun t => X.aaload hx (by rw [e0]; exact A.1) (State.isArrayOf_alike r.2.2.2.alike A.2.1) hty A.2.2 i1 i2 (g := mkF m pc Ls (.int j :: .ref a :: st)) rfl rfl hd t
theorem E_iastore (X : Sd l Z own nm bytes ml ret R p e s m args below T h cells slots) {a : Addr} {vs vs' : List Value} {j : Int32} {x : Int32} (F : Ar Z h a .int vs) (hj : ¬ j < 0) (hl : j.toNatClampNeg < vs.length) (hvs : vs.set j.toNatClampNeg (.int x) = vs') (ha : Z.heap.size ≤ a) (hd : decode bytes pc = .ok (.iastore, 1)) (hp : pc + 1 = pc')
    (k : ∀ T' h', Sd l Z own nm bytes ml ret R p e s m args below T' h' cells slots → Wr h h' a j.toNatClampNeg (.int x) → Ar Z h' a .int vs' → End Z p e below s Q kc ks T' (mkF m pc' Ls st)) : End Z p e below s Q kc ks T (mkF m pc Ls (.int x :: .int j :: .ref a :: st)) := by
  subst hp hvs; obtain ⟨meth, c, locs, X, N, e0, E, hx, hb, hml, hown, r⟩ := X; subst hb
  have F0 := F
  obtain ⟨cl, A, q⟩ := F
  obtain ⟨T', h', X', e', W, stp⟩ := stI X hx r.2.2.2 e0 A (Ar.inb q hj hl) (g := mkF m pc Ls (.int x :: .int j :: .ref a :: st)) rfl rfl hd
  exact (k T' h' ⟨meth, c, _, X', Fr.snoc X' N ha, e', E.wr W ha, hx, rfl, hml, hown, r⟩ W (F0.set W)).go stp
theorem E_lastore (X : Sd l Z own nm bytes ml ret R p e s m args below T h cells slots) {a : Addr} {vs vs' : List Value} {j : Int32} {x : Int64} (F : Ar Z h a .long vs) (hj : ¬ j < 0) (hl : j.toNatClampNeg < vs.length) (hvs : vs.set j.toNatClampNeg (.long x) = vs') (ha : Z.heap.size ≤ a) (hd : decode bytes pc = .ok (.lastore, 1)) (hp : pc + 1 = pc')
    (k : ∀ T' h', Sd l Z own nm bytes ml ret R p e s m args below T' h' cells slots → Wr h h' a j.toNatClampNeg (.long x) → Ar Z h' a .long vs' → End Z p e below s Q kc ks T' (mkF m pc' Ls st)) : End Z p e below s Q kc ks T (mkF m pc Ls (.long x :: .int j :: .ref a :: st)) := by
  subst hp hvs; obtain ⟨meth, c, locs, X, N, e0, E, hx, hb, hml, hown, r⟩ := X; subst hb
  have F0 := F
  obtain ⟨cl, A, q⟩ := F
  obtain ⟨T', h', X', e', W, stp⟩ := stJ X hx r.2.2.2 e0 A (Ar.inb q hj hl) (g := mkF m pc Ls (.long x :: .int j :: .ref a :: st)) rfl rfl hd
  exact (k T' h' ⟨meth, c, _, X', Fr.snoc X' N ha, e', E.wr W ha, hx, rfl, hml, hown, r⟩ W (F0.set W)).go stp
theorem E_castore (X : Sd l Z own nm bytes ml ret R p e s m args below T h cells slots) {a : Addr} {vs vs' : List Value} {j : Int32} {x : Int32} (F : Ar Z h a .char vs) (hj : ¬ j < 0) (hl : j.toNatClampNeg < vs.length) (hvs : vs.set j.toNatClampNeg (.int (nar .char x)) = vs') (ha : Z.heap.size ≤ a) (hd : decode bytes pc = .ok (.castore, 1)) (hp : pc + 1 = pc')
    (k : ∀ T' h', Sd l Z own nm bytes ml ret R p e s m args below T' h' cells slots → Wr h h' a j.toNatClampNeg (.int (nar .char x)) → Ar Z h' a .char vs' → End Z p e below s Q kc ks T' (mkF m pc' Ls st)) : End Z p e below s Q kc ks T (mkF m pc Ls (.int x :: .int j :: .ref a :: st)) := by
  subst hp hvs; obtain ⟨meth, c, locs, X, N, e0, E, hx, hb, hml, hown, r⟩ := X; subst hb
  have F0 := F
  obtain ⟨cl, A, q⟩ := F
  obtain ⟨T', h', X', e', W, stp⟩ := stC X hx r.2.2.2 e0 A (Ar.inb q hj hl) (g := mkF m pc Ls (.int x :: .int j :: .ref a :: st)) rfl rfl hd
  exact (k T' h' ⟨meth, c, _, X', Fr.snoc X' N ha, e', E.wr W ha, hx, rfl, hml, hown, r⟩ W (F0.set W)).go stp
theorem E_bastore (X : Sd l Z own nm bytes ml ret R p e s m args below T h cells slots) {a : Addr} {vs vs' : List Value} {j : Int32} {x : Int32} (F : Ar Z h a .byte vs) (hj : ¬ j < 0) (hl : j.toNatClampNeg < vs.length) (hvs : vs.set j.toNatClampNeg (.int (nar .byte x)) = vs') (ha : Z.heap.size ≤ a) (hd : decode bytes pc = .ok (.bastore, 1)) (hp : pc + 1 = pc')
    (k : ∀ T' h', Sd l Z own nm bytes ml ret R p e s m args below T' h' cells slots → Wr h h' a j.toNatClampNeg (.int (nar .byte x)) → Ar Z h' a .byte vs' → End Z p e below s Q kc ks T' (mkF m pc' Ls st)) : End Z p e below s Q kc ks T (mkF m pc Ls (.int x :: .int j :: .ref a :: st)) := by
  subst hp hvs; obtain ⟨meth, c, locs, X, N, e0, E, hx, hb, hml, hown, r⟩ := X; subst hb
  have F0 := F
  obtain ⟨cl, A, q⟩ := F
  obtain ⟨T', h', X', e', W, stp⟩ := stB X hx r.2.2.2 e0 A (Ar.inb q hj hl) (g := mkF m pc Ls (.int x :: .int j :: .ref a :: st)) rfl rfl hd
  exact (k T' h' ⟨meth, c, _, X', Fr.snoc X' N ha, e', E.wr W ha, hx, rfl, hml, hown, r⟩ W (F0.set W)).go stp
theorem E_bastore_Z (X : Sd l Z own nm bytes ml ret R p e s m args below T h cells slots) {a : Addr} {vs vs' : List Value} {j : Int32} {x : Int32} (F : Ar Z h a .boolean vs) (hj : ¬ j < 0) (hl : j.toNatClampNeg < vs.length) (hvs : vs.set j.toNatClampNeg (.int (nar .boolean x)) = vs') (ha : Z.heap.size ≤ a) (hd : decode bytes pc = .ok (.bastore, 1)) (hp : pc + 1 = pc')
    (k : ∀ T' h', Sd l Z own nm bytes ml ret R p e s m args below T' h' cells slots → Wr h h' a j.toNatClampNeg (.int (nar .boolean x)) → Ar Z h' a .boolean vs' → End Z p e below s Q kc ks T' (mkF m pc' Ls st)) : End Z p e below s Q kc ks T (mkF m pc Ls (.int x :: .int j :: .ref a :: st)) := by
  subst hp hvs; obtain ⟨meth, c, locs, X, N, e0, E, hx, hb, hml, hown, r⟩ := X; subst hb
  have F0 := F
  obtain ⟨cl, A, q⟩ := F
  obtain ⟨T', h', X', e', W, stp⟩ := stZ X hx r.2.2.2 e0 A (Ar.inb q hj hl) (g := mkF m pc Ls (.int x :: .int j :: .ref a :: st)) rfl rfl hd
  exact (k T' h' ⟨meth, c, _, X', Fr.snoc X' N ha, e', E.wr W ha, hx, rfl, hml, hown, r⟩ W (F0.set W)).go stp
theorem E_clone (X : Sd l Z own nm bytes ml ret R p e s m args below T h cells slots) {ad : String} {i cap W : Nat} {a : Addr} {ty : FieldType} {vs : List Value} {cells' slots' : Nat} (w1 : (Jvm.Cond.methodLink own i ⟨ad, "clone", "()Ljava/lang/Object;"⟩).before a0 Z = true) (w2 : (Jvm.Cond.sameMethod ad "java/lang/Object" "clone" "()Ljava/lang/Object;").before a0 Z = true) (w3 : (Jvm.Cond.native ⟨"java/lang/Object", "clone", "()Ljava/lang/Object;"⟩).before a0 Z = true)
    (w4 : (Jvm.Cond.instanceMethod ⟨"java/lang/Object", "clone", "()Ljava/lang/Object;"⟩).before a0 Z = true) (w5 : (Jvm.Cond.selects ad ⟨ad, "clone", "()Ljava/lang/Object;"⟩ ⟨"java/lang/Object", "clone", "()Ljava/lang/Object;"⟩).before a0 Z = true) (w6 : (Jvm.Cond.castable ad "java/lang/Cloneable").before a0 Z = true) (F : Ar Z h a ty vs) (E1 : Exa Z h a ad) (hfit : ∀ v ∈ vs, fits ty v = true) (hsz : Ls.size = ml) (hd : decode bytes pc = .ok (.invokevirtual i, 3)) (hp : pc + 3 = pc')
    (hf : 1 ≤ R.frames) (hW : (st.map fun v => v.category).sum ≤ W) (hl : W + 14 ≤ R.locals) (hcap : vs.length ≤ cap) (hcc : cells + 1 = cells') (hss : slots + cap = slots') (hc : cells' ≤ R.cells) (hsl : slots' ≤ R.slots)
    (k : ∀ T' h' b, b = h.size → Sd l Z own nm bytes ml ret R p e s m args below T' h' cells' slots' → Ext h h' → Ar Z h' b ty vs → Exa Z h' b ad → End Z p e below s Q kc ks T' (mkF m pc' Ls (.ref b :: st))) : End Z p e below s Q kc ks T (mkF m pc Ls (.ref a :: st)) := by
  subst hp hcc hss; obtain ⟨meth, c, locs, X, N, e0, E, hx, hb, hml, hown, r⟩ := X; subst hb
  obtain ⟨cl, A, q⟩ := F
  have FC : FitC Z cl := fitC_of A fun i hi v hv => hfit v (by rw [q] at hv; exact List.mem_of_getElem? (by simpa using hv))
  obtain ⟨T', h', X', e', E2, A2, A3, stp⟩ := cloneA X hx r.2.2.2 hown w1 w2 w3 w4 w5 w6 e0 A E1 FC (g := mkF m pc Ls (.ref a :: st)) rfl (hsz.trans hml.symm) rfl hd hf (W := W) (cap := cap) (by show 2 * 0 + _ ≤ _; omega) hl (by rw [q]; simpa using hcap) hc hsl
  exact (k T' h' h.size rfl ⟨meth, c, locs, X', N, e', E.trans E2, hx, rfl, hml, hown, r⟩ E2 ⟨_, A2, q⟩ A3).go stp
theorem E_cast (X : Sd l Z own nm bytes ml ret R p e s m args below T h cells slots) {K : String} {i : Nat} {a : Addr} (w : (Jvm.Cond.classLink own i K).before a0 Z = true) (F : Ins Z h a K true) (hd : decode bytes pc = .ok (.checkcast i, 3)) (hp : pc + 3 = pc')
    (k : ∀ T', Sd l Z own nm bytes ml ret R p e s m args below T' h cells slots → End Z p e below s Q kc ks T' (mkF m pc' Ls (.ref a :: st))) : End Z p e below s Q kc ks T (mkF m pc Ls (.ref a :: st)) := by
  subst hp; obtain ⟨meth, c, locs, X, N, e0, E, hx, hb, hml, hown, r⟩ := X; subst hb
  obtain ⟨T', X', e', stp⟩ := castY X hx r.2.2.2 hown w e0 F (g := mkF m pc Ls (.ref a :: st)) rfl rfl hd
  exact (k T' ⟨meth, c, locs, X', N, e', E, hx, rfl, hml, hown, r⟩).go stp
theorem E_instY (X : Sd l Z own nm bytes ml ret R p e s m args below T h cells slots) {K : String} {i : Nat} {a : Addr} (w : (Jvm.Cond.classLink own i K).before a0 Z = true) (F : Ins Z h a K true) (hd : decode bytes pc = .ok (.instanceof i, 3)) (hp : pc + 3 = pc')
    (k : ∀ T', Sd l Z own nm bytes ml ret R p e s m args below T' h cells slots → End Z p e below s Q kc ks T' (mkF m pc' Ls (.int 1 :: st))) : End Z p e below s Q kc ks T (mkF m pc Ls (.ref a :: st)) := by
  subst hp; obtain ⟨meth, c, locs, X, N, e0, E, hx, hb, hml, hown, r⟩ := X; subst hb
  obtain ⟨T', X', e', stp⟩ := instY X hx r.2.2.2 hown w e0 F (g := mkF m pc Ls (.ref a :: st)) rfl rfl hd
  exact (k T' ⟨meth, c, locs, X', N, e', E, hx, rfl, hml, hown, r⟩).go stp
theorem isref_cat {v : Value} (h : v.isRef = true) : v.category = 1 := by rcases ref_cases h with rfl | ⟨a, rfl⟩ <;> rfl
theorem own_irr (x : Int32) : ¬ x < x := by rw [Int32.lt_iff_toInt_lt]; omega
theorem own_irrL (x : Int64) : ¬ x < x := by rw [Int64.lt_iff_toInt_lt]; omega
theorem E_callP (X : Sd l Z own nm bytes ml ret R p e s m args below T h cells slots) {i : Nat} {y : MethodName} {K : String} {bytes' : ByteArray} {ml' : Nat} {ret' : Option FieldType} {rm : Room} {Qc : Option Value → Heap → Prop} {a : Addr} {as : Array Value} {ps : List FieldType} {rr : Option FieldType} {argsL rest : List Value} {W : Nat} {cells' slots' : Nat} (C : Con l Z y bytes' ml' ret' rm as h Qc) (E1 : Exa Z h a K)
    (w1 : (Jvm.Cond.methodLink own i y).before a0 Z = true) (w2 : (Jvm.Cond.instanceMethod y).before a0 Z = true) (ws : (Jvm.Cond.selects y.cls y y).before a0 Z = true) (wp : (Jvm.Cond.privateMethod y).before a0 Z = true) (w3 : (Jvm.Cond.initialized y.cls).before a0 Z = true) (w4 : (Jvm.Cond.code y bytes' ml' ret').before a0 Z = true) (hy : y.cls ≠ "java/lang/invoke/MethodHandle" ∧ y.cls ≠ "java/lang/invoke/VarHandle") (hsz : Ls.size = ml) (has : (.ref a :: argsL).toArray = as) (hpd : parseMethodDescriptor y.desc = some ⟨ps, rr⟩) (hlen : argsL.length = ps.length) (hst : st = argsL.reverse ++ .ref a :: rest)
    (hd : decode bytes pc = .ok (.invokevirtual i, 3)) (hp : pc + 3 = pc') (hW : (rest.map fun v => v.category).sum ≤ W) (hf : rm.frames + 1 ≤ R.frames) (hl : W + (ml' + 11) + rm.locals ≤ R.locals) (hcc : cells + rm.cells = cells') (hss : slots + rm.slots = slots') (hc : cells' ≤ R.cells) (hs : slots' ≤ R.slots)
    (k : ∀ v T' h', Sd l Z own nm bytes ml ret R p e s m args below T' h' cells' slots' → Qc v h' → End Z p e below s Q kc ks T' (mkF m pc' Ls (v.toList ++ rest))) : End Z p e below s Q kc ks T (mkF m pc Ls st) := by
  subst hp hst hcc hss; obtain ⟨meth, c, locs, X, N, e0, E, hx, hb, hml, hown, r⟩ := X; subst hb
  obtain ⟨cq, q1, q2⟩ := E1.cell
  obtain ⟨v, _, ⟨T', L', k', n'⟩, -, X', ⟨Lc, hQ, l1, l2, l3⟩, stp⟩ := X.privateBack hx (y := y) hown (mvT r.2.2.2 w1) (mvT r.2.2.2 w2) (mvT r.2.2.2 ws) (Cond.privateMethod_at (mvP r.2.2.2 wp (args := #[]))) (mvT r.2.2.2 w4) hy (backOf (W := W) (Q := fun v h L => Fr Z.heap.size L ∧ Ext Z.heap h ∧ Qc v h) (C []) r.2.2.2 w4 w3 hf hl) (g := mkF m pc Ls (argsL.reverse ++ .ref a :: rest)) rfl (hsz.trans hml.symm) (Steps.refl _) (a := a) (by rw [e0]; exact q1) q2 (argsL := argsL) (rest := rest) (lenOf hpd hlen) rfl (by show 2 * 0 + _ ≤ _; omega) hd (fun _ _ => ⟨has, e0, hc, hs⟩)
  dsimp only [Pt.U, Pt.locs, Pt.cells, Pt.slots] at X' l1 l2 l3 stp hQ
  subst l1 l2 l3
  exact (k v T' T'.heap ⟨meth, c, _, X', Fr.app N hQ.1, rfl, hQ.2.1, hx, rfl, hml, hown, r⟩ hQ.2.2).go fun _ q => stp.trans q
theorem E_callU (X : Sd l Z own nm bytes ml ret R p e s m args below T h cells slots) {i : Nat} {x y : MethodName} {K : String} {bytes' : ByteArray} {ml' : Nat} {ret' : Option FieldType} {rm : Room} {Qc : Option Value → Heap → Prop} {a : Addr} {as : Array Value} {ps : List FieldType} {rr : Option FieldType} {argsL rest : List Value} {W : Nat} {cells' slots' : Nat} (C : Con l Z y bytes' ml' ret' rm as h Qc) (E1 : Exa Z h a K)
    (w1 : (Jvm.Cond.methodLink own i x).before a0 Z = true) (wm : (Jvm.Cond.sameMethod x.cls y.cls x.name x.desc).before a0 Z = true) (wd : (Jvm.Cond.declares ⟨y.cls, x.name, x.desc⟩).before a0 Z = true) (ws : (Jvm.Cond.selects K x y).before a0 Z = true) (w2 : (Jvm.Cond.instanceMethod y).before a0 Z = true) (w3 : (Jvm.Cond.initialized y.cls).before a0 Z = true) (w4 : (Jvm.Cond.code y bytes' ml' ret').before a0 Z = true) (hy : y.cls ≠ "java/lang/invoke/MethodHandle" ∧ y.cls ≠ "java/lang/invoke/VarHandle") (hsz : Ls.size = ml) (has : (.ref a :: argsL).toArray = as) (hpd : parseMethodDescriptor x.desc = some ⟨ps, rr⟩) (hlen : argsL.length = ps.length) (hst : st = argsL.reverse ++ .ref a :: rest)
    (hd : decode bytes pc = .ok (.invokevirtual i, 3)) (hp : pc + 3 = pc') (hW : (rest.map fun v => v.category).sum ≤ W) (hf : rm.frames + 1 ≤ R.frames) (hl : W + (ml' + 11) + rm.locals ≤ R.locals) (hcc : cells + rm.cells = cells') (hss : slots + rm.slots = slots') (hc : cells' ≤ R.cells) (hs : slots' ≤ R.slots)
    (k : ∀ v T' h', Sd l Z own nm bytes ml ret R p e s m args below T' h' cells' slots' → Qc v h' → End Z p e below s Q kc ks T' (mkF m pc' Ls (v.toList ++ rest))) : End Z p e below s Q kc ks T (mkF m pc Ls st) := by
  subst hp hst hcc hss; obtain ⟨meth, c, locs, X, N, e0, E, hx, hb, hml, hown, r⟩ := X; subst hb
  obtain ⟨cq, kq, qa, qb, qc⟩ := isOf r.2.2.2 e0 E1
  obtain ⟨v, _, ⟨T', L', k', n'⟩, -, X', ⟨Lc, hQ, l1, l2, l3⟩, stp⟩ := X.virtualBackUp hx (x := x) (y := y) (owner := y.cls) hown (mvT r.2.2.2 w1) (mvT r.2.2.2 wm) (mvT r.2.2.2 wd) hy (mvT r.2.2.2 ws) (mvT r.2.2.2 w2) (backOf (W := W) (Q := fun v h L => Fr Z.heap.size L ∧ Ext Z.heap h ∧ Qc v h) (C []) r.2.2.2 w4 w3 hf hl) qa qc (g := mkF m pc Ls (argsL.reverse ++ .ref a :: rest)) rfl (hsz.trans hml.symm) (Steps.refl _) (argsL := argsL) (rest := rest) (lenOf hpd hlen) rfl (by show 2 * 0 + _ ≤ _; omega) hd (fun _ _ => ⟨has, e0, hc, hs⟩)
  dsimp only [Pt.U, Pt.locs, Pt.cells, Pt.slots] at X' l1 l2 l3 stp hQ
  subst l1 l2 l3
  exact (k v T' T'.heap ⟨meth, c, _, X', Fr.app N hQ.1, rfl, hQ.2.1, hx, rfl, hml, hown, r⟩ hQ.2.2).go fun _ q => stp.trans q
theorem E_eqI {x z : Int32} (q : x = z) (k : End Z p e below s Q kc ks T (mkF m pc Ls (.int z :: st))) : End Z p e below s Q kc ks T (mkF m pc Ls (.int x :: st)) := by subst q; exact k
theorem E_eqJ {x z : Int64} (q : x = z) (k : End Z p e below s Q kc ks T (mkF m pc Ls (.long z :: st))) : End Z p e below s Q kc ks T (mkF m pc Ls (.long x :: st)) := by subst q; exact k
theorem E_eqV {x z : Value} (q : x = z) (k : End Z p e below s Q kc ks T (mkF m pc Ls (z :: st))) : End Z p e below s Q kc ks T (mkF m pc Ls (x :: st)) := by subst q; exact k
/-! from the case's words -/
theorem own_eq {first : State} {o : Option Outcome} {idx : List Nat} {a b : Term} (h : (Jvm.Cond.eq a b).value args first o s idx = some true) : ∃ v, a.eval args first o idx s = some v ∧ b.eval args first o idx s = some v := by
  simp only [Cond.value] at h
  split at h <;> simp_all
theorem own_exa {t : Term} {K : String} (h : (Jvm.Cond.exactly t K).value args s none s [] = some true) : ∃ a, t.eval args s none [] s = some (.ref a) ∧ Exa s s.heap a K := by
  obtain ⟨a, c, cell, k, e1, r⟩ := Cond.exactly_spec (Cond.before_iff.mpr h)
  exact ⟨a, e1, Exa.start e1 h⟩
theorem own_eqi {t u : Term} {v : Value} (h : (Jvm.Cond.eq t u).value args s none s [] = some true) (hu : u.eval args s none [] s = some v) : t.eval args s none [] s = some v := by
  obtain ⟨w, h1, h2⟩ := own_eq h
  rw [h1, ← h2, hu]
theorem own_fld {t : Term} {C n d : String} {v : Value} {a : Addr} (ev : t.eval args s none [] s = some (.ref a)) (h : (Term.field t C n d).eval args s none [] s = some v) : Fld s s.heap a C n d v :=
  Fld.start (by simpa [Term.eval, ev] using h)
theorem own_arr {t : Term} {ty : FieldType} {a : Addr} (ev : t.eval args s none [] s = some (.ref a)) (h : (Jvm.Cond.arrayOf t ty).value args s none s [] = some true) : ∃ c, Arr s s.heap a c ty ∧ s.arrayAt? a = some c := by
  obtain ⟨c, A⟩ := Arr.start ev h
  exact ⟨c, A, A.fin (Vm.Alike.refl _)⟩
theorem own_len {t : Term} {a : Addr} {c : Cell} {n : Int32} (ev : t.eval args s none [] s = some (.ref a)) (hc : s.arrayAt? a = some c) (h : (Term.length t).eval args s none [] s = some (.int n)) : c.slots.size = n.toNatClampNeg := by
  simp only [Term.eval, ev, hc, Option.bind_eq_bind, Option.bind_some] at h
  split at h
  · rename_i q
    have h := Value.int.inj (Option.some.inj h)
    rw [← h]
    have h2 := len_toInt q
    show _ = (Int32.toInt _).toNat
    rw [h2]; rfl
  · cases h
theorem own_el {t : Term} {a : Addr} {c : Cell} {k : Int32} {v : Value} (ev : t.eval args s none [] s = some (.ref a)) (hc : s.arrayAt? a = some c) (h : (Term.elem t (.int k)).eval args s none [] s = some v) : c.slots[k.toNatClampNeg]? = some v := by
  simp only [Term.eval, ev, hc, Option.bind_eq_bind, Option.bind_some] at h
  split at h
  · cases h
  · exact h
theorem own_ar {a : Addr} {c : Cell} {ty : FieldType} {vs : List Value} (A : Arr Z h a c ty) (hs : c.slots.size = vs.length) (H : HasL c 0 vs) : Ar Z h a ty vs := by
  refine ⟨c, A, ?_⟩
  apply Array.ext'
  apply List.ext_getElem?
  intro i
  by_cases hi : i < vs.length
  · have := HasL.at (dv := .null) vs 0 H i hi
    rw [Nat.zero_add] at this
    simp only [List.getElem?_toArray, Array.getElem?_toList] at *
    rw [this, List.getD_eq_getElem?_getD, List.getElem?_eq_getElem hi]; rfl
  · rw [List.getElem?_eq_none (by simpa [hs] using Nat.le_of_not_lt hi), List.getElem?_eq_none (by simpa using Nat.le_of_not_lt hi)]
theorem E_ldcF (X : Sd l Z own nm bytes ml ret R p e s m args below T h cells slots) {i : Nat} {b : UInt32} (w : (Jvm.Cond.constantFloat own i b).before a0 Z = true) (hd : decode bytes pc = .ok (.ldc i, 2)) (hp : pc + 2 = pc') (k : End Z p e below s Q kc ks T (mkF m pc' Ls (.float b :: st))) : End Z p e below s Q kc ks T (mkF m pc Ls st) := by
  subst hp; obtain ⟨meth, c, locs, X, N, e0, E, hx, hb, hml, hown, hnm, hret, hlk, hZ⟩ := X; subst hb
  obtain ⟨kk, cf, hk, hcf, hc⟩ := Cond.constantFloat_spec hown (mvT (args := args) hZ w)
  exact k.go (X.ldcFloat hx hk hcf hc (g := mkF m pc Ls st) rfl hd)
/-! arrays of references, with what they take -/
def ArR (Z : State) (h : Heap) (a : Addr) (ty : FieldType) (C : String) (vs : List Value) : Prop := ∃ c : Cell, Arr Z h a c ty ∧ c.slots = vs.toArray ∧ (Ovr Z c.cls C ∨ ∃ t, OvrA Z c.cls t C)
section ArRFacts
variable {h' : Heap} {a b y : Addr} {ty : FieldType} {C : String} {vs : List Value} {ws : List Addr} {v : Value} {sl : Nat}
theorem ArR.ar (F : ArR Z h a ty C vs) : Ar Z h a ty vs := by obtain ⟨c, A, r, -⟩ := F; exact ⟨c, A, r⟩
theorem ArR.lt (F : ArR Z h a ty C vs) : a < h.size := F.ar.lt
theorem ArR.ext (F : ArR Z h a ty C vs) (E : Ext h h') : ArR Z h' a ty C vs := by obtain ⟨c, A, r⟩ := F; exact ⟨c, A.ext E, r⟩
theorem ArR.other (F : ArR Z h b ty C vs) (W : Wr h h' a sl v) (q : b ≠ a) : ArR Z h' b ty C vs := by obtain ⟨c, A, r⟩ := F; exact ⟨c, A.other W q, r⟩
theorem ArR.keep (F : ArR Z h a ty C vs) (K : Keep h h' ws) (q : a ∉ ws) : ArR Z h' a ty C vs := by obtain ⟨c, A, r⟩ := F; exact ⟨c, ⟨K.2.1 a c A.1 q, A.2⟩, r⟩
theorem ArR.set (F : ArR Z h a ty C vs) (W : Wr h h' a sl v) : ArR Z h' a ty C (vs.set sl v) := by
  obtain ⟨c, A, r, O⟩ := F
  exact ⟨_, A.same W, by simp [Cell.setSlot, r], O⟩
theorem ArR.sto (F : ArR Z h a ty C vs) (I : Ins Z h y C true) : Sto Z h a (.ref y) := by
  obtain ⟨c, A, -, O | ⟨t, O⟩⟩ := F
  · exact Sto.of A O I
  · exact Sto.ofVA A rfl O I
end ArRFacts
theorem E_newRA (X : Sd l Z own nm bytes ml ret R p e s m args below T h cells slots) {C : String} {ty : FieldType} {i cap : Nat} {n : Int32} {vs : List Value} {cells' slots' : Nat} (hC : (FieldType.array ty).toString = C) (w1 : (Jvm.Cond.classLink own i C).before a0 Z = true) (w2 : (Jvm.Cond.arrayOver (.array ty)).before a0 Z = true) (hd : decode bytes pc = .ok (.anewarray i, 3)) (hp : pc + 3 = pc') (hn : ¬ n < 0) (hcap : n.toNatClampNeg ≤ cap) (hb8 : cap * 8 ≤ 536870912) (hvs : List.replicate n.toNatClampNeg Value.null = vs) (hcc : cells + 1 = cells') (hss : slots + cap = slots') (hc : cells' ≤ R.cells) (hl : slots' ≤ R.slots)
    (k : ∀ T' h' a, a = h.size → Sd l Z own nm bytes ml ret R p e s m args below T' h' cells' slots' → Ext h h' → ArR Z h' a (.array ty) C vs → End Z p e below s Q kc ks T' (mkF m pc' Ls (.ref a :: st))) : End Z p e below s Q kc ks T (mkF m pc Ls (.int n :: st)) := by
  subst hp hcc hss hvs; obtain ⟨meth, c, locs, X, N, e0, E, hx, hb, hml, hown, r⟩ := X; subst hb
  obtain ⟨T', h', cA, X', e', E2, A2, -, O2, stp⟩ := newRA X hx r.2.2.2 hown hC w1 w2 e0 (g := mkF m pc Ls (.int n :: st)) rfl hd rfl hn hcap hb8 hc hl rfl
  exact (k T' h' h.size rfl ⟨meth, c, locs, X', N, e', E.trans E2, hx, rfl, hml, hown, r⟩ E2 ⟨_, A2, by simp [newA, defaultValue], Or.inr ⟨_, O2⟩⟩).go stp
theorem E_newR (X : Sd l Z own nm bytes ml ret R p e s m args below T h cells slots) {C : String} {i cap : Nat} {n : Int32} {vs : List Value} {cells' slots' : Nat} (w1 : (Jvm.Cond.classLink own i C).before a0 Z = true) (w2 : (Jvm.Cond.arrayOver (.object C)).before a0 Z = true) (hd : decode bytes pc = .ok (.anewarray i, 3)) (hp : pc + 3 = pc') (hn : ¬ n < 0) (hcap : n.toNatClampNeg ≤ cap) (hb8 : cap * 8 ≤ 536870912) (hvs : List.replicate n.toNatClampNeg Value.null = vs) (hcc : cells + 1 = cells') (hss : slots + cap = slots') (hc : cells' ≤ R.cells) (hl : slots' ≤ R.slots)
    (k : ∀ T' h' a, a = h.size → Sd l Z own nm bytes ml ret R p e s m args below T' h' cells' slots' → Ext h h' → ArR Z h' a (.object C) C vs → End Z p e below s Q kc ks T' (mkF m pc' Ls (.ref a :: st))) : End Z p e below s Q kc ks T (mkF m pc Ls (.int n :: st)) := by
  subst hp hcc hss hvs; obtain ⟨meth, c, locs, X, N, e0, E, hx, hb, hml, hown, r⟩ := X; subst hb
  obtain ⟨T', h', cA, X', e', E2, A2, O2, stp⟩ := newR X hx r.2.2.2 hown w1 w2 e0 (g := mkF m pc Ls (.int n :: st)) rfl hd rfl hn hcap hb8 hc hl
  exact (k T' h' h.size rfl ⟨meth, c, locs, X', N, e', E.trans E2, hx, rfl, hml, hown, r⟩ E2 ⟨_, A2, by simp [newA, defaultValue], Or.inl O2⟩).go stp
theorem E_aastore (X : Sd l Z own nm bytes ml ret R p e s m args below T h cells slots) {a y : Addr} {ty : FieldType} {C : String} {vs vs' : List Value} {j : Int32} (F : ArR Z h a ty C vs) (I : Ins Z h y C true) (hty : ty.isReference = true) (hj : ¬ j < 0) (hl : j.toNatClampNeg < vs.length) (hvs : vs.set j.toNatClampNeg (.ref y) = vs') (ha : Z.heap.size ≤ a) (hd : decode bytes pc = .ok (.aastore, 1)) (hp : pc + 1 = pc')
    (k : ∀ T' h', Sd l Z own nm bytes ml ret R p e s m args below T' h' cells slots → Wr h h' a j.toNatClampNeg (.ref y) → ArR Z h' a ty C vs' → End Z p e below s Q kc ks T' (mkF m pc' Ls st)) : End Z p e below s Q kc ks T (mkF m pc Ls (.ref y :: .int j :: .ref a :: st)) := by
  subst hp hvs; obtain ⟨meth, c, locs, X, N, e0, E, hx, hb, hml, hown, r⟩ := X; subst hb
  have F0 := F
  have S := F.sto I
  obtain ⟨cl, A, q, -⟩ := F
  obtain ⟨T', h', X', e', W, stp⟩ := stR X hx r.2.2.2 e0 A (Ar.inb q hj hl) hty S (g := mkF m pc Ls (.ref y :: .int j :: .ref a :: st)) rfl rfl hd
  exact (k T' h' ⟨meth, c, _, X', Fr.snoc X' N ha, e', E.wr W ha, hx, rfl, hml, hown, r⟩ W (F0.set W)).go stp
theorem E_ldcwI (X : Sd l Z own nm bytes ml ret R p e s m args below T h cells slots) {i : Nat} {v : Int32} (w : (Jvm.Cond.constant own i v).before a0 Z = true) (hd : decode bytes pc = .ok (.ldc_w i, 3)) (hp : pc + 3 = pc') (k : End Z p e below s Q kc ks T (mkF m pc' Ls (.int v :: st))) : End Z p e below s Q kc ks T (mkF m pc Ls st) := by
  subst hp; obtain ⟨meth, c, locs, X, N, e0, E, hx, hb, hml, hown, hnm, hret, hlk, hZ⟩ := X; subst hb
  exact k.go (X.ldcwInt hx hown (mvT hZ w) (g := mkF m pc Ls st) rfl hd)
theorem Ar.arv {a : Addr} {ty : FieldType} {vs : List Value} {z : Int32} (dv : Value) (F : Ar Z h a ty vs) (hf : ∀ v ∈ vs, fits ty v = true) (hn : vs.length = z.toNatClampNeg) (hz : ¬ z < 0) : ∃ k, Arv Z h a k ty z vs dv := by
  obtain ⟨c, A, r⟩ := F
  have hs : c.slots.size = vs.length := by rw [r]; simp
  refine ⟨c.cls, c, A, rfl, by rw [hs]; exact hn, hz, fun i hi => ?_, fun i hi => ?_⟩
  · rw [hs] at hi
    rw [r, List.getD_eq_getElem?_getD]; simp [hi]
  · rw [hs] at hi
    rw [List.getD_eq_getElem?_getD, List.getElem?_eq_getElem hi]
    exact hf _ (List.getElem_mem hi)
theorem Ar.of_arv {a : Addr} {ty : FieldType} {vs : List Value} {z : Int32} {dv : Value} {k : ClassId} (F : Arv Z h a k ty z vs dv) (hn : vs.length = z.toNatClampNeg) : Ar Z h a ty vs := by
  obtain ⟨c, A, -, hs, -, H, -⟩ := F
  refine ⟨c, A, ?_⟩
  apply Array.ext'
  apply List.ext_getElem?
  intro i
  by_cases hi : i < vs.length
  · have := H i (by omega)
    rw [Array.getElem?_toList, this, List.getD_eq_getElem?_getD, List.getElem?_eq_getElem hi]
    simp [hi]
  · rw [List.getElem?_eq_none (by rw [Array.length_toList]; omega), List.getElem?_eq_none (by simpa using Nat.le_of_not_lt hi)]
theorem E_acopy (X : Sd l Z own nm bytes ml ret R p e s m args below T h cells slots) {i W : Nat} {a b : Addr} {ty : FieldType} {vs vd vd2 : List Value} {sp dp nn z z' : Int32} (w1 : (Jvm.Cond.methodLink own i Jvm.Stand.acN).before a0 Z = true) (w2 : (Jvm.Cond.native Jvm.Stand.acN).before a0 Z = true) (w3 : (Jvm.Cond.static Jvm.Stand.acN).before a0 Z = true) (w4 : (Jvm.Cond.initialized "java/lang/System").before a0 Z = true)
    (A : Ar Z h a ty vs) (B : Ar Z h b ty vd) (hty : refKind ty = false) (fa : ∀ v ∈ vs, fits ty v = true) (fb : ∀ v ∈ vd, fits ty v = true) (za : vs.length = z.toNatClampNeg) (hz : ¬ z < 0) (zb : vd.length = z'.toNatClampNeg) (hz' : ¬ z' < 0) (h1 : ¬ sp < 0) (h2 : ¬ dp < 0) (h3 : ¬ nn < 0) (h4 : sp.toNatClampNeg + nn.toNatClampNeg ≤ vs.length) (h5 : dp.toNatClampNeg + nn.toNatClampNeg ≤ vd.length)
    (hvd : vd.take dp.toNatClampNeg ++ ((List.range nn.toNatClampNeg).map fun i => vs.getD (sp.toNatClampNeg + i) .null) ++ vd.drop (dp.toNatClampNeg + nn.toNatClampNeg) = vd2) (hb0 : Z.heap.size ≤ b) (hsz : Ls.size = ml) (hd : decode bytes pc = .ok (.invokestatic i, 3)) (hp : pc + 3 = pc') (hf : 1 ≤ R.frames) (hW : (st.map fun v => v.category).sum ≤ W) (hlo : W + (nativeFrameWords "java/lang/System" "arraycopy" 5 + 11) ≤ R.locals)
    (k : ∀ T' h', Sd l Z own nm bytes ml ret R p e s m args below T' h' cells slots → Keep h h' [b] → Ar Z h' b ty vd2 → End Z p e below s Q kc ks T' (mkF m pc' Ls st)) : End Z p e below s Q kc ks T (mkF m pc Ls (.int nn :: .int dp :: .ref b :: .int sp :: .ref a :: st)) := by
  subst hp hvd; obtain ⟨meth, c, locs, X, N, e0, E, hx, hb, hml, hown, r⟩ := X; subst hb
  obtain ⟨k1, A1⟩ := A.arv .null fa za hz
  obtain ⟨k2, B1⟩ := B.arv .null fb zb hz'
  obtain ⟨T', h', L, X', e', N', K, B2, stp⟩ := cpA X hx r.2.2.2 hown w1 w2 w3 w4 e0 A1 B1 (Or.inl ⟨rfl, hty⟩) h1 h2 h3 (by rw [← za]; exact h4) (by rw [← zb]; exact h5) rfl h5 N hb0 (g := mkF m pc Ls (.int nn :: .int dp :: .ref b :: .int sp :: .ref a :: st)) rfl (hsz.trans hml.symm) rfl hd hf (W := W) (by show 2 * 0 + _ ≤ _; omega) hlo
  refine (k T' h' ⟨meth, c, _, X', N', e', E.keep K (allS hb0 all0), hx, rfl, hml, hown, r⟩ K (Ar.of_arv B2 ?_)).go stp
  simp; omega
end Own
end Jvm.RoadKit
namespace Jvm.Pilot.@@N@@
open Jvm Jvm.ClassFile Sem Op Lib Jvm.Free Jvm.Stand Jvm.LawKit Jvm.RoadKit Bundle Jvm.Pilot.@@N@@.Jvm.D
theorem w_0 {a0 : Array Value} {Z : State} (hw : ∀ d ∈ tables_1, d.before a0 Z = true) : (Jvm.Cond.constant "com/example/nimble_calculus/nimblecalculus/equivalence/SplitsBlockBeforePinLaw" (7 : Nat) (2147483647 : Int32)).before a0 Z = true := hw _ (List.mem_of_getElem? (i := 0) rfl)
theorem w_1 {a0 : Array Value} {Z : State} (hw : ∀ d ∈ tables_1, d.before a0 Z = true) : (Jvm.Cond.arrayClass Jvm.ClassFile.FieldType.int).before a0 Z = true := hw _ (List.mem_of_getElem? (i := 1) rfl)
theorem w_2 {a0 : Array Value} {Z : State} (hw : ∀ d ∈ tables_1, d.before a0 Z = true) : (Jvm.Cond.classLink "com/example/nimble_calculus/nimblecalculus/equivalence/SplitsBlockBeforePinLaw" (8 : Nat) "com/example/nimble_calculus/nimblecalculus/equivalence/Splits").before a0 Z = true := hw _ (List.mem_of_getElem? (i := 2) rfl)
theorem w_3 {a0 : Array Value} {Z : State} (hw : ∀ d ∈ tables_1, d.before a0 Z = true) : (Jvm.Cond.instantiable "com/example/nimble_calculus/nimblecalculus/equivalence/Splits" (10 : Nat)).before a0 Z = true := hw _ (List.mem_of_getElem? (i := 3) rfl)
theorem w_4 {a0 : Array Value} {Z : State} (hw : ∀ d ∈ tables_1, d.before a0 Z = true) : (Jvm.Cond.initialized "com/example/nimble_calculus/nimblecalculus/equivalence/Splits").before a0 Z = true := hw _ (List.mem_of_getElem? (i := 4) rfl)
theorem w_5 {a0 : Array Value} {Z : State} (hw : ∀ d ∈ tables_1, d.before a0 Z = true) : (Jvm.Cond.methodLink "com/example/nimble_calculus/nimblecalculus/equivalence/SplitsBlockBeforePinLaw" (10 : Nat) ({ cls := "com/example/nimble_calculus/nimblecalculus/equivalence/Splits", name := "<init>", desc := "(I)V" } : Jvm.MethodName)).before a0 Z = true := hw _ (List.mem_of_getElem? (i := 5) rfl)
theorem w_6 {a0 : Array Value} {Z : State} (hw : ∀ d ∈ tables_1, d.before a0 Z = true) : (Jvm.Cond.instanceMethod ({ cls := "com/example/nimble_calculus/nimblecalculus/equivalence/Splits", name := "<init>", desc := "(I)V" } : Jvm.MethodName)).before a0 Z = true := hw _ (List.mem_of_getElem? (i := 6) rfl)
theorem w_7 {a0 : Array Value} {Z : State} (hw : ∀ d ∈ tables_1, d.before a0 Z = true) : (Jvm.Cond.code ({ cls := "com/example/nimble_calculus/nimblecalculus/equivalence/Splits", name := "<init>", desc := "(I)V" } : Jvm.MethodName) prog_61_method_1_code (3 : Nat) (Option.none : Option Jvm.ClassFile.FieldType)).before a0 Z = true := hw _ (List.mem_of_getElem? (i := 7) rfl)
theorem w_8 {a0 : Array Value} {Z : State} (hw : ∀ d ∈ tables_1, d.before a0 Z = true) : (Jvm.Cond.methodLink "com/example/nimble_calculus/nimblecalculus/equivalence/Splits" (1 : Nat) ({ cls := "java/lang/Object", name := "<init>", desc := "()V" } : Jvm.MethodName)).before a0 Z = true := hw _ (List.mem_of_getElem? (i := 8) rfl)
theorem w_9 {a0 : Array Value} {Z : State} (hw : ∀ d ∈ tables_1, d.before a0 Z = true) : (Jvm.Cond.instanceMethod ({ cls := "java/lang/Object", name := "<init>", desc := "()V" } : Jvm.MethodName)).before a0 Z = true := hw _ (List.mem_of_getElem? (i := 9) rfl)
theorem w_10 {a0 : Array Value} {Z : State} (hw : ∀ d ∈ tables_1, d.before a0 Z = true) : (Jvm.Cond.code ({ cls := "java/lang/Object", name := "<init>", desc := "()V" } : Jvm.MethodName) object_method_1_code (1 : Nat) (Option.none : Option Jvm.ClassFile.FieldType)).before a0 Z = true := hw _ (List.mem_of_getElem? (i := 10) rfl)
theorem w_11 {a0 : Array Value} {Z : State} (hw : ∀ d ∈ tables_1, d.before a0 Z = true) : (Jvm.Cond.fieldLink "com/example/nimble_calculus/nimblecalculus/equivalence/Splits" (7 : Nat) "com/example/nimble_calculus/nimblecalculus/equivalence/Splits" "nodeCount" "I").before a0 Z = true := hw _ (List.mem_of_getElem? (i := 11) rfl)
theorem w_12 {a0 : Array Value} {Z : State} (hw : ∀ d ∈ tables_1, d.before a0 Z = true) : (Jvm.Cond.lays "com/example/nimble_calculus/nimblecalculus/equivalence/Splits" "com/example/nimble_calculus/nimblecalculus/equivalence/Splits" "nodeCount" "I").before a0 Z = true := hw _ (List.mem_of_getElem? (i := 12) rfl)
theorem w_13 {a0 : Array Value} {Z : State} (hw : ∀ d ∈ tables_1, d.before a0 Z = true) : (Jvm.Cond.constantLong "com/example/nimble_calculus/nimblecalculus/equivalence/Splits" (15 : Nat) (2147483647 : Int64)).before a0 Z = true := hw _ (List.mem_of_getElem? (i := 13) rfl)
theorem w_14 {a0 : Array Value} {Z : State} (hw : ∀ d ∈ tables_1, d.before a0 Z = true) : (Jvm.Cond.constantLong "com/example/nimble_calculus/nimblecalculus/equivalence/Splits" (17 : Nat) (2 : Int64)).before a0 Z = true := hw _ (List.mem_of_getElem? (i := 14) rfl)
theorem w_15 {a0 : Array Value} {Z : State} (hw : ∀ d ∈ tables_1, d.before a0 Z = true) : (Jvm.Cond.methodLink "com/example/nimble_calculus/nimblecalculus/equivalence/Splits" (19 : Nat) ({ cls := "java/lang/Math", name := "max", desc := "(JJ)J" } : Jvm.MethodName)).before a0 Z = true := hw _ (List.mem_of_getElem? (i := 15) rfl)
theorem w_16 {a0 : Array Value} {Z : State} (hw : ∀ d ∈ tables_1, d.before a0 Z = true) : (Jvm.Cond.static ({ cls := "java/lang/Math", name := "max", desc := "(JJ)J" } : Jvm.MethodName)).before a0 Z = true := hw _ (List.mem_of_getElem? (i := 16) rfl)
theorem w_17 {a0 : Array Value} {Z : State} (hw : ∀ d ∈ tables_1, d.before a0 Z = true) : (Jvm.Cond.initialized "java/lang/Math").before a0 Z = true := hw _ (List.mem_of_getElem? (i := 17) rfl)
theorem w_18 {a0 : Array Value} {Z : State} (hw : ∀ d ∈ tables_1, d.before a0 Z = true) : (Jvm.Cond.code ({ cls := "java/lang/Math", name := "max", desc := "(JJ)J" } : Jvm.MethodName) jdk_29_method_66_code (4 : Nat) (Option.some Jvm.ClassFile.FieldType.long)).before a0 Z = true := hw _ (List.mem_of_getElem? (i := 18) rfl)
theorem w_19 {a0 : Array Value} {Z : State} (hw : ∀ d ∈ tables_1, d.before a0 Z = true) : (Jvm.Cond.methodLink "com/example/nimble_calculus/nimblecalculus/equivalence/Splits" (25 : Nat) ({ cls := "java/lang/Math", name := "min", desc := "(JJ)J" } : Jvm.MethodName)).before a0 Z = true := hw _ (List.mem_of_getElem? (i := 19) rfl)
theorem w_20 {a0 : Array Value} {Z : State} (hw : ∀ d ∈ tables_1, d.before a0 Z = true) : (Jvm.Cond.static ({ cls := "java/lang/Math", name := "min", desc := "(JJ)J" } : Jvm.MethodName)).before a0 Z = true := hw _ (List.mem_of_getElem? (i := 20) rfl)
theorem w_21 {a0 : Array Value} {Z : State} (hw : ∀ d ∈ tables_1, d.before a0 Z = true) : (Jvm.Cond.code ({ cls := "java/lang/Math", name := "min", desc := "(JJ)J" } : Jvm.MethodName) jdk_29_method_70_code (4 : Nat) (Option.some Jvm.ClassFile.FieldType.long)).before a0 Z = true := hw _ (List.mem_of_getElem? (i := 21) rfl)
theorem w_22 {a0 : Array Value} {Z : State} (hw : ∀ d ∈ tables_1, d.before a0 Z = true) : (Jvm.Cond.fieldLink "com/example/nimble_calculus/nimblecalculus/equivalence/Splits" (28 : Nat) "com/example/nimble_calculus/nimblecalculus/equivalence/Splits" "parent" "[I").before a0 Z = true := hw _ (List.mem_of_getElem? (i := 22) rfl)
theorem w_23 {a0 : Array Value} {Z : State} (hw : ∀ d ∈ tables_1, d.before a0 Z = true) : (Jvm.Cond.laysFinal "com/example/nimble_calculus/nimblecalculus/equivalence/Splits" "com/example/nimble_calculus/nimblecalculus/equivalence/Splits" "parent" "[I").before a0 Z = true := hw _ (List.mem_of_getElem? (i := 23) rfl)
theorem w_24 {a0 : Array Value} {Z : State} (hw : ∀ d ∈ tables_1, d.before a0 Z = true) : (Jvm.Cond.fieldLink "com/example/nimble_calculus/nimblecalculus/equivalence/Splits" (32 : Nat) "com/example/nimble_calculus/nimblecalculus/equivalence/Splits" "born" "[I").before a0 Z = true := hw _ (List.mem_of_getElem? (i := 24) rfl)
theorem w_25 {a0 : Array Value} {Z : State} (hw : ∀ d ∈ tables_1, d.before a0 Z = true) : (Jvm.Cond.laysFinal "com/example/nimble_calculus/nimblecalculus/equivalence/Splits" "com/example/nimble_calculus/nimblecalculus/equivalence/Splits" "born" "[I").before a0 Z = true := hw _ (List.mem_of_getElem? (i := 25) rfl)
theorem w_26 {a0 : Array Value} {Z : State} (hw : ∀ d ∈ tables_1, d.before a0 Z = true) : (Jvm.Cond.fieldLink "com/example/nimble_calculus/nimblecalculus/equivalence/Splits" (35 : Nat) "com/example/nimble_calculus/nimblecalculus/equivalence/Splits" "representative" "[I").before a0 Z = true := hw _ (List.mem_of_getElem? (i := 26) rfl)
theorem w_27 {a0 : Array Value} {Z : State} (hw : ∀ d ∈ tables_1, d.before a0 Z = true) : (Jvm.Cond.laysFinal "com/example/nimble_calculus/nimblecalculus/equivalence/Splits" "com/example/nimble_calculus/nimblecalculus/equivalence/Splits" "representative" "[I").before a0 Z = true := hw _ (List.mem_of_getElem? (i := 27) rfl)
theorem w_28 {a0 : Array Value} {Z : State} (hw : ∀ d ∈ tables_1, d.before a0 Z = true) : (Jvm.Cond.methodLink "com/example/nimble_calculus/nimblecalculus/equivalence/Splits" (38 : Nat) ({ cls := "java/lang/Math", name := "max", desc := "(II)I" } : Jvm.MethodName)).before a0 Z = true := hw _ (List.mem_of_getElem? (i := 28) rfl)
theorem w_29 {a0 : Array Value} {Z : State} (hw : ∀ d ∈ tables_1, d.before a0 Z = true) : (Jvm.Cond.static ({ cls := "java/lang/Math", name := "max", desc := "(II)I" } : Jvm.MethodName)).before a0 Z = true := hw _ (List.mem_of_getElem? (i := 29) rfl)
theorem w_30 {a0 : Array Value} {Z : State} (hw : ∀ d ∈ tables_1, d.before a0 Z = true) : (Jvm.Cond.code ({ cls := "java/lang/Math", name := "max", desc := "(II)I" } : Jvm.MethodName) jdk_29_method_65_code (2 : Nat) (Option.some Jvm.ClassFile.FieldType.int)).before a0 Z = true := hw _ (List.mem_of_getElem? (i := 30) rfl)
theorem w_31 {a0 : Array Value} {Z : State} (hw : ∀ d ∈ tables_1, d.before a0 Z = true) : (Jvm.Cond.fieldLink "com/example/nimble_calculus/nimblecalculus/equivalence/Splits" (41 : Nat) "com/example/nimble_calculus/nimblecalculus/equivalence/Splits" "nodeOfBlock" "[I").before a0 Z = true := hw _ (List.mem_of_getElem? (i := 31) rfl)
theorem w_32 {a0 : Array Value} {Z : State} (hw : ∀ d ∈ tables_1, d.before a0 Z = true) : (Jvm.Cond.laysFinal "com/example/nimble_calculus/nimblecalculus/equivalence/Splits" "com/example/nimble_calculus/nimblecalculus/equivalence/Splits" "nodeOfBlock" "[I").before a0 Z = true := hw _ (List.mem_of_getElem? (i := 32) rfl)
theorem w_33 {a0 : Array Value} {Z : State} (hw : ∀ d ∈ tables_1, d.before a0 Z = true) : (Jvm.Cond.methodLink "com/example/nimble_calculus/nimblecalculus/equivalence/SplitsBlockBeforePinLaw" (13 : Nat) ({ cls := "com/example/nimble_calculus/nimblecalculus/equivalence/Splits", name := "beginSplit", desc := "(I)V" } : Jvm.MethodName)).before a0 Z = true := hw _ (List.mem_of_getElem? (i := 33) rfl)
theorem w_34 {a0 : Array Value} {Z : State} (hw : ∀ d ∈ tables_1, d.before a0 Z = true) : (Jvm.Cond.declares ({ cls := "com/example/nimble_calculus/nimblecalculus/equivalence/Splits", name := "beginSplit", desc := "(I)V" } : Jvm.MethodName)).before a0 Z = true := hw _ (List.mem_of_getElem? (i := 34) rfl)
theorem w_35 {a0 : Array Value} {Z : State} (hw : ∀ d ∈ tables_1, d.before a0 Z = true) : (Jvm.Cond.instanceMethod ({ cls := "com/example/nimble_calculus/nimblecalculus/equivalence/Splits", name := "beginSplit", desc := "(I)V" } : Jvm.MethodName)).before a0 Z = true := hw _ (List.mem_of_getElem? (i := 35) rfl)
theorem w_36 {a0 : Array Value} {Z : State} (hw : ∀ d ∈ tables_1, d.before a0 Z = true) : (Jvm.Cond.selects "com/example/nimble_calculus/nimblecalculus/equivalence/Splits" ({ cls := "com/example/nimble_calculus/nimblecalculus/equivalence/Splits", name := "beginSplit", desc := "(I)V" } : Jvm.MethodName) ({ cls := "com/example/nimble_calculus/nimblecalculus/equivalence/Splits", name := "beginSplit", desc := "(I)V" } : Jvm.MethodName)).before a0 Z = true := hw _ (List.mem_of_getElem? (i := 36) rfl)
theorem w_37 {a0 : Array Value} {Z : State} (hw : ∀ d ∈ tables_1, d.before a0 Z = true) : (Jvm.Cond.code ({ cls := "com/example/nimble_calculus/nimblecalculus/equivalence/Splits", name := "beginSplit", desc := "(I)V" } : Jvm.MethodName) prog_61_method_2_code (2 : Nat) (Option.none : Option Jvm.ClassFile.FieldType)).before a0 Z = true := hw _ (List.mem_of_getElem? (i := 37) rfl)
theorem w_38 {a0 : Array Value} {Z : State} (hw : ∀ d ∈ tables_1, d.before a0 Z = true) : (Jvm.Cond.fieldLink "com/example/nimble_calculus/nimblecalculus/equivalence/Splits" (44 : Nat) "com/example/nimble_calculus/nimblecalculus/equivalence/Splits" "splitCount" "I").before a0 Z = true := hw _ (List.mem_of_getElem? (i := 38) rfl)
theorem w_39 {a0 : Array Value} {Z : State} (hw : ∀ d ∈ tables_1, d.before a0 Z = true) : (Jvm.Cond.lays "com/example/nimble_calculus/nimblecalculus/equivalence/Splits" "com/example/nimble_calculus/nimblecalculus/equivalence/Splits" "splitCount" "I").before a0 Z = true := hw _ (List.mem_of_getElem? (i := 39) rfl)
theorem w_40 {a0 : Array Value} {Z : State} (hw : ∀ d ∈ tables_1, d.before a0 Z = true) : (Jvm.Cond.fieldLink "com/example/nimble_calculus/nimblecalculus/equivalence/Splits" (47 : Nat) "com/example/nimble_calculus/nimblecalculus/equivalence/Splits" "splitting" "I").before a0 Z = true := hw _ (List.mem_of_getElem? (i := 40) rfl)
theorem w_41 {a0 : Array Value} {Z : State} (hw : ∀ d ∈ tables_1, d.before a0 Z = true) : (Jvm.Cond.lays "com/example/nimble_calculus/nimblecalculus/equivalence/Splits" "com/example/nimble_calculus/nimblecalculus/equivalence/Splits" "splitting" "I").before a0 Z = true := hw _ (List.mem_of_getElem? (i := 41) rfl)
theorem w_42 {a0 : Array Value} {Z : State} (hw : ∀ d ∈ tables_1, d.before a0 Z = true) : (Jvm.Cond.methodLink "com/example/nimble_calculus/nimblecalculus/equivalence/SplitsBlockBeforePinLaw" (16 : Nat) ({ cls := "com/example/nimble_calculus/nimblecalculus/equivalence/Splits", name := "addPart", desc := "(II)V" } : Jvm.MethodName)).before a0 Z = true := hw _ (List.mem_of_getElem? (i := 42) rfl)
theorem w_43 {a0 : Array Value} {Z : State} (hw : ∀ d ∈ tables_1, d.before a0 Z = true) : (Jvm.Cond.declares ({ cls := "com/example/nimble_calculus/nimblecalculus/equivalence/Splits", name := "addPart", desc := "(II)V" } : Jvm.MethodName)).before a0 Z = true := hw _ (List.mem_of_getElem? (i := 43) rfl)
theorem w_44 {a0 : Array Value} {Z : State} (hw : ∀ d ∈ tables_1, d.before a0 Z = true) : (Jvm.Cond.instanceMethod ({ cls := "com/example/nimble_calculus/nimblecalculus/equivalence/Splits", name := "addPart", desc := "(II)V" } : Jvm.MethodName)).before a0 Z = true := hw _ (List.mem_of_getElem? (i := 44) rfl)
theorem w_45 {a0 : Array Value} {Z : State} (hw : ∀ d ∈ tables_1, d.before a0 Z = true) : (Jvm.Cond.selects "com/example/nimble_calculus/nimblecalculus/equivalence/Splits" ({ cls := "com/example/nimble_calculus/nimblecalculus/equivalence/Splits", name := "addPart", desc := "(II)V" } : Jvm.MethodName) ({ cls := "com/example/nimble_calculus/nimblecalculus/equivalence/Splits", name := "addPart", desc := "(II)V" } : Jvm.MethodName)).before a0 Z = true := hw _ (List.mem_of_getElem? (i := 45) rfl)
theorem w_46 {a0 : Array Value} {Z : State} (hw : ∀ d ∈ tables_1, d.before a0 Z = true) : (Jvm.Cond.code ({ cls := "com/example/nimble_calculus/nimblecalculus/equivalence/Splits", name := "addPart", desc := "(II)V" } : Jvm.MethodName) prog_61_method_3_code (4 : Nat) (Option.none : Option Jvm.ClassFile.FieldType)).before a0 Z = true := hw _ (List.mem_of_getElem? (i := 46) rfl)
theorem w_47 {a0 : Array Value} {Z : State} (hw : ∀ d ∈ tables_1, d.before a0 Z = true) : (Jvm.Cond.methodLink "com/example/nimble_calculus/nimblecalculus/equivalence/SplitsBlockBeforePinLaw" (20 : Nat) ({ cls := "com/example/nimble_calculus/nimblecalculus/equivalence/Splits", name := "finish", desc := "([I)V" } : Jvm.MethodName)).before a0 Z = true := hw _ (List.mem_of_getElem? (i := 47) rfl)
theorem w_48 {a0 : Array Value} {Z : State} (hw : ∀ d ∈ tables_1, d.before a0 Z = true) : (Jvm.Cond.declares ({ cls := "com/example/nimble_calculus/nimblecalculus/equivalence/Splits", name := "finish", desc := "([I)V" } : Jvm.MethodName)).before a0 Z = true := hw _ (List.mem_of_getElem? (i := 48) rfl)
theorem w_49 {a0 : Array Value} {Z : State} (hw : ∀ d ∈ tables_1, d.before a0 Z = true) : (Jvm.Cond.instanceMethod ({ cls := "com/example/nimble_calculus/nimblecalculus/equivalence/Splits", name := "finish", desc := "([I)V" } : Jvm.MethodName)).before a0 Z = true := hw _ (List.mem_of_getElem? (i := 49) rfl)
theorem w_50 {a0 : Array Value} {Z : State} (hw : ∀ d ∈ tables_1, d.before a0 Z = true) : (Jvm.Cond.selects "com/example/nimble_calculus/nimblecalculus/equivalence/Splits" ({ cls := "com/example/nimble_calculus/nimblecalculus/equivalence/Splits", name := "finish", desc := "([I)V" } : Jvm.MethodName) ({ cls := "com/example/nimble_calculus/nimblecalculus/equivalence/Splits", name := "finish", desc := "([I)V" } : Jvm.MethodName)).before a0 Z = true := hw _ (List.mem_of_getElem? (i := 50) rfl)
theorem w_51 {a0 : Array Value} {Z : State} (hw : ∀ d ∈ tables_1, d.before a0 Z = true) : (Jvm.Cond.code ({ cls := "com/example/nimble_calculus/nimblecalculus/equivalence/Splits", name := "finish", desc := "([I)V" } : Jvm.MethodName) prog_61_method_4_code (8 : Nat) (Option.none : Option Jvm.ClassFile.FieldType)).before a0 Z = true := hw _ (List.mem_of_getElem? (i := 51) rfl)
theorem w_52 {a0 : Array Value} {Z : State} (hw : ∀ d ∈ tables_1, d.before a0 Z = true) : (Jvm.Cond.fieldLink "com/example/nimble_calculus/nimblecalculus/equivalence/Splits" (50 : Nat) "com/example/nimble_calculus/nimblecalculus/equivalence/Splits" "leaf" "[I").before a0 Z = true := hw _ (List.mem_of_getElem? (i := 52) rfl)
theorem w_53 {a0 : Array Value} {Z : State} (hw : ∀ d ∈ tables_1, d.before a0 Z = true) : (Jvm.Cond.lays "com/example/nimble_calculus/nimblecalculus/equivalence/Splits" "com/example/nimble_calculus/nimblecalculus/equivalence/Splits" "leaf" "[I").before a0 Z = true := hw _ (List.mem_of_getElem? (i := 53) rfl)
theorem w_54 {a0 : Array Value} {Z : State} (hw : ∀ d ∈ tables_1, d.before a0 Z = true) : (Jvm.Cond.fieldLink "com/example/nimble_calculus/nimblecalculus/equivalence/Splits" (53 : Nat) "com/example/nimble_calculus/nimblecalculus/equivalence/Splits" "height" "[I").before a0 Z = true := hw _ (List.mem_of_getElem? (i := 54) rfl)
theorem w_55 {a0 : Array Value} {Z : State} (hw : ∀ d ∈ tables_1, d.before a0 Z = true) : (Jvm.Cond.lays "com/example/nimble_calculus/nimblecalculus/equivalence/Splits" "com/example/nimble_calculus/nimblecalculus/equivalence/Splits" "height" "[I").before a0 Z = true := hw _ (List.mem_of_getElem? (i := 55) rfl)
theorem w_56 {a0 : Array Value} {Z : State} (hw : ∀ d ∈ tables_1, d.before a0 Z = true) : (Jvm.Cond.methodLink "com/example/nimble_calculus/nimblecalculus/equivalence/Splits" (56 : Nat) ({ cls := "java/lang/Integer", name := "numberOfLeadingZeros", desc := "(I)I" } : Jvm.MethodName)).before a0 Z = true := hw _ (List.mem_of_getElem? (i := 56) rfl)
theorem w_57 {a0 : Array Value} {Z : State} (hw : ∀ d ∈ tables_1, d.before a0 Z = true) : (Jvm.Cond.static ({ cls := "java/lang/Integer", name := "numberOfLeadingZeros", desc := "(I)I" } : Jvm.MethodName)).before a0 Z = true := hw _ (List.mem_of_getElem? (i := 57) rfl)
theorem w_58 {a0 : Array Value} {Z : State} (hw : ∀ d ∈ tables_1, d.before a0 Z = true) : (Jvm.Cond.initialized "java/lang/Integer").before a0 Z = true := hw _ (List.mem_of_getElem? (i := 58) rfl)
theorem w_59 {a0 : Array Value} {Z : State} (hw : ∀ d ∈ tables_1, d.before a0 Z = true) : (Jvm.Cond.code ({ cls := "java/lang/Integer", name := "numberOfLeadingZeros", desc := "(I)I" } : Jvm.MethodName) jdk_33_method_47_code (2 : Nat) (Option.some Jvm.ClassFile.FieldType.int)).before a0 Z = true := hw _ (List.mem_of_getElem? (i := 59) rfl)
theorem w_60 {a0 : Array Value} {Z : State} (hw : ∀ d ∈ tables_1, d.before a0 Z = true) : (Jvm.Cond.constant "java/lang/Integer" (264 : Nat) (65536 : Int32)).before a0 Z = true := hw _ (List.mem_of_getElem? (i := 60) rfl)
theorem w_61 {a0 : Array Value} {Z : State} (hw : ∀ d ∈ tables_1, d.before a0 Z = true) : (Jvm.Cond.classLink "com/example/nimble_calculus/nimblecalculus/equivalence/Splits" (60 : Nat) "[I").before a0 Z = true := hw _ (List.mem_of_getElem? (i := 61) rfl)
theorem w_62 {a0 : Array Value} {Z : State} (hw : ∀ d ∈ tables_1, d.before a0 Z = true) : (Jvm.Cond.arrayOver (Jvm.ClassFile.FieldType.array Jvm.ClassFile.FieldType.int)).before a0 Z = true := hw _ (List.mem_of_getElem? (i := 62) rfl)
theorem w_63 {a0 : Array Value} {Z : State} (hw : ∀ d ∈ tables_1, d.before a0 Z = true) : (Jvm.Cond.fieldLink "com/example/nimble_calculus/nimblecalculus/equivalence/Splits" (61 : Nat) "com/example/nimble_calculus/nimblecalculus/equivalence/Splits" "jumps" "[[I").before a0 Z = true := hw _ (List.mem_of_getElem? (i := 63) rfl)
theorem w_64 {a0 : Array Value} {Z : State} (hw : ∀ d ∈ tables_1, d.before a0 Z = true) : (Jvm.Cond.lays "com/example/nimble_calculus/nimblecalculus/equivalence/Splits" "com/example/nimble_calculus/nimblecalculus/equivalence/Splits" "jumps" "[[I").before a0 Z = true := hw _ (List.mem_of_getElem? (i := 64) rfl)
theorem w_65 {a0 : Array Value} {Z : State} (hw : ∀ d ∈ tables_1, d.before a0 Z = true) : (Jvm.Cond.methodLink "com/example/nimble_calculus/nimblecalculus/equivalence/Splits" (65 : Nat) ({ cls := "java/util/Arrays", name := "copyOf", desc := "([II)[I" } : Jvm.MethodName)).before a0 Z = true := hw _ (List.mem_of_getElem? (i := 65) rfl)
theorem w_66 {a0 : Array Value} {Z : State} (hw : ∀ d ∈ tables_1, d.before a0 Z = true) : (Jvm.Cond.static ({ cls := "java/util/Arrays", name := "copyOf", desc := "([II)[I" } : Jvm.MethodName)).before a0 Z = true := hw _ (List.mem_of_getElem? (i := 66) rfl)
theorem w_67 {a0 : Array Value} {Z : State} (hw : ∀ d ∈ tables_1, d.before a0 Z = true) : (Jvm.Cond.initialized "java/util/Arrays").before a0 Z = true := hw _ (List.mem_of_getElem? (i := 67) rfl)
theorem w_68 {a0 : Array Value} {Z : State} (hw : ∀ d ∈ tables_1, d.before a0 Z = true) : (Jvm.Cond.code ({ cls := "java/util/Arrays", name := "copyOf", desc := "([II)[I" } : Jvm.MethodName) jdk_65_method_123_code (3 : Nat) (Option.some (Jvm.ClassFile.FieldType.array Jvm.ClassFile.FieldType.int))).before a0 Z = true := hw _ (List.mem_of_getElem? (i := 68) rfl)
theorem w_69 {a0 : Array Value} {Z : State} (hw : ∀ d ∈ tables_1, d.before a0 Z = true) : (Jvm.Cond.methodLink "java/util/Arrays" (316 : Nat) ({ cls := "[I", name := "clone", desc := "()Ljava/lang/Object;" } : Jvm.MethodName)).before a0 Z = true := hw _ (List.mem_of_getElem? (i := 69) rfl)
theorem w_70 {a0 : Array Value} {Z : State} (hw : ∀ d ∈ tables_1, d.before a0 Z = true) : (Jvm.Cond.sameMethod "[I" "java/lang/Object" "clone" "()Ljava/lang/Object;").before a0 Z = true := hw _ (List.mem_of_getElem? (i := 70) rfl)
theorem w_72 {a0 : Array Value} {Z : State} (hw : ∀ d ∈ tables_1, d.before a0 Z = true) : (Jvm.Cond.instanceMethod ({ cls := "java/lang/Object", name := "clone", desc := "()Ljava/lang/Object;" } : Jvm.MethodName)).before a0 Z = true := hw _ (List.mem_of_getElem? (i := 72) rfl)
theorem w_73 {a0 : Array Value} {Z : State} (hw : ∀ d ∈ tables_1, d.before a0 Z = true) : (Jvm.Cond.selects "[I" ({ cls := "[I", name := "clone", desc := "()Ljava/lang/Object;" } : Jvm.MethodName) ({ cls := "java/lang/Object", name := "clone", desc := "()Ljava/lang/Object;" } : Jvm.MethodName)).before a0 Z = true := hw _ (List.mem_of_getElem? (i := 73) rfl)
theorem w_74 {a0 : Array Value} {Z : State} (hw : ∀ d ∈ tables_1, d.before a0 Z = true) : (Jvm.Cond.native ({ cls := "java/lang/Object", name := "clone", desc := "()Ljava/lang/Object;" } : Jvm.MethodName)).before a0 Z = true := hw _ (List.mem_of_getElem? (i := 74) rfl)
theorem w_75 {a0 : Array Value} {Z : State} (hw : ∀ d ∈ tables_1, d.before a0 Z = true) : (Jvm.Cond.castable "[I" "java/lang/Cloneable").before a0 Z = true := hw _ (List.mem_of_getElem? (i := 75) rfl)
theorem w_76 {a0 : Array Value} {Z : State} (hw : ∀ d ∈ tables_1, d.before a0 Z = true) : (Jvm.Cond.classLink "java/util/Arrays" (317 : Nat) "[I").before a0 Z = true := hw _ (List.mem_of_getElem? (i := 76) rfl)
theorem w_78 {a0 : Array Value} {Z : State} (hw : ∀ d ∈ tables_1, d.before a0 Z = true) : (Jvm.Cond.methodLink "com/example/nimble_calculus/nimblecalculus/equivalence/SplitsBlockBeforePinLaw" (24 : Nat) ({ cls := "com/example/nimble_calculus/nimblecalculus/equivalence/Splits", name := "blockBefore", desc := "(II)I" } : Jvm.MethodName)).before a0 Z = true := hw _ (List.mem_of_getElem? (i := 78) rfl)
theorem w_79 {a0 : Array Value} {Z : State} (hw : ∀ d ∈ tables_1, d.before a0 Z = true) : (Jvm.Cond.declares ({ cls := "com/example/nimble_calculus/nimblecalculus/equivalence/Splits", name := "blockBefore", desc := "(II)I" } : Jvm.MethodName)).before a0 Z = true := hw _ (List.mem_of_getElem? (i := 79) rfl)
theorem w_80 {a0 : Array Value} {Z : State} (hw : ∀ d ∈ tables_1, d.before a0 Z = true) : (Jvm.Cond.instanceMethod ({ cls := "com/example/nimble_calculus/nimblecalculus/equivalence/Splits", name := "blockBefore", desc := "(II)I" } : Jvm.MethodName)).before a0 Z = true := hw _ (List.mem_of_getElem? (i := 80) rfl)
theorem w_81 {a0 : Array Value} {Z : State} (hw : ∀ d ∈ tables_1, d.before a0 Z = true) : (Jvm.Cond.selects "com/example/nimble_calculus/nimblecalculus/equivalence/Splits" ({ cls := "com/example/nimble_calculus/nimblecalculus/equivalence/Splits", name := "blockBefore", desc := "(II)I" } : Jvm.MethodName) ({ cls := "com/example/nimble_calculus/nimblecalculus/equivalence/Splits", name := "blockBefore", desc := "(II)I" } : Jvm.MethodName)).before a0 Z = true := hw _ (List.mem_of_getElem? (i := 81) rfl)
theorem w_82 {a0 : Array Value} {Z : State} (hw : ∀ d ∈ tables_1, d.before a0 Z = true) : (Jvm.Cond.code ({ cls := "com/example/nimble_calculus/nimblecalculus/equivalence/Splits", name := "blockBefore", desc := "(II)I" } : Jvm.MethodName) prog_61_method_8_code (6 : Nat) (Option.some Jvm.ClassFile.FieldType.int)).before a0 Z = true := hw _ (List.mem_of_getElem? (i := 82) rfl)
theorem w_83 {a0 : Array Value} {Z : State} (hw : ∀ d ∈ tables_1, d.before a0 Z = true) : (Jvm.Cond.methodLink "com/example/nimble_calculus/nimblecalculus/equivalence/SplitsBlockBeforePinLaw" (28 : Nat) ({ cls := "com/example/nimble_calculus/nimblecalculus/equivalence/SplitsBlockBeforePinLaw", name := "expected", desc := "(ZII)I" } : Jvm.MethodName)).before a0 Z = true := hw _ (List.mem_of_getElem? (i := 83) rfl)
theorem w_84 {a0 : Array Value} {Z : State} (hw : ∀ d ∈ tables_1, d.before a0 Z = true) : (Jvm.Cond.static ({ cls := "com/example/nimble_calculus/nimblecalculus/equivalence/SplitsBlockBeforePinLaw", name := "expected", desc := "(ZII)I" } : Jvm.MethodName)).before a0 Z = true := hw _ (List.mem_of_getElem? (i := 84) rfl)
theorem w_85 {a0 : Array Value} {Z : State} (hw : ∀ d ∈ tables_1, d.before a0 Z = true) : (Jvm.Cond.initialized "com/example/nimble_calculus/nimblecalculus/equivalence/SplitsBlockBeforePinLaw").before a0 Z = true := hw _ (List.mem_of_getElem? (i := 85) rfl)
theorem w_86 {a0 : Array Value} {Z : State} (hw : ∀ d ∈ tables_1, d.before a0 Z = true) : (Jvm.Cond.code ({ cls := "com/example/nimble_calculus/nimblecalculus/equivalence/SplitsBlockBeforePinLaw", name := "expected", desc := "(ZII)I" } : Jvm.MethodName) method_2_code (3 : Nat) (Option.some Jvm.ClassFile.FieldType.int)).before a0 Z = true := hw _ (List.mem_of_getElem? (i := 86) rfl)
theorem own_rem4 (x : Int32) : (x &&& (2147483647 : Int32)) % (4 : Int32) = (0 : Int32) ∨ (x &&& (2147483647 : Int32)) % (4 : Int32) = (1 : Int32) ∨ (x &&& (2147483647 : Int32)) % (4 : Int32) = (2 : Int32) ∨ (x &&& (2147483647 : Int32)) % (4 : Int32) = (3 : Int32) := by
  have h := (c_and x 2147483647 (by decide)).1
  have h2 := (c_irem (x &&& (2147483647 : Int32)) (4 : Int32) 4 rfl).1 h
  generalize (x &&& (2147483647 : Int32)) % (4 : Int32) = z at h2 ⊢
  generalize (x &&& (2147483647 : Int32)).toInt = y at h2
  simp only [← Int32.toInt_inj]
  have q0 : (0 : Int32).toInt = 0 := rfl
  have q1 : (1 : Int32).toInt = 1 := rfl
  have q2 : (2 : Int32).toInt = 2 := rfl
  have q3 : (3 : Int32).toInt = 3 := rfl
  omega
theorem d5_0 : decode jdk_29_method_65_code 0 = .ok (.iload_n 0, 1) := by decide +kernel
theorem d5_1 : decode jdk_29_method_65_code 1 = .ok (.iload_n 1, 1) := by decide +kernel
theorem d5_2 : decode jdk_29_method_65_code 2 = .ok (.if_icmp .lt 7, 3) := by decide +kernel
theorem d5_5 : decode jdk_29_method_65_code 5 = .ok (.iload_n 0, 1) := by decide +kernel
theorem d5_6 : decode jdk_29_method_65_code 6 = .ok (.goto 4, 3) := by decide +kernel
theorem d5_9 : decode jdk_29_method_65_code 9 = .ok (.iload_n 1, 1) := by decide +kernel
theorem d5_10 : decode jdk_29_method_65_code 10 = .ok (.ireturn, 1) := by decide +kernel
theorem ef_rm5 (m : MethodId) (x0 : Int32) (x1 : Int32) : entryFrame m #[(.int x0), (.int x1)] 2 = mkF m 0 #[.val (.int x0), .val (.int x1)] [] := by first | (simp [entryFrame, mkF, argsToLocals, Value.category]; done) | (simp [entryFrame, mkF, argsToLocals, *]; done) | rfl
set_option maxRecDepth 65536 in
set_option maxHeartbeats 2000000 in
theorem rm5 (l : Launch) (Z : State) (a0 : Array Value) (hw : ∀ d ∈ tables_1, d.before a0 Z = true) (x : Int32) (y : Int32) (r : Int32) (h0 : Heap) (hE : Ext Z.heap h0) (hr : (if x < y then y else x) = r) :
    Con l Z (⟨"java/lang/Math", "max", "(II)I"⟩ : MethodName) jdk_29_method_65_code 2 (some .int) ({ frames := 0, cells := 0, slots := 0, locals := 0 } : Room) #[(.int x), (.int y)] h0 (fun vv hh => vv = some (.int r) ∧ h0 = hh) := by
  refine Con.of (by decide +kernel) hE ?_
  intro p e s m below T (X : Sd l Z "java/lang/Math" "max" jdk_29_method_65_code 2 (some .int) ({ frames := 0, cells := 0, slots := 0, locals := 0 } : Room) p e s m #[(.int x), (.int y)] below T h0 0 0)
  refine End.frame (ef_rm5 m x y) ?_
  show End Z p e below s _ _ _ _ (mkF m 0 #[.val (.int x), .val (.int y)] [])
  refine E_iloadN (pc' := 1) X d5_0 rfl rfl ?_
  refine E_iloadN (pc' := 2) X d5_1 rfl rfl ?_
  refine E_icmp (pcY := 9) (pcN := 5) X (ic_lt _ _) d5_2 (by decide) rfl rfl (fun hc2_0 => ?_) (fun hc2_0 => ?_)
  · skip
    refine E_iloadN (pc' := 10) X d5_9 rfl rfl ?_
    exact E_retI X d5_10 (by decide) (by decide) ⟨(by rw [← hr, if_pos hc2_0]), rfl⟩
  · skip
    refine E_iloadN (pc' := 6) X d5_5 rfl rfl ?_
    refine E_goto (pc' := 10) X d5_6 (by decide) rfl ?_
    exact E_retI X d5_10 (by decide) (by decide) ⟨(by rw [← hr, if_neg hc2_0]), rfl⟩
theorem d3_0 : decode jdk_29_method_66_code 0 = .ok (.lload_n 0, 1) := by decide +kernel
theorem d3_1 : decode jdk_29_method_66_code 1 = .ok (.lload_n 2, 1) := by decide +kernel
theorem d3_2 : decode jdk_29_method_66_code 2 = .ok (.lcmp, 1) := by decide +kernel
theorem d3_3 : decode jdk_29_method_66_code 3 = .ok (.ifCond .lt 7, 3) := by decide +kernel
theorem d3_6 : decode jdk_29_method_66_code 6 = .ok (.lload_n 0, 1) := by decide +kernel
theorem d3_7 : decode jdk_29_method_66_code 7 = .ok (.goto 4, 3) := by decide +kernel
theorem d3_10 : decode jdk_29_method_66_code 10 = .ok (.lload_n 2, 1) := by decide +kernel
theorem d3_11 : decode jdk_29_method_66_code 11 = .ok (.lreturn, 1) := by decide +kernel
theorem ef_rm3 (m : MethodId) (x0 : Int64) (x1 : Int64) : entryFrame m #[(.long x0), (.long x1)] 4 = mkF m 0 #[.val (.long x0), .second, .val (.long x1), .second] [] := by first | (simp [entryFrame, mkF, argsToLocals, Value.category]; done) | (simp [entryFrame, mkF, argsToLocals, *]; done) | rfl
set_option maxRecDepth 65536 in
set_option maxHeartbeats 2000000 in
theorem rm3 (l : Launch) (Z : State) (a0 : Array Value) (hw : ∀ d ∈ tables_1, d.before a0 Z = true) (x : Int64) (y : Int64) (r : Int64) (h0 : Heap) (hE : Ext Z.heap h0) (hr : (if x < y then y else x) = r) :
    Con l Z (⟨"java/lang/Math", "max", "(JJ)J"⟩ : MethodName) jdk_29_method_66_code 4 (some .long) ({ frames := 0, cells := 0, slots := 0, locals := 0 } : Room) #[(.long x), (.long y)] h0 (fun vv hh => vv = some (.long r) ∧ h0 = hh) := by
  refine Con.of (by decide +kernel) hE ?_
  intro p e s m below T (X : Sd l Z "java/lang/Math" "max" jdk_29_method_66_code 4 (some .long) ({ frames := 0, cells := 0, slots := 0, locals := 0 } : Room) p e s m #[(.long x), (.long y)] below T h0 0 0)
  refine End.frame (ef_rm3 m x y) ?_
  show End Z p e below s _ _ _ _ (mkF m 0 #[.val (.long x), .second, .val (.long y), .second] [])
  refine E_lloadN (pc' := 1) X d3_0 rfl rfl ?_
  refine E_lloadN (pc' := 2) X d3_1 rfl rfl ?_
  refine E_lcmp (pc' := 3) X d3_2 rfl ?_
  refine E_if (pcY := 10) (pcN := 6) X (il_lt _ _) d3_3 (by decide) rfl rfl (fun hc3_0 => ?_) (fun hc3_0 => ?_)
  · skip
    refine E_lloadN (pc' := 11) X d3_10 rfl rfl ?_
    exact E_retL X d3_11 (by decide) (by decide) ⟨(by rw [← hr, if_pos hc3_0]), rfl⟩
  · skip
    refine E_lloadN (pc' := 7) X d3_6 rfl rfl ?_
    refine E_goto (pc' := 11) X d3_7 (by decide) rfl ?_
    exact E_retL X d3_11 (by decide) (by decide) ⟨(by rw [← hr, if_neg hc3_0]), rfl⟩
theorem d4_0 : decode jdk_29_method_70_code 0 = .ok (.lload_n 0, 1) := by decide +kernel
theorem d4_1 : decode jdk_29_method_70_code 1 = .ok (.lload_n 2, 1) := by decide +kernel
theorem d4_2 : decode jdk_29_method_70_code 2 = .ok (.lcmp, 1) := by decide +kernel
theorem d4_3 : decode jdk_29_method_70_code 3 = .ok (.ifCond .gt 7, 3) := by decide +kernel
theorem d4_6 : decode jdk_29_method_70_code 6 = .ok (.lload_n 0, 1) := by decide +kernel
theorem d4_7 : decode jdk_29_method_70_code 7 = .ok (.goto 4, 3) := by decide +kernel
theorem d4_10 : decode jdk_29_method_70_code 10 = .ok (.lload_n 2, 1) := by decide +kernel
theorem d4_11 : decode jdk_29_method_70_code 11 = .ok (.lreturn, 1) := by decide +kernel
theorem ef_rm4 (m : MethodId) (x0 : Int64) (x1 : Int64) : entryFrame m #[(.long x0), (.long x1)] 4 = mkF m 0 #[.val (.long x0), .second, .val (.long x1), .second] [] := by first | (simp [entryFrame, mkF, argsToLocals, Value.category]; done) | (simp [entryFrame, mkF, argsToLocals, *]; done) | rfl
set_option maxRecDepth 65536 in
set_option maxHeartbeats 2000000 in
theorem rm4 (l : Launch) (Z : State) (a0 : Array Value) (hw : ∀ d ∈ tables_1, d.before a0 Z = true) (x : Int64) (y : Int64) (r : Int64) (h0 : Heap) (hE : Ext Z.heap h0) (hr : (if y < x then y else x) = r) :
    Con l Z (⟨"java/lang/Math", "min", "(JJ)J"⟩ : MethodName) jdk_29_method_70_code 4 (some .long) ({ frames := 0, cells := 0, slots := 0, locals := 0 } : Room) #[(.long x), (.long y)] h0 (fun vv hh => vv = some (.long r) ∧ h0 = hh) := by
  refine Con.of (by decide +kernel) hE ?_
  intro p e s m below T (X : Sd l Z "java/lang/Math" "min" jdk_29_method_70_code 4 (some .long) ({ frames := 0, cells := 0, slots := 0, locals := 0 } : Room) p e s m #[(.long x), (.long y)] below T h0 0 0)
  refine End.frame (ef_rm4 m x y) ?_
  show End Z p e below s _ _ _ _ (mkF m 0 #[.val (.long x), .second, .val (.long y), .second] [])
  refine E_lloadN (pc' := 1) X d4_0 rfl rfl ?_
  refine E_lloadN (pc' := 2) X d4_1 rfl rfl ?_
  refine E_lcmp (pc' := 3) X d4_2 rfl ?_
  refine E_if (pcY := 10) (pcN := 6) X (il_gt _ _) d4_3 (by decide) rfl rfl (fun hc3_0 => ?_) (fun hc3_0 => ?_)
  · skip
    refine E_lloadN (pc' := 11) X d4_10 rfl rfl ?_
    exact E_retL X d4_11 (by decide) (by decide) ⟨(by rw [← hr, if_pos hc3_0]), rfl⟩
  · skip
    refine E_lloadN (pc' := 7) X d4_6 rfl rfl ?_
    refine E_goto (pc' := 11) X d4_7 (by decide) rfl ?_
    exact E_retL X d4_11 (by decide) (by decide) ⟨(by rw [← hr, if_neg hc3_0]), rfl⟩
theorem d1_0 : decode prog_61_method_1_code 0 = .ok (.aload_n 0, 1) := by decide +kernel
theorem d1_1 : decode prog_61_method_1_code 1 = .ok (.invokespecial 1, 3) := by decide +kernel
theorem d1_4 : decode prog_61_method_1_code 4 = .ok (.aload_n 0, 1) := by decide +kernel
theorem d1_5 : decode prog_61_method_1_code 5 = .ok (.iconst 1, 1) := by decide +kernel
theorem d1_6 : decode prog_61_method_1_code 6 = .ok (.putfield 7, 3) := by decide +kernel
theorem d1_9 : decode prog_61_method_1_code 9 = .ok (.ldc2_w 15, 3) := by decide +kernel
theorem d1_12 : decode prog_61_method_1_code 12 = .ok (.lconst 1, 1) := by decide +kernel
theorem d1_13 : decode prog_61_method_1_code 13 = .ok (.ldc2_w 17, 3) := by decide +kernel
theorem d1_16 : decode prog_61_method_1_code 16 = .ok (.iload_n 1, 1) := by decide +kernel
theorem d1_17 : decode prog_61_method_1_code 17 = .ok (.i2l, 1) := by decide +kernel
theorem d1_18 : decode prog_61_method_1_code 18 = .ok (.lmul, 1) := by decide +kernel
theorem d1_19 : decode prog_61_method_1_code 19 = .ok (.lconst 1, 1) := by decide +kernel
theorem d1_20 : decode prog_61_method_1_code 20 = .ok (.lsub, 1) := by decide +kernel
theorem d1_21 : decode prog_61_method_1_code 21 = .ok (.invokestatic 19, 3) := by decide +kernel
theorem d1_24 : decode prog_61_method_1_code 24 = .ok (.invokestatic 25, 3) := by decide +kernel
theorem d1_27 : decode prog_61_method_1_code 27 = .ok (.l2i, 1) := by decide +kernel
theorem d1_28 : decode prog_61_method_1_code 28 = .ok (.istore_n 2, 1) := by decide +kernel
theorem d1_29 : decode prog_61_method_1_code 29 = .ok (.aload_n 0, 1) := by decide +kernel
theorem d1_30 : decode prog_61_method_1_code 30 = .ok (.iload_n 2, 1) := by decide +kernel
theorem d1_31 : decode prog_61_method_1_code 31 = .ok (.newarray .int, 2) := by decide +kernel
theorem d1_33 : decode prog_61_method_1_code 33 = .ok (.putfield 28, 3) := by decide +kernel
theorem d1_36 : decode prog_61_method_1_code 36 = .ok (.aload_n 0, 1) := by decide +kernel
theorem d1_37 : decode prog_61_method_1_code 37 = .ok (.iload_n 2, 1) := by decide +kernel
theorem d1_38 : decode prog_61_method_1_code 38 = .ok (.newarray .int, 2) := by decide +kernel
theorem d1_40 : decode prog_61_method_1_code 40 = .ok (.putfield 32, 3) := by decide +kernel
theorem d1_43 : decode prog_61_method_1_code 43 = .ok (.aload_n 0, 1) := by decide +kernel
theorem d1_44 : decode prog_61_method_1_code 44 = .ok (.iload_n 2, 1) := by decide +kernel
theorem d1_45 : decode prog_61_method_1_code 45 = .ok (.newarray .int, 2) := by decide +kernel
theorem d1_47 : decode prog_61_method_1_code 47 = .ok (.putfield 35, 3) := by decide +kernel
theorem d1_50 : decode prog_61_method_1_code 50 = .ok (.aload_n 0, 1) := by decide +kernel
theorem d1_51 : decode prog_61_method_1_code 51 = .ok (.iconst 1, 1) := by decide +kernel
theorem d1_52 : decode prog_61_method_1_code 52 = .ok (.iload_n 1, 1) := by decide +kernel
theorem d1_53 : decode prog_61_method_1_code 53 = .ok (.invokestatic 38, 3) := by decide +kernel
theorem d1_56 : decode prog_61_method_1_code 56 = .ok (.newarray .int, 2) := by decide +kernel
theorem d1_58 : decode prog_61_method_1_code 58 = .ok (.putfield 41, 3) := by decide +kernel
theorem d1_61 : decode prog_61_method_1_code 61 = .ok (.return_, 1) := by decide +kernel
theorem pd_0 : parseMethodDescriptor "(JJ)J" = some ⟨[.long, .long], some .long⟩ := by decide +kernel
theorem pd_1 : parseMethodDescriptor "(II)I" = some ⟨[.int, .int], some .int⟩ := by decide +kernel
theorem ef_rm1 (m : MethodId) (x0 : Addr) (x1 : Int32) : entryFrame m #[(.ref x0), (.int x1)] 3 = mkF m 0 #[.val (.ref x0), .val (.int x1), .unset] [] := by first | (simp [entryFrame, mkF, argsToLocals, Value.category]; done) | (simp [entryFrame, mkF, argsToLocals, *]; done) | rfl
set_option maxRecDepth 65536 in
set_option maxHeartbeats 2000000 in
theorem rm1 (l : Launch) (Z : State) (a0 : Array Value) (hw : ∀ d ∈ tables_1, d.before a0 Z = true) (a : Addr) (h0 : Heap) (hE : Ext Z.heap h0) (hE0 : Exa Z h0 a "com/example/nimble_calculus/nimblecalculus/equivalence/Splits") (hF1 : Fld Z h0 a "com/example/nimble_calculus/nimblecalculus/equivalence/Splits" "nodeCount" "I" (.int (0 : Int32))) (hF2 : Fld Z h0 a "com/example/nimble_calculus/nimblecalculus/equivalence/Splits" "splitCount" "I" (.int (0 : Int32))) (hF3 : Fld Z h0 a "com/example/nimble_calculus/nimblecalculus/equivalence/Splits" "splitting" "I" (.int (0 : Int32))) (hF4 : Fld Z h0 a "com/example/nimble_calculus/nimblecalculus/equivalence/Splits" "parent" "[I" .null) (hF5 : Fld Z h0 a "com/example/nimble_calculus/nimblecalculus/equivalence/Splits" "born" "[I" .null) (hF6 : Fld Z h0 a "com/example/nimble_calculus/nimblecalculus/equivalence/Splits" "representative" "[I" .null) (hF7 : Fld Z h0 a "com/example/nimble_calculus/nimblecalculus/equivalence/Splits" "nodeOfBlock" "[I" .null) (hF8 : Fld Z h0 a "com/example/nimble_calculus/nimblecalculus/equivalence/Splits" "leaf" "[I" .null) (hF9 : Fld Z h0 a "com/example/nimble_calculus/nimblecalculus/equivalence/Splits" "height" "[I" .null) (hF10 : Fld Z h0 a "com/example/nimble_calculus/nimblecalculus/equivalence/Splits" "jumps" "[[I" .null) (hfr11 : Z.heap.size ≤ a) :
    Con l Z (⟨"com/example/nimble_calculus/nimblecalculus/equivalence/Splits", "<init>", "(I)V"⟩ : MethodName) prog_61_method_1_code 3 none ({ frames := 1, cells := 4, slots := 25, locals := 17 } : Room) #[(.ref a), (.int (4 : Int32))] h0 (fun vv hh => ∃ P : Addr, ∃ B : Addr, ∃ RR : Addr, ∃ NB : Addr, vv = none ∧ Keep h0 hh [a] ∧ h0.size ≤ P ∧ h0.size ≤ B ∧ h0.size ≤ RR ∧ h0.size ≤ NB ∧ Exa Z hh a "com/example/nimble_calculus/nimblecalculus/equivalence/Splits" ∧ Fld Z hh a "com/example/nimble_calculus/nimblecalculus/equivalence/Splits" "nodeCount" "I" (.int (1 : Int32)) ∧ Fld Z hh a "com/example/nimble_calculus/nimblecalculus/equivalence/Splits" "splitCount" "I" (.int (0 : Int32)) ∧ Fld Z hh a "com/example/nimble_calculus/nimblecalculus/equivalence/Splits" "splitting" "I" (.int (0 : Int32)) ∧ Fld Z hh a "com/example/nimble_calculus/nimblecalculus/equivalence/Splits" "parent" "[I" (.ref P) ∧ Fld Z hh a "com/example/nimble_calculus/nimblecalculus/equivalence/Splits" "born" "[I" (.ref B) ∧ Fld Z hh a "com/example/nimble_calculus/nimblecalculus/equivalence/Splits" "representative" "[I" (.ref RR) ∧ Fld Z hh a "com/example/nimble_calculus/nimblecalculus/equivalence/Splits" "nodeOfBlock" "[I" (.ref NB) ∧ Fld Z hh a "com/example/nimble_calculus/nimblecalculus/equivalence/Splits" "leaf" "[I" .null ∧ Fld Z hh a "com/example/nimble_calculus/nimblecalculus/equivalence/Splits" "height" "[I" .null ∧ Fld Z hh a "com/example/nimble_calculus/nimblecalculus/equivalence/Splits" "jumps" "[[I" .null ∧ Ar Z hh P .int [(.int (0 : Int32)), (.int (0 : Int32)), (.int (0 : Int32)), (.int (0 : Int32)), (.int (0 : Int32)), (.int (0 : Int32)), (.int (0 : Int32))] ∧ Ar Z hh B .int [(.int (0 : Int32)), (.int (0 : Int32)), (.int (0 : Int32)), (.int (0 : Int32)), (.int (0 : Int32)), (.int (0 : Int32)), (.int (0 : Int32))] ∧ Ar Z hh RR .int [(.int (0 : Int32)), (.int (0 : Int32)), (.int (0 : Int32)), (.int (0 : Int32)), (.int (0 : Int32)), (.int (0 : Int32)), (.int (0 : Int32))] ∧ Ar Z hh NB .int [(.int (0 : Int32)), (.int (0 : Int32)), (.int (0 : Int32)), (.int (0 : Int32))] ∧ Exa Z hh P "[I" ∧ P ≠ B ∧ P ≠ RR ∧ P ≠ NB ∧ B ≠ RR ∧ B ≠ NB ∧ RR ≠ NB) := by
  refine Con.of (plainFor_of_name (by first | (simp [plainName, overriddenIn]; done) | decide +kernel)) hE ?_
  intro p e s m below T (X : Sd l Z "com/example/nimble_calculus/nimblecalculus/equivalence/Splits" "<init>" prog_61_method_1_code 3 none ({ frames := 1, cells := 4, slots := 25, locals := 17 } : Room) p e s m #[(.ref a), (.int (4 : Int32))] below T h0 0 0)
  refine End.frame (ef_rm1 m a (4 : Int32)) ?_
  have K_0 : Keep h0 h0 [a] := Keep.refl _ _
  show End Z p e below s _ _ _ _ (mkF m 0 #[.val (.ref a), .val (.int (4 : Int32)), .unset] [])
  refine E_aloadN (v := (.ref a)) (pc' := 1) X d1_0 rfl rfl rfl ?_
  refine E_initO (pc' := 4) X (w_8 hw) (w_9 hw) (w_10 hw) rfl d1_1 rfl (by decide) (W := 0) (Nat.le_refl _) (by decide) (fun T X => ?_)
  refine E_aloadN (v := (.ref a)) (pc' := 5) X d1_4 rfl rfl rfl ?_
  refine E_iconst (v := (1 : Int32)) (pc' := 6) X d1_5 rfl rfl ?_
  refine E_putF (pc' := 9) X (host := "") (Or.inl (w_11 hw)) Via.refl hF1 hE0 (Or.inl (w_12 hw)) (w_3 hw) (ty := .int) (by decide) rfl rfl hfr11 d1_6 rfl (fun T h_2 X W_1 => ?_)
  have K_3 : Keep h0 h_2 [a] := K_0.wr W_1 (Or.inl (List.mem_of_getElem? (i := 0) rfl))
  refine E_ldcJ (v := (2147483647 : Int64)) (pc' := 12) X (w_13 hw) d1_9 rfl ?_
  refine E_lconst (v := (1 : Int64)) (pc' := 13) X d1_12 rfl rfl ?_
  refine E_ldcJ (v := (2 : Int64)) (pc' := 16) X (w_14 hw) d1_13 rfl ?_
  refine E_iloadN (pc' := 17) X d1_16 rfl rfl ?_
  refine E_i2l (pc' := 18) X d1_17 rfl ?_
  refine E_eqJ (z := (4 : Int64)) (by decide) ?_
  refine E_lmul (pc' := 19) X d1_18 rfl ?_
  refine E_eqJ (z := (8 : Int64)) (by decide) ?_
  refine E_lconst (v := (1 : Int64)) (pc' := 20) X d1_19 rfl rfl ?_
  refine E_lsub (pc' := 21) X d1_20 rfl ?_
  refine E_eqJ (z := (7 : Int64)) (by decide) ?_
  refine E_callS (pc' := 24) (W := 2) (cells' := 0) (slots' := 0) (argsL := [(.long (1 : Int64)), (.long (7 : Int64))]) (rest := [(.long (2147483647 : Int64))]) X (rm3 l Z a0 hw (1 : Int64) (7 : Int64) (7 : Int64) h_2 X.ext (by decide)) (w_15 hw) (w_16 hw) (w_17 hw) (w_18 hw) (by decide) rfl rfl pd_0 rfl rfl d1_21 rfl (Nat.le_refl _) (by decide) (by decide) rfl rfl (by decide) (by decide) (fun v4 T h_5 X hQ6 => ?_)
  obtain ⟨rfl, rfl⟩ := hQ6
  show End Z p e below s _ _ _ _ (mkF m 24 #[.val (.ref a), .val (.int (4 : Int32)), .unset] [(.long (7 : Int64)), (.long (2147483647 : Int64))])
  refine E_callS (pc' := 27) (W := 0) (cells' := 0) (slots' := 0) (argsL := [(.long (2147483647 : Int64)), (.long (7 : Int64))]) (rest := []) X (rm4 l Z a0 hw (2147483647 : Int64) (7 : Int64) (7 : Int64) h_2 X.ext (by decide)) (w_19 hw) (w_20 hw) (w_17 hw) (w_21 hw) (by decide) rfl rfl pd_0 rfl rfl d1_24 rfl (Nat.le_refl _) (by decide) (by decide) rfl rfl (by decide) (by decide) (fun v8 T h_9 X hQ10 => ?_)
  obtain ⟨rfl, rfl⟩ := hQ10
  show End Z p e below s _ _ _ _ (mkF m 27 #[.val (.ref a), .val (.int (4 : Int32)), .unset] [(.long (7 : Int64))])
  refine E_l2i (pc' := 28) X d1_27 rfl ?_
  refine E_eqI (z := (7 : Int32)) (by decide) ?_
  refine E_istoreN (Ls' := #[.val (.ref a), .val (.int (4 : Int32)), .val (.int (7 : Int32))]) (pc' := 29) X d1_28 rfl rfl ?_
  refine E_aloadN (v := (.ref a)) (pc' := 30) X d1_29 rfl rfl rfl ?_
  refine E_iloadN (pc' := 31) X d1_30 rfl rfl ?_
  have E_17 : Exa Z h_2 a "com/example/nimble_calculus/nimblecalculus/equivalence/Splits" := (hE0.wr W_1)
  have le_o12 := X.le
  refine E_newAE (pc' := 33) X (aty := .int) (n := (7 : Int32)) (cap := 7) (vs := [(.int (0 : Int32)), (.int (0 : Int32)), (.int (0 : Int32)), (.int (0 : Int32)), (.int (0 : Int32)), (.int (0 : Int32)), (.int (0 : Int32))]) (cells' := 1) (slots' := 7) (ad := "[I") (by decide) (w_1 hw) d1_31 rfl (by decide) (by decide) (by decide) rfl rfl rfl (by decide) (by decide) (fun T h_13 o12 g_16 X Ex_14 Aa_15 EaAa_15 => ?_)
  have b_18 : h0.size ≤ o12 := by rw [g_16]; exact K_3.1
  have K_19 : Keep h0 h_13 [a] := K_3.ext Ex_14
  have fr_20 : Z.heap.size ≤ o12 := by rw [g_16]; exact le_o12
  have ne_21 : a ≠ o12 := Nat.ne_of_lt (by rw [g_16]; exact E_17.lt)
  have F_22 : Fld Z h_13 a "com/example/nimble_calculus/nimblecalculus/equivalence/Splits" "parent" "[I" .null := ((hF4.other W_1 (Or.inr (slot_ne (Or.inr (w_23 hw)) (Or.inl (w_12 hw)) (by decide) (t := (.array .int)) (t' := .int) (by decide) (by decide)))).ext Ex_14)
  have E_23 : Exa Z h_13 a "com/example/nimble_calculus/nimblecalculus/equivalence/Splits" := (E_17.ext Ex_14)
  refine E_putF (pc' := 36) X (host := "") (Or.inl (w_22 hw)) Via.refl F_22 E_23 (Or.inr ⟨(w_23 hw), rfl, rfl⟩) (w_3 hw) (ty := (.array .int)) (by decide) rfl rfl hfr11 d1_33 rfl (fun T h_25 X W_24 => ?_)
  have K_26 : Keep h0 h_25 [a] := K_19.wr W_24 (Or.inl (List.mem_of_getElem? (i := 0) rfl))
  refine E_aloadN (v := (.ref a)) (pc' := 37) X d1_36 rfl rfl rfl ?_
  refine E_iloadN (pc' := 38) X d1_37 rfl rfl ?_
  have E_32 : Exa Z h_25 a "com/example/nimble_calculus/nimblecalculus/equivalence/Splits" := (E_23.wr W_24)
  have E_33 : Exa Z h_25 o12 "[I" := (EaAa_15.wr W_24)
  have le_o27 := X.le
  refine E_newA (pc' := 40) X (aty := .int) (n := (7 : Int32)) (cap := 7) (vs := [(.int (0 : Int32)), (.int (0 : Int32)), (.int (0 : Int32)), (.int (0 : Int32)), (.int (0 : Int32)), (.int (0 : Int32)), (.int (0 : Int32))]) (cells' := 2) (slots' := 14) (w_1 hw) d1_38 rfl (by decide) (by decide) (by decide) rfl rfl rfl (by decide) (by decide) (fun T h_28 o27 g_31 X Ex_29 Aa_30 => ?_)
  have b_34 : h0.size ≤ o27 := by rw [g_31]; exact K_26.1
  have K_35 : Keep h0 h_28 [a] := K_26.ext Ex_29
  have fr_36 : Z.heap.size ≤ o27 := by rw [g_31]; exact le_o27
  have ne_37 : a ≠ o27 := Nat.ne_of_lt (by rw [g_31]; exact E_32.lt)
  have ne_38 : o12 ≠ o27 := Nat.ne_of_lt (by rw [g_31]; exact E_33.lt)
  have F_39 : Fld Z h_28 a "com/example/nimble_calculus/nimblecalculus/equivalence/Splits" "born" "[I" .null := ((((hF5.other W_1 (Or.inr (slot_ne (Or.inr (w_25 hw)) (Or.inl (w_12 hw)) (by decide) (t := (.array .int)) (t' := .int) (by decide) (by decide)))).ext Ex_14).other W_24 (Or.inr (slot_ne (Or.inr (w_25 hw)) (Or.inr (w_23 hw)) (by decide) (t := (.array .int)) (t' := (.array .int)) (by decide) (by decide)))).ext Ex_29)
  have E_40 : Exa Z h_28 a "com/example/nimble_calculus/nimblecalculus/equivalence/Splits" := (E_32.ext Ex_29)
  refine E_putF (pc' := 43) X (host := "") (Or.inl (w_24 hw)) Via.refl F_39 E_40 (Or.inr ⟨(w_25 hw), rfl, rfl⟩) (w_3 hw) (ty := (.array .int)) (by decide) rfl rfl hfr11 d1_40 rfl (fun T h_42 X W_41 => ?_)
  have K_43 : Keep h0 h_42 [a] := K_35.wr W_41 (Or.inl (List.mem_of_getElem? (i := 0) rfl))
  refine E_aloadN (v := (.ref a)) (pc' := 44) X d1_43 rfl rfl rfl ?_
  refine E_iloadN (pc' := 45) X d1_44 rfl rfl ?_
  have E_49 : Exa Z h_42 a "com/example/nimble_calculus/nimblecalculus/equivalence/Splits" := (E_40.wr W_41)
  have E_50 : Exa Z h_42 o12 "[I" := ((E_33.ext Ex_29).wr W_41)
  have A_51 : Ar Z h_42 o27 .int [(.int (0 : Int32)), (.int (0 : Int32)), (.int (0 : Int32)), (.int (0 : Int32)), (.int (0 : Int32)), (.int (0 : Int32)), (.int (0 : Int32))] := (Aa_30.other W_41 (Ne.symm ne_37))
  have le_o44 := X.le
  refine E_newA (pc' := 47) X (aty := .int) (n := (7 : Int32)) (cap := 7) (vs := [(.int (0 : Int32)), (.int (0 : Int32)), (.int (0 : Int32)), (.int (0 : Int32)), (.int (0 : Int32)), (.int (0 : Int32)), (.int (0 : Int32))]) (cells' := 3) (slots' := 21) (w_1 hw) d1_45 rfl (by decide) (by decide) (by decide) rfl rfl rfl (by decide) (by decide) (fun T h_45 o44 g_48 X Ex_46 Aa_47 => ?_)
  have b_52 : h0.size ≤ o44 := by rw [g_48]; exact K_43.1
  have K_53 : Keep h0 h_45 [a] := K_43.ext Ex_46
  have fr_54 : Z.heap.size ≤ o44 := by rw [g_48]; exact le_o44
  have ne_55 : a ≠ o44 := Nat.ne_of_lt (by rw [g_48]; exact E_49.lt)
  have ne_56 : o12 ≠ o44 := Nat.ne_of_lt (by rw [g_48]; exact E_50.lt)
  have ne_57 : o27 ≠ o44 := Nat.ne_of_lt (by rw [g_48]; exact A_51.lt)
  have F_58 : Fld Z h_45 a "com/example/nimble_calculus/nimblecalculus/equivalence/Splits" "representative" "[I" .null := ((((((hF6.other W_1 (Or.inr (slot_ne (Or.inr (w_27 hw)) (Or.inl (w_12 hw)) (by decide) (t := (.array .int)) (t' := .int) (by decide) (by decide)))).ext Ex_14).other W_24 (Or.inr (slot_ne (Or.inr (w_27 hw)) (Or.inr (w_23 hw)) (by decide) (t := (.array .int)) (t' := (.array .int)) (by decide) (by decide)))).ext Ex_29).other W_41 (Or.inr (slot_ne (Or.inr (w_27 hw)) (Or.inr (w_25 hw)) (by decide) (t := (.array .int)) (t' := (.array .int)) (by decide) (by decide)))).ext Ex_46)
  have E_59 : Exa Z h_45 a "com/example/nimble_calculus/nimblecalculus/equivalence/Splits" := (E_49.ext Ex_46)
  refine E_putF (pc' := 50) X (host := "") (Or.inl (w_26 hw)) Via.refl F_58 E_59 (Or.inr ⟨(w_27 hw), rfl, rfl⟩) (w_3 hw) (ty := (.array .int)) (by decide) rfl rfl hfr11 d1_47 rfl (fun T h_61 X W_60 => ?_)
  have K_62 : Keep h0 h_61 [a] := K_53.wr W_60 (Or.inl (List.mem_of_getElem? (i := 0) rfl))
  refine E_aloadN (v := (.ref a)) (pc' := 51) X d1_50 rfl rfl rfl ?_
  refine E_iconst (v := (1 : Int32)) (pc' := 52) X d1_51 rfl rfl ?_
  refine E_iloadN (pc' := 53) X d1_52 rfl rfl ?_
  refine E_callS (pc' := 56) (W := 1) (cells' := 3) (slots' := 21) (argsL := [(.int (1 : Int32)), (.int (4 : Int32))]) (rest := [(.ref a)]) X (rm5 l Z a0 hw (1 : Int32) (4 : Int32) (4 : Int32) h_61 X.ext (by decide)) (w_28 hw) (w_29 hw) (w_17 hw) (w_30 hw) (by decide) rfl rfl pd_1 rfl rfl d1_53 rfl (Nat.le_refl _) (by decide) (by decide) rfl rfl (by decide) (by decide) (fun v63 T h_64 X hQ65 => ?_)
  obtain ⟨rfl, rfl⟩ := hQ65
  show End Z p e below s _ _ _ _ (mkF m 56 #[.val (.ref a), .val (.int (4 : Int32)), .val (.int (7 : Int32))] [(.int (4 : Int32)), (.ref a)])
  have E_72 : Exa Z h_61 a "com/example/nimble_calculus/nimblecalculus/equivalence/Splits" := (E_59.wr W_60)
  have E_73 : Exa Z h_61 o12 "[I" := ((E_50.ext Ex_46).wr W_60)
  have A_74 : Ar Z h_61 o27 .int [(.int (0 : Int32)), (.int (0 : Int32)), (.int (0 : Int32)), (.int (0 : Int32)), (.int (0 : Int32)), (.int (0 : Int32)), (.int (0 : Int32))] := ((A_51.ext Ex_46).other W_60 (Ne.symm ne_37))
  have A_75 : Ar Z h_61 o44 .int [(.int (0 : Int32)), (.int (0 : Int32)), (.int (0 : Int32)), (.int (0 : Int32)), (.int (0 : Int32)), (.int (0 : Int32)), (.int (0 : Int32))] := (Aa_47.other W_60 (Ne.symm ne_55))
  have le_o67 := X.le
  refine E_newA (pc' := 58) X (aty := .int) (n := (4 : Int32)) (cap := 4) (vs := [(.int (0 : Int32)), (.int (0 : Int32)), (.int (0 : Int32)), (.int (0 : Int32))]) (cells' := 4) (slots' := 25) (w_1 hw) d1_56 rfl (by decide) (by decide) (by decide) rfl rfl rfl (by decide) (by decide) (fun T h_68 o67 g_71 X Ex_69 Aa_70 => ?_)
  have b_76 : h0.size ≤ o67 := by rw [g_71]; exact K_62.1
  have K_77 : Keep h0 h_68 [a] := K_62.ext Ex_69
  have fr_78 : Z.heap.size ≤ o67 := by rw [g_71]; exact le_o67
  have ne_79 : a ≠ o67 := Nat.ne_of_lt (by rw [g_71]; exact E_72.lt)
  have ne_80 : o12 ≠ o67 := Nat.ne_of_lt (by rw [g_71]; exact E_73.lt)
  have ne_81 : o27 ≠ o67 := Nat.ne_of_lt (by rw [g_71]; exact A_74.lt)
  have ne_82 : o44 ≠ o67 := Nat.ne_of_lt (by rw [g_71]; exact A_75.lt)
  have F_83 : Fld Z h_68 a "com/example/nimble_calculus/nimblecalculus/equivalence/Splits" "nodeOfBlock" "[I" .null := ((((((((hF7.other W_1 (Or.inr (slot_ne (Or.inr (w_32 hw)) (Or.inl (w_12 hw)) (by decide) (t := (.array .int)) (t' := .int) (by decide) (by decide)))).ext Ex_14).other W_24 (Or.inr (slot_ne (Or.inr (w_32 hw)) (Or.inr (w_23 hw)) (by decide) (t := (.array .int)) (t' := (.array .int)) (by decide) (by decide)))).ext Ex_29).other W_41 (Or.inr (slot_ne (Or.inr (w_32 hw)) (Or.inr (w_25 hw)) (by decide) (t := (.array .int)) (t' := (.array .int)) (by decide) (by decide)))).ext Ex_46).other W_60 (Or.inr (slot_ne (Or.inr (w_32 hw)) (Or.inr (w_27 hw)) (by decide) (t := (.array .int)) (t' := (.array .int)) (by decide) (by decide)))).ext Ex_69)
  have E_84 : Exa Z h_68 a "com/example/nimble_calculus/nimblecalculus/equivalence/Splits" := (E_72.ext Ex_69)
  refine E_putF (pc' := 61) X (host := "") (Or.inl (w_31 hw)) Via.refl F_83 E_84 (Or.inr ⟨(w_32 hw), rfl, rfl⟩) (w_3 hw) (ty := (.array .int)) (by decide) rfl rfl hfr11 d1_58 rfl (fun T h_86 X W_85 => ?_)
  have K_87 : Keep h0 h_86 [a] := K_77.wr W_85 (Or.inl (List.mem_of_getElem? (i := 0) rfl))
  have E_88 : Exa Z h_86 a "com/example/nimble_calculus/nimblecalculus/equivalence/Splits" := (E_84.wr W_85)
  have F_89 : Fld Z h_86 a "com/example/nimble_calculus/nimblecalculus/equivalence/Splits" "nodeCount" "I" (.int (1 : Int32)) := (((((((((hF1.same W_1).ext Ex_14).other W_24 (Or.inr (slot_ne (Or.inl (w_12 hw)) (Or.inr (w_23 hw)) (by decide) (t := .int) (t' := (.array .int)) (by decide) (by decide)))).ext Ex_29).other W_41 (Or.inr (slot_ne (Or.inl (w_12 hw)) (Or.inr (w_25 hw)) (by decide) (t := .int) (t' := (.array .int)) (by decide) (by decide)))).ext Ex_46).other W_60 (Or.inr (slot_ne (Or.inl (w_12 hw)) (Or.inr (w_27 hw)) (by decide) (t := .int) (t' := (.array .int)) (by decide) (by decide)))).ext Ex_69).other W_85 (Or.inr (slot_ne (Or.inl (w_12 hw)) (Or.inr (w_32 hw)) (by decide) (t := .int) (t' := (.array .int)) (by decide) (by decide))))
  have F_90 : Fld Z h_86 a "com/example/nimble_calculus/nimblecalculus/equivalence/Splits" "splitCount" "I" (.int (0 : Int32)) := (((((((((hF2.other W_1 (Or.inr (slot_ne (Or.inl (w_39 hw)) (Or.inl (w_12 hw)) (by decide) (t := .int) (t' := .int) (by decide) (by decide)))).ext Ex_14).other W_24 (Or.inr (slot_ne (Or.inl (w_39 hw)) (Or.inr (w_23 hw)) (by decide) (t := .int) (t' := (.array .int)) (by decide) (by decide)))).ext Ex_29).other W_41 (Or.inr (slot_ne (Or.inl (w_39 hw)) (Or.inr (w_25 hw)) (by decide) (t := .int) (t' := (.array .int)) (by decide) (by decide)))).ext Ex_46).other W_60 (Or.inr (slot_ne (Or.inl (w_39 hw)) (Or.inr (w_27 hw)) (by decide) (t := .int) (t' := (.array .int)) (by decide) (by decide)))).ext Ex_69).other W_85 (Or.inr (slot_ne (Or.inl (w_39 hw)) (Or.inr (w_32 hw)) (by decide) (t := .int) (t' := (.array .int)) (by decide) (by decide))))
  have F_91 : Fld Z h_86 a "com/example/nimble_calculus/nimblecalculus/equivalence/Splits" "splitting" "I" (.int (0 : Int32)) := (((((((((hF3.other W_1 (Or.inr (slot_ne (Or.inl (w_41 hw)) (Or.inl (w_12 hw)) (by decide) (t := .int) (t' := .int) (by decide) (by decide)))).ext Ex_14).other W_24 (Or.inr (slot_ne (Or.inl (w_41 hw)) (Or.inr (w_23 hw)) (by decide) (t := .int) (t' := (.array .int)) (by decide) (by decide)))).ext Ex_29).other W_41 (Or.inr (slot_ne (Or.inl (w_41 hw)) (Or.inr (w_25 hw)) (by decide) (t := .int) (t' := (.array .int)) (by decide) (by decide)))).ext Ex_46).other W_60 (Or.inr (slot_ne (Or.inl (w_41 hw)) (Or.inr (w_27 hw)) (by decide) (t := .int) (t' := (.array .int)) (by decide) (by decide)))).ext Ex_69).other W_85 (Or.inr (slot_ne (Or.inl (w_41 hw)) (Or.inr (w_32 hw)) (by decide) (t := .int) (t' := (.array .int)) (by decide) (by decide))))
  have F_92 : Fld Z h_86 a "com/example/nimble_calculus/nimblecalculus/equivalence/Splits" "parent" "[I" (.ref o12) := (((((((F_22.same W_24).ext Ex_29).other W_41 (Or.inr (slot_ne (Or.inr (w_23 hw)) (Or.inr (w_25 hw)) (by decide) (t := (.array .int)) (t' := (.array .int)) (by decide) (by decide)))).ext Ex_46).other W_60 (Or.inr (slot_ne (Or.inr (w_23 hw)) (Or.inr (w_27 hw)) (by decide) (t := (.array .int)) (t' := (.array .int)) (by decide) (by decide)))).ext Ex_69).other W_85 (Or.inr (slot_ne (Or.inr (w_23 hw)) (Or.inr (w_32 hw)) (by decide) (t := (.array .int)) (t' := (.array .int)) (by decide) (by decide))))
  have F_93 : Fld Z h_86 a "com/example/nimble_calculus/nimblecalculus/equivalence/Splits" "born" "[I" (.ref o27) := (((((F_39.same W_41).ext Ex_46).other W_60 (Or.inr (slot_ne (Or.inr (w_25 hw)) (Or.inr (w_27 hw)) (by decide) (t := (.array .int)) (t' := (.array .int)) (by decide) (by decide)))).ext Ex_69).other W_85 (Or.inr (slot_ne (Or.inr (w_25 hw)) (Or.inr (w_32 hw)) (by decide) (t := (.array .int)) (t' := (.array .int)) (by decide) (by decide))))
  have F_94 : Fld Z h_86 a "com/example/nimble_calculus/nimblecalculus/equivalence/Splits" "representative" "[I" (.ref o44) := (((F_58.same W_60).ext Ex_69).other W_85 (Or.inr (slot_ne (Or.inr (w_27 hw)) (Or.inr (w_32 hw)) (by decide) (t := (.array .int)) (t' := (.array .int)) (by decide) (by decide))))
  have F_95 : Fld Z h_86 a "com/example/nimble_calculus/nimblecalculus/equivalence/Splits" "nodeOfBlock" "[I" (.ref o67) := (F_83.same W_85)
  have F_96 : Fld Z h_86 a "com/example/nimble_calculus/nimblecalculus/equivalence/Splits" "leaf" "[I" .null := (((((((((hF8.other W_1 (Or.inr (slot_ne (Or.inl (w_53 hw)) (Or.inl (w_12 hw)) (by decide) (t := (.array .int)) (t' := .int) (by decide) (by decide)))).ext Ex_14).other W_24 (Or.inr (slot_ne (Or.inl (w_53 hw)) (Or.inr (w_23 hw)) (by decide) (t := (.array .int)) (t' := (.array .int)) (by decide) (by decide)))).ext Ex_29).other W_41 (Or.inr (slot_ne (Or.inl (w_53 hw)) (Or.inr (w_25 hw)) (by decide) (t := (.array .int)) (t' := (.array .int)) (by decide) (by decide)))).ext Ex_46).other W_60 (Or.inr (slot_ne (Or.inl (w_53 hw)) (Or.inr (w_27 hw)) (by decide) (t := (.array .int)) (t' := (.array .int)) (by decide) (by decide)))).ext Ex_69).other W_85 (Or.inr (slot_ne (Or.inl (w_53 hw)) (Or.inr (w_32 hw)) (by decide) (t := (.array .int)) (t' := (.array .int)) (by decide) (by decide))))
  have F_97 : Fld Z h_86 a "com/example/nimble_calculus/nimblecalculus/equivalence/Splits" "height" "[I" .null := (((((((((hF9.other W_1 (Or.inr (slot_ne (Or.inl (w_55 hw)) (Or.inl (w_12 hw)) (by decide) (t := (.array .int)) (t' := .int) (by decide) (by decide)))).ext Ex_14).other W_24 (Or.inr (slot_ne (Or.inl (w_55 hw)) (Or.inr (w_23 hw)) (by decide) (t := (.array .int)) (t' := (.array .int)) (by decide) (by decide)))).ext Ex_29).other W_41 (Or.inr (slot_ne (Or.inl (w_55 hw)) (Or.inr (w_25 hw)) (by decide) (t := (.array .int)) (t' := (.array .int)) (by decide) (by decide)))).ext Ex_46).other W_60 (Or.inr (slot_ne (Or.inl (w_55 hw)) (Or.inr (w_27 hw)) (by decide) (t := (.array .int)) (t' := (.array .int)) (by decide) (by decide)))).ext Ex_69).other W_85 (Or.inr (slot_ne (Or.inl (w_55 hw)) (Or.inr (w_32 hw)) (by decide) (t := (.array .int)) (t' := (.array .int)) (by decide) (by decide))))
  have F_98 : Fld Z h_86 a "com/example/nimble_calculus/nimblecalculus/equivalence/Splits" "jumps" "[[I" .null := (((((((((hF10.other W_1 (Or.inr (slot_ne (Or.inl (w_64 hw)) (Or.inl (w_12 hw)) (by decide) (t := (.array (.array .int))) (t' := .int) (by decide) (by decide)))).ext Ex_14).other W_24 (Or.inr (slot_ne (Or.inl (w_64 hw)) (Or.inr (w_23 hw)) (by decide) (t := (.array (.array .int))) (t' := (.array .int)) (by decide) (by decide)))).ext Ex_29).other W_41 (Or.inr (slot_ne (Or.inl (w_64 hw)) (Or.inr (w_25 hw)) (by decide) (t := (.array (.array .int))) (t' := (.array .int)) (by decide) (by decide)))).ext Ex_46).other W_60 (Or.inr (slot_ne (Or.inl (w_64 hw)) (Or.inr (w_27 hw)) (by decide) (t := (.array (.array .int))) (t' := (.array .int)) (by decide) (by decide)))).ext Ex_69).other W_85 (Or.inr (slot_ne (Or.inl (w_64 hw)) (Or.inr (w_32 hw)) (by decide) (t := (.array (.array .int))) (t' := (.array .int)) (by decide) (by decide))))
  have A_99 : Ar Z h_86 o12 .int [(.int (0 : Int32)), (.int (0 : Int32)), (.int (0 : Int32)), (.int (0 : Int32)), (.int (0 : Int32)), (.int (0 : Int32)), (.int (0 : Int32))] := (((((((Aa_15.other W_24 (Ne.symm ne_21)).ext Ex_29).other W_41 (Ne.symm ne_21)).ext Ex_46).other W_60 (Ne.symm ne_21)).ext Ex_69).other W_85 (Ne.symm ne_21))
  have A_100 : Ar Z h_86 o27 .int [(.int (0 : Int32)), (.int (0 : Int32)), (.int (0 : Int32)), (.int (0 : Int32)), (.int (0 : Int32)), (.int (0 : Int32)), (.int (0 : Int32))] := ((A_74.ext Ex_69).other W_85 (Ne.symm ne_37))
  have A_101 : Ar Z h_86 o44 .int [(.int (0 : Int32)), (.int (0 : Int32)), (.int (0 : Int32)), (.int (0 : Int32)), (.int (0 : Int32)), (.int (0 : Int32)), (.int (0 : Int32))] := ((A_75.ext Ex_69).other W_85 (Ne.symm ne_55))
  have A_102 : Ar Z h_86 o67 .int [(.int (0 : Int32)), (.int (0 : Int32)), (.int (0 : Int32)), (.int (0 : Int32))] := (Aa_70.other W_85 (Ne.symm ne_79))
  have E_103 : Exa Z h_86 o12 "[I" := ((E_73.ext Ex_69).wr W_85)
  exact E_ret0 X d1_61 (by decide) (by decide) ⟨o12, o27, o44, o67, rfl, K_87, b_18, b_34, b_52, b_76, E_88, F_89, F_90, F_91, F_92, F_93, F_94, F_95, F_96, F_97, F_98, A_99, A_100, A_101, A_102, E_103, ne_38, ne_56, ne_80, ne_57, ne_81, ne_82⟩
theorem d6_0 : decode prog_61_method_2_code 0 = .ok (.aload_n 0, 1) := by decide +kernel
theorem d6_1 : decode prog_61_method_2_code 1 = .ok (.dup, 1) := by decide +kernel
theorem d6_2 : decode prog_61_method_2_code 2 = .ok (.getfield 44, 3) := by decide +kernel
theorem d6_5 : decode prog_61_method_2_code 5 = .ok (.iconst 1, 1) := by decide +kernel
theorem d6_6 : decode prog_61_method_2_code 6 = .ok (.iadd, 1) := by decide +kernel
theorem d6_7 : decode prog_61_method_2_code 7 = .ok (.putfield 44, 3) := by decide +kernel
theorem d6_10 : decode prog_61_method_2_code 10 = .ok (.aload_n 0, 1) := by decide +kernel
theorem d6_11 : decode prog_61_method_2_code 11 = .ok (.aload_n 0, 1) := by decide +kernel
theorem d6_12 : decode prog_61_method_2_code 12 = .ok (.getfield 41, 3) := by decide +kernel
theorem d6_15 : decode prog_61_method_2_code 15 = .ok (.iload_n 1, 1) := by decide +kernel
theorem d6_16 : decode prog_61_method_2_code 16 = .ok (.iaload, 1) := by decide +kernel
theorem d6_17 : decode prog_61_method_2_code 17 = .ok (.putfield 47, 3) := by decide +kernel
theorem d6_20 : decode prog_61_method_2_code 20 = .ok (.return_, 1) := by decide +kernel
theorem ef_rm6 (m : MethodId) (x0 : Addr) (x1 : Int32) : entryFrame m #[(.ref x0), (.int x1)] 2 = mkF m 0 #[.val (.ref x0), .val (.int x1)] [] := by first | (simp [entryFrame, mkF, argsToLocals, Value.category]; done) | (simp [entryFrame, mkF, argsToLocals, *]; done) | rfl
set_option maxRecDepth 65536 in
set_option maxHeartbeats 2000000 in
theorem rm6 (l : Launch) (Z : State) (a0 : Array Value) (hw : ∀ d ∈ tables_1, d.before a0 Z = true) (a : Addr) (b : Int32) (nc : Int32) (sc : Int32) (sp : Int32) (P : Addr) (B : Addr) (RR : Addr) (NB : Addr) (nv : List Value) (sc2 : Int32) (sp2 : Int32) (h0 : Heap) (hE : Ext Z.heap h0) (hE0 : Exa Z h0 a "com/example/nimble_calculus/nimblecalculus/equivalence/Splits") (hF1 : Fld Z h0 a "com/example/nimble_calculus/nimblecalculus/equivalence/Splits" "nodeCount" "I" (.int nc)) (hF2 : Fld Z h0 a "com/example/nimble_calculus/nimblecalculus/equivalence/Splits" "splitCount" "I" (.int sc)) (hF3 : Fld Z h0 a "com/example/nimble_calculus/nimblecalculus/equivalence/Splits" "splitting" "I" (.int sp)) (hF4 : Fld Z h0 a "com/example/nimble_calculus/nimblecalculus/equivalence/Splits" "parent" "[I" (.ref P)) (hF5 : Fld Z h0 a "com/example/nimble_calculus/nimblecalculus/equivalence/Splits" "born" "[I" (.ref B)) (hF6 : Fld Z h0 a "com/example/nimble_calculus/nimblecalculus/equivalence/Splits" "representative" "[I" (.ref RR)) (hF7 : Fld Z h0 a "com/example/nimble_calculus/nimblecalculus/equivalence/Splits" "nodeOfBlock" "[I" (.ref NB)) (hF8 : Fld Z h0 a "com/example/nimble_calculus/nimblecalculus/equivalence/Splits" "leaf" "[I" .null) (hF9 : Fld Z h0 a "com/example/nimble_calculus/nimblecalculus/equivalence/Splits" "height" "[I" .null) (hF10 : Fld Z h0 a "com/example/nimble_calculus/nimblecalculus/equivalence/Splits" "jumps" "[[I" .null) (hA11 : Ar Z h0 NB .int nv) (hfr12 : Z.heap.size ≤ a) (hb : ¬ b < 0) (hv : nv[b.toNatClampNeg]? = some (.int sp2)) (hs : sc + 1 = sc2) :
    Con l Z (⟨"com/example/nimble_calculus/nimblecalculus/equivalence/Splits", "beginSplit", "(I)V"⟩ : MethodName) prog_61_method_2_code 2 none ({ frames := 0, cells := 0, slots := 0, locals := 0 } : Room) #[(.ref a), (.int b)] h0 (fun vv hh => vv = none ∧ Keep h0 hh [a] ∧ Exa Z hh a "com/example/nimble_calculus/nimblecalculus/equivalence/Splits" ∧ Fld Z hh a "com/example/nimble_calculus/nimblecalculus/equivalence/Splits" "nodeCount" "I" (.int nc) ∧ Fld Z hh a "com/example/nimble_calculus/nimblecalculus/equivalence/Splits" "splitCount" "I" (.int sc2) ∧ Fld Z hh a "com/example/nimble_calculus/nimblecalculus/equivalence/Splits" "splitting" "I" (.int sp2) ∧ Fld Z hh a "com/example/nimble_calculus/nimblecalculus/equivalence/Splits" "parent" "[I" (.ref P) ∧ Fld Z hh a "com/example/nimble_calculus/nimblecalculus/equivalence/Splits" "born" "[I" (.ref B) ∧ Fld Z hh a "com/example/nimble_calculus/nimblecalculus/equivalence/Splits" "representative" "[I" (.ref RR) ∧ Fld Z hh a "com/example/nimble_calculus/nimblecalculus/equivalence/Splits" "nodeOfBlock" "[I" (.ref NB) ∧ Fld Z hh a "com/example/nimble_calculus/nimblecalculus/equivalence/Splits" "leaf" "[I" .null ∧ Fld Z hh a "com/example/nimble_calculus/nimblecalculus/equivalence/Splits" "height" "[I" .null ∧ Fld Z hh a "com/example/nimble_calculus/nimblecalculus/equivalence/Splits" "jumps" "[[I" .null) := by
  refine Con.of (plainFor_of_name (by first | (simp [plainName, overriddenIn]; done) | decide +kernel)) hE ?_
  intro p e s m below T (X : Sd l Z "com/example/nimble_calculus/nimblecalculus/equivalence/Splits" "beginSplit" prog_61_method_2_code 2 none ({ frames := 0, cells := 0, slots := 0, locals := 0 } : Room) p e s m #[(.ref a), (.int b)] below T h0 0 0)
  refine End.frame (ef_rm6 m a b) ?_
  have K_0 : Keep h0 h0 [a] := Keep.refl _ _
  have ne_1 : NB ≠ a := Ne.symm (Ar.ne_exa hA11 hE0 (w_3 hw))
  show End Z p e below s _ _ _ _ (mkF m 0 #[.val (.ref a), .val (.int b)] [])
  refine E_aloadN (v := (.ref a)) (pc' := 1) X d6_0 rfl rfl rfl ?_
  refine E_dup (pc' := 2) X d6_1 rfl rfl ?_
  refine E_getF (pc' := 5) X (host := "") (Or.inl (w_38 hw)) Via.refl hF2 d6_2 rfl (fun T X => ?_)
  refine E_iconst (v := (1 : Int32)) (pc' := 6) X d6_5 rfl rfl ?_
  refine E_iadd (pc' := 7) X d6_6 rfl ?_
  refine E_eqI (z := sc2) hs ?_
  refine E_putF (pc' := 10) X (host := "") (Or.inl (w_38 hw)) Via.refl hF2 hE0 (Or.inl (w_39 hw)) (w_3 hw) (ty := .int) (by decide) rfl rfl hfr12 d6_7 rfl (fun T h_3 X W_2 => ?_)
  have K_4 : Keep h0 h_3 [a] := K_0.wr W_2 (Or.inl (List.mem_of_getElem? (i := 0) rfl))
  refine E_aloadN (v := (.ref a)) (pc' := 11) X d6_10 rfl rfl rfl ?_
  refine E_aloadN (v := (.ref a)) (pc' := 12) X d6_11 rfl rfl rfl ?_
  have F_5 : Fld Z h_3 a "com/example/nimble_calculus/nimblecalculus/equivalence/Splits" "nodeOfBlock" "[I" (.ref NB) := (hF7.other W_2 (Or.inr (slot_ne (Or.inr (w_32 hw)) (Or.inl (w_39 hw)) (by decide) (t := (.array .int)) (t' := .int) (by decide) (by decide))))
  refine E_getF (pc' := 15) X (host := "") (Or.inl (w_31 hw)) Via.refl F_5 d6_12 rfl (fun T X => ?_)
  refine E_iloadN (pc' := 16) X d6_15 rfl rfl ?_
  have A_6 : Ar Z h_3 NB .int nv := (hA11.other W_2 ne_1)
  refine E_iaload (v := (.int sp2)) (pc' := 17) X A_6 hb hv d6_16 rfl ?_
  have F_7 : Fld Z h_3 a "com/example/nimble_calculus/nimblecalculus/equivalence/Splits" "splitting" "I" (.int sp) := (hF3.other W_2 (Or.inr (slot_ne (Or.inl (w_41 hw)) (Or.inl (w_39 hw)) (by decide) (t := .int) (t' := .int) (by decide) (by decide))))
  have E_8 : Exa Z h_3 a "com/example/nimble_calculus/nimblecalculus/equivalence/Splits" := (hE0.wr W_2)
  refine E_putF (pc' := 20) X (host := "") (Or.inl (w_40 hw)) Via.refl F_7 E_8 (Or.inl (w_41 hw)) (w_3 hw) (ty := .int) (by decide) rfl rfl hfr12 d6_17 rfl (fun T h_10 X W_9 => ?_)
  have K_11 : Keep h0 h_10 [a] := K_4.wr W_9 (Or.inl (List.mem_of_getElem? (i := 0) rfl))
  have E_12 : Exa Z h_10 a "com/example/nimble_calculus/nimblecalculus/equivalence/Splits" := (E_8.wr W_9)
  have F_13 : Fld Z h_10 a "com/example/nimble_calculus/nimblecalculus/equivalence/Splits" "nodeCount" "I" (.int nc) := ((hF1.other W_2 (Or.inr (slot_ne (Or.inl (w_12 hw)) (Or.inl (w_39 hw)) (by decide) (t := .int) (t' := .int) (by decide) (by decide)))).other W_9 (Or.inr (slot_ne (Or.inl (w_12 hw)) (Or.inl (w_41 hw)) (by decide) (t := .int) (t' := .int) (by decide) (by decide))))
  have F_14 : Fld Z h_10 a "com/example/nimble_calculus/nimblecalculus/equivalence/Splits" "splitCount" "I" (.int sc2) := ((hF2.same W_2).other W_9 (Or.inr (slot_ne (Or.inl (w_39 hw)) (Or.inl (w_41 hw)) (by decide) (t := .int) (t' := .int) (by decide) (by decide))))
  have F_15 : Fld Z h_10 a "com/example/nimble_calculus/nimblecalculus/equivalence/Splits" "splitting" "I" (.int sp2) := (F_7.same W_9)
  have F_16 : Fld Z h_10 a "com/example/nimble_calculus/nimblecalculus/equivalence/Splits" "parent" "[I" (.ref P) := ((hF4.other W_2 (Or.inr (slot_ne (Or.inr (w_23 hw)) (Or.inl (w_39 hw)) (by decide) (t := (.array .int)) (t' := .int) (by decide) (by decide)))).other W_9 (Or.inr (slot_ne (Or.inr (w_23 hw)) (Or.inl (w_41 hw)) (by decide) (t := (.array .int)) (t' := .int) (by decide) (by decide))))
  have F_17 : Fld Z h_10 a "com/example/nimble_calculus/nimblecalculus/equivalence/Splits" "born" "[I" (.ref B) := ((hF5.other W_2 (Or.inr (slot_ne (Or.inr (w_25 hw)) (Or.inl (w_39 hw)) (by decide) (t := (.array .int)) (t' := .int) (by decide) (by decide)))).other W_9 (Or.inr (slot_ne (Or.inr (w_25 hw)) (Or.inl (w_41 hw)) (by decide) (t := (.array .int)) (t' := .int) (by decide) (by decide))))
  have F_18 : Fld Z h_10 a "com/example/nimble_calculus/nimblecalculus/equivalence/Splits" "representative" "[I" (.ref RR) := ((hF6.other W_2 (Or.inr (slot_ne (Or.inr (w_27 hw)) (Or.inl (w_39 hw)) (by decide) (t := (.array .int)) (t' := .int) (by decide) (by decide)))).other W_9 (Or.inr (slot_ne (Or.inr (w_27 hw)) (Or.inl (w_41 hw)) (by decide) (t := (.array .int)) (t' := .int) (by decide) (by decide))))
  have F_19 : Fld Z h_10 a "com/example/nimble_calculus/nimblecalculus/equivalence/Splits" "nodeOfBlock" "[I" (.ref NB) := (F_5.other W_9 (Or.inr (slot_ne (Or.inr (w_32 hw)) (Or.inl (w_41 hw)) (by decide) (t := (.array .int)) (t' := .int) (by decide) (by decide))))
  have F_20 : Fld Z h_10 a "com/example/nimble_calculus/nimblecalculus/equivalence/Splits" "leaf" "[I" .null := ((hF8.other W_2 (Or.inr (slot_ne (Or.inl (w_53 hw)) (Or.inl (w_39 hw)) (by decide) (t := (.array .int)) (t' := .int) (by decide) (by decide)))).other W_9 (Or.inr (slot_ne (Or.inl (w_53 hw)) (Or.inl (w_41 hw)) (by decide) (t := (.array .int)) (t' := .int) (by decide) (by decide))))
  have F_21 : Fld Z h_10 a "com/example/nimble_calculus/nimblecalculus/equivalence/Splits" "height" "[I" .null := ((hF9.other W_2 (Or.inr (slot_ne (Or.inl (w_55 hw)) (Or.inl (w_39 hw)) (by decide) (t := (.array .int)) (t' := .int) (by decide) (by decide)))).other W_9 (Or.inr (slot_ne (Or.inl (w_55 hw)) (Or.inl (w_41 hw)) (by decide) (t := (.array .int)) (t' := .int) (by decide) (by decide))))
  have F_22 : Fld Z h_10 a "com/example/nimble_calculus/nimblecalculus/equivalence/Splits" "jumps" "[[I" .null := ((hF10.other W_2 (Or.inr (slot_ne (Or.inl (w_64 hw)) (Or.inl (w_39 hw)) (by decide) (t := (.array (.array .int))) (t' := .int) (by decide) (by decide)))).other W_9 (Or.inr (slot_ne (Or.inl (w_64 hw)) (Or.inl (w_41 hw)) (by decide) (t := (.array (.array .int))) (t' := .int) (by decide) (by decide))))
  exact E_ret0 X d6_20 (by decide) (by decide) ⟨rfl, K_11, E_12, F_13, F_14, F_15, F_16, F_17, F_18, F_19, F_20, F_21, F_22⟩
theorem d7_0 : decode prog_61_method_3_code 0 = .ok (.aload_n 0, 1) := by decide +kernel
theorem d7_1 : decode prog_61_method_3_code 1 = .ok (.dup, 1) := by decide +kernel
theorem d7_2 : decode prog_61_method_3_code 2 = .ok (.getfield 7, 3) := by decide +kernel
theorem d7_5 : decode prog_61_method_3_code 5 = .ok (.dup_x1, 1) := by decide +kernel
theorem d7_6 : decode prog_61_method_3_code 6 = .ok (.iconst 1, 1) := by decide +kernel
theorem d7_7 : decode prog_61_method_3_code 7 = .ok (.iadd, 1) := by decide +kernel
theorem d7_8 : decode prog_61_method_3_code 8 = .ok (.putfield 7, 3) := by decide +kernel
theorem d7_11 : decode prog_61_method_3_code 11 = .ok (.istore_n 3, 1) := by decide +kernel
theorem d7_12 : decode prog_61_method_3_code 12 = .ok (.aload_n 0, 1) := by decide +kernel
theorem d7_13 : decode prog_61_method_3_code 13 = .ok (.getfield 28, 3) := by decide +kernel
theorem d7_16 : decode prog_61_method_3_code 16 = .ok (.iload_n 3, 1) := by decide +kernel
theorem d7_17 : decode prog_61_method_3_code 17 = .ok (.aload_n 0, 1) := by decide +kernel
theorem d7_18 : decode prog_61_method_3_code 18 = .ok (.getfield 47, 3) := by decide +kernel
theorem d7_21 : decode prog_61_method_3_code 21 = .ok (.iastore, 1) := by decide +kernel
theorem d7_22 : decode prog_61_method_3_code 22 = .ok (.aload_n 0, 1) := by decide +kernel
theorem d7_23 : decode prog_61_method_3_code 23 = .ok (.getfield 32, 3) := by decide +kernel
theorem d7_26 : decode prog_61_method_3_code 26 = .ok (.iload_n 3, 1) := by decide +kernel
theorem d7_27 : decode prog_61_method_3_code 27 = .ok (.aload_n 0, 1) := by decide +kernel
theorem d7_28 : decode prog_61_method_3_code 28 = .ok (.getfield 44, 3) := by decide +kernel
theorem d7_31 : decode prog_61_method_3_code 31 = .ok (.iastore, 1) := by decide +kernel
theorem d7_32 : decode prog_61_method_3_code 32 = .ok (.aload_n 0, 1) := by decide +kernel
theorem d7_33 : decode prog_61_method_3_code 33 = .ok (.getfield 35, 3) := by decide +kernel
theorem d7_36 : decode prog_61_method_3_code 36 = .ok (.iload_n 3, 1) := by decide +kernel
theorem d7_37 : decode prog_61_method_3_code 37 = .ok (.iload_n 2, 1) := by decide +kernel
theorem d7_38 : decode prog_61_method_3_code 38 = .ok (.iastore, 1) := by decide +kernel
theorem d7_39 : decode prog_61_method_3_code 39 = .ok (.aload_n 0, 1) := by decide +kernel
theorem d7_40 : decode prog_61_method_3_code 40 = .ok (.getfield 41, 3) := by decide +kernel
theorem d7_43 : decode prog_61_method_3_code 43 = .ok (.iload_n 1, 1) := by decide +kernel
theorem d7_44 : decode prog_61_method_3_code 44 = .ok (.iload_n 3, 1) := by decide +kernel
theorem d7_45 : decode prog_61_method_3_code 45 = .ok (.iastore, 1) := by decide +kernel
theorem d7_46 : decode prog_61_method_3_code 46 = .ok (.return_, 1) := by decide +kernel
theorem ef_rm7 (m : MethodId) (x0 : Addr) (x1 : Int32) (x2 : Int32) : entryFrame m #[(.ref x0), (.int x1), (.int x2)] 4 = mkF m 0 #[.val (.ref x0), .val (.int x1), .val (.int x2), .unset] [] := by first | (simp [entryFrame, mkF, argsToLocals, Value.category]; done) | (simp [entryFrame, mkF, argsToLocals, *]; done) | rfl
set_option maxRecDepth 65536 in
set_option maxHeartbeats 2000000 in
theorem rm7 (l : Launch) (Z : State) (a0 : Array Value) (hw : ∀ d ∈ tables_1, d.before a0 Z = true) (a : Addr) (b : Int32) (r : Int32) (nc : Int32) (sc : Int32) (sp : Int32) (P : Addr) (B : Addr) (RR : Addr) (NB : Addr) (pv : List Value) (bv : List Value) (rv : List Value) (nv : List Value) (pv2 : List Value) (bv2 : List Value) (rv2 : List Value) (nv2 : List Value) (nc2 : Int32) (h0 : Heap) (hE : Ext Z.heap h0) (hE0 : Exa Z h0 a "com/example/nimble_calculus/nimblecalculus/equivalence/Splits") (hF1 : Fld Z h0 a "com/example/nimble_calculus/nimblecalculus/equivalence/Splits" "nodeCount" "I" (.int nc)) (hF2 : Fld Z h0 a "com/example/nimble_calculus/nimblecalculus/equivalence/Splits" "splitCount" "I" (.int sc)) (hF3 : Fld Z h0 a "com/example/nimble_calculus/nimblecalculus/equivalence/Splits" "splitting" "I" (.int sp)) (hF4 : Fld Z h0 a "com/example/nimble_calculus/nimblecalculus/equivalence/Splits" "parent" "[I" (.ref P)) (hF5 : Fld Z h0 a "com/example/nimble_calculus/nimblecalculus/equivalence/Splits" "born" "[I" (.ref B)) (hF6 : Fld Z h0 a "com/example/nimble_calculus/nimblecalculus/equivalence/Splits" "representative" "[I" (.ref RR)) (hF7 : Fld Z h0 a "com/example/nimble_calculus/nimblecalculus/equivalence/Splits" "nodeOfBlock" "[I" (.ref NB)) (hF8 : Fld Z h0 a "com/example/nimble_calculus/nimblecalculus/equivalence/Splits" "leaf" "[I" .null) (hF9 : Fld Z h0 a "com/example/nimble_calculus/nimblecalculus/equivalence/Splits" "height" "[I" .null) (hF10 : Fld Z h0 a "com/example/nimble_calculus/nimblecalculus/equivalence/Splits" "jumps" "[[I" .null) (hA11 : Ar Z h0 P .int pv) (hA12 : Ar Z h0 B .int bv) (hA13 : Ar Z h0 RR .int rv) (hA14 : Ar Z h0 NB .int nv) (hfr15 : Z.heap.size ≤ a) (hfr16 : Z.heap.size ≤ P) (hfr17 : Z.heap.size ≤ B) (hfr18 : Z.heap.size ≤ RR) (hfr19 : Z.heap.size ≤ NB) (hne20 : P ≠ B) (hne21 : P ≠ RR) (hne22 : P ≠ NB) (hne23 : B ≠ RR) (hne24 : B ≠ NB) (hne25 : RR ≠ NB) (hb : ¬ b < 0) (hn : ¬ nc < 0) (l1 : nc.toNatClampNeg < pv.length) (l2 : nc.toNatClampNeg < bv.length) (l3 : nc.toNatClampNeg < rv.length) (l4 : b.toNatClampNeg < nv.length) (s1 : pv.set nc.toNatClampNeg (.int sp) = pv2) (s2 : bv.set nc.toNatClampNeg (.int sc) = bv2) (s3 : rv.set nc.toNatClampNeg (.int r) = rv2) (s4 : nv.set b.toNatClampNeg (.int nc) = nv2) (hc : nc + 1 = nc2) :
    Con l Z (⟨"com/example/nimble_calculus/nimblecalculus/equivalence/Splits", "addPart", "(II)V"⟩ : MethodName) prog_61_method_3_code 4 none ({ frames := 0, cells := 0, slots := 0, locals := 0 } : Room) #[(.ref a), (.int b), (.int r)] h0 (fun vv hh => vv = none ∧ Keep h0 hh [a, P, B, RR, NB] ∧ Exa Z hh a "com/example/nimble_calculus/nimblecalculus/equivalence/Splits" ∧ Fld Z hh a "com/example/nimble_calculus/nimblecalculus/equivalence/Splits" "nodeCount" "I" (.int nc2) ∧ Fld Z hh a "com/example/nimble_calculus/nimblecalculus/equivalence/Splits" "splitCount" "I" (.int sc) ∧ Fld Z hh a "com/example/nimble_calculus/nimblecalculus/equivalence/Splits" "splitting" "I" (.int sp) ∧ Fld Z hh a "com/example/nimble_calculus/nimblecalculus/equivalence/Splits" "parent" "[I" (.ref P) ∧ Fld Z hh a "com/example/nimble_calculus/nimblecalculus/equivalence/Splits" "born" "[I" (.ref B) ∧ Fld Z hh a "com/example/nimble_calculus/nimblecalculus/equivalence/Splits" "representative" "[I" (.ref RR) ∧ Fld Z hh a "com/example/nimble_calculus/nimblecalculus/equivalence/Splits" "nodeOfBlock" "[I" (.ref NB) ∧ Fld Z hh a "com/example/nimble_calculus/nimblecalculus/equivalence/Splits" "leaf" "[I" .null ∧ Fld Z hh a "com/example/nimble_calculus/nimblecalculus/equivalence/Splits" "height" "[I" .null ∧ Fld Z hh a "com/example/nimble_calculus/nimblecalculus/equivalence/Splits" "jumps" "[[I" .null ∧ Ar Z hh P .int pv2 ∧ Ar Z hh B .int bv2 ∧ Ar Z hh RR .int rv2 ∧ Ar Z hh NB .int nv2) := by
  refine Con.of (plainFor_of_name (by first | (simp [plainName, overriddenIn]; done) | decide +kernel)) hE ?_
  intro p e s m below T (X : Sd l Z "com/example/nimble_calculus/nimblecalculus/equivalence/Splits" "addPart" prog_61_method_3_code 4 none ({ frames := 0, cells := 0, slots := 0, locals := 0 } : Room) p e s m #[(.ref a), (.int b), (.int r)] below T h0 0 0)
  refine End.frame (ef_rm7 m a b r) ?_
  have K_0 : Keep h0 h0 [a, P, B, RR, NB] := Keep.refl _ _
  have ne_1 : B ≠ a := Ne.symm (Ar.ne_exa hA12 hE0 (w_3 hw))
  have ne_2 : NB ≠ a := Ne.symm (Ar.ne_exa hA14 hE0 (w_3 hw))
  have ne_3 : P ≠ a := Ne.symm (Ar.ne_exa hA11 hE0 (w_3 hw))
  have ne_4 : RR ≠ a := Ne.symm (Ar.ne_exa hA13 hE0 (w_3 hw))
  show End Z p e below s _ _ _ _ (mkF m 0 #[.val (.ref a), .val (.int b), .val (.int r), .unset] [])
  refine E_aloadN (v := (.ref a)) (pc' := 1) X d7_0 rfl rfl rfl ?_
  refine E_dup (pc' := 2) X d7_1 rfl rfl ?_
  refine E_getF (pc' := 5) X (host := "") (Or.inl (w_11 hw)) Via.refl hF1 d7_2 rfl (fun T X => ?_)
  refine E_dup_x1 (pc' := 6) X d7_5 rfl rfl rfl ?_
  refine E_iconst (v := (1 : Int32)) (pc' := 7) X d7_6 rfl rfl ?_
  refine E_iadd (pc' := 8) X d7_7 rfl ?_
  refine E_eqI (z := nc2) hc ?_
  refine E_putF (pc' := 11) X (host := "") (Or.inl (w_11 hw)) Via.refl hF1 hE0 (Or.inl (w_12 hw)) (w_3 hw) (ty := .int) (by decide) rfl rfl hfr15 d7_8 rfl (fun T h_6 X W_5 => ?_)
  have K_7 : Keep h0 h_6 [a, P, B, RR, NB] := K_0.wr W_5 (Or.inl (List.mem_of_getElem? (i := 0) rfl))
  refine E_istoreN (Ls' := #[.val (.ref a), .val (.int b), .val (.int r), .val (.int nc)]) (pc' := 12) X d7_11 rfl rfl ?_
  refine E_aloadN (v := (.ref a)) (pc' := 13) X d7_12 rfl rfl rfl ?_
  have F_8 : Fld Z h_6 a "com/example/nimble_calculus/nimblecalculus/equivalence/Splits" "parent" "[I" (.ref P) := (hF4.other W_5 (Or.inr (slot_ne (Or.inr (w_23 hw)) (Or.inl (w_12 hw)) (by decide) (t := (.array .int)) (t' := .int) (by decide) (by decide))))
  refine E_getF (pc' := 16) X (host := "") (Or.inl (w_22 hw)) Via.refl F_8 d7_13 rfl (fun T X => ?_)
  refine E_iloadN (pc' := 17) X d7_16 rfl rfl ?_
  refine E_aloadN (v := (.ref a)) (pc' := 18) X d7_17 rfl rfl rfl ?_
  have F_9 : Fld Z h_6 a "com/example/nimble_calculus/nimblecalculus/equivalence/Splits" "splitting" "I" (.int sp) := (hF3.other W_5 (Or.inr (slot_ne (Or.inl (w_41 hw)) (Or.inl (w_12 hw)) (by decide) (t := .int) (t' := .int) (by decide) (by decide))))
  refine E_getF (pc' := 21) X (host := "") (Or.inl (w_40 hw)) Via.refl F_9 d7_18 rfl (fun T X => ?_)
  have A_10 : Ar Z h_6 P .int pv := (hA11.other W_5 ne_3)
  refine E_iastore (vs' := pv2) (pc' := 22) X A_10 hn l1 s1 hfr16 d7_21 rfl (fun T h_12 X W_11 Aa_13 => ?_)
  have K_14 : Keep h0 h_12 [a, P, B, RR, NB] := K_7.wr W_11 (Or.inl (List.mem_of_getElem? (i := 1) rfl))
  refine E_aloadN (v := (.ref a)) (pc' := 23) X d7_22 rfl rfl rfl ?_
  have F_15 : Fld Z h_12 a "com/example/nimble_calculus/nimblecalculus/equivalence/Splits" "born" "[I" (.ref B) := ((hF5.other W_5 (Or.inr (slot_ne (Or.inr (w_25 hw)) (Or.inl (w_12 hw)) (by decide) (t := (.array .int)) (t' := .int) (by decide) (by decide)))).other W_11 (Or.inl (Ne.symm ne_3)))
  refine E_getF (pc' := 26) X (host := "") (Or.inl (w_24 hw)) Via.refl F_15 d7_23 rfl (fun T X => ?_)
  refine E_iloadN (pc' := 27) X d7_26 rfl rfl ?_
  refine E_aloadN (v := (.ref a)) (pc' := 28) X d7_27 rfl rfl rfl ?_
  have F_16 : Fld Z h_12 a "com/example/nimble_calculus/nimblecalculus/equivalence/Splits" "splitCount" "I" (.int sc) := ((hF2.other W_5 (Or.inr (slot_ne (Or.inl (w_39 hw)) (Or.inl (w_12 hw)) (by decide) (t := .int) (t' := .int) (by decide) (by decide)))).other W_11 (Or.inl (Ne.symm ne_3)))
  refine E_getF (pc' := 31) X (host := "") (Or.inl (w_38 hw)) Via.refl F_16 d7_28 rfl (fun T X => ?_)
  have A_17 : Ar Z h_12 B .int bv := ((hA12.other W_5 ne_1).other W_11 (Ne.symm hne20))
  refine E_iastore (vs' := bv2) (pc' := 32) X A_17 hn l2 s2 hfr17 d7_31 rfl (fun T h_19 X W_18 Aa_20 => ?_)
  have K_21 : Keep h0 h_19 [a, P, B, RR, NB] := K_14.wr W_18 (Or.inl (List.mem_of_getElem? (i := 2) rfl))
  refine E_aloadN (v := (.ref a)) (pc' := 33) X d7_32 rfl rfl rfl ?_
  have F_22 : Fld Z h_19 a "com/example/nimble_calculus/nimblecalculus/equivalence/Splits" "representative" "[I" (.ref RR) := (((hF6.other W_5 (Or.inr (slot_ne (Or.inr (w_27 hw)) (Or.inl (w_12 hw)) (by decide) (t := (.array .int)) (t' := .int) (by decide) (by decide)))).other W_11 (Or.inl (Ne.symm ne_3))).other W_18 (Or.inl (Ne.symm ne_1)))
  refine E_getF (pc' := 36) X (host := "") (Or.inl (w_26 hw)) Via.refl F_22 d7_33 rfl (fun T X => ?_)
  refine E_iloadN (pc' := 37) X d7_36 rfl rfl ?_
  refine E_iloadN (pc' := 38) X d7_37 rfl rfl ?_
  have A_23 : Ar Z h_19 RR .int rv := (((hA13.other W_5 ne_4).other W_11 (Ne.symm hne21)).other W_18 (Ne.symm hne23))
  refine E_iastore (vs' := rv2) (pc' := 39) X A_23 hn l3 s3 hfr18 d7_38 rfl (fun T h_25 X W_24 Aa_26 => ?_)
  have K_27 : Keep h0 h_25 [a, P, B, RR, NB] := K_21.wr W_24 (Or.inl (List.mem_of_getElem? (i := 3) rfl))
  refine E_aloadN (v := (.ref a)) (pc' := 40) X d7_39 rfl rfl rfl ?_
  have F_28 : Fld Z h_25 a "com/example/nimble_calculus/nimblecalculus/equivalence/Splits" "nodeOfBlock" "[I" (.ref NB) := ((((hF7.other W_5 (Or.inr (slot_ne (Or.inr (w_32 hw)) (Or.inl (w_12 hw)) (by decide) (t := (.array .int)) (t' := .int) (by decide) (by decide)))).other W_11 (Or.inl (Ne.symm ne_3))).other W_18 (Or.inl (Ne.symm ne_1))).other W_24 (Or.inl (Ne.symm ne_4)))
  refine E_getF (pc' := 43) X (host := "") (Or.inl (w_31 hw)) Via.refl F_28 d7_40 rfl (fun T X => ?_)
  refine E_iloadN (pc' := 44) X d7_43 rfl rfl ?_
  refine E_iloadN (pc' := 45) X d7_44 rfl rfl ?_
  have A_29 : Ar Z h_25 NB .int nv := ((((hA14.other W_5 ne_2).other W_11 (Ne.symm hne22)).other W_18 (Ne.symm hne24)).other W_24 (Ne.symm hne25))
  refine E_iastore (vs' := nv2) (pc' := 46) X A_29 hb l4 s4 hfr19 d7_45 rfl (fun T h_31 X W_30 Aa_32 => ?_)
  have K_33 : Keep h0 h_31 [a, P, B, RR, NB] := K_27.wr W_30 (Or.inl (List.mem_of_getElem? (i := 4) rfl))
  have E_34 : Exa Z h_31 a "com/example/nimble_calculus/nimblecalculus/equivalence/Splits" := (((((hE0.wr W_5).wr W_11).wr W_18).wr W_24).wr W_30)
  have F_35 : Fld Z h_31 a "com/example/nimble_calculus/nimblecalculus/equivalence/Splits" "nodeCount" "I" (.int nc2) := (((((hF1.same W_5).other W_11 (Or.inl (Ne.symm ne_3))).other W_18 (Or.inl (Ne.symm ne_1))).other W_24 (Or.inl (Ne.symm ne_4))).other W_30 (Or.inl (Ne.symm ne_2)))
  have F_36 : Fld Z h_31 a "com/example/nimble_calculus/nimblecalculus/equivalence/Splits" "splitCount" "I" (.int sc) := (((F_16.other W_18 (Or.inl (Ne.symm ne_1))).other W_24 (Or.inl (Ne.symm ne_4))).other W_30 (Or.inl (Ne.symm ne_2)))
  have F_37 : Fld Z h_31 a "com/example/nimble_calculus/nimblecalculus/equivalence/Splits" "splitting" "I" (.int sp) := ((((F_9.other W_11 (Or.inl (Ne.symm ne_3))).other W_18 (Or.inl (Ne.symm ne_1))).other W_24 (Or.inl (Ne.symm ne_4))).other W_30 (Or.inl (Ne.symm ne_2)))
  have F_38 : Fld Z h_31 a "com/example/nimble_calculus/nimblecalculus/equivalence/Splits" "parent" "[I" (.ref P) := ((((F_8.other W_11 (Or.inl (Ne.symm ne_3))).other W_18 (Or.inl (Ne.symm ne_1))).other W_24 (Or.inl (Ne.symm ne_4))).other W_30 (Or.inl (Ne.symm ne_2)))
  have F_39 : Fld Z h_31 a "com/example/nimble_calculus/nimblecalculus/equivalence/Splits" "born" "[I" (.ref B) := (((F_15.other W_18 (Or.inl (Ne.symm ne_1))).other W_24 (Or.inl (Ne.symm ne_4))).other W_30 (Or.inl (Ne.symm ne_2)))
  have F_40 : Fld Z h_31 a "com/example/nimble_calculus/nimblecalculus/equivalence/Splits" "representative" "[I" (.ref RR) := ((F_22.other W_24 (Or.inl (Ne.symm ne_4))).other W_30 (Or.inl (Ne.symm ne_2)))
  have F_41 : Fld Z h_31 a "com/example/nimble_calculus/nimblecalculus/equivalence/Splits" "nodeOfBlock" "[I" (.ref NB) := (F_28.other W_30 (Or.inl (Ne.symm ne_2)))
  have F_42 : Fld Z h_31 a "com/example/nimble_calculus/nimblecalculus/equivalence/Splits" "leaf" "[I" .null := (((((hF8.other W_5 (Or.inr (slot_ne (Or.inl (w_53 hw)) (Or.inl (w_12 hw)) (by decide) (t := (.array .int)) (t' := .int) (by decide) (by decide)))).other W_11 (Or.inl (Ne.symm ne_3))).other W_18 (Or.inl (Ne.symm ne_1))).other W_24 (Or.inl (Ne.symm ne_4))).other W_30 (Or.inl (Ne.symm ne_2)))
  have F_43 : Fld Z h_31 a "com/example/nimble_calculus/nimblecalculus/equivalence/Splits" "height" "[I" .null := (((((hF9.other W_5 (Or.inr (slot_ne (Or.inl (w_55 hw)) (Or.inl (w_12 hw)) (by decide) (t := (.array .int)) (t' := .int) (by decide) (by decide)))).other W_11 (Or.inl (Ne.symm ne_3))).other W_18 (Or.inl (Ne.symm ne_1))).other W_24 (Or.inl (Ne.symm ne_4))).other W_30 (Or.inl (Ne.symm ne_2)))
  have F_44 : Fld Z h_31 a "com/example/nimble_calculus/nimblecalculus/equivalence/Splits" "jumps" "[[I" .null := (((((hF10.other W_5 (Or.inr (slot_ne (Or.inl (w_64 hw)) (Or.inl (w_12 hw)) (by decide) (t := (.array (.array .int))) (t' := .int) (by decide) (by decide)))).other W_11 (Or.inl (Ne.symm ne_3))).other W_18 (Or.inl (Ne.symm ne_1))).other W_24 (Or.inl (Ne.symm ne_4))).other W_30 (Or.inl (Ne.symm ne_2)))
  have A_45 : Ar Z h_31 P .int pv2 := (((Aa_13.other W_18 hne20).other W_24 hne21).other W_30 hne22)
  have A_46 : Ar Z h_31 B .int bv2 := ((Aa_20.other W_24 hne23).other W_30 hne24)
  have A_47 : Ar Z h_31 RR .int rv2 := (Aa_26.other W_30 hne25)
  exact E_ret0 X d7_46 (by decide) (by decide) ⟨rfl, K_33, E_34, F_35, F_36, F_37, F_38, F_39, F_40, F_41, F_42, F_43, F_44, A_45, A_46, A_47, Aa_32⟩
theorem d9_0 : decode jdk_33_method_47_code 0 = .ok (.iload_n 0, 1) := by decide +kernel
theorem d9_1 : decode jdk_33_method_47_code 1 = .ok (.ifCond .gt 14, 3) := by decide +kernel
theorem d9_15 : decode jdk_33_method_47_code 15 = .ok (.bipush 31, 2) := by decide +kernel
theorem d9_17 : decode jdk_33_method_47_code 17 = .ok (.istore_n 1, 1) := by decide +kernel
theorem d9_18 : decode jdk_33_method_47_code 18 = .ok (.iload_n 0, 1) := by decide +kernel
theorem d9_19 : decode jdk_33_method_47_code 19 = .ok (.ldc_w 264, 3) := by decide +kernel
theorem d9_22 : decode jdk_33_method_47_code 22 = .ok (.if_icmp .lt 11, 3) := by decide +kernel
theorem d9_33 : decode jdk_33_method_47_code 33 = .ok (.iload_n 0, 1) := by decide +kernel
theorem d9_34 : decode jdk_33_method_47_code 34 = .ok (.sipush 256, 3) := by decide +kernel
theorem d9_37 : decode jdk_33_method_47_code 37 = .ok (.if_icmp .lt 11, 3) := by decide +kernel
theorem d9_48 : decode jdk_33_method_47_code 48 = .ok (.iload_n 0, 1) := by decide +kernel
theorem d9_49 : decode jdk_33_method_47_code 49 = .ok (.bipush 16, 2) := by decide +kernel
theorem d9_51 : decode jdk_33_method_47_code 51 = .ok (.if_icmp .lt 10, 3) := by decide +kernel
theorem d9_61 : decode jdk_33_method_47_code 61 = .ok (.iload_n 0, 1) := by decide +kernel
theorem d9_62 : decode jdk_33_method_47_code 62 = .ok (.iconst 4, 1) := by decide +kernel
theorem d9_63 : decode jdk_33_method_47_code 63 = .ok (.if_icmp .lt 10, 3) := by decide +kernel
theorem d9_73 : decode jdk_33_method_47_code 73 = .ok (.iload_n 1, 1) := by decide +kernel
theorem d9_74 : decode jdk_33_method_47_code 74 = .ok (.iload_n 0, 1) := by decide +kernel
theorem d9_75 : decode jdk_33_method_47_code 75 = .ok (.iconst 1, 1) := by decide +kernel
theorem d9_76 : decode jdk_33_method_47_code 76 = .ok (.iushr, 1) := by decide +kernel
theorem d9_77 : decode jdk_33_method_47_code 77 = .ok (.isub, 1) := by decide +kernel
theorem d9_78 : decode jdk_33_method_47_code 78 = .ok (.ireturn, 1) := by decide +kernel
theorem ef_rm_nlz2 (m : MethodId) (x0 : Int32) : entryFrame m #[(.int x0)] 2 = mkF m 0 #[.val (.int x0), .unset] [] := by first | (simp [entryFrame, mkF, argsToLocals, Value.category]; done) | (simp [entryFrame, mkF, argsToLocals, *]; done) | rfl
set_option maxRecDepth 65536 in
set_option maxHeartbeats 2000000 in
theorem rm_nlz2 (l : Launch) (Z : State) (a0 : Array Value) (hw : ∀ d ∈ tables_1, d.before a0 Z = true) (h0 : Heap) (hE : Ext Z.heap h0) :
    Con l Z (⟨"java/lang/Integer", "numberOfLeadingZeros", "(I)I"⟩ : MethodName) jdk_33_method_47_code 2 (some .int) ({ frames := 0, cells := 0, slots := 0, locals := 0 } : Room) #[(.int (2 : Int32))] h0 (fun vv hh => vv = some (.int (30 : Int32)) ∧ h0 = hh) := by
  refine Con.of (plainFor_of_name (by first | (simp [plainName, overriddenIn]; done) | decide +kernel)) hE ?_
  intro p e s m below T (X : Sd l Z "java/lang/Integer" "numberOfLeadingZeros" jdk_33_method_47_code 2 (some .int) ({ frames := 0, cells := 0, slots := 0, locals := 0 } : Room) p e s m #[(.int (2 : Int32))] below T h0 0 0)
  refine End.frame (ef_rm_nlz2 m (2 : Int32)) ?_
  show End Z p e below s _ _ _ _ (mkF m 0 #[.val (.int (2 : Int32)), .unset] [])
  refine E_iloadN (pc' := 1) X d9_0 rfl rfl ?_
  refine E_if (pcY := 15) (pcN := 4) X (i0_gt _) d9_1 (by decide) rfl rfl (fun hc1_0 => ?_) (fun hc1_0 => absurd (by decide) hc1_0)
  refine E_bipush (v := (31 : Int32)) (pc' := 17) X d9_15 rfl rfl ?_
  refine E_istoreN (Ls' := #[.val (.int (2 : Int32)), .val (.int (31 : Int32))]) (pc' := 18) X d9_17 rfl rfl ?_
  refine E_iloadN (pc' := 19) X d9_18 rfl rfl ?_
  refine E_ldcwI (v := (65536 : Int32)) (pc' := 22) X (w_60 hw) d9_19 rfl ?_
  refine E_icmp (pcY := 33) (pcN := 25) X (ic_lt _ _) d9_22 (by decide) rfl rfl (fun hc22_0 => ?_) (fun hc22_0 => absurd (by decide) hc22_0)
  refine E_iloadN (pc' := 34) X d9_33 rfl rfl ?_
  refine E_sipush (v := (256 : Int32)) (pc' := 37) X d9_34 rfl rfl ?_
  refine E_icmp (pcY := 48) (pcN := 40) X (ic_lt _ _) d9_37 (by decide) rfl rfl (fun hc37_0 => ?_) (fun hc37_0 => absurd (by decide) hc37_0)
  refine E_iloadN (pc' := 49) X d9_48 rfl rfl ?_
  refine E_bipush (v := (16 : Int32)) (pc' := 51) X d9_49 rfl rfl ?_
  refine E_icmp (pcY := 61) (pcN := 54) X (ic_lt _ _) d9_51 (by decide) rfl rfl (fun hc51_0 => ?_) (fun hc51_0 => absurd (by decide) hc51_0)
  refine E_iloadN (pc' := 62) X d9_61 rfl rfl ?_
  refine E_iconst (v := (4 : Int32)) (pc' := 63) X d9_62 rfl rfl ?_
  refine E_icmp (pcY := 73) (pcN := 66) X (ic_lt _ _) d9_63 (by decide) rfl rfl (fun hc63_0 => ?_) (fun hc63_0 => absurd (by decide) hc63_0)
  refine E_iloadN (pc' := 74) X d9_73 rfl rfl ?_
  refine E_iloadN (pc' := 75) X d9_74 rfl rfl ?_
  refine E_iconst (v := (1 : Int32)) (pc' := 76) X d9_75 rfl rfl ?_
  refine E_iushr (pc' := 77) X d9_76 rfl ?_
  refine E_eqI (z := (1 : Int32)) (by decide) ?_
  refine E_isub (pc' := 78) X d9_77 rfl ?_
  refine E_eqI (z := (30 : Int32)) (by decide) ?_
  exact E_retI X d9_78 (by decide) (by decide) ⟨rfl, rfl⟩
theorem ef_rm_nlz3 (m : MethodId) (x0 : Int32) : entryFrame m #[(.int x0)] 2 = mkF m 0 #[.val (.int x0), .unset] [] := by first | (simp [entryFrame, mkF, argsToLocals, Value.category]; done) | (simp [entryFrame, mkF, argsToLocals, *]; done) | rfl
set_option maxRecDepth 65536 in
set_option maxHeartbeats 2000000 in
theorem rm_nlz3 (l : Launch) (Z : State) (a0 : Array Value) (hw : ∀ d ∈ tables_1, d.before a0 Z = true) (h0 : Heap) (hE : Ext Z.heap h0) :
    Con l Z (⟨"java/lang/Integer", "numberOfLeadingZeros", "(I)I"⟩ : MethodName) jdk_33_method_47_code 2 (some .int) ({ frames := 0, cells := 0, slots := 0, locals := 0 } : Room) #[(.int (3 : Int32))] h0 (fun vv hh => vv = some (.int (30 : Int32)) ∧ h0 = hh) := by
  refine Con.of (plainFor_of_name (by first | (simp [plainName, overriddenIn]; done) | decide +kernel)) hE ?_
  intro p e s m below T (X : Sd l Z "java/lang/Integer" "numberOfLeadingZeros" jdk_33_method_47_code 2 (some .int) ({ frames := 0, cells := 0, slots := 0, locals := 0 } : Room) p e s m #[(.int (3 : Int32))] below T h0 0 0)
  refine End.frame (ef_rm_nlz3 m (3 : Int32)) ?_
  show End Z p e below s _ _ _ _ (mkF m 0 #[.val (.int (3 : Int32)), .unset] [])
  refine E_iloadN (pc' := 1) X d9_0 rfl rfl ?_
  refine E_if (pcY := 15) (pcN := 4) X (i0_gt _) d9_1 (by decide) rfl rfl (fun hc1_0 => ?_) (fun hc1_0 => absurd (by decide) hc1_0)
  refine E_bipush (v := (31 : Int32)) (pc' := 17) X d9_15 rfl rfl ?_
  refine E_istoreN (Ls' := #[.val (.int (3 : Int32)), .val (.int (31 : Int32))]) (pc' := 18) X d9_17 rfl rfl ?_
  refine E_iloadN (pc' := 19) X d9_18 rfl rfl ?_
  refine E_ldcwI (v := (65536 : Int32)) (pc' := 22) X (w_60 hw) d9_19 rfl ?_
  refine E_icmp (pcY := 33) (pcN := 25) X (ic_lt _ _) d9_22 (by decide) rfl rfl (fun hc22_0 => ?_) (fun hc22_0 => absurd (by decide) hc22_0)
  refine E_iloadN (pc' := 34) X d9_33 rfl rfl ?_
  refine E_sipush (v := (256 : Int32)) (pc' := 37) X d9_34 rfl rfl ?_
  refine E_icmp (pcY := 48) (pcN := 40) X (ic_lt _ _) d9_37 (by decide) rfl rfl (fun hc37_0 => ?_) (fun hc37_0 => absurd (by decide) hc37_0)
  refine E_iloadN (pc' := 49) X d9_48 rfl rfl ?_
  refine E_bipush (v := (16 : Int32)) (pc' := 51) X d9_49 rfl rfl ?_
  refine E_icmp (pcY := 61) (pcN := 54) X (ic_lt _ _) d9_51 (by decide) rfl rfl (fun hc51_0 => ?_) (fun hc51_0 => absurd (by decide) hc51_0)
  refine E_iloadN (pc' := 62) X d9_61 rfl rfl ?_
  refine E_iconst (v := (4 : Int32)) (pc' := 63) X d9_62 rfl rfl ?_
  refine E_icmp (pcY := 73) (pcN := 66) X (ic_lt _ _) d9_63 (by decide) rfl rfl (fun hc63_0 => ?_) (fun hc63_0 => absurd (by decide) hc63_0)
  refine E_iloadN (pc' := 74) X d9_73 rfl rfl ?_
  refine E_iloadN (pc' := 75) X d9_74 rfl rfl ?_
  refine E_iconst (v := (1 : Int32)) (pc' := 76) X d9_75 rfl rfl ?_
  refine E_iushr (pc' := 77) X d9_76 rfl ?_
  refine E_eqI (z := (1 : Int32)) (by decide) ?_
  refine E_isub (pc' := 78) X d9_77 rfl ?_
  refine E_eqI (z := (30 : Int32)) (by decide) ?_
  exact E_retI X d9_78 (by decide) (by decide) ⟨rfl, rfl⟩
theorem d10_0 : decode jdk_65_method_123_code 0 = .ok (.iload_n 1, 1) := by decide +kernel
theorem d10_1 : decode jdk_65_method_123_code 1 = .ok (.aload_n 0, 1) := by decide +kernel
theorem d10_2 : decode jdk_65_method_123_code 2 = .ok (.arraylength, 1) := by decide +kernel
theorem d10_3 : decode jdk_65_method_123_code 3 = .ok (.if_icmp .ne 11, 3) := by decide +kernel
theorem d10_6 : decode jdk_65_method_123_code 6 = .ok (.aload_n 0, 1) := by decide +kernel
theorem d10_7 : decode jdk_65_method_123_code 7 = .ok (.invokevirtual 316, 3) := by decide +kernel
theorem d10_10 : decode jdk_65_method_123_code 10 = .ok (.checkcast 317, 3) := by decide +kernel
theorem d10_13 : decode jdk_65_method_123_code 13 = .ok (.areturn, 1) := by decide +kernel
theorem ef_rm10 (m : MethodId) (x0 : Addr) (x1 : Int32) : entryFrame m #[(.ref x0), (.int x1)] 3 = mkF m 0 #[.val (.ref x0), .val (.int x1), .unset] [] := by first | (simp [entryFrame, mkF, argsToLocals, Value.category]; done) | (simp [entryFrame, mkF, argsToLocals, *]; done) | rfl
set_option maxRecDepth 65536 in
set_option maxHeartbeats 2000000 in
theorem rm10 (l : Launch) (Z : State) (a0 : Array Value) (hw : ∀ d ∈ tables_1, d.before a0 Z = true) (t : Addr) (p0 : Int32) (p1 : Int32) (p2 : Int32) (p3 : Int32) (p4 : Int32) (p5 : Int32) (p6 : Int32) (h0 : Heap) (hE : Ext Z.heap h0) (hA0 : Ar Z h0 t .int [(.int p0), (.int p1), (.int p2), (.int p3), (.int p4), (.int p5), (.int p6)]) (hE1 : Exa Z h0 t "[I") :
    Con l Z (⟨"java/util/Arrays", "copyOf", "([II)[I"⟩ : MethodName) jdk_65_method_123_code 3 (some (.array .int)) ({ frames := 1, cells := 1, slots := 7, locals := 14 } : Room) #[(.ref t), (.int (7 : Int32))] h0 (fun vv hh => ∃ r : Addr, vv = some (.ref r) ∧ Keep h0 hh [] ∧ h0.size ≤ r ∧ Ar Z hh r .int [(.int p0), (.int p1), (.int p2), (.int p3), (.int p4), (.int p5), (.int p6)] ∧ Exa Z hh r "[I") := by
  refine Con.of (plainFor_of_name (by first | (simp [plainName, overriddenIn]; done) | decide +kernel)) hE ?_
  intro p e s m below T (X : Sd l Z "java/util/Arrays" "copyOf" jdk_65_method_123_code 3 (some (.array .int)) ({ frames := 1, cells := 1, slots := 7, locals := 14 } : Room) p e s m #[(.ref t), (.int (7 : Int32))] below T h0 0 0)
  refine End.frame (ef_rm10 m t (7 : Int32)) ?_
  have K_0 : Keep h0 h0 [] := Keep.refl _ _
  show End Z p e below s _ _ _ _ (mkF m 0 #[.val (.ref t), .val (.int (7 : Int32)), .unset] [])
  refine E_iloadN (pc' := 1) X d10_0 rfl rfl ?_
  refine E_aloadN (v := (.ref t)) (pc' := 2) X d10_1 rfl rfl rfl ?_
  refine E_alen (n := (7 : Int32)) (pc' := 3) X hA0 rfl d10_2 rfl ?_
  refine E_icmp (pcY := 14) (pcN := 6) X (ic_ne _ _) d10_3 (by decide) rfl rfl (fun hc3_0 => absurd hc3_0 (by decide)) (fun hc3_0 => ?_)
  refine E_aloadN (v := (.ref t)) (pc' := 7) X d10_6 rfl rfl rfl ?_
  have le_o1 := X.le
  refine E_clone (pc' := 10) X (cap := 7) (W := 0) (cells' := 1) (slots' := 7) (w_69 hw) (w_70 hw) (w_74 hw) (w_72 hw) (w_73 hw) (w_75 hw) hA0 hE1 (by simp [fits]) rfl d10_7 rfl (by decide) (Nat.le_refl _) (by decide) (Nat.le_of_ble_eq_true rfl) rfl rfl (by decide) (by decide) (fun T h_2 o1 g_5 X Ex_3 Aa_4 EaAa_4 => ?_)
  have b_6 : h0.size ≤ o1 := by rw [g_5]; exact K_0.1
  have K_7 : Keep h0 h_2 [] := K_0.ext Ex_3
  have fr_8 : Z.heap.size ≤ o1 := by rw [g_5]; exact le_o1
  have ne_9 : t ≠ o1 := Nat.ne_of_lt (by rw [g_5]; exact hE1.lt)
  refine E_cast (pc' := 13) X (w_76 hw) (Ins.self EaAa_4) d10_10 rfl (fun T X => ?_)
  exact E_retA X d10_13 rfl rfl (by decide) (by decide) ⟨o1, rfl, K_7, b_6, Aa_4, EaAa_4⟩
def ownE10 (x : Int32) : Int32 := if ¬ (1 : Int32) < x then 0 else if ¬ (2 : Int32) < x then 1 else if ¬ (3 : Int32) < x then 3 else 5
def ownE11 (x : Int32) : Int32 := if ¬ (1 : Int32) < x then 0 else if ¬ (2 : Int32) < x then 1 else if ¬ (3 : Int32) < x then 3 else 6
def ownE12 (x : Int32) : Int32 := if ¬ (1 : Int32) < x then 0 else if ¬ (2 : Int32) < x then 1 else 4
def ownE13 (x : Int32) : Int32 := if ¬ (1 : Int32) < x then 0 else 2
def ownE00 (x : Int32) : Int32 := if ¬ (1 : Int32) < x then 0 else if ¬ (2 : Int32) < x then 1 else 3
def ownE01 (x : Int32) : Int32 := if ¬ (1 : Int32) < x then 0 else if ¬ (2 : Int32) < x then 1 else 4
def ownE02 (x : Int32) : Int32 := if ¬ (1 : Int32) < x then 0 else if ¬ (3 : Int32) < x then 2 else 5
def ownE03 (x : Int32) : Int32 := if ¬ (1 : Int32) < x then 0 else if ¬ (3 : Int32) < x then 2 else 6
theorem d8_0 : decode prog_61_method_4_code 0 = .ok (.aload_n 0, 1) := by decide +kernel
theorem d8_1 : decode prog_61_method_4_code 1 = .ok (.aload_n 1, 1) := by decide +kernel
theorem d8_2 : decode prog_61_method_4_code 2 = .ok (.arraylength, 1) := by decide +kernel
theorem d8_3 : decode prog_61_method_4_code 3 = .ok (.newarray .int, 2) := by decide +kernel
theorem d8_5 : decode prog_61_method_4_code 5 = .ok (.putfield 50, 3) := by decide +kernel
theorem d8_8 : decode prog_61_method_4_code 8 = .ok (.iconst 0, 1) := by decide +kernel
theorem d8_9 : decode prog_61_method_4_code 9 = .ok (.istore_n 2, 1) := by decide +kernel
theorem d8_10 : decode prog_61_method_4_code 10 = .ok (.iload_n 2, 1) := by decide +kernel
theorem d8_11 : decode prog_61_method_4_code 11 = .ok (.aload_n 1, 1) := by decide +kernel
theorem d8_12 : decode prog_61_method_4_code 12 = .ok (.arraylength, 1) := by decide +kernel
theorem d8_13 : decode prog_61_method_4_code 13 = .ok (.if_icmp .ge 23, 3) := by decide +kernel
theorem d8_16 : decode prog_61_method_4_code 16 = .ok (.aload_n 0, 1) := by decide +kernel
theorem d8_17 : decode prog_61_method_4_code 17 = .ok (.getfield 50, 3) := by decide +kernel
theorem d8_20 : decode prog_61_method_4_code 20 = .ok (.iload_n 2, 1) := by decide +kernel
theorem d8_21 : decode prog_61_method_4_code 21 = .ok (.aload_n 0, 1) := by decide +kernel
theorem d8_22 : decode prog_61_method_4_code 22 = .ok (.getfield 41, 3) := by decide +kernel
theorem d8_25 : decode prog_61_method_4_code 25 = .ok (.aload_n 1, 1) := by decide +kernel
theorem d8_26 : decode prog_61_method_4_code 26 = .ok (.iload_n 2, 1) := by decide +kernel
theorem d8_27 : decode prog_61_method_4_code 27 = .ok (.iaload, 1) := by decide +kernel
theorem d8_28 : decode prog_61_method_4_code 28 = .ok (.iaload, 1) := by decide +kernel
theorem d8_29 : decode prog_61_method_4_code 29 = .ok (.iastore, 1) := by decide +kernel
theorem d8_30 : decode prog_61_method_4_code 30 = .ok (.iinc 2 1, 3) := by decide +kernel
theorem d8_33 : decode prog_61_method_4_code 33 = .ok (.goto (-23), 3) := by decide +kernel
theorem d8_36 : decode prog_61_method_4_code 36 = .ok (.aload_n 0, 1) := by decide +kernel
theorem d8_37 : decode prog_61_method_4_code 37 = .ok (.aload_n 0, 1) := by decide +kernel
theorem d8_38 : decode prog_61_method_4_code 38 = .ok (.getfield 7, 3) := by decide +kernel
theorem d8_41 : decode prog_61_method_4_code 41 = .ok (.newarray .int, 2) := by decide +kernel
theorem d8_43 : decode prog_61_method_4_code 43 = .ok (.putfield 53, 3) := by decide +kernel
theorem d8_46 : decode prog_61_method_4_code 46 = .ok (.iconst 0, 1) := by decide +kernel
theorem d8_47 : decode prog_61_method_4_code 47 = .ok (.istore_n 2, 1) := by decide +kernel
theorem d8_48 : decode prog_61_method_4_code 48 = .ok (.iconst 1, 1) := by decide +kernel
theorem d8_49 : decode prog_61_method_4_code 49 = .ok (.istore_n 3, 1) := by decide +kernel
theorem d8_50 : decode prog_61_method_4_code 50 = .ok (.iload_n 3, 1) := by decide +kernel
theorem d8_51 : decode prog_61_method_4_code 51 = .ok (.aload_n 0, 1) := by decide +kernel
theorem d8_52 : decode prog_61_method_4_code 52 = .ok (.getfield 7, 3) := by decide +kernel
theorem d8_55 : decode prog_61_method_4_code 55 = .ok (.if_icmp .ge 39, 3) := by decide +kernel
theorem d8_58 : decode prog_61_method_4_code 58 = .ok (.aload_n 0, 1) := by decide +kernel
theorem d8_59 : decode prog_61_method_4_code 59 = .ok (.getfield 53, 3) := by decide +kernel
theorem d8_62 : decode prog_61_method_4_code 62 = .ok (.iload_n 3, 1) := by decide +kernel
theorem d8_63 : decode prog_61_method_4_code 63 = .ok (.aload_n 0, 1) := by decide +kernel
theorem d8_64 : decode prog_61_method_4_code 64 = .ok (.getfield 53, 3) := by decide +kernel
theorem d8_67 : decode prog_61_method_4_code 67 = .ok (.aload_n 0, 1) := by decide +kernel
theorem d8_68 : decode prog_61_method_4_code 68 = .ok (.getfield 28, 3) := by decide +kernel
theorem d8_71 : decode prog_61_method_4_code 71 = .ok (.iload_n 3, 1) := by decide +kernel
theorem d8_72 : decode prog_61_method_4_code 72 = .ok (.iaload, 1) := by decide +kernel
theorem d8_73 : decode prog_61_method_4_code 73 = .ok (.iaload, 1) := by decide +kernel
theorem d8_74 : decode prog_61_method_4_code 74 = .ok (.iconst 1, 1) := by decide +kernel
theorem d8_75 : decode prog_61_method_4_code 75 = .ok (.iadd, 1) := by decide +kernel
theorem d8_76 : decode prog_61_method_4_code 76 = .ok (.iastore, 1) := by decide +kernel
theorem d8_77 : decode prog_61_method_4_code 77 = .ok (.iload_n 2, 1) := by decide +kernel
theorem d8_78 : decode prog_61_method_4_code 78 = .ok (.aload_n 0, 1) := by decide +kernel
theorem d8_79 : decode prog_61_method_4_code 79 = .ok (.getfield 53, 3) := by decide +kernel
theorem d8_82 : decode prog_61_method_4_code 82 = .ok (.iload_n 3, 1) := by decide +kernel
theorem d8_83 : decode prog_61_method_4_code 83 = .ok (.iaload, 1) := by decide +kernel
theorem d8_84 : decode prog_61_method_4_code 84 = .ok (.invokestatic 38, 3) := by decide +kernel
theorem d8_87 : decode prog_61_method_4_code 87 = .ok (.istore_n 2, 1) := by decide +kernel
theorem d8_88 : decode prog_61_method_4_code 88 = .ok (.iinc 3 1, 3) := by decide +kernel
theorem d8_91 : decode prog_61_method_4_code 91 = .ok (.goto (-41), 3) := by decide +kernel
theorem d8_94 : decode prog_61_method_4_code 94 = .ok (.bipush 32, 2) := by decide +kernel
theorem d8_96 : decode prog_61_method_4_code 96 = .ok (.iconst 1, 1) := by decide +kernel
theorem d8_97 : decode prog_61_method_4_code 97 = .ok (.iload_n 2, 1) := by decide +kernel
theorem d8_98 : decode prog_61_method_4_code 98 = .ok (.invokestatic 38, 3) := by decide +kernel
theorem d8_101 : decode prog_61_method_4_code 101 = .ok (.invokestatic 56, 3) := by decide +kernel
theorem d8_104 : decode prog_61_method_4_code 104 = .ok (.isub, 1) := by decide +kernel
theorem d8_105 : decode prog_61_method_4_code 105 = .ok (.istore_n 3, 1) := by decide +kernel
theorem d8_106 : decode prog_61_method_4_code 106 = .ok (.aload_n 0, 1) := by decide +kernel
theorem d8_107 : decode prog_61_method_4_code 107 = .ok (.iload_n 3, 1) := by decide +kernel
theorem d8_108 : decode prog_61_method_4_code 108 = .ok (.anewarray 60, 3) := by decide +kernel
theorem d8_111 : decode prog_61_method_4_code 111 = .ok (.putfield 61, 3) := by decide +kernel
theorem d8_114 : decode prog_61_method_4_code 114 = .ok (.aload_n 0, 1) := by decide +kernel
theorem d8_115 : decode prog_61_method_4_code 115 = .ok (.getfield 61, 3) := by decide +kernel
theorem d8_118 : decode prog_61_method_4_code 118 = .ok (.iconst 0, 1) := by decide +kernel
theorem d8_119 : decode prog_61_method_4_code 119 = .ok (.aload_n 0, 1) := by decide +kernel
theorem d8_120 : decode prog_61_method_4_code 120 = .ok (.getfield 28, 3) := by decide +kernel
theorem d8_123 : decode prog_61_method_4_code 123 = .ok (.aload_n 0, 1) := by decide +kernel
theorem d8_124 : decode prog_61_method_4_code 124 = .ok (.getfield 7, 3) := by decide +kernel
theorem d8_127 : decode prog_61_method_4_code 127 = .ok (.invokestatic 65, 3) := by decide +kernel
theorem d8_130 : decode prog_61_method_4_code 130 = .ok (.aastore, 1) := by decide +kernel
theorem d8_131 : decode prog_61_method_4_code 131 = .ok (.iconst 1, 1) := by decide +kernel
theorem d8_132 : decode prog_61_method_4_code 132 = .ok (.istore 4, 2) := by decide +kernel
theorem d8_134 : decode prog_61_method_4_code 134 = .ok (.iload 4, 2) := by decide +kernel
theorem d8_136 : decode prog_61_method_4_code 136 = .ok (.iload_n 3, 1) := by decide +kernel
theorem d8_137 : decode prog_61_method_4_code 137 = .ok (.if_icmp .ge 68, 3) := by decide +kernel
theorem d8_140 : decode prog_61_method_4_code 140 = .ok (.aload_n 0, 1) := by decide +kernel
theorem d8_141 : decode prog_61_method_4_code 141 = .ok (.getfield 61, 3) := by decide +kernel
theorem d8_144 : decode prog_61_method_4_code 144 = .ok (.iload 4, 2) := by decide +kernel
theorem d8_146 : decode prog_61_method_4_code 146 = .ok (.iconst 1, 1) := by decide +kernel
theorem d8_147 : decode prog_61_method_4_code 147 = .ok (.isub, 1) := by decide +kernel
theorem d8_148 : decode prog_61_method_4_code 148 = .ok (.aaload, 1) := by decide +kernel
theorem d8_149 : decode prog_61_method_4_code 149 = .ok (.astore 5, 2) := by decide +kernel
theorem d8_151 : decode prog_61_method_4_code 151 = .ok (.aload_n 0, 1) := by decide +kernel
theorem d8_152 : decode prog_61_method_4_code 152 = .ok (.getfield 7, 3) := by decide +kernel
theorem d8_155 : decode prog_61_method_4_code 155 = .ok (.newarray .int, 2) := by decide +kernel
theorem d8_157 : decode prog_61_method_4_code 157 = .ok (.astore 6, 2) := by decide +kernel
theorem d8_159 : decode prog_61_method_4_code 159 = .ok (.iconst 0, 1) := by decide +kernel
theorem d8_160 : decode prog_61_method_4_code 160 = .ok (.istore 7, 2) := by decide +kernel
theorem d8_162 : decode prog_61_method_4_code 162 = .ok (.iload 7, 2) := by decide +kernel
theorem d8_164 : decode prog_61_method_4_code 164 = .ok (.aload_n 0, 1) := by decide +kernel
theorem d8_165 : decode prog_61_method_4_code 165 = .ok (.getfield 7, 3) := by decide +kernel
theorem d8_168 : decode prog_61_method_4_code 168 = .ok (.if_icmp .ge 22, 3) := by decide +kernel
theorem d8_171 : decode prog_61_method_4_code 171 = .ok (.aload 6, 2) := by decide +kernel
theorem d8_173 : decode prog_61_method_4_code 173 = .ok (.iload 7, 2) := by decide +kernel
theorem d8_175 : decode prog_61_method_4_code 175 = .ok (.aload 5, 2) := by decide +kernel
theorem d8_177 : decode prog_61_method_4_code 177 = .ok (.aload 5, 2) := by decide +kernel
theorem d8_179 : decode prog_61_method_4_code 179 = .ok (.iload 7, 2) := by decide +kernel
theorem d8_181 : decode prog_61_method_4_code 181 = .ok (.iaload, 1) := by decide +kernel
theorem d8_182 : decode prog_61_method_4_code 182 = .ok (.iaload, 1) := by decide +kernel
theorem d8_183 : decode prog_61_method_4_code 183 = .ok (.iastore, 1) := by decide +kernel
theorem d8_184 : decode prog_61_method_4_code 184 = .ok (.iinc 7 1, 3) := by decide +kernel
theorem d8_187 : decode prog_61_method_4_code 187 = .ok (.goto (-25), 3) := by decide +kernel
theorem d8_190 : decode prog_61_method_4_code 190 = .ok (.aload_n 0, 1) := by decide +kernel
theorem d8_191 : decode prog_61_method_4_code 191 = .ok (.getfield 61, 3) := by decide +kernel
theorem d8_194 : decode prog_61_method_4_code 194 = .ok (.iload 4, 2) := by decide +kernel
theorem d8_196 : decode prog_61_method_4_code 196 = .ok (.aload 6, 2) := by decide +kernel
theorem d8_198 : decode prog_61_method_4_code 198 = .ok (.aastore, 1) := by decide +kernel
theorem d8_199 : decode prog_61_method_4_code 199 = .ok (.iinc 4 1, 3) := by decide +kernel
theorem d8_202 : decode prog_61_method_4_code 202 = .ok (.goto (-68), 3) := by decide +kernel
theorem d8_205 : decode prog_61_method_4_code 205 = .ok (.return_, 1) := by decide +kernel
theorem pd_2 : parseMethodDescriptor "(I)I" = some ⟨[.int], some .int⟩ := by decide +kernel
theorem pd_3 : parseMethodDescriptor "([II)[I" = some ⟨[(.array .int), .int], some (.array .int)⟩ := by decide +kernel
theorem ef_rm_fin0 (m : MethodId) (x0 : Addr) (x1 : Addr) : entryFrame m #[(.ref x0), (.ref x1)] 8 = mkF m 0 #[.val (.ref x0), .val (.ref x1), .unset, .unset, .unset, .unset, .unset, .unset] [] := by first | (simp [entryFrame, mkF, argsToLocals, Value.category]; done) | (simp [entryFrame, mkF, argsToLocals, *]; done) | rfl
set_option maxRecDepth 65536 in
set_option maxHeartbeats 2000000 in
theorem rm_fin0 (l : Launch) (Z : State) (a0 : Array Value) (hw : ∀ d ∈ tables_1, d.before a0 Z = true) (a : Addr) (t : Addr) (P : Addr) (B : Addr) (RR : Addr) (NB : Addr) (h0 : Heap) (hE : Ext Z.heap h0) (hE0 : Exa Z h0 a "com/example/nimble_calculus/nimblecalculus/equivalence/Splits") (hF1 : Fld Z h0 a "com/example/nimble_calculus/nimblecalculus/equivalence/Splits" "nodeCount" "I" (.int (7 : Int32))) (hF2 : Fld Z h0 a "com/example/nimble_calculus/nimblecalculus/equivalence/Splits" "splitCount" "I" (.int (3 : Int32))) (hF3 : Fld Z h0 a "com/example/nimble_calculus/nimblecalculus/equivalence/Splits" "splitting" "I" (.int (2 : Int32))) (hF4 : Fld Z h0 a "com/example/nimble_calculus/nimblecalculus/equivalence/Splits" "parent" "[I" (.ref P)) (hF5 : Fld Z h0 a "com/example/nimble_calculus/nimblecalculus/equivalence/Splits" "born" "[I" (.ref B)) (hF6 : Fld Z h0 a "com/example/nimble_calculus/nimblecalculus/equivalence/Splits" "representative" "[I" (.ref RR)) (hF7 : Fld Z h0 a "com/example/nimble_calculus/nimblecalculus/equivalence/Splits" "nodeOfBlock" "[I" (.ref NB)) (hF8 : Fld Z h0 a "com/example/nimble_calculus/nimblecalculus/equivalence/Splits" "leaf" "[I" .null) (hF9 : Fld Z h0 a "com/example/nimble_calculus/nimblecalculus/equivalence/Splits" "height" "[I" .null) (hF10 : Fld Z h0 a "com/example/nimble_calculus/nimblecalculus/equivalence/Splits" "jumps" "[[I" .null) (hA11 : Ar Z h0 P .int [(.int (0 : Int32)), (.int (0 : Int32)), (.int (0 : Int32)), (.int (1 : Int32)), (.int (1 : Int32)), (.int (2 : Int32)), (.int (2 : Int32))]) (hE12 : Exa Z h0 P "[I") (hA13 : Ar Z h0 NB .int [(.int (3 : Int32)), (.int (5 : Int32)), (.int (6 : Int32)), (.int (4 : Int32))]) (hA14 : Ar Z h0 t .int [(.int (0 : Int32)), (.int (3 : Int32)), (.int (1 : Int32)), (.int (2 : Int32))]) (hfr15 : Z.heap.size ≤ a) :
    Con l Z (⟨"com/example/nimble_calculus/nimblecalculus/equivalence/Splits", "finish", "([I)V"⟩ : MethodName) prog_61_method_4_code 8 none ({ frames := 2, cells := 5, slots := 27, locals := 30 } : Room) #[(.ref a), (.ref t)] h0 (fun vv hh => ∃ lf : Addr, ∃ jp : Addr, ∃ j0 : Addr, ∃ j1 : Addr, vv = none ∧ Keep h0 hh [a] ∧ h0.size ≤ lf ∧ h0.size ≤ jp ∧ h0.size ≤ j0 ∧ h0.size ≤ j1 ∧ Exa Z hh a "com/example/nimble_calculus/nimblecalculus/equivalence/Splits" ∧ Fld Z hh a "com/example/nimble_calculus/nimblecalculus/equivalence/Splits" "leaf" "[I" (.ref lf) ∧ Fld Z hh a "com/example/nimble_calculus/nimblecalculus/equivalence/Splits" "jumps" "[[I" (.ref jp) ∧ Fld Z hh a "com/example/nimble_calculus/nimblecalculus/equivalence/Splits" "parent" "[I" (.ref P) ∧ Fld Z hh a "com/example/nimble_calculus/nimblecalculus/equivalence/Splits" "born" "[I" (.ref B) ∧ Ar Z hh lf .int [(.int (3 : Int32)), (.int (4 : Int32)), (.int (5 : Int32)), (.int (6 : Int32))] ∧ Ar Z hh jp (.array .int) [(.ref j0), (.ref j1)] ∧ Ar Z hh j0 .int [(.int (0 : Int32)), (.int (0 : Int32)), (.int (0 : Int32)), (.int (1 : Int32)), (.int (1 : Int32)), (.int (2 : Int32)), (.int (2 : Int32))] ∧ Ar Z hh j1 .int [(.int (0 : Int32)), (.int (0 : Int32)), (.int (0 : Int32)), (.int (0 : Int32)), (.int (0 : Int32)), (.int (0 : Int32)), (.int (0 : Int32))]) := by
  refine Con.of (plainFor_of_name (by first | (simp [plainName, overriddenIn]; done) | decide +kernel)) hE ?_
  intro p e s m below T (X : Sd l Z "com/example/nimble_calculus/nimblecalculus/equivalence/Splits" "finish" prog_61_method_4_code 8 none ({ frames := 2, cells := 5, slots := 27, locals := 30 } : Room) p e s m #[(.ref a), (.ref t)] below T h0 0 0)
  refine End.frame (ef_rm_fin0 m a t) ?_
  have K_0 : Keep h0 h0 [a] := Keep.refl _ _
  have ne_1 : NB ≠ a := Ne.symm (Ar.ne_exa hA13 hE0 (w_3 hw))
  have ne_2 : P ≠ a := ne_exa hE12 hE0 (by decide)
  have ne_3 : a ≠ t := Ar.ne_exa hA14 hE0 (w_3 hw)
  show End Z p e below s _ _ _ _ (mkF m 0 #[.val (.ref a), .val (.ref t), .unset, .unset, .unset, .unset, .unset, .unset] [])
  refine E_aloadN (v := (.ref a)) (pc' := 1) X d8_0 rfl rfl rfl ?_
  refine E_aloadN (v := (.ref t)) (pc' := 2) X d8_1 rfl rfl rfl ?_
  refine E_alen (n := (4 : Int32)) (pc' := 3) X hA14 rfl d8_2 rfl ?_
  have le_o4 := X.le
  refine E_newA (pc' := 5) X (aty := .int) (n := (4 : Int32)) (cap := 4) (vs := [(.int (0 : Int32)), (.int (0 : Int32)), (.int (0 : Int32)), (.int (0 : Int32))]) (cells' := 1) (slots' := 4) (w_1 hw) d8_3 rfl (by decide) (by decide) (by decide) rfl rfl rfl (by decide) (by decide) (fun T h_5 o4 g_8 X Ex_6 Aa_7 => ?_)
  have b_9 : h0.size ≤ o4 := by rw [g_8]; exact K_0.1
  have K_10 : Keep h0 h_5 [a] := K_0.ext Ex_6
  have fr_11 : Z.heap.size ≤ o4 := by rw [g_8]; exact le_o4
  have ne_12 : NB ≠ o4 := Nat.ne_of_lt (by rw [g_8]; exact hA13.lt)
  have ne_13 : P ≠ o4 := Nat.ne_of_lt (by rw [g_8]; exact hE12.lt)
  have ne_14 : a ≠ o4 := Nat.ne_of_lt (by rw [g_8]; exact hE0.lt)
  have ne_15 : t ≠ o4 := Nat.ne_of_lt (by rw [g_8]; exact hA14.lt)
  have F_16 : Fld Z h_5 a "com/example/nimble_calculus/nimblecalculus/equivalence/Splits" "leaf" "[I" .null := (hF8.ext Ex_6)
  have E_17 : Exa Z h_5 a "com/example/nimble_calculus/nimblecalculus/equivalence/Splits" := (hE0.ext Ex_6)
  refine E_putF (pc' := 8) X (host := "") (Or.inl (w_52 hw)) Via.refl F_16 E_17 (Or.inl (w_53 hw)) (w_3 hw) (ty := (.array .int)) (by decide) rfl rfl hfr15 d8_5 rfl (fun T h_19 X W_18 => ?_)
  have K_20 : Keep h0 h_19 [a] := K_10.wr W_18 (Or.inl (List.mem_of_getElem? (i := 0) rfl))
  refine E_iconst (v := (0 : Int32)) (pc' := 9) X d8_8 rfl rfl ?_
  refine E_istoreN (Ls' := #[.val (.ref a), .val (.ref t), .val (.int (0 : Int32)), .unset, .unset, .unset, .unset, .unset]) (pc' := 10) X d8_9 rfl rfl ?_
  refine E_iloadN (pc' := 11) X d8_10 rfl rfl ?_
  refine E_aloadN (v := (.ref t)) (pc' := 12) X d8_11 rfl rfl rfl ?_
  have A_21 : Ar Z h_19 t .int [(.int (0 : Int32)), (.int (3 : Int32)), (.int (1 : Int32)), (.int (2 : Int32))] := ((hA14.ext Ex_6).other W_18 (Ne.symm ne_3))
  refine E_alen (n := (4 : Int32)) (pc' := 13) X A_21 rfl d8_12 rfl ?_
  refine E_icmp (pcY := 36) (pcN := 16) X (ic_ge _ _) d8_13 (by decide) rfl rfl (fun hc13_0 => absurd hc13_0 (by decide)) (fun hc13_0 => ?_)
  refine E_aloadN (v := (.ref a)) (pc' := 17) X d8_16 rfl rfl rfl ?_
  have F_22 : Fld Z h_19 a "com/example/nimble_calculus/nimblecalculus/equivalence/Splits" "leaf" "[I" (.ref o4) := (F_16.same W_18)
  refine E_getF (pc' := 20) X (host := "") (Or.inl (w_52 hw)) Via.refl F_22 d8_17 rfl (fun T X => ?_)
  refine E_iloadN (pc' := 21) X d8_20 rfl rfl ?_
  refine E_aloadN (v := (.ref a)) (pc' := 22) X d8_21 rfl rfl rfl ?_
  have F_23 : Fld Z h_19 a "com/example/nimble_calculus/nimblecalculus/equivalence/Splits" "nodeOfBlock" "[I" (.ref NB) := ((hF7.ext Ex_6).other W_18 (Or.inr (slot_ne (Or.inr (w_32 hw)) (Or.inl (w_53 hw)) (by decide) (t := (.array .int)) (t' := (.array .int)) (by decide) (by decide))))
  refine E_getF (pc' := 25) X (host := "") (Or.inl (w_31 hw)) Via.refl F_23 d8_22 rfl (fun T X => ?_)
  refine E_aloadN (v := (.ref t)) (pc' := 26) X d8_25 rfl rfl rfl ?_
  refine E_iloadN (pc' := 27) X d8_26 rfl rfl ?_
  refine E_iaload (v := (.int (0 : Int32))) (pc' := 28) X A_21 (by decide) rfl d8_27 rfl ?_
  have A_24 : Ar Z h_19 NB .int [(.int (3 : Int32)), (.int (5 : Int32)), (.int (6 : Int32)), (.int (4 : Int32))] := ((hA13.ext Ex_6).other W_18 ne_1)
  refine E_iaload (v := (.int (3 : Int32))) (pc' := 29) X A_24 (by decide) rfl d8_28 rfl ?_
  have A_25 : Ar Z h_19 o4 .int [(.int (0 : Int32)), (.int (0 : Int32)), (.int (0 : Int32)), (.int (0 : Int32))] := (Aa_7.other W_18 (Ne.symm ne_14))
  refine E_iastore (vs' := [(.int (3 : Int32)), (.int (0 : Int32)), (.int (0 : Int32)), (.int (0 : Int32))]) (pc' := 30) X A_25 (by decide) (Nat.le_of_ble_eq_true rfl) rfl fr_11 d8_29 rfl (fun T h_27 X W_26 Aa_28 => ?_)
  have K_29 : Keep h0 h_27 [a] := K_20.wr W_26 (Or.inr b_9)
  refine E_iinc (x := (0 : Int32)) (z := (1 : Int32)) (Ls' := #[.val (.ref a), .val (.ref t), .val (.int (1 : Int32)), .unset, .unset, .unset, .unset, .unset]) (pc' := 33) X d8_30 rfl rfl rfl rfl ?_
  refine E_goto (pc' := 10) X d8_33 (by decide) rfl ?_
  refine E_iloadN (pc' := 11) X d8_10 rfl rfl ?_
  refine E_aloadN (v := (.ref t)) (pc' := 12) X d8_11 rfl rfl rfl ?_
  have A_30 : Ar Z h_27 t .int [(.int (0 : Int32)), (.int (3 : Int32)), (.int (1 : Int32)), (.int (2 : Int32))] := (A_21.other W_26 ne_15)
  refine E_alen (n := (4 : Int32)) (pc' := 13) X A_30 rfl d8_12 rfl ?_
  refine E_icmp (pcY := 36) (pcN := 16) X (ic_ge _ _) d8_13 (by decide) rfl rfl (fun hc13_1 => absurd hc13_1 (by decide)) (fun hc13_1 => ?_)
  refine E_aloadN (v := (.ref a)) (pc' := 17) X d8_16 rfl rfl rfl ?_
  have F_31 : Fld Z h_27 a "com/example/nimble_calculus/nimblecalculus/equivalence/Splits" "leaf" "[I" (.ref o4) := (F_22.other W_26 (Or.inl ne_14))
  refine E_getF (pc' := 20) X (host := "") (Or.inl (w_52 hw)) Via.refl F_31 d8_17 rfl (fun T X => ?_)
  refine E_iloadN (pc' := 21) X d8_20 rfl rfl ?_
  refine E_aloadN (v := (.ref a)) (pc' := 22) X d8_21 rfl rfl rfl ?_
  have F_32 : Fld Z h_27 a "com/example/nimble_calculus/nimblecalculus/equivalence/Splits" "nodeOfBlock" "[I" (.ref NB) := (F_23.other W_26 (Or.inl ne_14))
  refine E_getF (pc' := 25) X (host := "") (Or.inl (w_31 hw)) Via.refl F_32 d8_22 rfl (fun T X => ?_)
  refine E_aloadN (v := (.ref t)) (pc' := 26) X d8_25 rfl rfl rfl ?_
  refine E_iloadN (pc' := 27) X d8_26 rfl rfl ?_
  refine E_iaload (v := (.int (3 : Int32))) (pc' := 28) X A_30 (by decide) rfl d8_27 rfl ?_
  have A_33 : Ar Z h_27 NB .int [(.int (3 : Int32)), (.int (5 : Int32)), (.int (6 : Int32)), (.int (4 : Int32))] := (A_24.other W_26 ne_12)
  refine E_iaload (v := (.int (4 : Int32))) (pc' := 29) X A_33 (by decide) rfl d8_28 rfl ?_
  refine E_iastore (vs' := [(.int (3 : Int32)), (.int (4 : Int32)), (.int (0 : Int32)), (.int (0 : Int32))]) (pc' := 30) X Aa_28 (by decide) (Nat.le_of_ble_eq_true rfl) rfl fr_11 d8_29 rfl (fun T h_35 X W_34 Aa_36 => ?_)
  have K_37 : Keep h0 h_35 [a] := K_29.wr W_34 (Or.inr b_9)
  refine E_iinc (x := (1 : Int32)) (z := (2 : Int32)) (Ls' := #[.val (.ref a), .val (.ref t), .val (.int (2 : Int32)), .unset, .unset, .unset, .unset, .unset]) (pc' := 33) X d8_30 rfl rfl rfl rfl ?_
  refine E_goto (pc' := 10) X d8_33 (by decide) rfl ?_
  refine E_iloadN (pc' := 11) X d8_10 rfl rfl ?_
  refine E_aloadN (v := (.ref t)) (pc' := 12) X d8_11 rfl rfl rfl ?_
  have A_38 : Ar Z h_35 t .int [(.int (0 : Int32)), (.int (3 : Int32)), (.int (1 : Int32)), (.int (2 : Int32))] := (A_30.other W_34 ne_15)
  refine E_alen (n := (4 : Int32)) (pc' := 13) X A_38 rfl d8_12 rfl ?_
  refine E_icmp (pcY := 36) (pcN := 16) X (ic_ge _ _) d8_13 (by decide) rfl rfl (fun hc13_2 => absurd hc13_2 (by decide)) (fun hc13_2 => ?_)
  refine E_aloadN (v := (.ref a)) (pc' := 17) X d8_16 rfl rfl rfl ?_
  have F_39 : Fld Z h_35 a "com/example/nimble_calculus/nimblecalculus/equivalence/Splits" "leaf" "[I" (.ref o4) := (F_31.other W_34 (Or.inl ne_14))
  refine E_getF (pc' := 20) X (host := "") (Or.inl (w_52 hw)) Via.refl F_39 d8_17 rfl (fun T X => ?_)
  refine E_iloadN (pc' := 21) X d8_20 rfl rfl ?_
  refine E_aloadN (v := (.ref a)) (pc' := 22) X d8_21 rfl rfl rfl ?_
  have F_40 : Fld Z h_35 a "com/example/nimble_calculus/nimblecalculus/equivalence/Splits" "nodeOfBlock" "[I" (.ref NB) := (F_32.other W_34 (Or.inl ne_14))
  refine E_getF (pc' := 25) X (host := "") (Or.inl (w_31 hw)) Via.refl F_40 d8_22 rfl (fun T X => ?_)
  refine E_aloadN (v := (.ref t)) (pc' := 26) X d8_25 rfl rfl rfl ?_
  refine E_iloadN (pc' := 27) X d8_26 rfl rfl ?_
  refine E_iaload (v := (.int (1 : Int32))) (pc' := 28) X A_38 (by decide) rfl d8_27 rfl ?_
  have A_41 : Ar Z h_35 NB .int [(.int (3 : Int32)), (.int (5 : Int32)), (.int (6 : Int32)), (.int (4 : Int32))] := (A_33.other W_34 ne_12)
  refine E_iaload (v := (.int (5 : Int32))) (pc' := 29) X A_41 (by decide) rfl d8_28 rfl ?_
  refine E_iastore (vs' := [(.int (3 : Int32)), (.int (4 : Int32)), (.int (5 : Int32)), (.int (0 : Int32))]) (pc' := 30) X Aa_36 (by decide) (Nat.le_of_ble_eq_true rfl) rfl fr_11 d8_29 rfl (fun T h_43 X W_42 Aa_44 => ?_)
  have K_45 : Keep h0 h_43 [a] := K_37.wr W_42 (Or.inr b_9)
  refine E_iinc (x := (2 : Int32)) (z := (3 : Int32)) (Ls' := #[.val (.ref a), .val (.ref t), .val (.int (3 : Int32)), .unset, .unset, .unset, .unset, .unset]) (pc' := 33) X d8_30 rfl rfl rfl rfl ?_
  refine E_goto (pc' := 10) X d8_33 (by decide) rfl ?_
  refine E_iloadN (pc' := 11) X d8_10 rfl rfl ?_
  refine E_aloadN (v := (.ref t)) (pc' := 12) X d8_11 rfl rfl rfl ?_
  have A_46 : Ar Z h_43 t .int [(.int (0 : Int32)), (.int (3 : Int32)), (.int (1 : Int32)), (.int (2 : Int32))] := (A_38.other W_42 ne_15)
  refine E_alen (n := (4 : Int32)) (pc' := 13) X A_46 rfl d8_12 rfl ?_
  refine E_icmp (pcY := 36) (pcN := 16) X (ic_ge _ _) d8_13 (by decide) rfl rfl (fun hc13_3 => absurd hc13_3 (by decide)) (fun hc13_3 => ?_)
  refine E_aloadN (v := (.ref a)) (pc' := 17) X d8_16 rfl rfl rfl ?_
  have F_47 : Fld Z h_43 a "com/example/nimble_calculus/nimblecalculus/equivalence/Splits" "leaf" "[I" (.ref o4) := (F_39.other W_42 (Or.inl ne_14))
  refine E_getF (pc' := 20) X (host := "") (Or.inl (w_52 hw)) Via.refl F_47 d8_17 rfl (fun T X => ?_)
  refine E_iloadN (pc' := 21) X d8_20 rfl rfl ?_
  refine E_aloadN (v := (.ref a)) (pc' := 22) X d8_21 rfl rfl rfl ?_
  have F_48 : Fld Z h_43 a "com/example/nimble_calculus/nimblecalculus/equivalence/Splits" "nodeOfBlock" "[I" (.ref NB) := (F_40.other W_42 (Or.inl ne_14))
  refine E_getF (pc' := 25) X (host := "") (Or.inl (w_31 hw)) Via.refl F_48 d8_22 rfl (fun T X => ?_)
  refine E_aloadN (v := (.ref t)) (pc' := 26) X d8_25 rfl rfl rfl ?_
  refine E_iloadN (pc' := 27) X d8_26 rfl rfl ?_
  refine E_iaload (v := (.int (2 : Int32))) (pc' := 28) X A_46 (by decide) rfl d8_27 rfl ?_
  have A_49 : Ar Z h_43 NB .int [(.int (3 : Int32)), (.int (5 : Int32)), (.int (6 : Int32)), (.int (4 : Int32))] := (A_41.other W_42 ne_12)
  refine E_iaload (v := (.int (6 : Int32))) (pc' := 29) X A_49 (by decide) rfl d8_28 rfl ?_
  refine E_iastore (vs' := [(.int (3 : Int32)), (.int (4 : Int32)), (.int (5 : Int32)), (.int (6 : Int32))]) (pc' := 30) X Aa_44 (by decide) (Nat.le_of_ble_eq_true rfl) rfl fr_11 d8_29 rfl (fun T h_51 X W_50 Aa_52 => ?_)
  have K_53 : Keep h0 h_51 [a] := K_45.wr W_50 (Or.inr b_9)
  refine E_iinc (x := (3 : Int32)) (z := (4 : Int32)) (Ls' := #[.val (.ref a), .val (.ref t), .val (.int (4 : Int32)), .unset, .unset, .unset, .unset, .unset]) (pc' := 33) X d8_30 rfl rfl rfl rfl ?_
  refine E_goto (pc' := 10) X d8_33 (by decide) rfl ?_
  refine E_iloadN (pc' := 11) X d8_10 rfl rfl ?_
  refine E_aloadN (v := (.ref t)) (pc' := 12) X d8_11 rfl rfl rfl ?_
  have A_54 : Ar Z h_51 t .int [(.int (0 : Int32)), (.int (3 : Int32)), (.int (1 : Int32)), (.int (2 : Int32))] := (A_46.other W_50 ne_15)
  refine E_alen (n := (4 : Int32)) (pc' := 13) X A_54 rfl d8_12 rfl ?_
  refine E_icmp (pcY := 36) (pcN := 16) X (ic_ge _ _) d8_13 (by decide) rfl rfl (fun hc13_4 => ?_) (fun hc13_4 => absurd (by decide) hc13_4)
  refine E_aloadN (v := (.ref a)) (pc' := 37) X d8_36 rfl rfl rfl ?_
  refine E_aloadN (v := (.ref a)) (pc' := 38) X d8_37 rfl rfl rfl ?_
  have F_55 : Fld Z h_51 a "com/example/nimble_calculus/nimblecalculus/equivalence/Splits" "nodeCount" "I" (.int (7 : Int32)) := ((((((hF1.ext Ex_6).other W_18 (Or.inr (slot_ne (Or.inl (w_12 hw)) (Or.inl (w_53 hw)) (by decide) (t := .int) (t' := (.array .int)) (by decide) (by decide)))).other W_26 (Or.inl ne_14)).other W_34 (Or.inl ne_14)).other W_42 (Or.inl ne_14)).other W_50 (Or.inl ne_14))
  refine E_getF (pc' := 41) X (host := "") (Or.inl (w_11 hw)) Via.refl F_55 d8_38 rfl (fun T X => ?_)
  have A_61 : Ar Z h_51 NB .int [(.int (3 : Int32)), (.int (5 : Int32)), (.int (6 : Int32)), (.int (4 : Int32))] := (A_49.other W_50 ne_12)
  have E_62 : Exa Z h_51 P "[I" := ((((((hE12.ext Ex_6).wr W_18).wr W_26).wr W_34).wr W_42).wr W_50)
  have E_63 : Exa Z h_51 a "com/example/nimble_calculus/nimblecalculus/equivalence/Splits" := (((((E_17.wr W_18).wr W_26).wr W_34).wr W_42).wr W_50)
  have le_o56 := X.le
  refine E_newA (pc' := 43) X (aty := .int) (n := (7 : Int32)) (cap := 7) (vs := [(.int (0 : Int32)), (.int (0 : Int32)), (.int (0 : Int32)), (.int (0 : Int32)), (.int (0 : Int32)), (.int (0 : Int32)), (.int (0 : Int32))]) (cells' := 2) (slots' := 11) (w_1 hw) d8_41 rfl (by decide) (by decide) (by decide) rfl rfl rfl (by decide) (by decide) (fun T h_57 o56 g_60 X Ex_58 Aa_59 => ?_)
  have b_64 : h0.size ≤ o56 := by rw [g_60]; exact K_53.1
  have K_65 : Keep h0 h_57 [a] := K_53.ext Ex_58
  have fr_66 : Z.heap.size ≤ o56 := by rw [g_60]; exact le_o56
  have ne_67 : NB ≠ o56 := Nat.ne_of_lt (by rw [g_60]; exact A_61.lt)
  have ne_68 : P ≠ o56 := Nat.ne_of_lt (by rw [g_60]; exact E_62.lt)
  have ne_69 : a ≠ o56 := Nat.ne_of_lt (by rw [g_60]; exact E_63.lt)
  have ne_70 : o4 ≠ o56 := Nat.ne_of_lt (by rw [g_60]; exact Aa_52.lt)
  have ne_71 : t ≠ o56 := Nat.ne_of_lt (by rw [g_60]; exact A_54.lt)
  have F_72 : Fld Z h_57 a "com/example/nimble_calculus/nimblecalculus/equivalence/Splits" "height" "[I" .null := (((((((hF9.ext Ex_6).other W_18 (Or.inr (slot_ne (Or.inl (w_55 hw)) (Or.inl (w_53 hw)) (by decide) (t := (.array .int)) (t' := (.array .int)) (by decide) (by decide)))).other W_26 (Or.inl ne_14)).other W_34 (Or.inl ne_14)).other W_42 (Or.inl ne_14)).other W_50 (Or.inl ne_14)).ext Ex_58)
  have E_73 : Exa Z h_57 a "com/example/nimble_calculus/nimblecalculus/equivalence/Splits" := (E_63.ext Ex_58)
  refine E_putF (pc' := 46) X (host := "") (Or.inl (w_54 hw)) Via.refl F_72 E_73 (Or.inl (w_55 hw)) (w_3 hw) (ty := (.array .int)) (by decide) rfl rfl hfr15 d8_43 rfl (fun T h_75 X W_74 => ?_)
  have K_76 : Keep h0 h_75 [a] := K_65.wr W_74 (Or.inl (List.mem_of_getElem? (i := 0) rfl))
  refine E_iconst (v := (0 : Int32)) (pc' := 47) X d8_46 rfl rfl ?_
  refine E_istoreN (Ls' := #[.val (.ref a), .val (.ref t), .val (.int (0 : Int32)), .unset, .unset, .unset, .unset, .unset]) (pc' := 48) X d8_47 rfl rfl ?_
  refine E_iconst (v := (1 : Int32)) (pc' := 49) X d8_48 rfl rfl ?_
  refine E_istoreN (Ls' := #[.val (.ref a), .val (.ref t), .val (.int (0 : Int32)), .val (.int (1 : Int32)), .unset, .unset, .unset, .unset]) (pc' := 50) X d8_49 rfl rfl ?_
  refine E_iloadN (pc' := 51) X d8_50 rfl rfl ?_
  refine E_aloadN (v := (.ref a)) (pc' := 52) X d8_51 rfl rfl rfl ?_
  have F_77 : Fld Z h_75 a "com/example/nimble_calculus/nimblecalculus/equivalence/Splits" "nodeCount" "I" (.int (7 : Int32)) := ((F_55.ext Ex_58).other W_74 (Or.inr (slot_ne (Or.inl (w_12 hw)) (Or.inl (w_55 hw)) (by decide) (t := .int) (t' := (.array .int)) (by decide) (by decide))))
  refine E_getF (pc' := 55) X (host := "") (Or.inl (w_11 hw)) Via.refl F_77 d8_52 rfl (fun T X => ?_)
  refine E_icmp (pcY := 94) (pcN := 58) X (ic_ge _ _) d8_55 (by decide) rfl rfl (fun hc55_0 => absurd hc55_0 (by decide)) (fun hc55_0 => ?_)
  refine E_aloadN (v := (.ref a)) (pc' := 59) X d8_58 rfl rfl rfl ?_
  have F_78 : Fld Z h_75 a "com/example/nimble_calculus/nimblecalculus/equivalence/Splits" "height" "[I" (.ref o56) := (F_72.same W_74)
  refine E_getF (pc' := 62) X (host := "") (Or.inl (w_54 hw)) Via.refl F_78 d8_59 rfl (fun T X => ?_)
  refine E_iloadN (pc' := 63) X d8_62 rfl rfl ?_
  refine E_aloadN (v := (.ref a)) (pc' := 64) X d8_63 rfl rfl rfl ?_
  refine E_getF (pc' := 67) X (host := "") (Or.inl (w_54 hw)) Via.refl F_78 d8_64 rfl (fun T X => ?_)
  refine E_aloadN (v := (.ref a)) (pc' := 68) X d8_67 rfl rfl rfl ?_
  have F_79 : Fld Z h_75 a "com/example/nimble_calculus/nimblecalculus/equivalence/Splits" "parent" "[I" (.ref P) := ((((((((hF4.ext Ex_6).other W_18 (Or.inr (slot_ne (Or.inr (w_23 hw)) (Or.inl (w_53 hw)) (by decide) (t := (.array .int)) (t' := (.array .int)) (by decide) (by decide)))).other W_26 (Or.inl ne_14)).other W_34 (Or.inl ne_14)).other W_42 (Or.inl ne_14)).other W_50 (Or.inl ne_14)).ext Ex_58).other W_74 (Or.inr (slot_ne (Or.inr (w_23 hw)) (Or.inl (w_55 hw)) (by decide) (t := (.array .int)) (t' := (.array .int)) (by decide) (by decide))))
  refine E_getF (pc' := 71) X (host := "") (Or.inl (w_22 hw)) Via.refl F_79 d8_68 rfl (fun T X => ?_)
  refine E_iloadN (pc' := 72) X d8_71 rfl rfl ?_
  have A_80 : Ar Z h_75 P .int [(.int (0 : Int32)), (.int (0 : Int32)), (.int (0 : Int32)), (.int (1 : Int32)), (.int (1 : Int32)), (.int (2 : Int32)), (.int (2 : Int32))] := ((((((((hA11.ext Ex_6).other W_18 ne_2).other W_26 ne_13).other W_34 ne_13).other W_42 ne_13).other W_50 ne_13).ext Ex_58).other W_74 ne_2)
  refine E_iaload (v := (.int (0 : Int32))) (pc' := 73) X A_80 (by decide) rfl d8_72 rfl ?_
  have A_81 : Ar Z h_75 o56 .int [(.int (0 : Int32)), (.int (0 : Int32)), (.int (0 : Int32)), (.int (0 : Int32)), (.int (0 : Int32)), (.int (0 : Int32)), (.int (0 : Int32))] := (Aa_59.other W_74 (Ne.symm ne_69))
  refine E_iaload (v := (.int (0 : Int32))) (pc' := 74) X A_81 (by decide) rfl d8_73 rfl ?_
  refine E_iconst (v := (1 : Int32)) (pc' := 75) X d8_74 rfl rfl ?_
  refine E_iadd (pc' := 76) X d8_75 rfl ?_
  refine E_eqI (z := (1 : Int32)) (by decide) ?_
  refine E_iastore (vs' := [(.int (0 : Int32)), (.int (1 : Int32)), (.int (0 : Int32)), (.int (0 : Int32)), (.int (0 : Int32)), (.int (0 : Int32)), (.int (0 : Int32))]) (pc' := 77) X A_81 (by decide) (Nat.le_of_ble_eq_true rfl) rfl fr_66 d8_76 rfl (fun T h_83 X W_82 Aa_84 => ?_)
  have K_85 : Keep h0 h_83 [a] := K_76.wr W_82 (Or.inr b_64)
  refine E_iloadN (pc' := 78) X d8_77 rfl rfl ?_
  refine E_aloadN (v := (.ref a)) (pc' := 79) X d8_78 rfl rfl rfl ?_
  have F_86 : Fld Z h_83 a "com/example/nimble_calculus/nimblecalculus/equivalence/Splits" "height" "[I" (.ref o56) := (F_78.other W_82 (Or.inl ne_69))
  refine E_getF (pc' := 82) X (host := "") (Or.inl (w_54 hw)) Via.refl F_86 d8_79 rfl (fun T X => ?_)
  refine E_iloadN (pc' := 83) X d8_82 rfl rfl ?_
  refine E_iaload (v := (.int (1 : Int32))) (pc' := 84) X Aa_84 (by decide) rfl d8_83 rfl ?_
  refine E_callS (pc' := 87) (W := 0) (cells' := 2) (slots' := 11) (argsL := [(.int (0 : Int32)), (.int (1 : Int32))]) (rest := []) X (rm5 l Z a0 hw (0 : Int32) (1 : Int32) (1 : Int32) h_83 X.ext (by decide)) (w_28 hw) (w_29 hw) (w_17 hw) (w_30 hw) (by decide) rfl rfl pd_1 rfl rfl d8_84 rfl (Nat.le_refl _) (by decide) (by decide) rfl rfl (by decide) (by decide) (fun v87 T h_88 X hQ89 => ?_)
  obtain ⟨rfl, rfl⟩ := hQ89
  show End Z p e below s _ _ _ _ (mkF m 87 #[.val (.ref a), .val (.ref t), .val (.int (0 : Int32)), .val (.int (1 : Int32)), .unset, .unset, .unset, .unset] [(.int (1 : Int32))])
  refine E_istoreN (Ls' := #[.val (.ref a), .val (.ref t), .val (.int (1 : Int32)), .val (.int (1 : Int32)), .unset, .unset, .unset, .unset]) (pc' := 88) X d8_87 rfl rfl ?_
  refine E_iinc (x := (1 : Int32)) (z := (2 : Int32)) (Ls' := #[.val (.ref a), .val (.ref t), .val (.int (1 : Int32)), .val (.int (2 : Int32)), .unset, .unset, .unset, .unset]) (pc' := 91) X d8_88 rfl rfl rfl rfl ?_
  refine E_goto (pc' := 50) X d8_91 (by decide) rfl ?_
  refine E_iloadN (pc' := 51) X d8_50 rfl rfl ?_
  refine E_aloadN (v := (.ref a)) (pc' := 52) X d8_51 rfl rfl rfl ?_
  have F_91 : Fld Z h_83 a "com/example/nimble_calculus/nimblecalculus/equivalence/Splits" "nodeCount" "I" (.int (7 : Int32)) := (F_77.other W_82 (Or.inl ne_69))
  refine E_getF (pc' := 55) X (host := "") (Or.inl (w_11 hw)) Via.refl F_91 d8_52 rfl (fun T X => ?_)
  refine E_icmp (pcY := 94) (pcN := 58) X (ic_ge _ _) d8_55 (by decide) rfl rfl (fun hc55_1 => absurd hc55_1 (by decide)) (fun hc55_1 => ?_)
  refine E_aloadN (v := (.ref a)) (pc' := 59) X d8_58 rfl rfl rfl ?_
  refine E_getF (pc' := 62) X (host := "") (Or.inl (w_54 hw)) Via.refl F_86 d8_59 rfl (fun T X => ?_)
  refine E_iloadN (pc' := 63) X d8_62 rfl rfl ?_
  refine E_aloadN (v := (.ref a)) (pc' := 64) X d8_63 rfl rfl rfl ?_
  refine E_getF (pc' := 67) X (host := "") (Or.inl (w_54 hw)) Via.refl F_86 d8_64 rfl (fun T X => ?_)
  refine E_aloadN (v := (.ref a)) (pc' := 68) X d8_67 rfl rfl rfl ?_
  have F_92 : Fld Z h_83 a "com/example/nimble_calculus/nimblecalculus/equivalence/Splits" "parent" "[I" (.ref P) := (F_79.other W_82 (Or.inl ne_69))
  refine E_getF (pc' := 71) X (host := "") (Or.inl (w_22 hw)) Via.refl F_92 d8_68 rfl (fun T X => ?_)
  refine E_iloadN (pc' := 72) X d8_71 rfl rfl ?_
  have A_93 : Ar Z h_83 P .int [(.int (0 : Int32)), (.int (0 : Int32)), (.int (0 : Int32)), (.int (1 : Int32)), (.int (1 : Int32)), (.int (2 : Int32)), (.int (2 : Int32))] := (A_80.other W_82 ne_68)
  refine E_iaload (v := (.int (0 : Int32))) (pc' := 73) X A_93 (by decide) rfl d8_72 rfl ?_
  refine E_iaload (v := (.int (0 : Int32))) (pc' := 74) X Aa_84 (by decide) rfl d8_73 rfl ?_
  refine E_iconst (v := (1 : Int32)) (pc' := 75) X d8_74 rfl rfl ?_
  refine E_iadd (pc' := 76) X d8_75 rfl ?_
  refine E_eqI (z := (1 : Int32)) (by decide) ?_
  refine E_iastore (vs' := [(.int (0 : Int32)), (.int (1 : Int32)), (.int (1 : Int32)), (.int (0 : Int32)), (.int (0 : Int32)), (.int (0 : Int32)), (.int (0 : Int32))]) (pc' := 77) X Aa_84 (by decide) (Nat.le_of_ble_eq_true rfl) rfl fr_66 d8_76 rfl (fun T h_95 X W_94 Aa_96 => ?_)
  have K_97 : Keep h0 h_95 [a] := K_85.wr W_94 (Or.inr b_64)
  refine E_iloadN (pc' := 78) X d8_77 rfl rfl ?_
  refine E_aloadN (v := (.ref a)) (pc' := 79) X d8_78 rfl rfl rfl ?_
  have F_98 : Fld Z h_95 a "com/example/nimble_calculus/nimblecalculus/equivalence/Splits" "height" "[I" (.ref o56) := (F_86.other W_94 (Or.inl ne_69))
  refine E_getF (pc' := 82) X (host := "") (Or.inl (w_54 hw)) Via.refl F_98 d8_79 rfl (fun T X => ?_)
  refine E_iloadN (pc' := 83) X d8_82 rfl rfl ?_
  refine E_iaload (v := (.int (1 : Int32))) (pc' := 84) X Aa_96 (by decide) rfl d8_83 rfl ?_
  refine E_callS (pc' := 87) (W := 0) (cells' := 2) (slots' := 11) (argsL := [(.int (1 : Int32)), (.int (1 : Int32))]) (rest := []) X (rm5 l Z a0 hw (1 : Int32) (1 : Int32) (1 : Int32) h_95 X.ext (by decide)) (w_28 hw) (w_29 hw) (w_17 hw) (w_30 hw) (by decide) rfl rfl pd_1 rfl rfl d8_84 rfl (Nat.le_refl _) (by decide) (by decide) rfl rfl (by decide) (by decide) (fun v99 T h_100 X hQ101 => ?_)
  obtain ⟨rfl, rfl⟩ := hQ101
  show End Z p e below s _ _ _ _ (mkF m 87 #[.val (.ref a), .val (.ref t), .val (.int (1 : Int32)), .val (.int (2 : Int32)), .unset, .unset, .unset, .unset] [(.int (1 : Int32))])
  refine E_istoreN (Ls' := #[.val (.ref a), .val (.ref t), .val (.int (1 : Int32)), .val (.int (2 : Int32)), .unset, .unset, .unset, .unset]) (pc' := 88) X d8_87 rfl rfl ?_
  refine E_iinc (x := (2 : Int32)) (z := (3 : Int32)) (Ls' := #[.val (.ref a), .val (.ref t), .val (.int (1 : Int32)), .val (.int (3 : Int32)), .unset, .unset, .unset, .unset]) (pc' := 91) X d8_88 rfl rfl rfl rfl ?_
  refine E_goto (pc' := 50) X d8_91 (by decide) rfl ?_
  refine E_iloadN (pc' := 51) X d8_50 rfl rfl ?_
  refine E_aloadN (v := (.ref a)) (pc' := 52) X d8_51 rfl rfl rfl ?_
  have F_103 : Fld Z h_95 a "com/example/nimble_calculus/nimblecalculus/equivalence/Splits" "nodeCount" "I" (.int (7 : Int32)) := (F_91.other W_94 (Or.inl ne_69))
  refine E_getF (pc' := 55) X (host := "") (Or.inl (w_11 hw)) Via.refl F_103 d8_52 rfl (fun T X => ?_)
  refine E_icmp (pcY := 94) (pcN := 58) X (ic_ge _ _) d8_55 (by decide) rfl rfl (fun hc55_2 => absurd hc55_2 (by decide)) (fun hc55_2 => ?_)
  refine E_aloadN (v := (.ref a)) (pc' := 59) X d8_58 rfl rfl rfl ?_
  refine E_getF (pc' := 62) X (host := "") (Or.inl (w_54 hw)) Via.refl F_98 d8_59 rfl (fun T X => ?_)
  refine E_iloadN (pc' := 63) X d8_62 rfl rfl ?_
  refine E_aloadN (v := (.ref a)) (pc' := 64) X d8_63 rfl rfl rfl ?_
  refine E_getF (pc' := 67) X (host := "") (Or.inl (w_54 hw)) Via.refl F_98 d8_64 rfl (fun T X => ?_)
  refine E_aloadN (v := (.ref a)) (pc' := 68) X d8_67 rfl rfl rfl ?_
  have F_104 : Fld Z h_95 a "com/example/nimble_calculus/nimblecalculus/equivalence/Splits" "parent" "[I" (.ref P) := (F_92.other W_94 (Or.inl ne_69))
  refine E_getF (pc' := 71) X (host := "") (Or.inl (w_22 hw)) Via.refl F_104 d8_68 rfl (fun T X => ?_)
  refine E_iloadN (pc' := 72) X d8_71 rfl rfl ?_
  have A_105 : Ar Z h_95 P .int [(.int (0 : Int32)), (.int (0 : Int32)), (.int (0 : Int32)), (.int (1 : Int32)), (.int (1 : Int32)), (.int (2 : Int32)), (.int (2 : Int32))] := (A_93.other W_94 ne_68)
  refine E_iaload (v := (.int (1 : Int32))) (pc' := 73) X A_105 (by decide) rfl d8_72 rfl ?_
  refine E_iaload (v := (.int (1 : Int32))) (pc' := 74) X Aa_96 (by decide) rfl d8_73 rfl ?_
  refine E_iconst (v := (1 : Int32)) (pc' := 75) X d8_74 rfl rfl ?_
  refine E_iadd (pc' := 76) X d8_75 rfl ?_
  refine E_eqI (z := (2 : Int32)) (by decide) ?_
  refine E_iastore (vs' := [(.int (0 : Int32)), (.int (1 : Int32)), (.int (1 : Int32)), (.int (2 : Int32)), (.int (0 : Int32)), (.int (0 : Int32)), (.int (0 : Int32))]) (pc' := 77) X Aa_96 (by decide) (Nat.le_of_ble_eq_true rfl) rfl fr_66 d8_76 rfl (fun T h_107 X W_106 Aa_108 => ?_)
  have K_109 : Keep h0 h_107 [a] := K_97.wr W_106 (Or.inr b_64)
  refine E_iloadN (pc' := 78) X d8_77 rfl rfl ?_
  refine E_aloadN (v := (.ref a)) (pc' := 79) X d8_78 rfl rfl rfl ?_
  have F_110 : Fld Z h_107 a "com/example/nimble_calculus/nimblecalculus/equivalence/Splits" "height" "[I" (.ref o56) := (F_98.other W_106 (Or.inl ne_69))
  refine E_getF (pc' := 82) X (host := "") (Or.inl (w_54 hw)) Via.refl F_110 d8_79 rfl (fun T X => ?_)
  refine E_iloadN (pc' := 83) X d8_82 rfl rfl ?_
  refine E_iaload (v := (.int (2 : Int32))) (pc' := 84) X Aa_108 (by decide) rfl d8_83 rfl ?_
  refine E_callS (pc' := 87) (W := 0) (cells' := 2) (slots' := 11) (argsL := [(.int (1 : Int32)), (.int (2 : Int32))]) (rest := []) X (rm5 l Z a0 hw (1 : Int32) (2 : Int32) (2 : Int32) h_107 X.ext (by decide)) (w_28 hw) (w_29 hw) (w_17 hw) (w_30 hw) (by decide) rfl rfl pd_1 rfl rfl d8_84 rfl (Nat.le_refl _) (by decide) (by decide) rfl rfl (by decide) (by decide) (fun v111 T h_112 X hQ113 => ?_)
  obtain ⟨rfl, rfl⟩ := hQ113
  show End Z p e below s _ _ _ _ (mkF m 87 #[.val (.ref a), .val (.ref t), .val (.int (1 : Int32)), .val (.int (3 : Int32)), .unset, .unset, .unset, .unset] [(.int (2 : Int32))])
  refine E_istoreN (Ls' := #[.val (.ref a), .val (.ref t), .val (.int (2 : Int32)), .val (.int (3 : Int32)), .unset, .unset, .unset, .unset]) (pc' := 88) X d8_87 rfl rfl ?_
  refine E_iinc (x := (3 : Int32)) (z := (4 : Int32)) (Ls' := #[.val (.ref a), .val (.ref t), .val (.int (2 : Int32)), .val (.int (4 : Int32)), .unset, .unset, .unset, .unset]) (pc' := 91) X d8_88 rfl rfl rfl rfl ?_
  refine E_goto (pc' := 50) X d8_91 (by decide) rfl ?_
  refine E_iloadN (pc' := 51) X d8_50 rfl rfl ?_
  refine E_aloadN (v := (.ref a)) (pc' := 52) X d8_51 rfl rfl rfl ?_
  have F_115 : Fld Z h_107 a "com/example/nimble_calculus/nimblecalculus/equivalence/Splits" "nodeCount" "I" (.int (7 : Int32)) := (F_103.other W_106 (Or.inl ne_69))
  refine E_getF (pc' := 55) X (host := "") (Or.inl (w_11 hw)) Via.refl F_115 d8_52 rfl (fun T X => ?_)
  refine E_icmp (pcY := 94) (pcN := 58) X (ic_ge _ _) d8_55 (by decide) rfl rfl (fun hc55_3 => absurd hc55_3 (by decide)) (fun hc55_3 => ?_)
  refine E_aloadN (v := (.ref a)) (pc' := 59) X d8_58 rfl rfl rfl ?_
  refine E_getF (pc' := 62) X (host := "") (Or.inl (w_54 hw)) Via.refl F_110 d8_59 rfl (fun T X => ?_)
  refine E_iloadN (pc' := 63) X d8_62 rfl rfl ?_
  refine E_aloadN (v := (.ref a)) (pc' := 64) X d8_63 rfl rfl rfl ?_
  refine E_getF (pc' := 67) X (host := "") (Or.inl (w_54 hw)) Via.refl F_110 d8_64 rfl (fun T X => ?_)
  refine E_aloadN (v := (.ref a)) (pc' := 68) X d8_67 rfl rfl rfl ?_
  have F_116 : Fld Z h_107 a "com/example/nimble_calculus/nimblecalculus/equivalence/Splits" "parent" "[I" (.ref P) := (F_104.other W_106 (Or.inl ne_69))
  refine E_getF (pc' := 71) X (host := "") (Or.inl (w_22 hw)) Via.refl F_116 d8_68 rfl (fun T X => ?_)
  refine E_iloadN (pc' := 72) X d8_71 rfl rfl ?_
  have A_117 : Ar Z h_107 P .int [(.int (0 : Int32)), (.int (0 : Int32)), (.int (0 : Int32)), (.int (1 : Int32)), (.int (1 : Int32)), (.int (2 : Int32)), (.int (2 : Int32))] := (A_105.other W_106 ne_68)
  refine E_iaload (v := (.int (1 : Int32))) (pc' := 73) X A_117 (by decide) rfl d8_72 rfl ?_
  refine E_iaload (v := (.int (1 : Int32))) (pc' := 74) X Aa_108 (by decide) rfl d8_73 rfl ?_
  refine E_iconst (v := (1 : Int32)) (pc' := 75) X d8_74 rfl rfl ?_
  refine E_iadd (pc' := 76) X d8_75 rfl ?_
  refine E_eqI (z := (2 : Int32)) (by decide) ?_
  refine E_iastore (vs' := [(.int (0 : Int32)), (.int (1 : Int32)), (.int (1 : Int32)), (.int (2 : Int32)), (.int (2 : Int32)), (.int (0 : Int32)), (.int (0 : Int32))]) (pc' := 77) X Aa_108 (by decide) (Nat.le_of_ble_eq_true rfl) rfl fr_66 d8_76 rfl (fun T h_119 X W_118 Aa_120 => ?_)
  have K_121 : Keep h0 h_119 [a] := K_109.wr W_118 (Or.inr b_64)
  refine E_iloadN (pc' := 78) X d8_77 rfl rfl ?_
  refine E_aloadN (v := (.ref a)) (pc' := 79) X d8_78 rfl rfl rfl ?_
  have F_122 : Fld Z h_119 a "com/example/nimble_calculus/nimblecalculus/equivalence/Splits" "height" "[I" (.ref o56) := (F_110.other W_118 (Or.inl ne_69))
  refine E_getF (pc' := 82) X (host := "") (Or.inl (w_54 hw)) Via.refl F_122 d8_79 rfl (fun T X => ?_)
  refine E_iloadN (pc' := 83) X d8_82 rfl rfl ?_
  refine E_iaload (v := (.int (2 : Int32))) (pc' := 84) X Aa_120 (by decide) rfl d8_83 rfl ?_
  refine E_callS (pc' := 87) (W := 0) (cells' := 2) (slots' := 11) (argsL := [(.int (2 : Int32)), (.int (2 : Int32))]) (rest := []) X (rm5 l Z a0 hw (2 : Int32) (2 : Int32) (2 : Int32) h_119 X.ext (by decide)) (w_28 hw) (w_29 hw) (w_17 hw) (w_30 hw) (by decide) rfl rfl pd_1 rfl rfl d8_84 rfl (Nat.le_refl _) (by decide) (by decide) rfl rfl (by decide) (by decide) (fun v123 T h_124 X hQ125 => ?_)
  obtain ⟨rfl, rfl⟩ := hQ125
  show End Z p e below s _ _ _ _ (mkF m 87 #[.val (.ref a), .val (.ref t), .val (.int (2 : Int32)), .val (.int (4 : Int32)), .unset, .unset, .unset, .unset] [(.int (2 : Int32))])
  refine E_istoreN (Ls' := #[.val (.ref a), .val (.ref t), .val (.int (2 : Int32)), .val (.int (4 : Int32)), .unset, .unset, .unset, .unset]) (pc' := 88) X d8_87 rfl rfl ?_
  refine E_iinc (x := (4 : Int32)) (z := (5 : Int32)) (Ls' := #[.val (.ref a), .val (.ref t), .val (.int (2 : Int32)), .val (.int (5 : Int32)), .unset, .unset, .unset, .unset]) (pc' := 91) X d8_88 rfl rfl rfl rfl ?_
  refine E_goto (pc' := 50) X d8_91 (by decide) rfl ?_
  refine E_iloadN (pc' := 51) X d8_50 rfl rfl ?_
  refine E_aloadN (v := (.ref a)) (pc' := 52) X d8_51 rfl rfl rfl ?_
  have F_127 : Fld Z h_119 a "com/example/nimble_calculus/nimblecalculus/equivalence/Splits" "nodeCount" "I" (.int (7 : Int32)) := (F_115.other W_118 (Or.inl ne_69))
  refine E_getF (pc' := 55) X (host := "") (Or.inl (w_11 hw)) Via.refl F_127 d8_52 rfl (fun T X => ?_)
  refine E_icmp (pcY := 94) (pcN := 58) X (ic_ge _ _) d8_55 (by decide) rfl rfl (fun hc55_4 => absurd hc55_4 (by decide)) (fun hc55_4 => ?_)
  refine E_aloadN (v := (.ref a)) (pc' := 59) X d8_58 rfl rfl rfl ?_
  refine E_getF (pc' := 62) X (host := "") (Or.inl (w_54 hw)) Via.refl F_122 d8_59 rfl (fun T X => ?_)
  refine E_iloadN (pc' := 63) X d8_62 rfl rfl ?_
  refine E_aloadN (v := (.ref a)) (pc' := 64) X d8_63 rfl rfl rfl ?_
  refine E_getF (pc' := 67) X (host := "") (Or.inl (w_54 hw)) Via.refl F_122 d8_64 rfl (fun T X => ?_)
  refine E_aloadN (v := (.ref a)) (pc' := 68) X d8_67 rfl rfl rfl ?_
  have F_128 : Fld Z h_119 a "com/example/nimble_calculus/nimblecalculus/equivalence/Splits" "parent" "[I" (.ref P) := (F_116.other W_118 (Or.inl ne_69))
  refine E_getF (pc' := 71) X (host := "") (Or.inl (w_22 hw)) Via.refl F_128 d8_68 rfl (fun T X => ?_)
  refine E_iloadN (pc' := 72) X d8_71 rfl rfl ?_
  have A_129 : Ar Z h_119 P .int [(.int (0 : Int32)), (.int (0 : Int32)), (.int (0 : Int32)), (.int (1 : Int32)), (.int (1 : Int32)), (.int (2 : Int32)), (.int (2 : Int32))] := (A_117.other W_118 ne_68)
  refine E_iaload (v := (.int (2 : Int32))) (pc' := 73) X A_129 (by decide) rfl d8_72 rfl ?_
  refine E_iaload (v := (.int (1 : Int32))) (pc' := 74) X Aa_120 (by decide) rfl d8_73 rfl ?_
  refine E_iconst (v := (1 : Int32)) (pc' := 75) X d8_74 rfl rfl ?_
  refine E_iadd (pc' := 76) X d8_75 rfl ?_
  refine E_eqI (z := (2 : Int32)) (by decide) ?_
  refine E_iastore (vs' := [(.int (0 : Int32)), (.int (1 : Int32)), (.int (1 : Int32)), (.int (2 : Int32)), (.int (2 : Int32)), (.int (2 : Int32)), (.int (0 : Int32))]) (pc' := 77) X Aa_120 (by decide) (Nat.le_of_ble_eq_true rfl) rfl fr_66 d8_76 rfl (fun T h_131 X W_130 Aa_132 => ?_)
  have K_133 : Keep h0 h_131 [a] := K_121.wr W_130 (Or.inr b_64)
  refine E_iloadN (pc' := 78) X d8_77 rfl rfl ?_
  refine E_aloadN (v := (.ref a)) (pc' := 79) X d8_78 rfl rfl rfl ?_
  have F_134 : Fld Z h_131 a "com/example/nimble_calculus/nimblecalculus/equivalence/Splits" "height" "[I" (.ref o56) := (F_122.other W_130 (Or.inl ne_69))
  refine E_getF (pc' := 82) X (host := "") (Or.inl (w_54 hw)) Via.refl F_134 d8_79 rfl (fun T X => ?_)
  refine E_iloadN (pc' := 83) X d8_82 rfl rfl ?_
  refine E_iaload (v := (.int (2 : Int32))) (pc' := 84) X Aa_132 (by decide) rfl d8_83 rfl ?_
  refine E_callS (pc' := 87) (W := 0) (cells' := 2) (slots' := 11) (argsL := [(.int (2 : Int32)), (.int (2 : Int32))]) (rest := []) X (rm5 l Z a0 hw (2 : Int32) (2 : Int32) (2 : Int32) h_131 X.ext (by decide)) (w_28 hw) (w_29 hw) (w_17 hw) (w_30 hw) (by decide) rfl rfl pd_1 rfl rfl d8_84 rfl (Nat.le_refl _) (by decide) (by decide) rfl rfl (by decide) (by decide) (fun v135 T h_136 X hQ137 => ?_)
  obtain ⟨rfl, rfl⟩ := hQ137
  show End Z p e below s _ _ _ _ (mkF m 87 #[.val (.ref a), .val (.ref t), .val (.int (2 : Int32)), .val (.int (5 : Int32)), .unset, .unset, .unset, .unset] [(.int (2 : Int32))])
  refine E_istoreN (Ls' := #[.val (.ref a), .val (.ref t), .val (.int (2 : Int32)), .val (.int (5 : Int32)), .unset, .unset, .unset, .unset]) (pc' := 88) X d8_87 rfl rfl ?_
  refine E_iinc (x := (5 : Int32)) (z := (6 : Int32)) (Ls' := #[.val (.ref a), .val (.ref t), .val (.int (2 : Int32)), .val (.int (6 : Int32)), .unset, .unset, .unset, .unset]) (pc' := 91) X d8_88 rfl rfl rfl rfl ?_
  refine E_goto (pc' := 50) X d8_91 (by decide) rfl ?_
  refine E_iloadN (pc' := 51) X d8_50 rfl rfl ?_
  refine E_aloadN (v := (.ref a)) (pc' := 52) X d8_51 rfl rfl rfl ?_
  have F_139 : Fld Z h_131 a "com/example/nimble_calculus/nimblecalculus/equivalence/Splits" "nodeCount" "I" (.int (7 : Int32)) := (F_127.other W_130 (Or.inl ne_69))
  refine E_getF (pc' := 55) X (host := "") (Or.inl (w_11 hw)) Via.refl F_139 d8_52 rfl (fun T X => ?_)
  refine E_icmp (pcY := 94) (pcN := 58) X (ic_ge _ _) d8_55 (by decide) rfl rfl (fun hc55_5 => absurd hc55_5 (by decide)) (fun hc55_5 => ?_)
  refine E_aloadN (v := (.ref a)) (pc' := 59) X d8_58 rfl rfl rfl ?_
  refine E_getF (pc' := 62) X (host := "") (Or.inl (w_54 hw)) Via.refl F_134 d8_59 rfl (fun T X => ?_)
  refine E_iloadN (pc' := 63) X d8_62 rfl rfl ?_
  refine E_aloadN (v := (.ref a)) (pc' := 64) X d8_63 rfl rfl rfl ?_
  refine E_getF (pc' := 67) X (host := "") (Or.inl (w_54 hw)) Via.refl F_134 d8_64 rfl (fun T X => ?_)
  refine E_aloadN (v := (.ref a)) (pc' := 68) X d8_67 rfl rfl rfl ?_
  have F_140 : Fld Z h_131 a "com/example/nimble_calculus/nimblecalculus/equivalence/Splits" "parent" "[I" (.ref P) := (F_128.other W_130 (Or.inl ne_69))
  refine E_getF (pc' := 71) X (host := "") (Or.inl (w_22 hw)) Via.refl F_140 d8_68 rfl (fun T X => ?_)
  refine E_iloadN (pc' := 72) X d8_71 rfl rfl ?_
  have A_141 : Ar Z h_131 P .int [(.int (0 : Int32)), (.int (0 : Int32)), (.int (0 : Int32)), (.int (1 : Int32)), (.int (1 : Int32)), (.int (2 : Int32)), (.int (2 : Int32))] := (A_129.other W_130 ne_68)
  refine E_iaload (v := (.int (2 : Int32))) (pc' := 73) X A_141 (by decide) rfl d8_72 rfl ?_
  refine E_iaload (v := (.int (1 : Int32))) (pc' := 74) X Aa_132 (by decide) rfl d8_73 rfl ?_
  refine E_iconst (v := (1 : Int32)) (pc' := 75) X d8_74 rfl rfl ?_
  refine E_iadd (pc' := 76) X d8_75 rfl ?_
  refine E_eqI (z := (2 : Int32)) (by decide) ?_
  refine E_iastore (vs' := [(.int (0 : Int32)), (.int (1 : Int32)), (.int (1 : Int32)), (.int (2 : Int32)), (.int (2 : Int32)), (.int (2 : Int32)), (.int (2 : Int32))]) (pc' := 77) X Aa_132 (by decide) (Nat.le_of_ble_eq_true rfl) rfl fr_66 d8_76 rfl (fun T h_143 X W_142 Aa_144 => ?_)
  have K_145 : Keep h0 h_143 [a] := K_133.wr W_142 (Or.inr b_64)
  refine E_iloadN (pc' := 78) X d8_77 rfl rfl ?_
  refine E_aloadN (v := (.ref a)) (pc' := 79) X d8_78 rfl rfl rfl ?_
  have F_146 : Fld Z h_143 a "com/example/nimble_calculus/nimblecalculus/equivalence/Splits" "height" "[I" (.ref o56) := (F_134.other W_142 (Or.inl ne_69))
  refine E_getF (pc' := 82) X (host := "") (Or.inl (w_54 hw)) Via.refl F_146 d8_79 rfl (fun T X => ?_)
  refine E_iloadN (pc' := 83) X d8_82 rfl rfl ?_
  refine E_iaload (v := (.int (2 : Int32))) (pc' := 84) X Aa_144 (by decide) rfl d8_83 rfl ?_
  refine E_callS (pc' := 87) (W := 0) (cells' := 2) (slots' := 11) (argsL := [(.int (2 : Int32)), (.int (2 : Int32))]) (rest := []) X (rm5 l Z a0 hw (2 : Int32) (2 : Int32) (2 : Int32) h_143 X.ext (by decide)) (w_28 hw) (w_29 hw) (w_17 hw) (w_30 hw) (by decide) rfl rfl pd_1 rfl rfl d8_84 rfl (Nat.le_refl _) (by decide) (by decide) rfl rfl (by decide) (by decide) (fun v147 T h_148 X hQ149 => ?_)
  obtain ⟨rfl, rfl⟩ := hQ149
  show End Z p e below s _ _ _ _ (mkF m 87 #[.val (.ref a), .val (.ref t), .val (.int (2 : Int32)), .val (.int (6 : Int32)), .unset, .unset, .unset, .unset] [(.int (2 : Int32))])
  refine E_istoreN (Ls' := #[.val (.ref a), .val (.ref t), .val (.int (2 : Int32)), .val (.int (6 : Int32)), .unset, .unset, .unset, .unset]) (pc' := 88) X d8_87 rfl rfl ?_
  refine E_iinc (x := (6 : Int32)) (z := (7 : Int32)) (Ls' := #[.val (.ref a), .val (.ref t), .val (.int (2 : Int32)), .val (.int (7 : Int32)), .unset, .unset, .unset, .unset]) (pc' := 91) X d8_88 rfl rfl rfl rfl ?_
  refine E_goto (pc' := 50) X d8_91 (by decide) rfl ?_
  refine E_iloadN (pc' := 51) X d8_50 rfl rfl ?_
  refine E_aloadN (v := (.ref a)) (pc' := 52) X d8_51 rfl rfl rfl ?_
  have F_151 : Fld Z h_143 a "com/example/nimble_calculus/nimblecalculus/equivalence/Splits" "nodeCount" "I" (.int (7 : Int32)) := (F_139.other W_142 (Or.inl ne_69))
  refine E_getF (pc' := 55) X (host := "") (Or.inl (w_11 hw)) Via.refl F_151 d8_52 rfl (fun T X => ?_)
  refine E_icmp (pcY := 94) (pcN := 58) X (ic_ge _ _) d8_55 (by decide) rfl rfl (fun hc55_6 => ?_) (fun hc55_6 => absurd (by decide) hc55_6)
  refine E_bipush (v := (32 : Int32)) (pc' := 96) X d8_94 rfl rfl ?_
  refine E_iconst (v := (1 : Int32)) (pc' := 97) X d8_96 rfl rfl ?_
  refine E_iloadN (pc' := 98) X d8_97 rfl rfl ?_
  refine E_callS (pc' := 101) (W := 1) (cells' := 2) (slots' := 11) (argsL := [(.int (1 : Int32)), (.int (2 : Int32))]) (rest := [(.int (32 : Int32))]) X (rm5 l Z a0 hw (1 : Int32) (2 : Int32) (2 : Int32) h_143 X.ext (by decide)) (w_28 hw) (w_29 hw) (w_17 hw) (w_30 hw) (by decide) rfl rfl pd_1 rfl rfl d8_98 rfl (Nat.le_refl _) (by decide) (by decide) rfl rfl (by decide) (by decide) (fun v152 T h_153 X hQ154 => ?_)
  obtain ⟨rfl, rfl⟩ := hQ154
  show End Z p e below s _ _ _ _ (mkF m 101 #[.val (.ref a), .val (.ref t), .val (.int (2 : Int32)), .val (.int (7 : Int32)), .unset, .unset, .unset, .unset] [(.int (2 : Int32)), (.int (32 : Int32))])
  refine E_callS (pc' := 104) (W := 1) (cells' := 2) (slots' := 11) (argsL := [(.int (2 : Int32))]) (rest := [(.int (32 : Int32))]) X (rm_nlz2 l Z a0 hw h_143 X.ext) (w_56 hw) (w_57 hw) (w_58 hw) (w_59 hw) (by decide) rfl rfl pd_2 rfl rfl d8_101 rfl (Nat.le_refl _) (by decide) (by decide) rfl rfl (by decide) (by decide) (fun v156 T h_157 X hQ158 => ?_)
  obtain ⟨rfl, rfl⟩ := hQ158
  show End Z p e below s _ _ _ _ (mkF m 104 #[.val (.ref a), .val (.ref t), .val (.int (2 : Int32)), .val (.int (7 : Int32)), .unset, .unset, .unset, .unset] [(.int (30 : Int32)), (.int (32 : Int32))])
  refine E_isub (pc' := 105) X d8_104 rfl ?_
  refine E_eqI (z := (2 : Int32)) (by decide) ?_
  refine E_istoreN (Ls' := #[.val (.ref a), .val (.ref t), .val (.int (2 : Int32)), .val (.int (2 : Int32)), .unset, .unset, .unset, .unset]) (pc' := 106) X d8_105 rfl rfl ?_
  refine E_aloadN (v := (.ref a)) (pc' := 107) X d8_106 rfl rfl rfl ?_
  refine E_iloadN (pc' := 108) X d8_107 rfl rfl ?_
  have A_165 : Ar Z h_143 NB .int [(.int (3 : Int32)), (.int (5 : Int32)), (.int (6 : Int32)), (.int (4 : Int32))] := ((((((((A_61.ext Ex_58).other W_74 ne_1).other W_82 ne_67).other W_94 ne_67).other W_106 ne_67).other W_118 ne_67).other W_130 ne_67).other W_142 ne_67)
  have E_166 : Exa Z h_143 P "[I" := ((((((((E_62.ext Ex_58).wr W_74).wr W_82).wr W_94).wr W_106).wr W_118).wr W_130).wr W_142)
  have E_167 : Exa Z h_143 a "com/example/nimble_calculus/nimblecalculus/equivalence/Splits" := (((((((E_73.wr W_74).wr W_82).wr W_94).wr W_106).wr W_118).wr W_130).wr W_142)
  have A_168 : Ar Z h_143 o4 .int [(.int (3 : Int32)), (.int (4 : Int32)), (.int (5 : Int32)), (.int (6 : Int32))] := ((((((((Aa_52.ext Ex_58).other W_74 (Ne.symm ne_14)).other W_82 ne_70).other W_94 ne_70).other W_106 ne_70).other W_118 ne_70).other W_130 ne_70).other W_142 ne_70)
  have A_169 : Ar Z h_143 t .int [(.int (0 : Int32)), (.int (3 : Int32)), (.int (1 : Int32)), (.int (2 : Int32))] := ((((((((A_54.ext Ex_58).other W_74 (Ne.symm ne_3)).other W_82 ne_71).other W_94 ne_71).other W_106 ne_71).other W_118 ne_71).other W_130 ne_71).other W_142 ne_71)
  have le_o160 := X.le
  refine E_newRA (pc' := 111) X (n := (2 : Int32)) (cap := 2) (vs := [.null, .null]) (cells' := 3) (slots' := 13) (by decide) (w_61 hw) (w_62 hw) d8_108 rfl (by decide) (by decide) (by decide) rfl rfl rfl (by decide) (by decide) (fun T h_161 o160 g_164 X Ex_162 Aa_163 => ?_)
  have b_170 : h0.size ≤ o160 := by rw [g_164]; exact K_145.1
  have K_171 : Keep h0 h_161 [a] := K_145.ext Ex_162
  have fr_172 : Z.heap.size ≤ o160 := by rw [g_164]; exact le_o160
  have ne_173 : NB ≠ o160 := Nat.ne_of_lt (by rw [g_164]; exact A_165.lt)
  have ne_174 : P ≠ o160 := Nat.ne_of_lt (by rw [g_164]; exact E_166.lt)
  have ne_175 : a ≠ o160 := Nat.ne_of_lt (by rw [g_164]; exact E_167.lt)
  have ne_176 : o4 ≠ o160 := Nat.ne_of_lt (by rw [g_164]; exact A_168.lt)
  have ne_177 : o56 ≠ o160 := Nat.ne_of_lt (by rw [g_164]; exact Aa_144.lt)
  have ne_178 : t ≠ o160 := Nat.ne_of_lt (by rw [g_164]; exact A_169.lt)
  have F_179 : Fld Z h_161 a "com/example/nimble_calculus/nimblecalculus/equivalence/Splits" "jumps" "[[I" .null := (((((((((((((((hF10.ext Ex_6).other W_18 (Or.inr (slot_ne (Or.inl (w_64 hw)) (Or.inl (w_53 hw)) (by decide) (t := (.array (.array .int))) (t' := (.array .int)) (by decide) (by decide)))).other W_26 (Or.inl ne_14)).other W_34 (Or.inl ne_14)).other W_42 (Or.inl ne_14)).other W_50 (Or.inl ne_14)).ext Ex_58).other W_74 (Or.inr (slot_ne (Or.inl (w_64 hw)) (Or.inl (w_55 hw)) (by decide) (t := (.array (.array .int))) (t' := (.array .int)) (by decide) (by decide)))).other W_82 (Or.inl ne_69)).other W_94 (Or.inl ne_69)).other W_106 (Or.inl ne_69)).other W_118 (Or.inl ne_69)).other W_130 (Or.inl ne_69)).other W_142 (Or.inl ne_69)).ext Ex_162)
  have E_180 : Exa Z h_161 a "com/example/nimble_calculus/nimblecalculus/equivalence/Splits" := (E_167.ext Ex_162)
  refine E_putF (pc' := 114) X (host := "") (Or.inl (w_63 hw)) Via.refl F_179 E_180 (Or.inl (w_64 hw)) (w_3 hw) (ty := (.array (.array .int))) (by decide) rfl rfl hfr15 d8_111 rfl (fun T h_182 X W_181 => ?_)
  have K_183 : Keep h0 h_182 [a] := K_171.wr W_181 (Or.inl (List.mem_of_getElem? (i := 0) rfl))
  refine E_aloadN (v := (.ref a)) (pc' := 115) X d8_114 rfl rfl rfl ?_
  have F_184 : Fld Z h_182 a "com/example/nimble_calculus/nimblecalculus/equivalence/Splits" "jumps" "[[I" (.ref o160) := (F_179.same W_181)
  refine E_getF (pc' := 118) X (host := "") (Or.inl (w_63 hw)) Via.refl F_184 d8_115 rfl (fun T X => ?_)
  refine E_iconst (v := (0 : Int32)) (pc' := 119) X d8_118 rfl rfl ?_
  refine E_aloadN (v := (.ref a)) (pc' := 120) X d8_119 rfl rfl rfl ?_
  have F_185 : Fld Z h_182 a "com/example/nimble_calculus/nimblecalculus/equivalence/Splits" "parent" "[I" (.ref P) := (((F_140.other W_142 (Or.inl ne_69)).ext Ex_162).other W_181 (Or.inr (slot_ne (Or.inr (w_23 hw)) (Or.inl (w_64 hw)) (by decide) (t := (.array .int)) (t' := (.array (.array .int))) (by decide) (by decide))))
  refine E_getF (pc' := 123) X (host := "") (Or.inl (w_22 hw)) Via.refl F_185 d8_120 rfl (fun T X => ?_)
  refine E_aloadN (v := (.ref a)) (pc' := 124) X d8_123 rfl rfl rfl ?_
  have F_186 : Fld Z h_182 a "com/example/nimble_calculus/nimblecalculus/equivalence/Splits" "nodeCount" "I" (.int (7 : Int32)) := ((F_151.ext Ex_162).other W_181 (Or.inr (slot_ne (Or.inl (w_12 hw)) (Or.inl (w_64 hw)) (by decide) (t := .int) (t' := (.array (.array .int))) (by decide) (by decide))))
  refine E_getF (pc' := 127) X (host := "") (Or.inl (w_11 hw)) Via.refl F_186 d8_124 rfl (fun T X => ?_)
  have A_187 : Ar Z h_182 P .int [(.int (0 : Int32)), (.int (0 : Int32)), (.int (0 : Int32)), (.int (1 : Int32)), (.int (1 : Int32)), (.int (2 : Int32)), (.int (2 : Int32))] := (((A_141.other W_142 ne_68).ext Ex_162).other W_181 ne_2)
  have E_188 : Exa Z h_182 P "[I" := ((E_166.ext Ex_162).wr W_181)
  have A_192 : Ar Z h_182 NB .int [(.int (3 : Int32)), (.int (5 : Int32)), (.int (6 : Int32)), (.int (4 : Int32))] := ((A_165.ext Ex_162).other W_181 ne_1)
  have E_193 : Exa Z h_182 a "com/example/nimble_calculus/nimblecalculus/equivalence/Splits" := (E_180.wr W_181)
  have A_194 : ArR Z h_182 o160 (.array .int) "[I" [.null, .null] := (Aa_163.other W_181 (Ne.symm ne_175))
  have A_195 : Ar Z h_182 o4 .int [(.int (3 : Int32)), (.int (4 : Int32)), (.int (5 : Int32)), (.int (6 : Int32))] := ((A_168.ext Ex_162).other W_181 (Ne.symm ne_14))
  have A_196 : Ar Z h_182 o56 .int [(.int (0 : Int32)), (.int (1 : Int32)), (.int (1 : Int32)), (.int (2 : Int32)), (.int (2 : Int32)), (.int (2 : Int32)), (.int (2 : Int32))] := ((Aa_144.ext Ex_162).other W_181 (Ne.symm ne_69))
  have A_197 : Ar Z h_182 t .int [(.int (0 : Int32)), (.int (3 : Int32)), (.int (1 : Int32)), (.int (2 : Int32))] := ((A_169.ext Ex_162).other W_181 (Ne.symm ne_3))
  have le_198 := X.le
  refine E_callS (pc' := 130) (W := 2) (cells' := 4) (slots' := 20) (argsL := [(.ref P), (.int (7 : Int32))]) (rest := [(.int (0 : Int32)), (.ref o160)]) X (rm10 l Z a0 hw P (0 : Int32) (0 : Int32) (0 : Int32) (1 : Int32) (1 : Int32) (2 : Int32) (2 : Int32) h_182 X.ext A_187 E_188) (w_65 hw) (w_66 hw) (w_67 hw) (w_68 hw) (by decide) rfl rfl pd_3 rfl rfl d8_127 rfl (Nat.le_refl _) (by decide) (by decide) rfl rfl (by decide) (by decide) (fun v189 T h_190 X hQ191 => ?_)
  obtain ⟨r_199, rfl, Kc_200, nw_201, A_202, E_203⟩ := hQ191
  have K_204 : Keep h0 h_190 [a] := K_183.trans Kc_200 all0
  have ne_205 : NB ≠ r_199 := Nat.ne_of_lt (Nat.lt_of_lt_of_le A_192.lt nw_201)
  have ne_206 : P ≠ r_199 := Nat.ne_of_lt (Nat.lt_of_lt_of_le E_188.lt nw_201)
  have ne_207 : a ≠ r_199 := Nat.ne_of_lt (Nat.lt_of_lt_of_le E_193.lt nw_201)
  have ne_208 : o160 ≠ r_199 := Nat.ne_of_lt (Nat.lt_of_lt_of_le A_194.lt nw_201)
  have ne_209 : o4 ≠ r_199 := Nat.ne_of_lt (Nat.lt_of_lt_of_le A_195.lt nw_201)
  have ne_210 : o56 ≠ r_199 := Nat.ne_of_lt (Nat.lt_of_lt_of_le A_196.lt nw_201)
  have ne_211 : t ≠ r_199 := Nat.ne_of_lt (Nat.lt_of_lt_of_le A_197.lt nw_201)
  have fr_212 : Z.heap.size ≤ r_199 := Nat.le_trans le_198 nw_201
  show End Z p e below s _ _ _ _ (mkF m 130 #[.val (.ref a), .val (.ref t), .val (.int (2 : Int32)), .val (.int (2 : Int32)), .unset, .unset, .unset, .unset] [(.ref r_199), (.int (0 : Int32)), (.ref o160)])
  have A_213 : ArR Z h_190 o160 (.array .int) "[I" [.null, .null] := (A_194.keep Kc_200 nin0)
  refine E_aastore (vs' := [(.ref r_199), .null]) (pc' := 131) X A_213 (Ins.self E_203) rfl (by decide) (Nat.le_of_ble_eq_true rfl) rfl fr_172 d8_130 rfl (fun T h_215 X W_214 Aa_216 => ?_)
  have K_217 : Keep h0 h_215 [a] := K_204.wr W_214 (Or.inr b_170)
  refine E_iconst (v := (1 : Int32)) (pc' := 132) X d8_131 rfl rfl ?_
  refine E_istore (Ls' := #[.val (.ref a), .val (.ref t), .val (.int (2 : Int32)), .val (.int (2 : Int32)), .val (.int (1 : Int32)), .unset, .unset, .unset]) (pc' := 134) X d8_132 rfl rfl ?_
  refine E_iload (pc' := 136) X d8_134 rfl rfl ?_
  refine E_iloadN (pc' := 137) X d8_136 rfl rfl ?_
  refine E_icmp (pcY := 205) (pcN := 140) X (ic_ge _ _) d8_137 (by decide) rfl rfl (fun hc137_0 => absurd hc137_0 (by decide)) (fun hc137_0 => ?_)
  refine E_aloadN (v := (.ref a)) (pc' := 141) X d8_140 rfl rfl rfl ?_
  have F_218 : Fld Z h_215 a "com/example/nimble_calculus/nimblecalculus/equivalence/Splits" "jumps" "[[I" (.ref o160) := ((F_184.keep Kc_200 nin0).other W_214 (Or.inl ne_175))
  refine E_getF (pc' := 144) X (host := "") (Or.inl (w_63 hw)) Via.refl F_218 d8_141 rfl (fun T X => ?_)
  refine E_iload (pc' := 146) X d8_144 rfl rfl ?_
  refine E_iconst (v := (1 : Int32)) (pc' := 147) X d8_146 rfl rfl ?_
  refine E_isub (pc' := 148) X d8_147 rfl ?_
  refine E_eqI (z := (0 : Int32)) (by decide) ?_
  refine E_aaload (v := (.ref r_199)) (pc' := 149) X Aa_216.ar rfl (by decide) rfl d8_148 rfl ?_
  refine E_astore (Ls' := #[.val (.ref a), .val (.ref t), .val (.int (2 : Int32)), .val (.int (2 : Int32)), .val (.int (1 : Int32)), .val (.ref r_199), .unset, .unset]) (pc' := 151) X d8_149 rfl rfl rfl ?_
  refine E_aloadN (v := (.ref a)) (pc' := 152) X d8_151 rfl rfl rfl ?_
  have F_219 : Fld Z h_215 a "com/example/nimble_calculus/nimblecalculus/equivalence/Splits" "nodeCount" "I" (.int (7 : Int32)) := ((F_186.keep Kc_200 nin0).other W_214 (Or.inl ne_175))
  refine E_getF (pc' := 155) X (host := "") (Or.inl (w_11 hw)) Via.refl F_219 d8_152 rfl (fun T X => ?_)
  have A_225 : Ar Z h_215 NB .int [(.int (3 : Int32)), (.int (5 : Int32)), (.int (6 : Int32)), (.int (4 : Int32))] := ((A_192.keep Kc_200 nin0).other W_214 ne_173)
  have E_226 : Exa Z h_215 P "[I" := ((E_188.keep Kc_200).wr W_214)
  have E_227 : Exa Z h_215 a "com/example/nimble_calculus/nimblecalculus/equivalence/Splits" := ((E_193.keep Kc_200).wr W_214)
  have A_228 : Ar Z h_215 o4 .int [(.int (3 : Int32)), (.int (4 : Int32)), (.int (5 : Int32)), (.int (6 : Int32))] := ((A_195.keep Kc_200 nin0).other W_214 ne_176)
  have A_229 : Ar Z h_215 o56 .int [(.int (0 : Int32)), (.int (1 : Int32)), (.int (1 : Int32)), (.int (2 : Int32)), (.int (2 : Int32)), (.int (2 : Int32)), (.int (2 : Int32))] := ((A_196.keep Kc_200 nin0).other W_214 ne_177)
  have E_230 : Exa Z h_215 r_199 "[I" := (E_203.wr W_214)
  have A_231 : Ar Z h_215 t .int [(.int (0 : Int32)), (.int (3 : Int32)), (.int (1 : Int32)), (.int (2 : Int32))] := ((A_197.keep Kc_200 nin0).other W_214 ne_178)
  have le_o220 := X.le
  refine E_newAE (pc' := 157) X (aty := .int) (n := (7 : Int32)) (cap := 7) (vs := [(.int (0 : Int32)), (.int (0 : Int32)), (.int (0 : Int32)), (.int (0 : Int32)), (.int (0 : Int32)), (.int (0 : Int32)), (.int (0 : Int32))]) (cells' := 5) (slots' := 27) (ad := "[I") (by decide) (w_1 hw) d8_155 rfl (by decide) (by decide) (by decide) rfl rfl rfl (by decide) (by decide) (fun T h_221 o220 g_224 X Ex_222 Aa_223 EaAa_223 => ?_)
  have b_232 : h0.size ≤ o220 := by rw [g_224]; exact K_217.1
  have K_233 : Keep h0 h_221 [a] := K_217.ext Ex_222
  have fr_234 : Z.heap.size ≤ o220 := by rw [g_224]; exact le_o220
  have ne_235 : NB ≠ o220 := Nat.ne_of_lt (by rw [g_224]; exact A_225.lt)
  have ne_236 : P ≠ o220 := Nat.ne_of_lt (by rw [g_224]; exact E_226.lt)
  have ne_237 : a ≠ o220 := Nat.ne_of_lt (by rw [g_224]; exact E_227.lt)
  have ne_238 : o160 ≠ o220 := Nat.ne_of_lt (by rw [g_224]; exact Aa_216.lt)
  have ne_239 : o4 ≠ o220 := Nat.ne_of_lt (by rw [g_224]; exact A_228.lt)
  have ne_240 : o56 ≠ o220 := Nat.ne_of_lt (by rw [g_224]; exact A_229.lt)
  have ne_241 : r_199 ≠ o220 := Nat.ne_of_lt (by rw [g_224]; exact E_230.lt)
  have ne_242 : t ≠ o220 := Nat.ne_of_lt (by rw [g_224]; exact A_231.lt)
  refine E_astore (Ls' := #[.val (.ref a), .val (.ref t), .val (.int (2 : Int32)), .val (.int (2 : Int32)), .val (.int (1 : Int32)), .val (.ref r_199), .val (.ref o220), .unset]) (pc' := 159) X d8_157 rfl rfl rfl ?_
  refine E_iconst (v := (0 : Int32)) (pc' := 160) X d8_159 rfl rfl ?_
  refine E_istore (Ls' := #[.val (.ref a), .val (.ref t), .val (.int (2 : Int32)), .val (.int (2 : Int32)), .val (.int (1 : Int32)), .val (.ref r_199), .val (.ref o220), .val (.int (0 : Int32))]) (pc' := 162) X d8_160 rfl rfl ?_
  refine E_iload (pc' := 164) X d8_162 rfl rfl ?_
  refine E_aloadN (v := (.ref a)) (pc' := 165) X d8_164 rfl rfl rfl ?_
  have F_243 : Fld Z h_221 a "com/example/nimble_calculus/nimblecalculus/equivalence/Splits" "nodeCount" "I" (.int (7 : Int32)) := (F_219.ext Ex_222)
  refine E_getF (pc' := 168) X (host := "") (Or.inl (w_11 hw)) Via.refl F_243 d8_165 rfl (fun T X => ?_)
  refine E_icmp (pcY := 190) (pcN := 171) X (ic_ge _ _) d8_168 (by decide) rfl rfl (fun hc168_0 => absurd hc168_0 (by decide)) (fun hc168_0 => ?_)
  refine E_aload (v := (.ref o220)) (pc' := 173) X d8_171 rfl rfl rfl ?_
  refine E_iload (pc' := 175) X d8_173 rfl rfl ?_
  refine E_aload (v := (.ref r_199)) (pc' := 177) X d8_175 rfl rfl rfl ?_
  refine E_aload (v := (.ref r_199)) (pc' := 179) X d8_177 rfl rfl rfl ?_
  refine E_iload (pc' := 181) X d8_179 rfl rfl ?_
  have A_244 : Ar Z h_221 r_199 .int [(.int (0 : Int32)), (.int (0 : Int32)), (.int (0 : Int32)), (.int (1 : Int32)), (.int (1 : Int32)), (.int (2 : Int32)), (.int (2 : Int32))] := ((A_202.other W_214 (Ne.symm ne_208)).ext Ex_222)
  refine E_iaload (v := (.int (0 : Int32))) (pc' := 182) X A_244 (by decide) rfl d8_181 rfl ?_
  refine E_iaload (v := (.int (0 : Int32))) (pc' := 183) X A_244 (by decide) rfl d8_182 rfl ?_
  refine E_iastore (vs' := [(.int (0 : Int32)), (.int (0 : Int32)), (.int (0 : Int32)), (.int (0 : Int32)), (.int (0 : Int32)), (.int (0 : Int32)), (.int (0 : Int32))]) (pc' := 184) X Aa_223 (by decide) (Nat.le_of_ble_eq_true rfl) rfl fr_234 d8_183 rfl (fun T h_246 X W_245 Aa_247 => ?_)
  have K_248 : Keep h0 h_246 [a] := K_233.wr W_245 (Or.inr b_232)
  refine E_iinc (x := (0 : Int32)) (z := (1 : Int32)) (Ls' := #[.val (.ref a), .val (.ref t), .val (.int (2 : Int32)), .val (.int (2 : Int32)), .val (.int (1 : Int32)), .val (.ref r_199), .val (.ref o220), .val (.int (1 : Int32))]) (pc' := 187) X d8_184 rfl rfl rfl rfl ?_
  refine E_goto (pc' := 162) X d8_187 (by decide) rfl ?_
  refine E_iload (pc' := 164) X d8_162 rfl rfl ?_
  refine E_aloadN (v := (.ref a)) (pc' := 165) X d8_164 rfl rfl rfl ?_
  have F_249 : Fld Z h_246 a "com/example/nimble_calculus/nimblecalculus/equivalence/Splits" "nodeCount" "I" (.int (7 : Int32)) := (F_243.other W_245 (Or.inl ne_237))
  refine E_getF (pc' := 168) X (host := "") (Or.inl (w_11 hw)) Via.refl F_249 d8_165 rfl (fun T X => ?_)
  refine E_icmp (pcY := 190) (pcN := 171) X (ic_ge _ _) d8_168 (by decide) rfl rfl (fun hc168_1 => absurd hc168_1 (by decide)) (fun hc168_1 => ?_)
  refine E_aload (v := (.ref o220)) (pc' := 173) X d8_171 rfl rfl rfl ?_
  refine E_iload (pc' := 175) X d8_173 rfl rfl ?_
  refine E_aload (v := (.ref r_199)) (pc' := 177) X d8_175 rfl rfl rfl ?_
  refine E_aload (v := (.ref r_199)) (pc' := 179) X d8_177 rfl rfl rfl ?_
  refine E_iload (pc' := 181) X d8_179 rfl rfl ?_
  have A_250 : Ar Z h_246 r_199 .int [(.int (0 : Int32)), (.int (0 : Int32)), (.int (0 : Int32)), (.int (1 : Int32)), (.int (1 : Int32)), (.int (2 : Int32)), (.int (2 : Int32))] := (A_244.other W_245 ne_241)
  refine E_iaload (v := (.int (0 : Int32))) (pc' := 182) X A_250 (by decide) rfl d8_181 rfl ?_
  refine E_iaload (v := (.int (0 : Int32))) (pc' := 183) X A_250 (by decide) rfl d8_182 rfl ?_
  refine E_iastore (vs' := [(.int (0 : Int32)), (.int (0 : Int32)), (.int (0 : Int32)), (.int (0 : Int32)), (.int (0 : Int32)), (.int (0 : Int32)), (.int (0 : Int32))]) (pc' := 184) X Aa_247 (by decide) (Nat.le_of_ble_eq_true rfl) rfl fr_234 d8_183 rfl (fun T h_252 X W_251 Aa_253 => ?_)
  have K_254 : Keep h0 h_252 [a] := K_248.wr W_251 (Or.inr b_232)
  refine E_iinc (x := (1 : Int32)) (z := (2 : Int32)) (Ls' := #[.val (.ref a), .val (.ref t), .val (.int (2 : Int32)), .val (.int (2 : Int32)), .val (.int (1 : Int32)), .val (.ref r_199), .val (.ref o220), .val (.int (2 : Int32))]) (pc' := 187) X d8_184 rfl rfl rfl rfl ?_
  refine E_goto (pc' := 162) X d8_187 (by decide) rfl ?_
  refine E_iload (pc' := 164) X d8_162 rfl rfl ?_
  refine E_aloadN (v := (.ref a)) (pc' := 165) X d8_164 rfl rfl rfl ?_
  have F_255 : Fld Z h_252 a "com/example/nimble_calculus/nimblecalculus/equivalence/Splits" "nodeCount" "I" (.int (7 : Int32)) := (F_249.other W_251 (Or.inl ne_237))
  refine E_getF (pc' := 168) X (host := "") (Or.inl (w_11 hw)) Via.refl F_255 d8_165 rfl (fun T X => ?_)
  refine E_icmp (pcY := 190) (pcN := 171) X (ic_ge _ _) d8_168 (by decide) rfl rfl (fun hc168_2 => absurd hc168_2 (by decide)) (fun hc168_2 => ?_)
  refine E_aload (v := (.ref o220)) (pc' := 173) X d8_171 rfl rfl rfl ?_
  refine E_iload (pc' := 175) X d8_173 rfl rfl ?_
  refine E_aload (v := (.ref r_199)) (pc' := 177) X d8_175 rfl rfl rfl ?_
  refine E_aload (v := (.ref r_199)) (pc' := 179) X d8_177 rfl rfl rfl ?_
  refine E_iload (pc' := 181) X d8_179 rfl rfl ?_
  have A_256 : Ar Z h_252 r_199 .int [(.int (0 : Int32)), (.int (0 : Int32)), (.int (0 : Int32)), (.int (1 : Int32)), (.int (1 : Int32)), (.int (2 : Int32)), (.int (2 : Int32))] := (A_250.other W_251 ne_241)
  refine E_iaload (v := (.int (0 : Int32))) (pc' := 182) X A_256 (by decide) rfl d8_181 rfl ?_
  refine E_iaload (v := (.int (0 : Int32))) (pc' := 183) X A_256 (by decide) rfl d8_182 rfl ?_
  refine E_iastore (vs' := [(.int (0 : Int32)), (.int (0 : Int32)), (.int (0 : Int32)), (.int (0 : Int32)), (.int (0 : Int32)), (.int (0 : Int32)), (.int (0 : Int32))]) (pc' := 184) X Aa_253 (by decide) (Nat.le_of_ble_eq_true rfl) rfl fr_234 d8_183 rfl (fun T h_258 X W_257 Aa_259 => ?_)
  have K_260 : Keep h0 h_258 [a] := K_254.wr W_257 (Or.inr b_232)
  refine E_iinc (x := (2 : Int32)) (z := (3 : Int32)) (Ls' := #[.val (.ref a), .val (.ref t), .val (.int (2 : Int32)), .val (.int (2 : Int32)), .val (.int (1 : Int32)), .val (.ref r_199), .val (.ref o220), .val (.int (3 : Int32))]) (pc' := 187) X d8_184 rfl rfl rfl rfl ?_
  refine E_goto (pc' := 162) X d8_187 (by decide) rfl ?_
  refine E_iload (pc' := 164) X d8_162 rfl rfl ?_
  refine E_aloadN (v := (.ref a)) (pc' := 165) X d8_164 rfl rfl rfl ?_
  have F_261 : Fld Z h_258 a "com/example/nimble_calculus/nimblecalculus/equivalence/Splits" "nodeCount" "I" (.int (7 : Int32)) := (F_255.other W_257 (Or.inl ne_237))
  refine E_getF (pc' := 168) X (host := "") (Or.inl (w_11 hw)) Via.refl F_261 d8_165 rfl (fun T X => ?_)
  refine E_icmp (pcY := 190) (pcN := 171) X (ic_ge _ _) d8_168 (by decide) rfl rfl (fun hc168_3 => absurd hc168_3 (by decide)) (fun hc168_3 => ?_)
  refine E_aload (v := (.ref o220)) (pc' := 173) X d8_171 rfl rfl rfl ?_
  refine E_iload (pc' := 175) X d8_173 rfl rfl ?_
  refine E_aload (v := (.ref r_199)) (pc' := 177) X d8_175 rfl rfl rfl ?_
  refine E_aload (v := (.ref r_199)) (pc' := 179) X d8_177 rfl rfl rfl ?_
  refine E_iload (pc' := 181) X d8_179 rfl rfl ?_
  have A_262 : Ar Z h_258 r_199 .int [(.int (0 : Int32)), (.int (0 : Int32)), (.int (0 : Int32)), (.int (1 : Int32)), (.int (1 : Int32)), (.int (2 : Int32)), (.int (2 : Int32))] := (A_256.other W_257 ne_241)
  refine E_iaload (v := (.int (1 : Int32))) (pc' := 182) X A_262 (by decide) rfl d8_181 rfl ?_
  refine E_iaload (v := (.int (0 : Int32))) (pc' := 183) X A_262 (by decide) rfl d8_182 rfl ?_
  refine E_iastore (vs' := [(.int (0 : Int32)), (.int (0 : Int32)), (.int (0 : Int32)), (.int (0 : Int32)), (.int (0 : Int32)), (.int (0 : Int32)), (.int (0 : Int32))]) (pc' := 184) X Aa_259 (by decide) (Nat.le_of_ble_eq_true rfl) rfl fr_234 d8_183 rfl (fun T h_264 X W_263 Aa_265 => ?_)
  have K_266 : Keep h0 h_264 [a] := K_260.wr W_263 (Or.inr b_232)
  refine E_iinc (x := (3 : Int32)) (z := (4 : Int32)) (Ls' := #[.val (.ref a), .val (.ref t), .val (.int (2 : Int32)), .val (.int (2 : Int32)), .val (.int (1 : Int32)), .val (.ref r_199), .val (.ref o220), .val (.int (4 : Int32))]) (pc' := 187) X d8_184 rfl rfl rfl rfl ?_
  refine E_goto (pc' := 162) X d8_187 (by decide) rfl ?_
  refine E_iload (pc' := 164) X d8_162 rfl rfl ?_
  refine E_aloadN (v := (.ref a)) (pc' := 165) X d8_164 rfl rfl rfl ?_
  have F_267 : Fld Z h_264 a "com/example/nimble_calculus/nimblecalculus/equivalence/Splits" "nodeCount" "I" (.int (7 : Int32)) := (F_261.other W_263 (Or.inl ne_237))
  refine E_getF (pc' := 168) X (host := "") (Or.inl (w_11 hw)) Via.refl F_267 d8_165 rfl (fun T X => ?_)
  refine E_icmp (pcY := 190) (pcN := 171) X (ic_ge _ _) d8_168 (by decide) rfl rfl (fun hc168_4 => absurd hc168_4 (by decide)) (fun hc168_4 => ?_)
  refine E_aload (v := (.ref o220)) (pc' := 173) X d8_171 rfl rfl rfl ?_
  refine E_iload (pc' := 175) X d8_173 rfl rfl ?_
  refine E_aload (v := (.ref r_199)) (pc' := 177) X d8_175 rfl rfl rfl ?_
  refine E_aload (v := (.ref r_199)) (pc' := 179) X d8_177 rfl rfl rfl ?_
  refine E_iload (pc' := 181) X d8_179 rfl rfl ?_
  have A_268 : Ar Z h_264 r_199 .int [(.int (0 : Int32)), (.int (0 : Int32)), (.int (0 : Int32)), (.int (1 : Int32)), (.int (1 : Int32)), (.int (2 : Int32)), (.int (2 : Int32))] := (A_262.other W_263 ne_241)
  refine E_iaload (v := (.int (1 : Int32))) (pc' := 182) X A_268 (by decide) rfl d8_181 rfl ?_
  refine E_iaload (v := (.int (0 : Int32))) (pc' := 183) X A_268 (by decide) rfl d8_182 rfl ?_
  refine E_iastore (vs' := [(.int (0 : Int32)), (.int (0 : Int32)), (.int (0 : Int32)), (.int (0 : Int32)), (.int (0 : Int32)), (.int (0 : Int32)), (.int (0 : Int32))]) (pc' := 184) X Aa_265 (by decide) (Nat.le_of_ble_eq_true rfl) rfl fr_234 d8_183 rfl (fun T h_270 X W_269 Aa_271 => ?_)
  have K_272 : Keep h0 h_270 [a] := K_266.wr W_269 (Or.inr b_232)
  refine E_iinc (x := (4 : Int32)) (z := (5 : Int32)) (Ls' := #[.val (.ref a), .val (.ref t), .val (.int (2 : Int32)), .val (.int (2 : Int32)), .val (.int (1 : Int32)), .val (.ref r_199), .val (.ref o220), .val (.int (5 : Int32))]) (pc' := 187) X d8_184 rfl rfl rfl rfl ?_
  refine E_goto (pc' := 162) X d8_187 (by decide) rfl ?_
  refine E_iload (pc' := 164) X d8_162 rfl rfl ?_
  refine E_aloadN (v := (.ref a)) (pc' := 165) X d8_164 rfl rfl rfl ?_
  have F_273 : Fld Z h_270 a "com/example/nimble_calculus/nimblecalculus/equivalence/Splits" "nodeCount" "I" (.int (7 : Int32)) := (F_267.other W_269 (Or.inl ne_237))
  refine E_getF (pc' := 168) X (host := "") (Or.inl (w_11 hw)) Via.refl F_273 d8_165 rfl (fun T X => ?_)
  refine E_icmp (pcY := 190) (pcN := 171) X (ic_ge _ _) d8_168 (by decide) rfl rfl (fun hc168_5 => absurd hc168_5 (by decide)) (fun hc168_5 => ?_)
  refine E_aload (v := (.ref o220)) (pc' := 173) X d8_171 rfl rfl rfl ?_
  refine E_iload (pc' := 175) X d8_173 rfl rfl ?_
  refine E_aload (v := (.ref r_199)) (pc' := 177) X d8_175 rfl rfl rfl ?_
  refine E_aload (v := (.ref r_199)) (pc' := 179) X d8_177 rfl rfl rfl ?_
  refine E_iload (pc' := 181) X d8_179 rfl rfl ?_
  have A_274 : Ar Z h_270 r_199 .int [(.int (0 : Int32)), (.int (0 : Int32)), (.int (0 : Int32)), (.int (1 : Int32)), (.int (1 : Int32)), (.int (2 : Int32)), (.int (2 : Int32))] := (A_268.other W_269 ne_241)
  refine E_iaload (v := (.int (2 : Int32))) (pc' := 182) X A_274 (by decide) rfl d8_181 rfl ?_
  refine E_iaload (v := (.int (0 : Int32))) (pc' := 183) X A_274 (by decide) rfl d8_182 rfl ?_
  refine E_iastore (vs' := [(.int (0 : Int32)), (.int (0 : Int32)), (.int (0 : Int32)), (.int (0 : Int32)), (.int (0 : Int32)), (.int (0 : Int32)), (.int (0 : Int32))]) (pc' := 184) X Aa_271 (by decide) (Nat.le_of_ble_eq_true rfl) rfl fr_234 d8_183 rfl (fun T h_276 X W_275 Aa_277 => ?_)
  have K_278 : Keep h0 h_276 [a] := K_272.wr W_275 (Or.inr b_232)
  refine E_iinc (x := (5 : Int32)) (z := (6 : Int32)) (Ls' := #[.val (.ref a), .val (.ref t), .val (.int (2 : Int32)), .val (.int (2 : Int32)), .val (.int (1 : Int32)), .val (.ref r_199), .val (.ref o220), .val (.int (6 : Int32))]) (pc' := 187) X d8_184 rfl rfl rfl rfl ?_
  refine E_goto (pc' := 162) X d8_187 (by decide) rfl ?_
  refine E_iload (pc' := 164) X d8_162 rfl rfl ?_
  refine E_aloadN (v := (.ref a)) (pc' := 165) X d8_164 rfl rfl rfl ?_
  have F_279 : Fld Z h_276 a "com/example/nimble_calculus/nimblecalculus/equivalence/Splits" "nodeCount" "I" (.int (7 : Int32)) := (F_273.other W_275 (Or.inl ne_237))
  refine E_getF (pc' := 168) X (host := "") (Or.inl (w_11 hw)) Via.refl F_279 d8_165 rfl (fun T X => ?_)
  refine E_icmp (pcY := 190) (pcN := 171) X (ic_ge _ _) d8_168 (by decide) rfl rfl (fun hc168_6 => absurd hc168_6 (by decide)) (fun hc168_6 => ?_)
  refine E_aload (v := (.ref o220)) (pc' := 173) X d8_171 rfl rfl rfl ?_
  refine E_iload (pc' := 175) X d8_173 rfl rfl ?_
  refine E_aload (v := (.ref r_199)) (pc' := 177) X d8_175 rfl rfl rfl ?_
  refine E_aload (v := (.ref r_199)) (pc' := 179) X d8_177 rfl rfl rfl ?_
  refine E_iload (pc' := 181) X d8_179 rfl rfl ?_
  have A_280 : Ar Z h_276 r_199 .int [(.int (0 : Int32)), (.int (0 : Int32)), (.int (0 : Int32)), (.int (1 : Int32)), (.int (1 : Int32)), (.int (2 : Int32)), (.int (2 : Int32))] := (A_274.other W_275 ne_241)
  refine E_iaload (v := (.int (2 : Int32))) (pc' := 182) X A_280 (by decide) rfl d8_181 rfl ?_
  refine E_iaload (v := (.int (0 : Int32))) (pc' := 183) X A_280 (by decide) rfl d8_182 rfl ?_
  refine E_iastore (vs' := [(.int (0 : Int32)), (.int (0 : Int32)), (.int (0 : Int32)), (.int (0 : Int32)), (.int (0 : Int32)), (.int (0 : Int32)), (.int (0 : Int32))]) (pc' := 184) X Aa_277 (by decide) (Nat.le_of_ble_eq_true rfl) rfl fr_234 d8_183 rfl (fun T h_282 X W_281 Aa_283 => ?_)
  have K_284 : Keep h0 h_282 [a] := K_278.wr W_281 (Or.inr b_232)
  refine E_iinc (x := (6 : Int32)) (z := (7 : Int32)) (Ls' := #[.val (.ref a), .val (.ref t), .val (.int (2 : Int32)), .val (.int (2 : Int32)), .val (.int (1 : Int32)), .val (.ref r_199), .val (.ref o220), .val (.int (7 : Int32))]) (pc' := 187) X d8_184 rfl rfl rfl rfl ?_
  refine E_goto (pc' := 162) X d8_187 (by decide) rfl ?_
  refine E_iload (pc' := 164) X d8_162 rfl rfl ?_
  refine E_aloadN (v := (.ref a)) (pc' := 165) X d8_164 rfl rfl rfl ?_
  have F_285 : Fld Z h_282 a "com/example/nimble_calculus/nimblecalculus/equivalence/Splits" "nodeCount" "I" (.int (7 : Int32)) := (F_279.other W_281 (Or.inl ne_237))
  refine E_getF (pc' := 168) X (host := "") (Or.inl (w_11 hw)) Via.refl F_285 d8_165 rfl (fun T X => ?_)
  refine E_icmp (pcY := 190) (pcN := 171) X (ic_ge _ _) d8_168 (by decide) rfl rfl (fun hc168_7 => ?_) (fun hc168_7 => absurd (by decide) hc168_7)
  refine E_aloadN (v := (.ref a)) (pc' := 191) X d8_190 rfl rfl rfl ?_
  have F_286 : Fld Z h_282 a "com/example/nimble_calculus/nimblecalculus/equivalence/Splits" "jumps" "[[I" (.ref o160) := ((((((((F_218.ext Ex_222).other W_245 (Or.inl ne_237)).other W_251 (Or.inl ne_237)).other W_257 (Or.inl ne_237)).other W_263 (Or.inl ne_237)).other W_269 (Or.inl ne_237)).other W_275 (Or.inl ne_237)).other W_281 (Or.inl ne_237))
  refine E_getF (pc' := 194) X (host := "") (Or.inl (w_63 hw)) Via.refl F_286 d8_191 rfl (fun T X => ?_)
  refine E_iload (pc' := 196) X d8_194 rfl rfl ?_
  refine E_aload (v := (.ref o220)) (pc' := 198) X d8_196 rfl rfl rfl ?_
  have A_287 : ArR Z h_282 o160 (.array .int) "[I" [(.ref r_199), .null] := ((((((((Aa_216.ext Ex_222).other W_245 ne_238).other W_251 ne_238).other W_257 ne_238).other W_263 ne_238).other W_269 ne_238).other W_275 ne_238).other W_281 ne_238)
  have E_288 : Exa Z h_282 o220 "[I" := (((((((EaAa_223.wr W_245).wr W_251).wr W_257).wr W_263).wr W_269).wr W_275).wr W_281)
  refine E_aastore (vs' := [(.ref r_199), (.ref o220)]) (pc' := 199) X A_287 (Ins.self E_288) rfl (by decide) (Nat.le_of_ble_eq_true rfl) rfl fr_172 d8_198 rfl (fun T h_290 X W_289 Aa_291 => ?_)
  have K_292 : Keep h0 h_290 [a] := K_284.wr W_289 (Or.inr b_170)
  refine E_iinc (x := (1 : Int32)) (z := (2 : Int32)) (Ls' := #[.val (.ref a), .val (.ref t), .val (.int (2 : Int32)), .val (.int (2 : Int32)), .val (.int (2 : Int32)), .val (.ref r_199), .val (.ref o220), .val (.int (7 : Int32))]) (pc' := 202) X d8_199 rfl rfl rfl rfl ?_
  refine E_goto (pc' := 134) X d8_202 (by decide) rfl ?_
  refine E_iload (pc' := 136) X d8_134 rfl rfl ?_
  refine E_iloadN (pc' := 137) X d8_136 rfl rfl ?_
  refine E_icmp (pcY := 205) (pcN := 140) X (ic_ge _ _) d8_137 (by decide) rfl rfl (fun hc137_1 => ?_) (fun hc137_1 => absurd (by decide) hc137_1)
  have E_293 : Exa Z h_290 a "com/example/nimble_calculus/nimblecalculus/equivalence/Splits" := (((((((((E_227.ext Ex_222).wr W_245).wr W_251).wr W_257).wr W_263).wr W_269).wr W_275).wr W_281).wr W_289)
  have F_294 : Fld Z h_290 a "com/example/nimble_calculus/nimblecalculus/equivalence/Splits" "leaf" "[I" (.ref o4) := ((((((((((((((((((((((F_47.other W_50 (Or.inl ne_14)).ext Ex_58).other W_74 (Or.inr (slot_ne (Or.inl (w_53 hw)) (Or.inl (w_55 hw)) (by decide) (t := (.array .int)) (t' := (.array .int)) (by decide) (by decide)))).other W_82 (Or.inl ne_69)).other W_94 (Or.inl ne_69)).other W_106 (Or.inl ne_69)).other W_118 (Or.inl ne_69)).other W_130 (Or.inl ne_69)).other W_142 (Or.inl ne_69)).ext Ex_162).other W_181 (Or.inr (slot_ne (Or.inl (w_53 hw)) (Or.inl (w_64 hw)) (by decide) (t := (.array .int)) (t' := (.array (.array .int))) (by decide) (by decide)))).keep Kc_200 nin0).other W_214 (Or.inl ne_175)).ext Ex_222).other W_245 (Or.inl ne_237)).other W_251 (Or.inl ne_237)).other W_257 (Or.inl ne_237)).other W_263 (Or.inl ne_237)).other W_269 (Or.inl ne_237)).other W_275 (Or.inl ne_237)).other W_281 (Or.inl ne_237)).other W_289 (Or.inl ne_175))
  have F_295 : Fld Z h_290 a "com/example/nimble_calculus/nimblecalculus/equivalence/Splits" "jumps" "[[I" (.ref o160) := (F_286.other W_289 (Or.inl ne_175))
  have F_296 : Fld Z h_290 a "com/example/nimble_calculus/nimblecalculus/equivalence/Splits" "parent" "[I" (.ref P) := (((((((((((F_185.keep Kc_200 nin0).other W_214 (Or.inl ne_175)).ext Ex_222).other W_245 (Or.inl ne_237)).other W_251 (Or.inl ne_237)).other W_257 (Or.inl ne_237)).other W_263 (Or.inl ne_237)).other W_269 (Or.inl ne_237)).other W_275 (Or.inl ne_237)).other W_281 (Or.inl ne_237)).other W_289 (Or.inl ne_175))
  have F_297 : Fld Z h_290 a "com/example/nimble_calculus/nimblecalculus/equivalence/Splits" "born" "[I" (.ref B) := (((((((((((((((((((((((((((hF5.ext Ex_6).other W_18 (Or.inr (slot_ne (Or.inr (w_25 hw)) (Or.inl (w_53 hw)) (by decide) (t := (.array .int)) (t' := (.array .int)) (by decide) (by decide)))).other W_26 (Or.inl ne_14)).other W_34 (Or.inl ne_14)).other W_42 (Or.inl ne_14)).other W_50 (Or.inl ne_14)).ext Ex_58).other W_74 (Or.inr (slot_ne (Or.inr (w_25 hw)) (Or.inl (w_55 hw)) (by decide) (t := (.array .int)) (t' := (.array .int)) (by decide) (by decide)))).other W_82 (Or.inl ne_69)).other W_94 (Or.inl ne_69)).other W_106 (Or.inl ne_69)).other W_118 (Or.inl ne_69)).other W_130 (Or.inl ne_69)).other W_142 (Or.inl ne_69)).ext Ex_162).other W_181 (Or.inr (slot_ne (Or.inr (w_25 hw)) (Or.inl (w_64 hw)) (by decide) (t := (.array .int)) (t' := (.array (.array .int))) (by decide) (by decide)))).keep Kc_200 nin0).other W_214 (Or.inl ne_175)).ext Ex_222).other W_245 (Or.inl ne_237)).other W_251 (Or.inl ne_237)).other W_257 (Or.inl ne_237)).other W_263 (Or.inl ne_237)).other W_269 (Or.inl ne_237)).other W_275 (Or.inl ne_237)).other W_281 (Or.inl ne_237)).other W_289 (Or.inl ne_175))
  have A_298 : Ar Z h_290 o4 .int [(.int (3 : Int32)), (.int (4 : Int32)), (.int (5 : Int32)), (.int (6 : Int32))] := (((((((((A_228.ext Ex_222).other W_245 ne_239).other W_251 ne_239).other W_257 ne_239).other W_263 ne_239).other W_269 ne_239).other W_275 ne_239).other W_281 ne_239).other W_289 ne_176)
  have A_299 : Ar Z h_290 r_199 .int [(.int (0 : Int32)), (.int (0 : Int32)), (.int (0 : Int32)), (.int (1 : Int32)), (.int (1 : Int32)), (.int (2 : Int32)), (.int (2 : Int32))] := ((A_280.other W_281 ne_241).other W_289 (Ne.symm ne_208))
  have A_300 : Ar Z h_290 o220 .int [(.int (0 : Int32)), (.int (0 : Int32)), (.int (0 : Int32)), (.int (0 : Int32)), (.int (0 : Int32)), (.int (0 : Int32)), (.int (0 : Int32))] := (Aa_283.other W_289 (Ne.symm ne_238))
  exact E_ret0 X d8_205 (by decide) (by decide) ⟨o4, o160, r_199, o220, rfl, K_292, b_9, b_170, (Nat.le_trans K_183.1 nw_201), b_232, E_293, F_294, F_295, F_296, F_297, A_298, Aa_291.ar, A_299, A_300⟩
theorem own_bb_0_0_0 (x : Int32) (q0 : ¬ (2 : Int32) < x) (q1 : (0 : Int32) < x) (q2 : (1 : Int32) < x) : ownE00 x = (1 : Int32) := by
  unfold ownE00
  simp only [Int32.lt_iff_toInt_lt] at *
  have e0 : (0 : Int32).toInt = 0 := rfl
  have e1 : (1 : Int32).toInt = 1 := rfl
  have e2 : (2 : Int32).toInt = 2 := rfl
  have e3 : (3 : Int32).toInt = 3 := rfl
  repeat' split
  all_goals first | rfl | (exfalso; omega)
theorem own_bb_0_0_1 (x : Int32) (q0 : ¬ (2 : Int32) < x) (q1 : (0 : Int32) < x) (q2 : ¬ (1 : Int32) < x) : ownE00 x = (0 : Int32) := by
  unfold ownE00
  simp only [Int32.lt_iff_toInt_lt] at *
  have e0 : (0 : Int32).toInt = 0 := rfl
  have e1 : (1 : Int32).toInt = 1 := rfl
  have e2 : (2 : Int32).toInt = 2 := rfl
  have e3 : (3 : Int32).toInt = 3 := rfl
  repeat' split
  all_goals first | rfl | (exfalso; omega)
theorem own_bb_0_0_2 (x : Int32) (q0 : ¬ (2 : Int32) < x) (q1 : ¬ (0 : Int32) < x) (q2 : (0 : Int32) < x) : ownE00 x = (0 : Int32) := by
  unfold ownE00
  simp only [Int32.lt_iff_toInt_lt] at *
  have e0 : (0 : Int32).toInt = 0 := rfl
  have e1 : (1 : Int32).toInt = 1 := rfl
  have e2 : (2 : Int32).toInt = 2 := rfl
  have e3 : (3 : Int32).toInt = 3 := rfl
  repeat' split
  all_goals first | rfl | (exfalso; omega)
theorem own_bb_0_0_3 (x : Int32) (q0 : ¬ (2 : Int32) < x) (q1 : ¬ (0 : Int32) < x) (q2 : ¬ (0 : Int32) < x) : ownE00 x = (0 : Int32) := by
  unfold ownE00
  simp only [Int32.lt_iff_toInt_lt] at *
  have e0 : (0 : Int32).toInt = 0 := rfl
  have e1 : (1 : Int32).toInt = 1 := rfl
  have e2 : (2 : Int32).toInt = 2 := rfl
  have e3 : (3 : Int32).toInt = 3 := rfl
  repeat' split
  all_goals first | rfl | (exfalso; omega)
theorem own_bb_0_0_4 (x : Int32) (q0 : (2 : Int32) < x) : ownE00 x = (3 : Int32) := by
  unfold ownE00
  simp only [Int32.lt_iff_toInt_lt] at *
  have e0 : (0 : Int32).toInt = 0 := rfl
  have e1 : (1 : Int32).toInt = 1 := rfl
  have e2 : (2 : Int32).toInt = 2 := rfl
  have e3 : (3 : Int32).toInt = 3 := rfl
  repeat' split
  all_goals first | rfl | (exfalso; omega)
theorem d11_0 : decode prog_61_method_8_code 0 = .ok (.aload_n 0, 1) := by decide +kernel
theorem d11_1 : decode prog_61_method_8_code 1 = .ok (.getfield 50, 3) := by decide +kernel
theorem d11_4 : decode prog_61_method_8_code 4 = .ok (.iload_n 1, 1) := by decide +kernel
theorem d11_5 : decode prog_61_method_8_code 5 = .ok (.iaload, 1) := by decide +kernel
theorem d11_6 : decode prog_61_method_8_code 6 = .ok (.istore_n 3, 1) := by decide +kernel
theorem d11_7 : decode prog_61_method_8_code 7 = .ok (.aload_n 0, 1) := by decide +kernel
theorem d11_8 : decode prog_61_method_8_code 8 = .ok (.getfield 32, 3) := by decide +kernel
theorem d11_11 : decode prog_61_method_8_code 11 = .ok (.iload_n 3, 1) := by decide +kernel
theorem d11_12 : decode prog_61_method_8_code 12 = .ok (.iaload, 1) := by decide +kernel
theorem d11_13 : decode prog_61_method_8_code 13 = .ok (.iload_n 2, 1) := by decide +kernel
theorem d11_14 : decode prog_61_method_8_code 14 = .ok (.if_icmp .ge 5, 3) := by decide +kernel
theorem d11_17 : decode prog_61_method_8_code 17 = .ok (.iload_n 3, 1) := by decide +kernel
theorem d11_18 : decode prog_61_method_8_code 18 = .ok (.ireturn, 1) := by decide +kernel
theorem d11_19 : decode prog_61_method_8_code 19 = .ok (.aload_n 0, 1) := by decide +kernel
theorem d11_20 : decode prog_61_method_8_code 20 = .ok (.getfield 61, 3) := by decide +kernel
theorem d11_23 : decode prog_61_method_8_code 23 = .ok (.arraylength, 1) := by decide +kernel
theorem d11_24 : decode prog_61_method_8_code 24 = .ok (.iconst 1, 1) := by decide +kernel
theorem d11_25 : decode prog_61_method_8_code 25 = .ok (.isub, 1) := by decide +kernel
theorem d11_26 : decode prog_61_method_8_code 26 = .ok (.istore 4, 2) := by decide +kernel
theorem d11_28 : decode prog_61_method_8_code 28 = .ok (.iload 4, 2) := by decide +kernel
theorem d11_30 : decode prog_61_method_8_code 30 = .ok (.ifCond .lt 34, 3) := by decide +kernel
theorem d11_33 : decode prog_61_method_8_code 33 = .ok (.aload_n 0, 1) := by decide +kernel
theorem d11_34 : decode prog_61_method_8_code 34 = .ok (.getfield 61, 3) := by decide +kernel
theorem d11_37 : decode prog_61_method_8_code 37 = .ok (.iload 4, 2) := by decide +kernel
theorem d11_39 : decode prog_61_method_8_code 39 = .ok (.aaload, 1) := by decide +kernel
theorem d11_40 : decode prog_61_method_8_code 40 = .ok (.iload_n 3, 1) := by decide +kernel
theorem d11_41 : decode prog_61_method_8_code 41 = .ok (.iaload, 1) := by decide +kernel
theorem d11_42 : decode prog_61_method_8_code 42 = .ok (.istore 5, 2) := by decide +kernel
theorem d11_44 : decode prog_61_method_8_code 44 = .ok (.aload_n 0, 1) := by decide +kernel
theorem d11_45 : decode prog_61_method_8_code 45 = .ok (.getfield 32, 3) := by decide +kernel
theorem d11_48 : decode prog_61_method_8_code 48 = .ok (.iload 5, 2) := by decide +kernel
theorem d11_50 : decode prog_61_method_8_code 50 = .ok (.iaload, 1) := by decide +kernel
theorem d11_51 : decode prog_61_method_8_code 51 = .ok (.iload_n 2, 1) := by decide +kernel
theorem d11_52 : decode prog_61_method_8_code 52 = .ok (.if_icmp .lt 6, 3) := by decide +kernel
theorem d11_55 : decode prog_61_method_8_code 55 = .ok (.iload 5, 2) := by decide +kernel
theorem d11_57 : decode prog_61_method_8_code 57 = .ok (.istore_n 3, 1) := by decide +kernel
theorem d11_58 : decode prog_61_method_8_code 58 = .ok (.iinc 4 (-1), 3) := by decide +kernel
theorem d11_61 : decode prog_61_method_8_code 61 = .ok (.goto (-33), 3) := by decide +kernel
theorem d11_64 : decode prog_61_method_8_code 64 = .ok (.aload_n 0, 1) := by decide +kernel
theorem d11_65 : decode prog_61_method_8_code 65 = .ok (.getfield 28, 3) := by decide +kernel
theorem d11_68 : decode prog_61_method_8_code 68 = .ok (.iload_n 3, 1) := by decide +kernel
theorem d11_69 : decode prog_61_method_8_code 69 = .ok (.iaload, 1) := by decide +kernel
theorem d11_70 : decode prog_61_method_8_code 70 = .ok (.ireturn, 1) := by decide +kernel
theorem ef_rm_bb00 (m : MethodId) (x0 : Addr) (x1 : Int32) (x2 : Int32) : entryFrame m #[(.ref x0), (.int x1), (.int x2)] 6 = mkF m 0 #[.val (.ref x0), .val (.int x1), .val (.int x2), .unset, .unset, .unset] [] := by first | (simp [entryFrame, mkF, argsToLocals, Value.category]; done) | (simp [entryFrame, mkF, argsToLocals, *]; done) | rfl
set_option maxRecDepth 65536 in
set_option maxHeartbeats 2000000 in
theorem rm_bb00 (l : Launch) (Z : State) (a0 : Array Value) (hw : ∀ d ∈ tables_1, d.before a0 Z = true) (a : Addr) (x : Int32) (lf : Addr) (jp : Addr) (P : Addr) (B : Addr) (j0 : Addr) (j1 : Addr) (h0 : Heap) (hE : Ext Z.heap h0) (hF0 : Fld Z h0 a "com/example/nimble_calculus/nimblecalculus/equivalence/Splits" "leaf" "[I" (.ref lf)) (hF1 : Fld Z h0 a "com/example/nimble_calculus/nimblecalculus/equivalence/Splits" "jumps" "[[I" (.ref jp)) (hF2 : Fld Z h0 a "com/example/nimble_calculus/nimblecalculus/equivalence/Splits" "parent" "[I" (.ref P)) (hF3 : Fld Z h0 a "com/example/nimble_calculus/nimblecalculus/equivalence/Splits" "born" "[I" (.ref B)) (hA4 : Ar Z h0 P .int [(.int (0 : Int32)), (.int (0 : Int32)), (.int (0 : Int32)), (.int (1 : Int32)), (.int (1 : Int32)), (.int (2 : Int32)), (.int (2 : Int32))]) (hA5 : Ar Z h0 B .int [(.int (0 : Int32)), (.int (1 : Int32)), (.int (1 : Int32)), (.int (2 : Int32)), (.int (2 : Int32)), (.int (3 : Int32)), (.int (3 : Int32))]) (hA6 : Ar Z h0 lf .int [(.int (3 : Int32)), (.int (4 : Int32)), (.int (5 : Int32)), (.int (6 : Int32))]) (hA7 : Ar Z h0 jp (.array .int) [(.ref j0), (.ref j1)]) (hA8 : Ar Z h0 j0 .int [(.int (0 : Int32)), (.int (0 : Int32)), (.int (0 : Int32)), (.int (1 : Int32)), (.int (1 : Int32)), (.int (2 : Int32)), (.int (2 : Int32))]) (hA9 : Ar Z h0 j1 .int [(.int (0 : Int32)), (.int (0 : Int32)), (.int (0 : Int32)), (.int (0 : Int32)), (.int (0 : Int32)), (.int (0 : Int32)), (.int (0 : Int32))]) :
    Con l Z (⟨"com/example/nimble_calculus/nimblecalculus/equivalence/Splits", "blockBefore", "(II)I"⟩ : MethodName) prog_61_method_8_code 6 (some .int) ({ frames := 0, cells := 0, slots := 0, locals := 0 } : Room) #[(.ref a), (.int (0 : Int32)), (.int x)] h0 (fun vv hh => vv = some (.int (ownE00 x)) ∧ h0 = hh) := by
  refine Con.of (plainFor_of_name (by first | (simp [plainName, overriddenIn]; done) | decide +kernel)) hE ?_
  intro p e s m below T (X : Sd l Z "com/example/nimble_calculus/nimblecalculus/equivalence/Splits" "blockBefore" prog_61_method_8_code 6 (some .int) ({ frames := 0, cells := 0, slots := 0, locals := 0 } : Room) p e s m #[(.ref a), (.int (0 : Int32)), (.int x)] below T h0 0 0)
  refine End.frame (ef_rm_bb00 m a (0 : Int32) x) ?_
  show End Z p e below s _ _ _ _ (mkF m 0 #[.val (.ref a), .val (.int (0 : Int32)), .val (.int x), .unset, .unset, .unset] [])
  refine E_aloadN (v := (.ref a)) (pc' := 1) X d11_0 rfl rfl rfl ?_
  refine E_getF (pc' := 4) X (host := "") (Or.inl (w_52 hw)) Via.refl hF0 d11_1 rfl (fun T X => ?_)
  refine E_iloadN (pc' := 5) X d11_4 rfl rfl ?_
  refine E_iaload (v := (.int (3 : Int32))) (pc' := 6) X hA6 (by decide) rfl d11_5 rfl ?_
  refine E_istoreN (Ls' := #[.val (.ref a), .val (.int (0 : Int32)), .val (.int x), .val (.int (3 : Int32)), .unset, .unset]) (pc' := 7) X d11_6 rfl rfl ?_
  refine E_aloadN (v := (.ref a)) (pc' := 8) X d11_7 rfl rfl rfl ?_
  refine E_getF (pc' := 11) X (host := "") (Or.inl (w_24 hw)) Via.refl hF3 d11_8 rfl (fun T X => ?_)
  refine E_iloadN (pc' := 12) X d11_11 rfl rfl ?_
  refine E_iaload (v := (.int (2 : Int32))) (pc' := 13) X hA5 (by decide) rfl d11_12 rfl ?_
  refine E_iloadN (pc' := 14) X d11_13 rfl rfl ?_
  refine E_icmp (pcY := 19) (pcN := 17) X (ic_ge _ _) d11_14 (by decide) rfl rfl (fun hc14_0 => ?_) (fun hc14_0 => ?_)
  · skip
    refine E_aloadN (v := (.ref a)) (pc' := 20) X d11_19 rfl rfl rfl ?_
    refine E_getF (pc' := 23) X (host := "") (Or.inl (w_63 hw)) Via.refl hF1 d11_20 rfl (fun T X => ?_)
    refine E_alen (n := (2 : Int32)) (pc' := 24) X hA7 rfl d11_23 rfl ?_
    refine E_iconst (v := (1 : Int32)) (pc' := 25) X d11_24 rfl rfl ?_
    refine E_isub (pc' := 26) X d11_25 rfl ?_
    refine E_eqI (z := (1 : Int32)) (by decide) ?_
    refine E_istore (Ls' := #[.val (.ref a), .val (.int (0 : Int32)), .val (.int x), .val (.int (3 : Int32)), .val (.int (1 : Int32)), .unset]) (pc' := 28) X d11_26 rfl rfl ?_
    refine E_iload (pc' := 30) X d11_28 rfl rfl ?_
    refine E_if (pcY := 64) (pcN := 33) X (i0_lt _) d11_30 (by decide) rfl rfl (fun hc30_0 => absurd hc30_0 (by decide)) (fun hc30_0 => ?_)
    refine E_aloadN (v := (.ref a)) (pc' := 34) X d11_33 rfl rfl rfl ?_
    refine E_getF (pc' := 37) X (host := "") (Or.inl (w_63 hw)) Via.refl hF1 d11_34 rfl (fun T X => ?_)
    refine E_iload (pc' := 39) X d11_37 rfl rfl ?_
    refine E_aaload (v := (.ref j1)) (pc' := 40) X hA7 rfl (by decide) rfl d11_39 rfl ?_
    refine E_iloadN (pc' := 41) X d11_40 rfl rfl ?_
    refine E_iaload (v := (.int (0 : Int32))) (pc' := 42) X hA9 (by decide) rfl d11_41 rfl ?_
    refine E_istore (Ls' := #[.val (.ref a), .val (.int (0 : Int32)), .val (.int x), .val (.int (3 : Int32)), .val (.int (1 : Int32)), .val (.int (0 : Int32))]) (pc' := 44) X d11_42 rfl rfl ?_
    refine E_aloadN (v := (.ref a)) (pc' := 45) X d11_44 rfl rfl rfl ?_
    refine E_getF (pc' := 48) X (host := "") (Or.inl (w_24 hw)) Via.refl hF3 d11_45 rfl (fun T X => ?_)
    refine E_iload (pc' := 50) X d11_48 rfl rfl ?_
    refine E_iaload (v := (.int (0 : Int32))) (pc' := 51) X hA5 (by decide) rfl d11_50 rfl ?_
    refine E_iloadN (pc' := 52) X d11_51 rfl rfl ?_
    refine E_icmp (pcY := 58) (pcN := 55) X (ic_lt _ _) d11_52 (by decide) rfl rfl (fun hc52_0 => ?_) (fun hc52_0 => ?_)
    · skip
      refine E_iinc (x := (1 : Int32)) (z := (0 : Int32)) (Ls' := #[.val (.ref a), .val (.int (0 : Int32)), .val (.int x), .val (.int (3 : Int32)), .val (.int (0 : Int32)), .val (.int (0 : Int32))]) (pc' := 61) X d11_58 rfl rfl rfl rfl ?_
      refine E_goto (pc' := 28) X d11_61 (by decide) rfl ?_
      refine E_iload (pc' := 30) X d11_28 rfl rfl ?_
      refine E_if (pcY := 64) (pcN := 33) X (i0_lt _) d11_30 (by decide) rfl rfl (fun hc30_1 => absurd hc30_1 (by decide)) (fun hc30_1 => ?_)
      refine E_aloadN (v := (.ref a)) (pc' := 34) X d11_33 rfl rfl rfl ?_
      refine E_getF (pc' := 37) X (host := "") (Or.inl (w_63 hw)) Via.refl hF1 d11_34 rfl (fun T X => ?_)
      refine E_iload (pc' := 39) X d11_37 rfl rfl ?_
      refine E_aaload (v := (.ref j0)) (pc' := 40) X hA7 rfl (by decide) rfl d11_39 rfl ?_
      refine E_iloadN (pc' := 41) X d11_40 rfl rfl ?_
      refine E_iaload (v := (.int (1 : Int32))) (pc' := 42) X hA8 (by decide) rfl d11_41 rfl ?_
      refine E_istore (Ls' := #[.val (.ref a), .val (.int (0 : Int32)), .val (.int x), .val (.int (3 : Int32)), .val (.int (0 : Int32)), .val (.int (1 : Int32))]) (pc' := 44) X d11_42 rfl rfl ?_
      refine E_aloadN (v := (.ref a)) (pc' := 45) X d11_44 rfl rfl rfl ?_
      refine E_getF (pc' := 48) X (host := "") (Or.inl (w_24 hw)) Via.refl hF3 d11_45 rfl (fun T X => ?_)
      refine E_iload (pc' := 50) X d11_48 rfl rfl ?_
      refine E_iaload (v := (.int (1 : Int32))) (pc' := 51) X hA5 (by decide) rfl d11_50 rfl ?_
      refine E_iloadN (pc' := 52) X d11_51 rfl rfl ?_
      refine E_icmp (pcY := 58) (pcN := 55) X (ic_lt _ _) d11_52 (by decide) rfl rfl (fun hc52_1 => ?_) (fun hc52_1 => ?_)
      · skip
        refine E_iinc (x := (0 : Int32)) (z := (-1 : Int32)) (Ls' := #[.val (.ref a), .val (.int (0 : Int32)), .val (.int x), .val (.int (3 : Int32)), .val (.int (-1 : Int32)), .val (.int (1 : Int32))]) (pc' := 61) X d11_58 rfl rfl rfl rfl ?_
        refine E_goto (pc' := 28) X d11_61 (by decide) rfl ?_
        refine E_iload (pc' := 30) X d11_28 rfl rfl ?_
        refine E_if (pcY := 64) (pcN := 33) X (i0_lt _) d11_30 (by decide) rfl rfl (fun hc30_2 => ?_) (fun hc30_2 => absurd (by decide) hc30_2)
        refine E_aloadN (v := (.ref a)) (pc' := 65) X d11_64 rfl rfl rfl ?_
        refine E_getF (pc' := 68) X (host := "") (Or.inl (w_22 hw)) Via.refl hF2 d11_65 rfl (fun T X => ?_)
        refine E_iloadN (pc' := 69) X d11_68 rfl rfl ?_
        refine E_iaload (v := (.int (1 : Int32))) (pc' := 70) X hA4 (by decide) rfl d11_69 rfl ?_
        exact E_retI X d11_70 (by decide) (by decide) ⟨(congrArg (fun z => some (Value.int z)) (own_bb_0_0_0 x hc14_0 hc52_0 hc52_1).symm), rfl⟩
      · skip
        refine E_iload (pc' := 57) X d11_55 rfl rfl ?_
        refine E_istoreN (Ls' := #[.val (.ref a), .val (.int (0 : Int32)), .val (.int x), .val (.int (1 : Int32)), .val (.int (0 : Int32)), .val (.int (1 : Int32))]) (pc' := 58) X d11_57 rfl rfl ?_
        refine E_iinc (x := (0 : Int32)) (z := (-1 : Int32)) (Ls' := #[.val (.ref a), .val (.int (0 : Int32)), .val (.int x), .val (.int (1 : Int32)), .val (.int (-1 : Int32)), .val (.int (1 : Int32))]) (pc' := 61) X d11_58 rfl rfl rfl rfl ?_
        refine E_goto (pc' := 28) X d11_61 (by decide) rfl ?_
        refine E_iload (pc' := 30) X d11_28 rfl rfl ?_
        refine E_if (pcY := 64) (pcN := 33) X (i0_lt _) d11_30 (by decide) rfl rfl (fun hc30_2 => ?_) (fun hc30_2 => absurd (by decide) hc30_2)
        refine E_aloadN (v := (.ref a)) (pc' := 65) X d11_64 rfl rfl rfl ?_
        refine E_getF (pc' := 68) X (host := "") (Or.inl (w_22 hw)) Via.refl hF2 d11_65 rfl (fun T X => ?_)
        refine E_iloadN (pc' := 69) X d11_68 rfl rfl ?_
        refine E_iaload (v := (.int (0 : Int32))) (pc' := 70) X hA4 (by decide) rfl d11_69 rfl ?_
        exact E_retI X d11_70 (by decide) (by decide) ⟨(congrArg (fun z => some (Value.int z)) (own_bb_0_0_1 x hc14_0 hc52_0 hc52_1).symm), rfl⟩
    · skip
      refine E_iload (pc' := 57) X d11_55 rfl rfl ?_
      refine E_istoreN (Ls' := #[.val (.ref a), .val (.int (0 : Int32)), .val (.int x), .val (.int (0 : Int32)), .val (.int (1 : Int32)), .val (.int (0 : Int32))]) (pc' := 58) X d11_57 rfl rfl ?_
      refine E_iinc (x := (1 : Int32)) (z := (0 : Int32)) (Ls' := #[.val (.ref a), .val (.int (0 : Int32)), .val (.int x), .val (.int (0 : Int32)), .val (.int (0 : Int32)), .val (.int (0 : Int32))]) (pc' := 61) X d11_58 rfl rfl rfl rfl ?_
      refine E_goto (pc' := 28) X d11_61 (by decide) rfl ?_
      refine E_iload (pc' := 30) X d11_28 rfl rfl ?_
      refine E_if (pcY := 64) (pcN := 33) X (i0_lt _) d11_30 (by decide) rfl rfl (fun hc30_1 => absurd hc30_1 (by decide)) (fun hc30_1 => ?_)
      refine E_aloadN (v := (.ref a)) (pc' := 34) X d11_33 rfl rfl rfl ?_
      refine E_getF (pc' := 37) X (host := "") (Or.inl (w_63 hw)) Via.refl hF1 d11_34 rfl (fun T X => ?_)
      refine E_iload (pc' := 39) X d11_37 rfl rfl ?_
      refine E_aaload (v := (.ref j0)) (pc' := 40) X hA7 rfl (by decide) rfl d11_39 rfl ?_
      refine E_iloadN (pc' := 41) X d11_40 rfl rfl ?_
      refine E_iaload (v := (.int (0 : Int32))) (pc' := 42) X hA8 (by decide) rfl d11_41 rfl ?_
      refine E_istore (Ls' := #[.val (.ref a), .val (.int (0 : Int32)), .val (.int x), .val (.int (0 : Int32)), .val (.int (0 : Int32)), .val (.int (0 : Int32))]) (pc' := 44) X d11_42 rfl rfl ?_
      refine E_aloadN (v := (.ref a)) (pc' := 45) X d11_44 rfl rfl rfl ?_
      refine E_getF (pc' := 48) X (host := "") (Or.inl (w_24 hw)) Via.refl hF3 d11_45 rfl (fun T X => ?_)
      refine E_iload (pc' := 50) X d11_48 rfl rfl ?_
      refine E_iaload (v := (.int (0 : Int32))) (pc' := 51) X hA5 (by decide) rfl d11_50 rfl ?_
      refine E_iloadN (pc' := 52) X d11_51 rfl rfl ?_
      refine E_icmp (pcY := 58) (pcN := 55) X (ic_lt _ _) d11_52 (by decide) rfl rfl (fun hc52_1 => ?_) (fun hc52_1 => ?_)
      · skip
        refine E_iinc (x := (0 : Int32)) (z := (-1 : Int32)) (Ls' := #[.val (.ref a), .val (.int (0 : Int32)), .val (.int x), .val (.int (0 : Int32)), .val (.int (-1 : Int32)), .val (.int (0 : Int32))]) (pc' := 61) X d11_58 rfl rfl rfl rfl ?_
        refine E_goto (pc' := 28) X d11_61 (by decide) rfl ?_
        refine E_iload (pc' := 30) X d11_28 rfl rfl ?_
        refine E_if (pcY := 64) (pcN := 33) X (i0_lt _) d11_30 (by decide) rfl rfl (fun hc30_2 => ?_) (fun hc30_2 => absurd (by decide) hc30_2)
        refine E_aloadN (v := (.ref a)) (pc' := 65) X d11_64 rfl rfl rfl ?_
        refine E_getF (pc' := 68) X (host := "") (Or.inl (w_22 hw)) Via.refl hF2 d11_65 rfl (fun T X => ?_)
        refine E_iloadN (pc' := 69) X d11_68 rfl rfl ?_
        refine E_iaload (v := (.int (0 : Int32))) (pc' := 70) X hA4 (by decide) rfl d11_69 rfl ?_
        exact E_retI X d11_70 (by decide) (by decide) ⟨(congrArg (fun z => some (Value.int z)) (own_bb_0_0_2 x hc14_0 hc52_0 hc52_1).symm), rfl⟩
      · skip
        refine E_iload (pc' := 57) X d11_55 rfl rfl ?_
        refine E_istoreN (Ls' := #[.val (.ref a), .val (.int (0 : Int32)), .val (.int x), .val (.int (0 : Int32)), .val (.int (0 : Int32)), .val (.int (0 : Int32))]) (pc' := 58) X d11_57 rfl rfl ?_
        refine E_iinc (x := (0 : Int32)) (z := (-1 : Int32)) (Ls' := #[.val (.ref a), .val (.int (0 : Int32)), .val (.int x), .val (.int (0 : Int32)), .val (.int (-1 : Int32)), .val (.int (0 : Int32))]) (pc' := 61) X d11_58 rfl rfl rfl rfl ?_
        refine E_goto (pc' := 28) X d11_61 (by decide) rfl ?_
        refine E_iload (pc' := 30) X d11_28 rfl rfl ?_
        refine E_if (pcY := 64) (pcN := 33) X (i0_lt _) d11_30 (by decide) rfl rfl (fun hc30_2 => ?_) (fun hc30_2 => absurd (by decide) hc30_2)
        refine E_aloadN (v := (.ref a)) (pc' := 65) X d11_64 rfl rfl rfl ?_
        refine E_getF (pc' := 68) X (host := "") (Or.inl (w_22 hw)) Via.refl hF2 d11_65 rfl (fun T X => ?_)
        refine E_iloadN (pc' := 69) X d11_68 rfl rfl ?_
        refine E_iaload (v := (.int (0 : Int32))) (pc' := 70) X hA4 (by decide) rfl d11_69 rfl ?_
        exact E_retI X d11_70 (by decide) (by decide) ⟨(congrArg (fun z => some (Value.int z)) (own_bb_0_0_3 x hc14_0 hc52_0 hc52_1).symm), rfl⟩
  · skip
    replace hc14_0 := Decidable.not_not.mp hc14_0
    refine E_iloadN (pc' := 18) X d11_17 rfl rfl ?_
    exact E_retI X d11_18 (by decide) (by decide) ⟨(congrArg (fun z => some (Value.int z)) (own_bb_0_0_4 x hc14_0).symm), rfl⟩
theorem d12_0 : decode method_2_code 0 = .ok (.iload_n 2, 1) := by decide +kernel
theorem d12_1 : decode method_2_code 1 = .ok (.iconst 1, 1) := by decide +kernel
theorem d12_2 : decode method_2_code 2 = .ok (.if_icmp .gt 5, 3) := by decide +kernel
theorem d12_5 : decode method_2_code 5 = .ok (.iconst 0, 1) := by decide +kernel
theorem d12_6 : decode method_2_code 6 = .ok (.ireturn, 1) := by decide +kernel
theorem d12_7 : decode method_2_code 7 = .ok (.iload_n 0, 1) := by decide +kernel
theorem d12_8 : decode method_2_code 8 = .ok (.ifCond .eq 71, 3) := by decide +kernel
theorem d12_79 : decode method_2_code 79 = .ok (.iload_n 1, 1) := by decide +kernel
theorem d12_80 : decode method_2_code 80 = .ok (.ifCond .ne 14, 3) := by decide +kernel
theorem d12_83 : decode method_2_code 83 = .ok (.iload_n 2, 1) := by decide +kernel
theorem d12_84 : decode method_2_code 84 = .ok (.iconst 2, 1) := by decide +kernel
theorem d12_85 : decode method_2_code 85 = .ok (.if_icmp .gt 7, 3) := by decide +kernel
theorem d12_88 : decode method_2_code 88 = .ok (.iconst 1, 1) := by decide +kernel
theorem d12_89 : decode method_2_code 89 = .ok (.goto 4, 3) := by decide +kernel
theorem d12_92 : decode method_2_code 92 = .ok (.iconst 3, 1) := by decide +kernel
theorem d12_93 : decode method_2_code 93 = .ok (.ireturn, 1) := by decide +kernel
theorem ef_rm_ex00 (m : MethodId) (x0 : Int32) (x1 : Int32) (x2 : Int32) : entryFrame m #[(.int x0), (.int x1), (.int x2)] 3 = mkF m 0 #[.val (.int x0), .val (.int x1), .val (.int x2)] [] := by first | (simp [entryFrame, mkF, argsToLocals, Value.category]; done) | (simp [entryFrame, mkF, argsToLocals, *]; done) | rfl
set_option maxRecDepth 65536 in
set_option maxHeartbeats 2000000 in
theorem rm_ex00 (l : Launch) (Z : State) (a0 : Array Value) (hw : ∀ d ∈ tables_1, d.before a0 Z = true) (x : Int32) (h0 : Heap) (hE : Ext Z.heap h0) :
    Con l Z (⟨"com/example/nimble_calculus/nimblecalculus/equivalence/SplitsBlockBeforePinLaw", "expected", "(ZII)I"⟩ : MethodName) method_2_code 3 (some .int) ({ frames := 0, cells := 0, slots := 0, locals := 0 } : Room) #[(.int (0 : Int32)), (.int (0 : Int32)), (.int x)] h0 (fun vv hh => vv = some (.int (ownE00 x)) ∧ h0 = hh) := by
  refine Con.of (plainFor_of_name (by first | (simp [plainName, overriddenIn]; done) | decide +kernel)) hE ?_
  intro p e s m below T (X : Sd l Z "com/example/nimble_calculus/nimblecalculus/equivalence/SplitsBlockBeforePinLaw" "expected" method_2_code 3 (some .int) ({ frames := 0, cells := 0, slots := 0, locals := 0 } : Room) p e s m #[(.int (0 : Int32)), (.int (0 : Int32)), (.int x)] below T h0 0 0)
  refine End.frame (ef_rm_ex00 m (0 : Int32) (0 : Int32) x) ?_
  show End Z p e below s _ _ _ _ (mkF m 0 #[.val (.int (0 : Int32)), .val (.int (0 : Int32)), .val (.int x)] [])
  refine E_iloadN (pc' := 1) X d12_0 rfl rfl ?_
  refine E_iconst (v := (1 : Int32)) (pc' := 2) X d12_1 rfl rfl ?_
  refine E_icmp (pcY := 7) (pcN := 5) X (ic_gt _ _) d12_2 (by decide) rfl rfl (fun hc2_0 => ?_) (fun hc2_0 => ?_)
  · skip
    refine E_iloadN (pc' := 8) X d12_7 rfl rfl ?_
    refine E_if (pcY := 79) (pcN := 11) X (i0_eq _) d12_8 (by decide) rfl rfl (fun hc8_0 => ?_) (fun hc8_0 => absurd (by decide) hc8_0)
    refine E_iloadN (pc' := 80) X d12_79 rfl rfl ?_
    refine E_if (pcY := 94) (pcN := 83) X (i0_ne _) d12_80 (by decide) rfl rfl (fun hc80_0 => absurd hc80_0 (by decide)) (fun hc80_0 => ?_)
    refine E_iloadN (pc' := 84) X d12_83 rfl rfl ?_
    refine E_iconst (v := (2 : Int32)) (pc' := 85) X d12_84 rfl rfl ?_
    refine E_icmp (pcY := 92) (pcN := 88) X (ic_gt _ _) d12_85 (by decide) rfl rfl (fun hc85_0 => ?_) (fun hc85_0 => ?_)
    · skip
      refine E_iconst (v := (3 : Int32)) (pc' := 93) X d12_92 rfl rfl ?_
      exact E_retI X d12_93 (by decide) (by decide) ⟨(by simp [ownE00, hc2_0, hc85_0]), rfl⟩
    · skip
      refine E_iconst (v := (1 : Int32)) (pc' := 89) X d12_88 rfl rfl ?_
      refine E_goto (pc' := 93) X d12_89 (by decide) rfl ?_
      exact E_retI X d12_93 (by decide) (by decide) ⟨(by simp [ownE00, hc2_0, hc85_0]), rfl⟩
  · skip
    refine E_iconst (v := (0 : Int32)) (pc' := 6) X d12_5 rfl rfl ?_
    exact E_retI X d12_6 (by decide) (by decide) ⟨(by simp [ownE00, hc2_0]), rfl⟩
theorem own_bb_0_1_0 (x : Int32) (q0 : ¬ (2 : Int32) < x) (q1 : (0 : Int32) < x) (q2 : (1 : Int32) < x) : ownE01 x = (1 : Int32) := by
  unfold ownE01
  simp only [Int32.lt_iff_toInt_lt] at *
  have e0 : (0 : Int32).toInt = 0 := rfl
  have e1 : (1 : Int32).toInt = 1 := rfl
  have e2 : (2 : Int32).toInt = 2 := rfl
  have e3 : (3 : Int32).toInt = 3 := rfl
  repeat' split
  all_goals first | rfl | (exfalso; omega)
theorem own_bb_0_1_1 (x : Int32) (q0 : ¬ (2 : Int32) < x) (q1 : (0 : Int32) < x) (q2 : ¬ (1 : Int32) < x) : ownE01 x = (0 : Int32) := by
  unfold ownE01
  simp only [Int32.lt_iff_toInt_lt] at *
  have e0 : (0 : Int32).toInt = 0 := rfl
  have e1 : (1 : Int32).toInt = 1 := rfl
  have e2 : (2 : Int32).toInt = 2 := rfl
  have e3 : (3 : Int32).toInt = 3 := rfl
  repeat' split
  all_goals first | rfl | (exfalso; omega)
theorem own_bb_0_1_2 (x : Int32) (q0 : ¬ (2 : Int32) < x) (q1 : ¬ (0 : Int32) < x) (q2 : (0 : Int32) < x) : ownE01 x = (0 : Int32) := by
  unfold ownE01
  simp only [Int32.lt_iff_toInt_lt] at *
  have e0 : (0 : Int32).toInt = 0 := rfl
  have e1 : (1 : Int32).toInt = 1 := rfl
  have e2 : (2 : Int32).toInt = 2 := rfl
  have e3 : (3 : Int32).toInt = 3 := rfl
  repeat' split
  all_goals first | rfl | (exfalso; omega)
theorem own_bb_0_1_3 (x : Int32) (q0 : ¬ (2 : Int32) < x) (q1 : ¬ (0 : Int32) < x) (q2 : ¬ (0 : Int32) < x) : ownE01 x = (0 : Int32) := by
  unfold ownE01
  simp only [Int32.lt_iff_toInt_lt] at *
  have e0 : (0 : Int32).toInt = 0 := rfl
  have e1 : (1 : Int32).toInt = 1 := rfl
  have e2 : (2 : Int32).toInt = 2 := rfl
  have e3 : (3 : Int32).toInt = 3 := rfl
  repeat' split
  all_goals first | rfl | (exfalso; omega)
theorem own_bb_0_1_4 (x : Int32) (q0 : (2 : Int32) < x) : ownE01 x = (4 : Int32) := by
  unfold ownE01
  simp only [Int32.lt_iff_toInt_lt] at *
  have e0 : (0 : Int32).toInt = 0 := rfl
  have e1 : (1 : Int32).toInt = 1 := rfl
  have e2 : (2 : Int32).toInt = 2 := rfl
  have e3 : (3 : Int32).toInt = 3 := rfl
  repeat' split
  all_goals first | rfl | (exfalso; omega)
theorem ef_rm_bb01 (m : MethodId) (x0 : Addr) (x1 : Int32) (x2 : Int32) : entryFrame m #[(.ref x0), (.int x1), (.int x2)] 6 = mkF m 0 #[.val (.ref x0), .val (.int x1), .val (.int x2), .unset, .unset, .unset] [] := by first | (simp [entryFrame, mkF, argsToLocals, Value.category]; done) | (simp [entryFrame, mkF, argsToLocals, *]; done) | rfl
set_option maxRecDepth 65536 in
set_option maxHeartbeats 2000000 in
theorem rm_bb01 (l : Launch) (Z : State) (a0 : Array Value) (hw : ∀ d ∈ tables_1, d.before a0 Z = true) (a : Addr) (x : Int32) (lf : Addr) (jp : Addr) (P : Addr) (B : Addr) (j0 : Addr) (j1 : Addr) (h0 : Heap) (hE : Ext Z.heap h0) (hF0 : Fld Z h0 a "com/example/nimble_calculus/nimblecalculus/equivalence/Splits" "leaf" "[I" (.ref lf)) (hF1 : Fld Z h0 a "com/example/nimble_calculus/nimblecalculus/equivalence/Splits" "jumps" "[[I" (.ref jp)) (hF2 : Fld Z h0 a "com/example/nimble_calculus/nimblecalculus/equivalence/Splits" "parent" "[I" (.ref P)) (hF3 : Fld Z h0 a "com/example/nimble_calculus/nimblecalculus/equivalence/Splits" "born" "[I" (.ref B)) (hA4 : Ar Z h0 P .int [(.int (0 : Int32)), (.int (0 : Int32)), (.int (0 : Int32)), (.int (1 : Int32)), (.int (1 : Int32)), (.int (2 : Int32)), (.int (2 : Int32))]) (hA5 : Ar Z h0 B .int [(.int (0 : Int32)), (.int (1 : Int32)), (.int (1 : Int32)), (.int (2 : Int32)), (.int (2 : Int32)), (.int (3 : Int32)), (.int (3 : Int32))]) (hA6 : Ar Z h0 lf .int [(.int (3 : Int32)), (.int (4 : Int32)), (.int (5 : Int32)), (.int (6 : Int32))]) (hA7 : Ar Z h0 jp (.array .int) [(.ref j0), (.ref j1)]) (hA8 : Ar Z h0 j0 .int [(.int (0 : Int32)), (.int (0 : Int32)), (.int (0 : Int32)), (.int (1 : Int32)), (.int (1 : Int32)), (.int (2 : Int32)), (.int (2 : Int32))]) (hA9 : Ar Z h0 j1 .int [(.int (0 : Int32)), (.int (0 : Int32)), (.int (0 : Int32)), (.int (0 : Int32)), (.int (0 : Int32)), (.int (0 : Int32)), (.int (0 : Int32))]) :
    Con l Z (⟨"com/example/nimble_calculus/nimblecalculus/equivalence/Splits", "blockBefore", "(II)I"⟩ : MethodName) prog_61_method_8_code 6 (some .int) ({ frames := 0, cells := 0, slots := 0, locals := 0 } : Room) #[(.ref a), (.int (1 : Int32)), (.int x)] h0 (fun vv hh => vv = some (.int (ownE01 x)) ∧ h0 = hh) := by
  refine Con.of (plainFor_of_name (by first | (simp [plainName, overriddenIn]; done) | decide +kernel)) hE ?_
  intro p e s m below T (X : Sd l Z "com/example/nimble_calculus/nimblecalculus/equivalence/Splits" "blockBefore" prog_61_method_8_code 6 (some .int) ({ frames := 0, cells := 0, slots := 0, locals := 0 } : Room) p e s m #[(.ref a), (.int (1 : Int32)), (.int x)] below T h0 0 0)
  refine End.frame (ef_rm_bb01 m a (1 : Int32) x) ?_
  show End Z p e below s _ _ _ _ (mkF m 0 #[.val (.ref a), .val (.int (1 : Int32)), .val (.int x), .unset, .unset, .unset] [])
  refine E_aloadN (v := (.ref a)) (pc' := 1) X d11_0 rfl rfl rfl ?_
  refine E_getF (pc' := 4) X (host := "") (Or.inl (w_52 hw)) Via.refl hF0 d11_1 rfl (fun T X => ?_)
  refine E_iloadN (pc' := 5) X d11_4 rfl rfl ?_
  refine E_iaload (v := (.int (4 : Int32))) (pc' := 6) X hA6 (by decide) rfl d11_5 rfl ?_
  refine E_istoreN (Ls' := #[.val (.ref a), .val (.int (1 : Int32)), .val (.int x), .val (.int (4 : Int32)), .unset, .unset]) (pc' := 7) X d11_6 rfl rfl ?_
  refine E_aloadN (v := (.ref a)) (pc' := 8) X d11_7 rfl rfl rfl ?_
  refine E_getF (pc' := 11) X (host := "") (Or.inl (w_24 hw)) Via.refl hF3 d11_8 rfl (fun T X => ?_)
  refine E_iloadN (pc' := 12) X d11_11 rfl rfl ?_
  refine E_iaload (v := (.int (2 : Int32))) (pc' := 13) X hA5 (by decide) rfl d11_12 rfl ?_
  refine E_iloadN (pc' := 14) X d11_13 rfl rfl ?_
  refine E_icmp (pcY := 19) (pcN := 17) X (ic_ge _ _) d11_14 (by decide) rfl rfl (fun hc14_0 => ?_) (fun hc14_0 => ?_)
  · skip
    refine E_aloadN (v := (.ref a)) (pc' := 20) X d11_19 rfl rfl rfl ?_
    refine E_getF (pc' := 23) X (host := "") (Or.inl (w_63 hw)) Via.refl hF1 d11_20 rfl (fun T X => ?_)
    refine E_alen (n := (2 : Int32)) (pc' := 24) X hA7 rfl d11_23 rfl ?_
    refine E_iconst (v := (1 : Int32)) (pc' := 25) X d11_24 rfl rfl ?_
    refine E_isub (pc' := 26) X d11_25 rfl ?_
    refine E_eqI (z := (1 : Int32)) (by decide) ?_
    refine E_istore (Ls' := #[.val (.ref a), .val (.int (1 : Int32)), .val (.int x), .val (.int (4 : Int32)), .val (.int (1 : Int32)), .unset]) (pc' := 28) X d11_26 rfl rfl ?_
    refine E_iload (pc' := 30) X d11_28 rfl rfl ?_
    refine E_if (pcY := 64) (pcN := 33) X (i0_lt _) d11_30 (by decide) rfl rfl (fun hc30_0 => absurd hc30_0 (by decide)) (fun hc30_0 => ?_)
    refine E_aloadN (v := (.ref a)) (pc' := 34) X d11_33 rfl rfl rfl ?_
    refine E_getF (pc' := 37) X (host := "") (Or.inl (w_63 hw)) Via.refl hF1 d11_34 rfl (fun T X => ?_)
    refine E_iload (pc' := 39) X d11_37 rfl rfl ?_
    refine E_aaload (v := (.ref j1)) (pc' := 40) X hA7 rfl (by decide) rfl d11_39 rfl ?_
    refine E_iloadN (pc' := 41) X d11_40 rfl rfl ?_
    refine E_iaload (v := (.int (0 : Int32))) (pc' := 42) X hA9 (by decide) rfl d11_41 rfl ?_
    refine E_istore (Ls' := #[.val (.ref a), .val (.int (1 : Int32)), .val (.int x), .val (.int (4 : Int32)), .val (.int (1 : Int32)), .val (.int (0 : Int32))]) (pc' := 44) X d11_42 rfl rfl ?_
    refine E_aloadN (v := (.ref a)) (pc' := 45) X d11_44 rfl rfl rfl ?_
    refine E_getF (pc' := 48) X (host := "") (Or.inl (w_24 hw)) Via.refl hF3 d11_45 rfl (fun T X => ?_)
    refine E_iload (pc' := 50) X d11_48 rfl rfl ?_
    refine E_iaload (v := (.int (0 : Int32))) (pc' := 51) X hA5 (by decide) rfl d11_50 rfl ?_
    refine E_iloadN (pc' := 52) X d11_51 rfl rfl ?_
    refine E_icmp (pcY := 58) (pcN := 55) X (ic_lt _ _) d11_52 (by decide) rfl rfl (fun hc52_0 => ?_) (fun hc52_0 => ?_)
    · skip
      refine E_iinc (x := (1 : Int32)) (z := (0 : Int32)) (Ls' := #[.val (.ref a), .val (.int (1 : Int32)), .val (.int x), .val (.int (4 : Int32)), .val (.int (0 : Int32)), .val (.int (0 : Int32))]) (pc' := 61) X d11_58 rfl rfl rfl rfl ?_
      refine E_goto (pc' := 28) X d11_61 (by decide) rfl ?_
      refine E_iload (pc' := 30) X d11_28 rfl rfl ?_
      refine E_if (pcY := 64) (pcN := 33) X (i0_lt _) d11_30 (by decide) rfl rfl (fun hc30_1 => absurd hc30_1 (by decide)) (fun hc30_1 => ?_)
      refine E_aloadN (v := (.ref a)) (pc' := 34) X d11_33 rfl rfl rfl ?_
      refine E_getF (pc' := 37) X (host := "") (Or.inl (w_63 hw)) Via.refl hF1 d11_34 rfl (fun T X => ?_)
      refine E_iload (pc' := 39) X d11_37 rfl rfl ?_
      refine E_aaload (v := (.ref j0)) (pc' := 40) X hA7 rfl (by decide) rfl d11_39 rfl ?_
      refine E_iloadN (pc' := 41) X d11_40 rfl rfl ?_
      refine E_iaload (v := (.int (1 : Int32))) (pc' := 42) X hA8 (by decide) rfl d11_41 rfl ?_
      refine E_istore (Ls' := #[.val (.ref a), .val (.int (1 : Int32)), .val (.int x), .val (.int (4 : Int32)), .val (.int (0 : Int32)), .val (.int (1 : Int32))]) (pc' := 44) X d11_42 rfl rfl ?_
      refine E_aloadN (v := (.ref a)) (pc' := 45) X d11_44 rfl rfl rfl ?_
      refine E_getF (pc' := 48) X (host := "") (Or.inl (w_24 hw)) Via.refl hF3 d11_45 rfl (fun T X => ?_)
      refine E_iload (pc' := 50) X d11_48 rfl rfl ?_
      refine E_iaload (v := (.int (1 : Int32))) (pc' := 51) X hA5 (by decide) rfl d11_50 rfl ?_
      refine E_iloadN (pc' := 52) X d11_51 rfl rfl ?_
      refine E_icmp (pcY := 58) (pcN := 55) X (ic_lt _ _) d11_52 (by decide) rfl rfl (fun hc52_1 => ?_) (fun hc52_1 => ?_)
      · skip
        refine E_iinc (x := (0 : Int32)) (z := (-1 : Int32)) (Ls' := #[.val (.ref a), .val (.int (1 : Int32)), .val (.int x), .val (.int (4 : Int32)), .val (.int (-1 : Int32)), .val (.int (1 : Int32))]) (pc' := 61) X d11_58 rfl rfl rfl rfl ?_
        refine E_goto (pc' := 28) X d11_61 (by decide) rfl ?_
        refine E_iload (pc' := 30) X d11_28 rfl rfl ?_
        refine E_if (pcY := 64) (pcN := 33) X (i0_lt _) d11_30 (by decide) rfl rfl (fun hc30_2 => ?_) (fun hc30_2 => absurd (by decide) hc30_2)
        refine E_aloadN (v := (.ref a)) (pc' := 65) X d11_64 rfl rfl rfl ?_
        refine E_getF (pc' := 68) X (host := "") (Or.inl (w_22 hw)) Via.refl hF2 d11_65 rfl (fun T X => ?_)
        refine E_iloadN (pc' := 69) X d11_68 rfl rfl ?_
        refine E_iaload (v := (.int (1 : Int32))) (pc' := 70) X hA4 (by decide) rfl d11_69 rfl ?_
        exact E_retI X d11_70 (by decide) (by decide) ⟨(congrArg (fun z => some (Value.int z)) (own_bb_0_1_0 x hc14_0 hc52_0 hc52_1).symm), rfl⟩
      · skip
        refine E_iload (pc' := 57) X d11_55 rfl rfl ?_
        refine E_istoreN (Ls' := #[.val (.ref a), .val (.int (1 : Int32)), .val (.int x), .val (.int (1 : Int32)), .val (.int (0 : Int32)), .val (.int (1 : Int32))]) (pc' := 58) X d11_57 rfl rfl ?_
        refine E_iinc (x := (0 : Int32)) (z := (-1 : Int32)) (Ls' := #[.val (.ref a), .val (.int (1 : Int32)), .val (.int x), .val (.int (1 : Int32)), .val (.int (-1 : Int32)), .val (.int (1 : Int32))]) (pc' := 61) X d11_58 rfl rfl rfl rfl ?_
        refine E_goto (pc' := 28) X d11_61 (by decide) rfl ?_
        refine E_iload (pc' := 30) X d11_28 rfl rfl ?_
        refine E_if (pcY := 64) (pcN := 33) X (i0_lt _) d11_30 (by decide) rfl rfl (fun hc30_2 => ?_) (fun hc30_2 => absurd (by decide) hc30_2)
        refine E_aloadN (v := (.ref a)) (pc' := 65) X d11_64 rfl rfl rfl ?_
        refine E_getF (pc' := 68) X (host := "") (Or.inl (w_22 hw)) Via.refl hF2 d11_65 rfl (fun T X => ?_)
        refine E_iloadN (pc' := 69) X d11_68 rfl rfl ?_
        refine E_iaload (v := (.int (0 : Int32))) (pc' := 70) X hA4 (by decide) rfl d11_69 rfl ?_
        exact E_retI X d11_70 (by decide) (by decide) ⟨(congrArg (fun z => some (Value.int z)) (own_bb_0_1_1 x hc14_0 hc52_0 hc52_1).symm), rfl⟩
    · skip
      refine E_iload (pc' := 57) X d11_55 rfl rfl ?_
      refine E_istoreN (Ls' := #[.val (.ref a), .val (.int (1 : Int32)), .val (.int x), .val (.int (0 : Int32)), .val (.int (1 : Int32)), .val (.int (0 : Int32))]) (pc' := 58) X d11_57 rfl rfl ?_
      refine E_iinc (x := (1 : Int32)) (z := (0 : Int32)) (Ls' := #[.val (.ref a), .val (.int (1 : Int32)), .val (.int x), .val (.int (0 : Int32)), .val (.int (0 : Int32)), .val (.int (0 : Int32))]) (pc' := 61) X d11_58 rfl rfl rfl rfl ?_
      refine E_goto (pc' := 28) X d11_61 (by decide) rfl ?_
      refine E_iload (pc' := 30) X d11_28 rfl rfl ?_
      refine E_if (pcY := 64) (pcN := 33) X (i0_lt _) d11_30 (by decide) rfl rfl (fun hc30_1 => absurd hc30_1 (by decide)) (fun hc30_1 => ?_)
      refine E_aloadN (v := (.ref a)) (pc' := 34) X d11_33 rfl rfl rfl ?_
      refine E_getF (pc' := 37) X (host := "") (Or.inl (w_63 hw)) Via.refl hF1 d11_34 rfl (fun T X => ?_)
      refine E_iload (pc' := 39) X d11_37 rfl rfl ?_
      refine E_aaload (v := (.ref j0)) (pc' := 40) X hA7 rfl (by decide) rfl d11_39 rfl ?_
      refine E_iloadN (pc' := 41) X d11_40 rfl rfl ?_
      refine E_iaload (v := (.int (0 : Int32))) (pc' := 42) X hA8 (by decide) rfl d11_41 rfl ?_
      refine E_istore (Ls' := #[.val (.ref a), .val (.int (1 : Int32)), .val (.int x), .val (.int (0 : Int32)), .val (.int (0 : Int32)), .val (.int (0 : Int32))]) (pc' := 44) X d11_42 rfl rfl ?_
      refine E_aloadN (v := (.ref a)) (pc' := 45) X d11_44 rfl rfl rfl ?_
      refine E_getF (pc' := 48) X (host := "") (Or.inl (w_24 hw)) Via.refl hF3 d11_45 rfl (fun T X => ?_)
      refine E_iload (pc' := 50) X d11_48 rfl rfl ?_
      refine E_iaload (v := (.int (0 : Int32))) (pc' := 51) X hA5 (by decide) rfl d11_50 rfl ?_
      refine E_iloadN (pc' := 52) X d11_51 rfl rfl ?_
      refine E_icmp (pcY := 58) (pcN := 55) X (ic_lt _ _) d11_52 (by decide) rfl rfl (fun hc52_1 => ?_) (fun hc52_1 => ?_)
      · skip
        refine E_iinc (x := (0 : Int32)) (z := (-1 : Int32)) (Ls' := #[.val (.ref a), .val (.int (1 : Int32)), .val (.int x), .val (.int (0 : Int32)), .val (.int (-1 : Int32)), .val (.int (0 : Int32))]) (pc' := 61) X d11_58 rfl rfl rfl rfl ?_
        refine E_goto (pc' := 28) X d11_61 (by decide) rfl ?_
        refine E_iload (pc' := 30) X d11_28 rfl rfl ?_
        refine E_if (pcY := 64) (pcN := 33) X (i0_lt _) d11_30 (by decide) rfl rfl (fun hc30_2 => ?_) (fun hc30_2 => absurd (by decide) hc30_2)
        refine E_aloadN (v := (.ref a)) (pc' := 65) X d11_64 rfl rfl rfl ?_
        refine E_getF (pc' := 68) X (host := "") (Or.inl (w_22 hw)) Via.refl hF2 d11_65 rfl (fun T X => ?_)
        refine E_iloadN (pc' := 69) X d11_68 rfl rfl ?_
        refine E_iaload (v := (.int (0 : Int32))) (pc' := 70) X hA4 (by decide) rfl d11_69 rfl ?_
        exact E_retI X d11_70 (by decide) (by decide) ⟨(congrArg (fun z => some (Value.int z)) (own_bb_0_1_2 x hc14_0 hc52_0 hc52_1).symm), rfl⟩
      · skip
        refine E_iload (pc' := 57) X d11_55 rfl rfl ?_
        refine E_istoreN (Ls' := #[.val (.ref a), .val (.int (1 : Int32)), .val (.int x), .val (.int (0 : Int32)), .val (.int (0 : Int32)), .val (.int (0 : Int32))]) (pc' := 58) X d11_57 rfl rfl ?_
        refine E_iinc (x := (0 : Int32)) (z := (-1 : Int32)) (Ls' := #[.val (.ref a), .val (.int (1 : Int32)), .val (.int x), .val (.int (0 : Int32)), .val (.int (-1 : Int32)), .val (.int (0 : Int32))]) (pc' := 61) X d11_58 rfl rfl rfl rfl ?_
        refine E_goto (pc' := 28) X d11_61 (by decide) rfl ?_
        refine E_iload (pc' := 30) X d11_28 rfl rfl ?_
        refine E_if (pcY := 64) (pcN := 33) X (i0_lt _) d11_30 (by decide) rfl rfl (fun hc30_2 => ?_) (fun hc30_2 => absurd (by decide) hc30_2)
        refine E_aloadN (v := (.ref a)) (pc' := 65) X d11_64 rfl rfl rfl ?_
        refine E_getF (pc' := 68) X (host := "") (Or.inl (w_22 hw)) Via.refl hF2 d11_65 rfl (fun T X => ?_)
        refine E_iloadN (pc' := 69) X d11_68 rfl rfl ?_
        refine E_iaload (v := (.int (0 : Int32))) (pc' := 70) X hA4 (by decide) rfl d11_69 rfl ?_
        exact E_retI X d11_70 (by decide) (by decide) ⟨(congrArg (fun z => some (Value.int z)) (own_bb_0_1_3 x hc14_0 hc52_0 hc52_1).symm), rfl⟩
  · skip
    replace hc14_0 := Decidable.not_not.mp hc14_0
    refine E_iloadN (pc' := 18) X d11_17 rfl rfl ?_
    exact E_retI X d11_18 (by decide) (by decide) ⟨(congrArg (fun z => some (Value.int z)) (own_bb_0_1_4 x hc14_0).symm), rfl⟩
theorem d12_94 : decode method_2_code 94 = .ok (.iload_n 1, 1) := by decide +kernel
theorem d12_95 : decode method_2_code 95 = .ok (.iconst 1, 1) := by decide +kernel
theorem d12_96 : decode method_2_code 96 = .ok (.if_icmp .ne 14, 3) := by decide +kernel
theorem d12_99 : decode method_2_code 99 = .ok (.iload_n 2, 1) := by decide +kernel
theorem d12_100 : decode method_2_code 100 = .ok (.iconst 2, 1) := by decide +kernel
theorem d12_101 : decode method_2_code 101 = .ok (.if_icmp .gt 7, 3) := by decide +kernel
theorem d12_104 : decode method_2_code 104 = .ok (.iconst 1, 1) := by decide +kernel
theorem d12_105 : decode method_2_code 105 = .ok (.goto 4, 3) := by decide +kernel
theorem d12_108 : decode method_2_code 108 = .ok (.iconst 4, 1) := by decide +kernel
theorem d12_109 : decode method_2_code 109 = .ok (.ireturn, 1) := by decide +kernel
theorem ef_rm_ex01 (m : MethodId) (x0 : Int32) (x1 : Int32) (x2 : Int32) : entryFrame m #[(.int x0), (.int x1), (.int x2)] 3 = mkF m 0 #[.val (.int x0), .val (.int x1), .val (.int x2)] [] := by first | (simp [entryFrame, mkF, argsToLocals, Value.category]; done) | (simp [entryFrame, mkF, argsToLocals, *]; done) | rfl
set_option maxRecDepth 65536 in
set_option maxHeartbeats 2000000 in
theorem rm_ex01 (l : Launch) (Z : State) (a0 : Array Value) (hw : ∀ d ∈ tables_1, d.before a0 Z = true) (x : Int32) (h0 : Heap) (hE : Ext Z.heap h0) :
    Con l Z (⟨"com/example/nimble_calculus/nimblecalculus/equivalence/SplitsBlockBeforePinLaw", "expected", "(ZII)I"⟩ : MethodName) method_2_code 3 (some .int) ({ frames := 0, cells := 0, slots := 0, locals := 0 } : Room) #[(.int (0 : Int32)), (.int (1 : Int32)), (.int x)] h0 (fun vv hh => vv = some (.int (ownE01 x)) ∧ h0 = hh) := by
  refine Con.of (plainFor_of_name (by first | (simp [plainName, overriddenIn]; done) | decide +kernel)) hE ?_
  intro p e s m below T (X : Sd l Z "com/example/nimble_calculus/nimblecalculus/equivalence/SplitsBlockBeforePinLaw" "expected" method_2_code 3 (some .int) ({ frames := 0, cells := 0, slots := 0, locals := 0 } : Room) p e s m #[(.int (0 : Int32)), (.int (1 : Int32)), (.int x)] below T h0 0 0)
  refine End.frame (ef_rm_ex01 m (0 : Int32) (1 : Int32) x) ?_
  show End Z p e below s _ _ _ _ (mkF m 0 #[.val (.int (0 : Int32)), .val (.int (1 : Int32)), .val (.int x)] [])
  refine E_iloadN (pc' := 1) X d12_0 rfl rfl ?_
  refine E_iconst (v := (1 : Int32)) (pc' := 2) X d12_1 rfl rfl ?_
  refine E_icmp (pcY := 7) (pcN := 5) X (ic_gt _ _) d12_2 (by decide) rfl rfl (fun hc2_0 => ?_) (fun hc2_0 => ?_)
  · skip
    refine E_iloadN (pc' := 8) X d12_7 rfl rfl ?_
    refine E_if (pcY := 79) (pcN := 11) X (i0_eq _) d12_8 (by decide) rfl rfl (fun hc8_0 => ?_) (fun hc8_0 => absurd (by decide) hc8_0)
    refine E_iloadN (pc' := 80) X d12_79 rfl rfl ?_
    refine E_if (pcY := 94) (pcN := 83) X (i0_ne _) d12_80 (by decide) rfl rfl (fun hc80_0 => ?_) (fun hc80_0 => absurd (by decide) hc80_0)
    refine E_iloadN (pc' := 95) X d12_94 rfl rfl ?_
    refine E_iconst (v := (1 : Int32)) (pc' := 96) X d12_95 rfl rfl ?_
    refine E_icmp (pcY := 110) (pcN := 99) X (ic_ne _ _) d12_96 (by decide) rfl rfl (fun hc96_0 => absurd hc96_0 (by decide)) (fun hc96_0 => ?_)
    refine E_iloadN (pc' := 100) X d12_99 rfl rfl ?_
    refine E_iconst (v := (2 : Int32)) (pc' := 101) X d12_100 rfl rfl ?_
    refine E_icmp (pcY := 108) (pcN := 104) X (ic_gt _ _) d12_101 (by decide) rfl rfl (fun hc101_0 => ?_) (fun hc101_0 => ?_)
    · skip
      refine E_iconst (v := (4 : Int32)) (pc' := 109) X d12_108 rfl rfl ?_
      exact E_retI X d12_109 (by decide) (by decide) ⟨(by simp [ownE01, hc2_0, hc101_0]), rfl⟩
    · skip
      refine E_iconst (v := (1 : Int32)) (pc' := 105) X d12_104 rfl rfl ?_
      refine E_goto (pc' := 109) X d12_105 (by decide) rfl ?_
      exact E_retI X d12_109 (by decide) (by decide) ⟨(by simp [ownE01, hc2_0, hc101_0]), rfl⟩
  · skip
    refine E_iconst (v := (0 : Int32)) (pc' := 6) X d12_5 rfl rfl ?_
    exact E_retI X d12_6 (by decide) (by decide) ⟨(by simp [ownE01, hc2_0]), rfl⟩
theorem own_bb_0_2_0 (x : Int32) (q0 : ¬ (3 : Int32) < x) (q1 : (0 : Int32) < x) (q2 : (1 : Int32) < x) : ownE02 x = (2 : Int32) := by
  unfold ownE02
  simp only [Int32.lt_iff_toInt_lt] at *
  have e0 : (0 : Int32).toInt = 0 := rfl
  have e1 : (1 : Int32).toInt = 1 := rfl
  have e2 : (2 : Int32).toInt = 2 := rfl
  have e3 : (3 : Int32).toInt = 3 := rfl
  repeat' split
  all_goals first | rfl | (exfalso; omega)
theorem own_bb_0_2_1 (x : Int32) (q0 : ¬ (3 : Int32) < x) (q1 : (0 : Int32) < x) (q2 : ¬ (1 : Int32) < x) : ownE02 x = (0 : Int32) := by
  unfold ownE02
  simp only [Int32.lt_iff_toInt_lt] at *
  have e0 : (0 : Int32).toInt = 0 := rfl
  have e1 : (1 : Int32).toInt = 1 := rfl
  have e2 : (2 : Int32).toInt = 2 := rfl
  have e3 : (3 : Int32).toInt = 3 := rfl
  repeat' split
  all_goals first | rfl | (exfalso; omega)
theorem own_bb_0_2_2 (x : Int32) (q0 : ¬ (3 : Int32) < x) (q1 : ¬ (0 : Int32) < x) (q2 : (0 : Int32) < x) : ownE02 x = (0 : Int32) := by
  unfold ownE02
  simp only [Int32.lt_iff_toInt_lt] at *
  have e0 : (0 : Int32).toInt = 0 := rfl
  have e1 : (1 : Int32).toInt = 1 := rfl
  have e2 : (2 : Int32).toInt = 2 := rfl
  have e3 : (3 : Int32).toInt = 3 := rfl
  repeat' split
  all_goals first | rfl | (exfalso; omega)
theorem own_bb_0_2_3 (x : Int32) (q0 : ¬ (3 : Int32) < x) (q1 : ¬ (0 : Int32) < x) (q2 : ¬ (0 : Int32) < x) : ownE02 x = (0 : Int32) := by
  unfold ownE02
  simp only [Int32.lt_iff_toInt_lt] at *
  have e0 : (0 : Int32).toInt = 0 := rfl
  have e1 : (1 : Int32).toInt = 1 := rfl
  have e2 : (2 : Int32).toInt = 2 := rfl
  have e3 : (3 : Int32).toInt = 3 := rfl
  repeat' split
  all_goals first | rfl | (exfalso; omega)
theorem own_bb_0_2_4 (x : Int32) (q0 : (3 : Int32) < x) : ownE02 x = (5 : Int32) := by
  unfold ownE02
  simp only [Int32.lt_iff_toInt_lt] at *
  have e0 : (0 : Int32).toInt = 0 := rfl
  have e1 : (1 : Int32).toInt = 1 := rfl
  have e2 : (2 : Int32).toInt = 2 := rfl
  have e3 : (3 : Int32).toInt = 3 := rfl
  repeat' split
  all_goals first | rfl | (exfalso; omega)
theorem ef_rm_bb02 (m : MethodId) (x0 : Addr) (x1 : Int32) (x2 : Int32) : entryFrame m #[(.ref x0), (.int x1), (.int x2)] 6 = mkF m 0 #[.val (.ref x0), .val (.int x1), .val (.int x2), .unset, .unset, .unset] [] := by first | (simp [entryFrame, mkF, argsToLocals, Value.category]; done) | (simp [entryFrame, mkF, argsToLocals, *]; done) | rfl
set_option maxRecDepth 65536 in
set_option maxHeartbeats 2000000 in
theorem rm_bb02 (l : Launch) (Z : State) (a0 : Array Value) (hw : ∀ d ∈ tables_1, d.before a0 Z = true) (a : Addr) (x : Int32) (lf : Addr) (jp : Addr) (P : Addr) (B : Addr) (j0 : Addr) (j1 : Addr) (h0 : Heap) (hE : Ext Z.heap h0) (hF0 : Fld Z h0 a "com/example/nimble_calculus/nimblecalculus/equivalence/Splits" "leaf" "[I" (.ref lf)) (hF1 : Fld Z h0 a "com/example/nimble_calculus/nimblecalculus/equivalence/Splits" "jumps" "[[I" (.ref jp)) (hF2 : Fld Z h0 a "com/example/nimble_calculus/nimblecalculus/equivalence/Splits" "parent" "[I" (.ref P)) (hF3 : Fld Z h0 a "com/example/nimble_calculus/nimblecalculus/equivalence/Splits" "born" "[I" (.ref B)) (hA4 : Ar Z h0 P .int [(.int (0 : Int32)), (.int (0 : Int32)), (.int (0 : Int32)), (.int (1 : Int32)), (.int (1 : Int32)), (.int (2 : Int32)), (.int (2 : Int32))]) (hA5 : Ar Z h0 B .int [(.int (0 : Int32)), (.int (1 : Int32)), (.int (1 : Int32)), (.int (2 : Int32)), (.int (2 : Int32)), (.int (3 : Int32)), (.int (3 : Int32))]) (hA6 : Ar Z h0 lf .int [(.int (3 : Int32)), (.int (4 : Int32)), (.int (5 : Int32)), (.int (6 : Int32))]) (hA7 : Ar Z h0 jp (.array .int) [(.ref j0), (.ref j1)]) (hA8 : Ar Z h0 j0 .int [(.int (0 : Int32)), (.int (0 : Int32)), (.int (0 : Int32)), (.int (1 : Int32)), (.int (1 : Int32)), (.int (2 : Int32)), (.int (2 : Int32))]) (hA9 : Ar Z h0 j1 .int [(.int (0 : Int32)), (.int (0 : Int32)), (.int (0 : Int32)), (.int (0 : Int32)), (.int (0 : Int32)), (.int (0 : Int32)), (.int (0 : Int32))]) :
    Con l Z (⟨"com/example/nimble_calculus/nimblecalculus/equivalence/Splits", "blockBefore", "(II)I"⟩ : MethodName) prog_61_method_8_code 6 (some .int) ({ frames := 0, cells := 0, slots := 0, locals := 0 } : Room) #[(.ref a), (.int (2 : Int32)), (.int x)] h0 (fun vv hh => vv = some (.int (ownE02 x)) ∧ h0 = hh) := by
  refine Con.of (plainFor_of_name (by first | (simp [plainName, overriddenIn]; done) | decide +kernel)) hE ?_
  intro p e s m below T (X : Sd l Z "com/example/nimble_calculus/nimblecalculus/equivalence/Splits" "blockBefore" prog_61_method_8_code 6 (some .int) ({ frames := 0, cells := 0, slots := 0, locals := 0 } : Room) p e s m #[(.ref a), (.int (2 : Int32)), (.int x)] below T h0 0 0)
  refine End.frame (ef_rm_bb02 m a (2 : Int32) x) ?_
  show End Z p e below s _ _ _ _ (mkF m 0 #[.val (.ref a), .val (.int (2 : Int32)), .val (.int x), .unset, .unset, .unset] [])
  refine E_aloadN (v := (.ref a)) (pc' := 1) X d11_0 rfl rfl rfl ?_
  refine E_getF (pc' := 4) X (host := "") (Or.inl (w_52 hw)) Via.refl hF0 d11_1 rfl (fun T X => ?_)
  refine E_iloadN (pc' := 5) X d11_4 rfl rfl ?_
  refine E_iaload (v := (.int (5 : Int32))) (pc' := 6) X hA6 (by decide) rfl d11_5 rfl ?_
  refine E_istoreN (Ls' := #[.val (.ref a), .val (.int (2 : Int32)), .val (.int x), .val (.int (5 : Int32)), .unset, .unset]) (pc' := 7) X d11_6 rfl rfl ?_
  refine E_aloadN (v := (.ref a)) (pc' := 8) X d11_7 rfl rfl rfl ?_
  refine E_getF (pc' := 11) X (host := "") (Or.inl (w_24 hw)) Via.refl hF3 d11_8 rfl (fun T X => ?_)
  refine E_iloadN (pc' := 12) X d11_11 rfl rfl ?_
  refine E_iaload (v := (.int (3 : Int32))) (pc' := 13) X hA5 (by decide) rfl d11_12 rfl ?_
  refine E_iloadN (pc' := 14) X d11_13 rfl rfl ?_
  refine E_icmp (pcY := 19) (pcN := 17) X (ic_ge _ _) d11_14 (by decide) rfl rfl (fun hc14_0 => ?_) (fun hc14_0 => ?_)
  · skip
    refine E_aloadN (v := (.ref a)) (pc' := 20) X d11_19 rfl rfl rfl ?_
    refine E_getF (pc' := 23) X (host := "") (Or.inl (w_63 hw)) Via.refl hF1 d11_20 rfl (fun T X => ?_)
    refine E_alen (n := (2 : Int32)) (pc' := 24) X hA7 rfl d11_23 rfl ?_
    refine E_iconst (v := (1 : Int32)) (pc' := 25) X d11_24 rfl rfl ?_
    refine E_isub (pc' := 26) X d11_25 rfl ?_
    refine E_eqI (z := (1 : Int32)) (by decide) ?_
    refine E_istore (Ls' := #[.val (.ref a), .val (.int (2 : Int32)), .val (.int x), .val (.int (5 : Int32)), .val (.int (1 : Int32)), .unset]) (pc' := 28) X d11_26 rfl rfl ?_
    refine E_iload (pc' := 30) X d11_28 rfl rfl ?_
    refine E_if (pcY := 64) (pcN := 33) X (i0_lt _) d11_30 (by decide) rfl rfl (fun hc30_0 => absurd hc30_0 (by decide)) (fun hc30_0 => ?_)
    refine E_aloadN (v := (.ref a)) (pc' := 34) X d11_33 rfl rfl rfl ?_
    refine E_getF (pc' := 37) X (host := "") (Or.inl (w_63 hw)) Via.refl hF1 d11_34 rfl (fun T X => ?_)
    refine E_iload (pc' := 39) X d11_37 rfl rfl ?_
    refine E_aaload (v := (.ref j1)) (pc' := 40) X hA7 rfl (by decide) rfl d11_39 rfl ?_
    refine E_iloadN (pc' := 41) X d11_40 rfl rfl ?_
    refine E_iaload (v := (.int (0 : Int32))) (pc' := 42) X hA9 (by decide) rfl d11_41 rfl ?_
    refine E_istore (Ls' := #[.val (.ref a), .val (.int (2 : Int32)), .val (.int x), .val (.int (5 : Int32)), .val (.int (1 : Int32)), .val (.int (0 : Int32))]) (pc' := 44) X d11_42 rfl rfl ?_
    refine E_aloadN (v := (.ref a)) (pc' := 45) X d11_44 rfl rfl rfl ?_
    refine E_getF (pc' := 48) X (host := "") (Or.inl (w_24 hw)) Via.refl hF3 d11_45 rfl (fun T X => ?_)
    refine E_iload (pc' := 50) X d11_48 rfl rfl ?_
    refine E_iaload (v := (.int (0 : Int32))) (pc' := 51) X hA5 (by decide) rfl d11_50 rfl ?_
    refine E_iloadN (pc' := 52) X d11_51 rfl rfl ?_
    refine E_icmp (pcY := 58) (pcN := 55) X (ic_lt _ _) d11_52 (by decide) rfl rfl (fun hc52_0 => ?_) (fun hc52_0 => ?_)
    · skip
      refine E_iinc (x := (1 : Int32)) (z := (0 : Int32)) (Ls' := #[.val (.ref a), .val (.int (2 : Int32)), .val (.int x), .val (.int (5 : Int32)), .val (.int (0 : Int32)), .val (.int (0 : Int32))]) (pc' := 61) X d11_58 rfl rfl rfl rfl ?_
      refine E_goto (pc' := 28) X d11_61 (by decide) rfl ?_
      refine E_iload (pc' := 30) X d11_28 rfl rfl ?_
      refine E_if (pcY := 64) (pcN := 33) X (i0_lt _) d11_30 (by decide) rfl rfl (fun hc30_1 => absurd hc30_1 (by decide)) (fun hc30_1 => ?_)
      refine E_aloadN (v := (.ref a)) (pc' := 34) X d11_33 rfl rfl rfl ?_
      refine E_getF (pc' := 37) X (host := "") (Or.inl (w_63 hw)) Via.refl hF1 d11_34 rfl (fun T X => ?_)
      refine E_iload (pc' := 39) X d11_37 rfl rfl ?_
      refine E_aaload (v := (.ref j0)) (pc' := 40) X hA7 rfl (by decide) rfl d11_39 rfl ?_
      refine E_iloadN (pc' := 41) X d11_40 rfl rfl ?_
      refine E_iaload (v := (.int (2 : Int32))) (pc' := 42) X hA8 (by decide) rfl d11_41 rfl ?_
      refine E_istore (Ls' := #[.val (.ref a), .val (.int (2 : Int32)), .val (.int x), .val (.int (5 : Int32)), .val (.int (0 : Int32)), .val (.int (2 : Int32))]) (pc' := 44) X d11_42 rfl rfl ?_
      refine E_aloadN (v := (.ref a)) (pc' := 45) X d11_44 rfl rfl rfl ?_
      refine E_getF (pc' := 48) X (host := "") (Or.inl (w_24 hw)) Via.refl hF3 d11_45 rfl (fun T X => ?_)
      refine E_iload (pc' := 50) X d11_48 rfl rfl ?_
      refine E_iaload (v := (.int (1 : Int32))) (pc' := 51) X hA5 (by decide) rfl d11_50 rfl ?_
      refine E_iloadN (pc' := 52) X d11_51 rfl rfl ?_
      refine E_icmp (pcY := 58) (pcN := 55) X (ic_lt _ _) d11_52 (by decide) rfl rfl (fun hc52_1 => ?_) (fun hc52_1 => ?_)
      · skip
        refine E_iinc (x := (0 : Int32)) (z := (-1 : Int32)) (Ls' := #[.val (.ref a), .val (.int (2 : Int32)), .val (.int x), .val (.int (5 : Int32)), .val (.int (-1 : Int32)), .val (.int (2 : Int32))]) (pc' := 61) X d11_58 rfl rfl rfl rfl ?_
        refine E_goto (pc' := 28) X d11_61 (by decide) rfl ?_
        refine E_iload (pc' := 30) X d11_28 rfl rfl ?_
        refine E_if (pcY := 64) (pcN := 33) X (i0_lt _) d11_30 (by decide) rfl rfl (fun hc30_2 => ?_) (fun hc30_2 => absurd (by decide) hc30_2)
        refine E_aloadN (v := (.ref a)) (pc' := 65) X d11_64 rfl rfl rfl ?_
        refine E_getF (pc' := 68) X (host := "") (Or.inl (w_22 hw)) Via.refl hF2 d11_65 rfl (fun T X => ?_)
        refine E_iloadN (pc' := 69) X d11_68 rfl rfl ?_
        refine E_iaload (v := (.int (2 : Int32))) (pc' := 70) X hA4 (by decide) rfl d11_69 rfl ?_
        exact E_retI X d11_70 (by decide) (by decide) ⟨(congrArg (fun z => some (Value.int z)) (own_bb_0_2_0 x hc14_0 hc52_0 hc52_1).symm), rfl⟩
      · skip
        refine E_iload (pc' := 57) X d11_55 rfl rfl ?_
        refine E_istoreN (Ls' := #[.val (.ref a), .val (.int (2 : Int32)), .val (.int x), .val (.int (2 : Int32)), .val (.int (0 : Int32)), .val (.int (2 : Int32))]) (pc' := 58) X d11_57 rfl rfl ?_
        refine E_iinc (x := (0 : Int32)) (z := (-1 : Int32)) (Ls' := #[.val (.ref a), .val (.int (2 : Int32)), .val (.int x), .val (.int (2 : Int32)), .val (.int (-1 : Int32)), .val (.int (2 : Int32))]) (pc' := 61) X d11_58 rfl rfl rfl rfl ?_
        refine E_goto (pc' := 28) X d11_61 (by decide) rfl ?_
        refine E_iload (pc' := 30) X d11_28 rfl rfl ?_
        refine E_if (pcY := 64) (pcN := 33) X (i0_lt _) d11_30 (by decide) rfl rfl (fun hc30_2 => ?_) (fun hc30_2 => absurd (by decide) hc30_2)
        refine E_aloadN (v := (.ref a)) (pc' := 65) X d11_64 rfl rfl rfl ?_
        refine E_getF (pc' := 68) X (host := "") (Or.inl (w_22 hw)) Via.refl hF2 d11_65 rfl (fun T X => ?_)
        refine E_iloadN (pc' := 69) X d11_68 rfl rfl ?_
        refine E_iaload (v := (.int (0 : Int32))) (pc' := 70) X hA4 (by decide) rfl d11_69 rfl ?_
        exact E_retI X d11_70 (by decide) (by decide) ⟨(congrArg (fun z => some (Value.int z)) (own_bb_0_2_1 x hc14_0 hc52_0 hc52_1).symm), rfl⟩
    · skip
      refine E_iload (pc' := 57) X d11_55 rfl rfl ?_
      refine E_istoreN (Ls' := #[.val (.ref a), .val (.int (2 : Int32)), .val (.int x), .val (.int (0 : Int32)), .val (.int (1 : Int32)), .val (.int (0 : Int32))]) (pc' := 58) X d11_57 rfl rfl ?_
      refine E_iinc (x := (1 : Int32)) (z := (0 : Int32)) (Ls' := #[.val (.ref a), .val (.int (2 : Int32)), .val (.int x), .val (.int (0 : Int32)), .val (.int (0 : Int32)), .val (.int (0 : Int32))]) (pc' := 61) X d11_58 rfl rfl rfl rfl ?_
      refine E_goto (pc' := 28) X d11_61 (by decide) rfl ?_
      refine E_iload (pc' := 30) X d11_28 rfl rfl ?_
      refine E_if (pcY := 64) (pcN := 33) X (i0_lt _) d11_30 (by decide) rfl rfl (fun hc30_1 => absurd hc30_1 (by decide)) (fun hc30_1 => ?_)
      refine E_aloadN (v := (.ref a)) (pc' := 34) X d11_33 rfl rfl rfl ?_
      refine E_getF (pc' := 37) X (host := "") (Or.inl (w_63 hw)) Via.refl hF1 d11_34 rfl (fun T X => ?_)
      refine E_iload (pc' := 39) X d11_37 rfl rfl ?_
      refine E_aaload (v := (.ref j0)) (pc' := 40) X hA7 rfl (by decide) rfl d11_39 rfl ?_
      refine E_iloadN (pc' := 41) X d11_40 rfl rfl ?_
      refine E_iaload (v := (.int (0 : Int32))) (pc' := 42) X hA8 (by decide) rfl d11_41 rfl ?_
      refine E_istore (Ls' := #[.val (.ref a), .val (.int (2 : Int32)), .val (.int x), .val (.int (0 : Int32)), .val (.int (0 : Int32)), .val (.int (0 : Int32))]) (pc' := 44) X d11_42 rfl rfl ?_
      refine E_aloadN (v := (.ref a)) (pc' := 45) X d11_44 rfl rfl rfl ?_
      refine E_getF (pc' := 48) X (host := "") (Or.inl (w_24 hw)) Via.refl hF3 d11_45 rfl (fun T X => ?_)
      refine E_iload (pc' := 50) X d11_48 rfl rfl ?_
      refine E_iaload (v := (.int (0 : Int32))) (pc' := 51) X hA5 (by decide) rfl d11_50 rfl ?_
      refine E_iloadN (pc' := 52) X d11_51 rfl rfl ?_
      refine E_icmp (pcY := 58) (pcN := 55) X (ic_lt _ _) d11_52 (by decide) rfl rfl (fun hc52_1 => ?_) (fun hc52_1 => ?_)
      · skip
        refine E_iinc (x := (0 : Int32)) (z := (-1 : Int32)) (Ls' := #[.val (.ref a), .val (.int (2 : Int32)), .val (.int x), .val (.int (0 : Int32)), .val (.int (-1 : Int32)), .val (.int (0 : Int32))]) (pc' := 61) X d11_58 rfl rfl rfl rfl ?_
        refine E_goto (pc' := 28) X d11_61 (by decide) rfl ?_
        refine E_iload (pc' := 30) X d11_28 rfl rfl ?_
        refine E_if (pcY := 64) (pcN := 33) X (i0_lt _) d11_30 (by decide) rfl rfl (fun hc30_2 => ?_) (fun hc30_2 => absurd (by decide) hc30_2)
        refine E_aloadN (v := (.ref a)) (pc' := 65) X d11_64 rfl rfl rfl ?_
        refine E_getF (pc' := 68) X (host := "") (Or.inl (w_22 hw)) Via.refl hF2 d11_65 rfl (fun T X => ?_)
        refine E_iloadN (pc' := 69) X d11_68 rfl rfl ?_
        refine E_iaload (v := (.int (0 : Int32))) (pc' := 70) X hA4 (by decide) rfl d11_69 rfl ?_
        exact E_retI X d11_70 (by decide) (by decide) ⟨(congrArg (fun z => some (Value.int z)) (own_bb_0_2_2 x hc14_0 hc52_0 hc52_1).symm), rfl⟩
      · skip
        refine E_iload (pc' := 57) X d11_55 rfl rfl ?_
        refine E_istoreN (Ls' := #[.val (.ref a), .val (.int (2 : Int32)), .val (.int x), .val (.int (0 : Int32)), .val (.int (0 : Int32)), .val (.int (0 : Int32))]) (pc' := 58) X d11_57 rfl rfl ?_
        refine E_iinc (x := (0 : Int32)) (z := (-1 : Int32)) (Ls' := #[.val (.ref a), .val (.int (2 : Int32)), .val (.int x), .val (.int (0 : Int32)), .val (.int (-1 : Int32)), .val (.int (0 : Int32))]) (pc' := 61) X d11_58 rfl rfl rfl rfl ?_
        refine E_goto (pc' := 28) X d11_61 (by decide) rfl ?_
        refine E_iload (pc' := 30) X d11_28 rfl rfl ?_
        refine E_if (pcY := 64) (pcN := 33) X (i0_lt _) d11_30 (by decide) rfl rfl (fun hc30_2 => ?_) (fun hc30_2 => absurd (by decide) hc30_2)
        refine E_aloadN (v := (.ref a)) (pc' := 65) X d11_64 rfl rfl rfl ?_
        refine E_getF (pc' := 68) X (host := "") (Or.inl (w_22 hw)) Via.refl hF2 d11_65 rfl (fun T X => ?_)
        refine E_iloadN (pc' := 69) X d11_68 rfl rfl ?_
        refine E_iaload (v := (.int (0 : Int32))) (pc' := 70) X hA4 (by decide) rfl d11_69 rfl ?_
        exact E_retI X d11_70 (by decide) (by decide) ⟨(congrArg (fun z => some (Value.int z)) (own_bb_0_2_3 x hc14_0 hc52_0 hc52_1).symm), rfl⟩
  · skip
    replace hc14_0 := Decidable.not_not.mp hc14_0
    refine E_iloadN (pc' := 18) X d11_17 rfl rfl ?_
    exact E_retI X d11_18 (by decide) (by decide) ⟨(congrArg (fun z => some (Value.int z)) (own_bb_0_2_4 x hc14_0).symm), rfl⟩
theorem d12_110 : decode method_2_code 110 = .ok (.iload_n 1, 1) := by decide +kernel
theorem d12_111 : decode method_2_code 111 = .ok (.iconst 2, 1) := by decide +kernel
theorem d12_112 : decode method_2_code 112 = .ok (.if_icmp .ne 14, 3) := by decide +kernel
theorem d12_115 : decode method_2_code 115 = .ok (.iload_n 2, 1) := by decide +kernel
theorem d12_116 : decode method_2_code 116 = .ok (.iconst 3, 1) := by decide +kernel
theorem d12_117 : decode method_2_code 117 = .ok (.if_icmp .gt 7, 3) := by decide +kernel
theorem d12_120 : decode method_2_code 120 = .ok (.iconst 2, 1) := by decide +kernel
theorem d12_121 : decode method_2_code 121 = .ok (.goto 4, 3) := by decide +kernel
theorem d12_124 : decode method_2_code 124 = .ok (.iconst 5, 1) := by decide +kernel
theorem d12_125 : decode method_2_code 125 = .ok (.ireturn, 1) := by decide +kernel
theorem ef_rm_ex02 (m : MethodId) (x0 : Int32) (x1 : Int32) (x2 : Int32) : entryFrame m #[(.int x0), (.int x1), (.int x2)] 3 = mkF m 0 #[.val (.int x0), .val (.int x1), .val (.int x2)] [] := by first | (simp [entryFrame, mkF, argsToLocals, Value.category]; done) | (simp [entryFrame, mkF, argsToLocals, *]; done) | rfl
set_option maxRecDepth 65536 in
set_option maxHeartbeats 2000000 in
theorem rm_ex02 (l : Launch) (Z : State) (a0 : Array Value) (hw : ∀ d ∈ tables_1, d.before a0 Z = true) (x : Int32) (h0 : Heap) (hE : Ext Z.heap h0) :
    Con l Z (⟨"com/example/nimble_calculus/nimblecalculus/equivalence/SplitsBlockBeforePinLaw", "expected", "(ZII)I"⟩ : MethodName) method_2_code 3 (some .int) ({ frames := 0, cells := 0, slots := 0, locals := 0 } : Room) #[(.int (0 : Int32)), (.int (2 : Int32)), (.int x)] h0 (fun vv hh => vv = some (.int (ownE02 x)) ∧ h0 = hh) := by
  refine Con.of (plainFor_of_name (by first | (simp [plainName, overriddenIn]; done) | decide +kernel)) hE ?_
  intro p e s m below T (X : Sd l Z "com/example/nimble_calculus/nimblecalculus/equivalence/SplitsBlockBeforePinLaw" "expected" method_2_code 3 (some .int) ({ frames := 0, cells := 0, slots := 0, locals := 0 } : Room) p e s m #[(.int (0 : Int32)), (.int (2 : Int32)), (.int x)] below T h0 0 0)
  refine End.frame (ef_rm_ex02 m (0 : Int32) (2 : Int32) x) ?_
  show End Z p e below s _ _ _ _ (mkF m 0 #[.val (.int (0 : Int32)), .val (.int (2 : Int32)), .val (.int x)] [])
  refine E_iloadN (pc' := 1) X d12_0 rfl rfl ?_
  refine E_iconst (v := (1 : Int32)) (pc' := 2) X d12_1 rfl rfl ?_
  refine E_icmp (pcY := 7) (pcN := 5) X (ic_gt _ _) d12_2 (by decide) rfl rfl (fun hc2_0 => ?_) (fun hc2_0 => ?_)
  · skip
    refine E_iloadN (pc' := 8) X d12_7 rfl rfl ?_
    refine E_if (pcY := 79) (pcN := 11) X (i0_eq _) d12_8 (by decide) rfl rfl (fun hc8_0 => ?_) (fun hc8_0 => absurd (by decide) hc8_0)
    refine E_iloadN (pc' := 80) X d12_79 rfl rfl ?_
    refine E_if (pcY := 94) (pcN := 83) X (i0_ne _) d12_80 (by decide) rfl rfl (fun hc80_0 => ?_) (fun hc80_0 => absurd (by decide) hc80_0)
    refine E_iloadN (pc' := 95) X d12_94 rfl rfl ?_
    refine E_iconst (v := (1 : Int32)) (pc' := 96) X d12_95 rfl rfl ?_
    refine E_icmp (pcY := 110) (pcN := 99) X (ic_ne _ _) d12_96 (by decide) rfl rfl (fun hc96_0 => ?_) (fun hc96_0 => absurd (by decide) hc96_0)
    refine E_iloadN (pc' := 111) X d12_110 rfl rfl ?_
    refine E_iconst (v := (2 : Int32)) (pc' := 112) X d12_111 rfl rfl ?_
    refine E_icmp (pcY := 126) (pcN := 115) X (ic_ne _ _) d12_112 (by decide) rfl rfl (fun hc112_0 => absurd hc112_0 (by decide)) (fun hc112_0 => ?_)
    refine E_iloadN (pc' := 116) X d12_115 rfl rfl ?_
    refine E_iconst (v := (3 : Int32)) (pc' := 117) X d12_116 rfl rfl ?_
    refine E_icmp (pcY := 124) (pcN := 120) X (ic_gt _ _) d12_117 (by decide) rfl rfl (fun hc117_0 => ?_) (fun hc117_0 => ?_)
    · skip
      refine E_iconst (v := (5 : Int32)) (pc' := 125) X d12_124 rfl rfl ?_
      exact E_retI X d12_125 (by decide) (by decide) ⟨(by simp [ownE02, hc2_0, hc117_0]), rfl⟩
    · skip
      refine E_iconst (v := (2 : Int32)) (pc' := 121) X d12_120 rfl rfl ?_
      refine E_goto (pc' := 125) X d12_121 (by decide) rfl ?_
      exact E_retI X d12_125 (by decide) (by decide) ⟨(by simp [ownE02, hc2_0, hc117_0]), rfl⟩
  · skip
    refine E_iconst (v := (0 : Int32)) (pc' := 6) X d12_5 rfl rfl ?_
    exact E_retI X d12_6 (by decide) (by decide) ⟨(by simp [ownE02, hc2_0]), rfl⟩
theorem own_bb_0_3_0 (x : Int32) (q0 : ¬ (3 : Int32) < x) (q1 : (0 : Int32) < x) (q2 : (1 : Int32) < x) : ownE03 x = (2 : Int32) := by
  unfold ownE03
  simp only [Int32.lt_iff_toInt_lt] at *
  have e0 : (0 : Int32).toInt = 0 := rfl
  have e1 : (1 : Int32).toInt = 1 := rfl
  have e2 : (2 : Int32).toInt = 2 := rfl
  have e3 : (3 : Int32).toInt = 3 := rfl
  repeat' split
  all_goals first | rfl | (exfalso; omega)
theorem own_bb_0_3_1 (x : Int32) (q0 : ¬ (3 : Int32) < x) (q1 : (0 : Int32) < x) (q2 : ¬ (1 : Int32) < x) : ownE03 x = (0 : Int32) := by
  unfold ownE03
  simp only [Int32.lt_iff_toInt_lt] at *
  have e0 : (0 : Int32).toInt = 0 := rfl
  have e1 : (1 : Int32).toInt = 1 := rfl
  have e2 : (2 : Int32).toInt = 2 := rfl
  have e3 : (3 : Int32).toInt = 3 := rfl
  repeat' split
  all_goals first | rfl | (exfalso; omega)
theorem own_bb_0_3_2 (x : Int32) (q0 : ¬ (3 : Int32) < x) (q1 : ¬ (0 : Int32) < x) (q2 : (0 : Int32) < x) : ownE03 x = (0 : Int32) := by
  unfold ownE03
  simp only [Int32.lt_iff_toInt_lt] at *
  have e0 : (0 : Int32).toInt = 0 := rfl
  have e1 : (1 : Int32).toInt = 1 := rfl
  have e2 : (2 : Int32).toInt = 2 := rfl
  have e3 : (3 : Int32).toInt = 3 := rfl
  repeat' split
  all_goals first | rfl | (exfalso; omega)
theorem own_bb_0_3_3 (x : Int32) (q0 : ¬ (3 : Int32) < x) (q1 : ¬ (0 : Int32) < x) (q2 : ¬ (0 : Int32) < x) : ownE03 x = (0 : Int32) := by
  unfold ownE03
  simp only [Int32.lt_iff_toInt_lt] at *
  have e0 : (0 : Int32).toInt = 0 := rfl
  have e1 : (1 : Int32).toInt = 1 := rfl
  have e2 : (2 : Int32).toInt = 2 := rfl
  have e3 : (3 : Int32).toInt = 3 := rfl
  repeat' split
  all_goals first | rfl | (exfalso; omega)
theorem own_bb_0_3_4 (x : Int32) (q0 : (3 : Int32) < x) : ownE03 x = (6 : Int32) := by
  unfold ownE03
  simp only [Int32.lt_iff_toInt_lt] at *
  have e0 : (0 : Int32).toInt = 0 := rfl
  have e1 : (1 : Int32).toInt = 1 := rfl
  have e2 : (2 : Int32).toInt = 2 := rfl
  have e3 : (3 : Int32).toInt = 3 := rfl
  repeat' split
  all_goals first | rfl | (exfalso; omega)
theorem ef_rm_bb03 (m : MethodId) (x0 : Addr) (x1 : Int32) (x2 : Int32) : entryFrame m #[(.ref x0), (.int x1), (.int x2)] 6 = mkF m 0 #[.val (.ref x0), .val (.int x1), .val (.int x2), .unset, .unset, .unset] [] := by first | (simp [entryFrame, mkF, argsToLocals, Value.category]; done) | (simp [entryFrame, mkF, argsToLocals, *]; done) | rfl
set_option maxRecDepth 65536 in
set_option maxHeartbeats 2000000 in
theorem rm_bb03 (l : Launch) (Z : State) (a0 : Array Value) (hw : ∀ d ∈ tables_1, d.before a0 Z = true) (a : Addr) (x : Int32) (lf : Addr) (jp : Addr) (P : Addr) (B : Addr) (j0 : Addr) (j1 : Addr) (h0 : Heap) (hE : Ext Z.heap h0) (hF0 : Fld Z h0 a "com/example/nimble_calculus/nimblecalculus/equivalence/Splits" "leaf" "[I" (.ref lf)) (hF1 : Fld Z h0 a "com/example/nimble_calculus/nimblecalculus/equivalence/Splits" "jumps" "[[I" (.ref jp)) (hF2 : Fld Z h0 a "com/example/nimble_calculus/nimblecalculus/equivalence/Splits" "parent" "[I" (.ref P)) (hF3 : Fld Z h0 a "com/example/nimble_calculus/nimblecalculus/equivalence/Splits" "born" "[I" (.ref B)) (hA4 : Ar Z h0 P .int [(.int (0 : Int32)), (.int (0 : Int32)), (.int (0 : Int32)), (.int (1 : Int32)), (.int (1 : Int32)), (.int (2 : Int32)), (.int (2 : Int32))]) (hA5 : Ar Z h0 B .int [(.int (0 : Int32)), (.int (1 : Int32)), (.int (1 : Int32)), (.int (2 : Int32)), (.int (2 : Int32)), (.int (3 : Int32)), (.int (3 : Int32))]) (hA6 : Ar Z h0 lf .int [(.int (3 : Int32)), (.int (4 : Int32)), (.int (5 : Int32)), (.int (6 : Int32))]) (hA7 : Ar Z h0 jp (.array .int) [(.ref j0), (.ref j1)]) (hA8 : Ar Z h0 j0 .int [(.int (0 : Int32)), (.int (0 : Int32)), (.int (0 : Int32)), (.int (1 : Int32)), (.int (1 : Int32)), (.int (2 : Int32)), (.int (2 : Int32))]) (hA9 : Ar Z h0 j1 .int [(.int (0 : Int32)), (.int (0 : Int32)), (.int (0 : Int32)), (.int (0 : Int32)), (.int (0 : Int32)), (.int (0 : Int32)), (.int (0 : Int32))]) :
    Con l Z (⟨"com/example/nimble_calculus/nimblecalculus/equivalence/Splits", "blockBefore", "(II)I"⟩ : MethodName) prog_61_method_8_code 6 (some .int) ({ frames := 0, cells := 0, slots := 0, locals := 0 } : Room) #[(.ref a), (.int (3 : Int32)), (.int x)] h0 (fun vv hh => vv = some (.int (ownE03 x)) ∧ h0 = hh) := by
  refine Con.of (plainFor_of_name (by first | (simp [plainName, overriddenIn]; done) | decide +kernel)) hE ?_
  intro p e s m below T (X : Sd l Z "com/example/nimble_calculus/nimblecalculus/equivalence/Splits" "blockBefore" prog_61_method_8_code 6 (some .int) ({ frames := 0, cells := 0, slots := 0, locals := 0 } : Room) p e s m #[(.ref a), (.int (3 : Int32)), (.int x)] below T h0 0 0)
  refine End.frame (ef_rm_bb03 m a (3 : Int32) x) ?_
  show End Z p e below s _ _ _ _ (mkF m 0 #[.val (.ref a), .val (.int (3 : Int32)), .val (.int x), .unset, .unset, .unset] [])
  refine E_aloadN (v := (.ref a)) (pc' := 1) X d11_0 rfl rfl rfl ?_
  refine E_getF (pc' := 4) X (host := "") (Or.inl (w_52 hw)) Via.refl hF0 d11_1 rfl (fun T X => ?_)
  refine E_iloadN (pc' := 5) X d11_4 rfl rfl ?_
  refine E_iaload (v := (.int (6 : Int32))) (pc' := 6) X hA6 (by decide) rfl d11_5 rfl ?_
  refine E_istoreN (Ls' := #[.val (.ref a), .val (.int (3 : Int32)), .val (.int x), .val (.int (6 : Int32)), .unset, .unset]) (pc' := 7) X d11_6 rfl rfl ?_
  refine E_aloadN (v := (.ref a)) (pc' := 8) X d11_7 rfl rfl rfl ?_
  refine E_getF (pc' := 11) X (host := "") (Or.inl (w_24 hw)) Via.refl hF3 d11_8 rfl (fun T X => ?_)
  refine E_iloadN (pc' := 12) X d11_11 rfl rfl ?_
  refine E_iaload (v := (.int (3 : Int32))) (pc' := 13) X hA5 (by decide) rfl d11_12 rfl ?_
  refine E_iloadN (pc' := 14) X d11_13 rfl rfl ?_
  refine E_icmp (pcY := 19) (pcN := 17) X (ic_ge _ _) d11_14 (by decide) rfl rfl (fun hc14_0 => ?_) (fun hc14_0 => ?_)
  · skip
    refine E_aloadN (v := (.ref a)) (pc' := 20) X d11_19 rfl rfl rfl ?_
    refine E_getF (pc' := 23) X (host := "") (Or.inl (w_63 hw)) Via.refl hF1 d11_20 rfl (fun T X => ?_)
    refine E_alen (n := (2 : Int32)) (pc' := 24) X hA7 rfl d11_23 rfl ?_
    refine E_iconst (v := (1 : Int32)) (pc' := 25) X d11_24 rfl rfl ?_
    refine E_isub (pc' := 26) X d11_25 rfl ?_
    refine E_eqI (z := (1 : Int32)) (by decide) ?_
    refine E_istore (Ls' := #[.val (.ref a), .val (.int (3 : Int32)), .val (.int x), .val (.int (6 : Int32)), .val (.int (1 : Int32)), .unset]) (pc' := 28) X d11_26 rfl rfl ?_
    refine E_iload (pc' := 30) X d11_28 rfl rfl ?_
    refine E_if (pcY := 64) (pcN := 33) X (i0_lt _) d11_30 (by decide) rfl rfl (fun hc30_0 => absurd hc30_0 (by decide)) (fun hc30_0 => ?_)
    refine E_aloadN (v := (.ref a)) (pc' := 34) X d11_33 rfl rfl rfl ?_
    refine E_getF (pc' := 37) X (host := "") (Or.inl (w_63 hw)) Via.refl hF1 d11_34 rfl (fun T X => ?_)
    refine E_iload (pc' := 39) X d11_37 rfl rfl ?_
    refine E_aaload (v := (.ref j1)) (pc' := 40) X hA7 rfl (by decide) rfl d11_39 rfl ?_
    refine E_iloadN (pc' := 41) X d11_40 rfl rfl ?_
    refine E_iaload (v := (.int (0 : Int32))) (pc' := 42) X hA9 (by decide) rfl d11_41 rfl ?_
    refine E_istore (Ls' := #[.val (.ref a), .val (.int (3 : Int32)), .val (.int x), .val (.int (6 : Int32)), .val (.int (1 : Int32)), .val (.int (0 : Int32))]) (pc' := 44) X d11_42 rfl rfl ?_
    refine E_aloadN (v := (.ref a)) (pc' := 45) X d11_44 rfl rfl rfl ?_
    refine E_getF (pc' := 48) X (host := "") (Or.inl (w_24 hw)) Via.refl hF3 d11_45 rfl (fun T X => ?_)
    refine E_iload (pc' := 50) X d11_48 rfl rfl ?_
    refine E_iaload (v := (.int (0 : Int32))) (pc' := 51) X hA5 (by decide) rfl d11_50 rfl ?_
    refine E_iloadN (pc' := 52) X d11_51 rfl rfl ?_
    refine E_icmp (pcY := 58) (pcN := 55) X (ic_lt _ _) d11_52 (by decide) rfl rfl (fun hc52_0 => ?_) (fun hc52_0 => ?_)
    · skip
      refine E_iinc (x := (1 : Int32)) (z := (0 : Int32)) (Ls' := #[.val (.ref a), .val (.int (3 : Int32)), .val (.int x), .val (.int (6 : Int32)), .val (.int (0 : Int32)), .val (.int (0 : Int32))]) (pc' := 61) X d11_58 rfl rfl rfl rfl ?_
      refine E_goto (pc' := 28) X d11_61 (by decide) rfl ?_
      refine E_iload (pc' := 30) X d11_28 rfl rfl ?_
      refine E_if (pcY := 64) (pcN := 33) X (i0_lt _) d11_30 (by decide) rfl rfl (fun hc30_1 => absurd hc30_1 (by decide)) (fun hc30_1 => ?_)
      refine E_aloadN (v := (.ref a)) (pc' := 34) X d11_33 rfl rfl rfl ?_
      refine E_getF (pc' := 37) X (host := "") (Or.inl (w_63 hw)) Via.refl hF1 d11_34 rfl (fun T X => ?_)
      refine E_iload (pc' := 39) X d11_37 rfl rfl ?_
      refine E_aaload (v := (.ref j0)) (pc' := 40) X hA7 rfl (by decide) rfl d11_39 rfl ?_
      refine E_iloadN (pc' := 41) X d11_40 rfl rfl ?_
      refine E_iaload (v := (.int (2 : Int32))) (pc' := 42) X hA8 (by decide) rfl d11_41 rfl ?_
      refine E_istore (Ls' := #[.val (.ref a), .val (.int (3 : Int32)), .val (.int x), .val (.int (6 : Int32)), .val (.int (0 : Int32)), .val (.int (2 : Int32))]) (pc' := 44) X d11_42 rfl rfl ?_
      refine E_aloadN (v := (.ref a)) (pc' := 45) X d11_44 rfl rfl rfl ?_
      refine E_getF (pc' := 48) X (host := "") (Or.inl (w_24 hw)) Via.refl hF3 d11_45 rfl (fun T X => ?_)
      refine E_iload (pc' := 50) X d11_48 rfl rfl ?_
      refine E_iaload (v := (.int (1 : Int32))) (pc' := 51) X hA5 (by decide) rfl d11_50 rfl ?_
      refine E_iloadN (pc' := 52) X d11_51 rfl rfl ?_
      refine E_icmp (pcY := 58) (pcN := 55) X (ic_lt _ _) d11_52 (by decide) rfl rfl (fun hc52_1 => ?_) (fun hc52_1 => ?_)
      · skip
        refine E_iinc (x := (0 : Int32)) (z := (-1 : Int32)) (Ls' := #[.val (.ref a), .val (.int (3 : Int32)), .val (.int x), .val (.int (6 : Int32)), .val (.int (-1 : Int32)), .val (.int (2 : Int32))]) (pc' := 61) X d11_58 rfl rfl rfl rfl ?_
        refine E_goto (pc' := 28) X d11_61 (by decide) rfl ?_
        refine E_iload (pc' := 30) X d11_28 rfl rfl ?_
        refine E_if (pcY := 64) (pcN := 33) X (i0_lt _) d11_30 (by decide) rfl rfl (fun hc30_2 => ?_) (fun hc30_2 => absurd (by decide) hc30_2)
        refine E_aloadN (v := (.ref a)) (pc' := 65) X d11_64 rfl rfl rfl ?_
        refine E_getF (pc' := 68) X (host := "") (Or.inl (w_22 hw)) Via.refl hF2 d11_65 rfl (fun T X => ?_)
        refine E_iloadN (pc' := 69) X d11_68 rfl rfl ?_
        refine E_iaload (v := (.int (2 : Int32))) (pc' := 70) X hA4 (by decide) rfl d11_69 rfl ?_
        exact E_retI X d11_70 (by decide) (by decide) ⟨(congrArg (fun z => some (Value.int z)) (own_bb_0_3_0 x hc14_0 hc52_0 hc52_1).symm), rfl⟩
      · skip
        refine E_iload (pc' := 57) X d11_55 rfl rfl ?_
        refine E_istoreN (Ls' := #[.val (.ref a), .val (.int (3 : Int32)), .val (.int x), .val (.int (2 : Int32)), .val (.int (0 : Int32)), .val (.int (2 : Int32))]) (pc' := 58) X d11_57 rfl rfl ?_
        refine E_iinc (x := (0 : Int32)) (z := (-1 : Int32)) (Ls' := #[.val (.ref a), .val (.int (3 : Int32)), .val (.int x), .val (.int (2 : Int32)), .val (.int (-1 : Int32)), .val (.int (2 : Int32))]) (pc' := 61) X d11_58 rfl rfl rfl rfl ?_
        refine E_goto (pc' := 28) X d11_61 (by decide) rfl ?_
        refine E_iload (pc' := 30) X d11_28 rfl rfl ?_
        refine E_if (pcY := 64) (pcN := 33) X (i0_lt _) d11_30 (by decide) rfl rfl (fun hc30_2 => ?_) (fun hc30_2 => absurd (by decide) hc30_2)
        refine E_aloadN (v := (.ref a)) (pc' := 65) X d11_64 rfl rfl rfl ?_
        refine E_getF (pc' := 68) X (host := "") (Or.inl (w_22 hw)) Via.refl hF2 d11_65 rfl (fun T X => ?_)
        refine E_iloadN (pc' := 69) X d11_68 rfl rfl ?_
        refine E_iaload (v := (.int (0 : Int32))) (pc' := 70) X hA4 (by decide) rfl d11_69 rfl ?_
        exact E_retI X d11_70 (by decide) (by decide) ⟨(congrArg (fun z => some (Value.int z)) (own_bb_0_3_1 x hc14_0 hc52_0 hc52_1).symm), rfl⟩
    · skip
      refine E_iload (pc' := 57) X d11_55 rfl rfl ?_
      refine E_istoreN (Ls' := #[.val (.ref a), .val (.int (3 : Int32)), .val (.int x), .val (.int (0 : Int32)), .val (.int (1 : Int32)), .val (.int (0 : Int32))]) (pc' := 58) X d11_57 rfl rfl ?_
      refine E_iinc (x := (1 : Int32)) (z := (0 : Int32)) (Ls' := #[.val (.ref a), .val (.int (3 : Int32)), .val (.int x), .val (.int (0 : Int32)), .val (.int (0 : Int32)), .val (.int (0 : Int32))]) (pc' := 61) X d11_58 rfl rfl rfl rfl ?_
      refine E_goto (pc' := 28) X d11_61 (by decide) rfl ?_
      refine E_iload (pc' := 30) X d11_28 rfl rfl ?_
      refine E_if (pcY := 64) (pcN := 33) X (i0_lt _) d11_30 (by decide) rfl rfl (fun hc30_1 => absurd hc30_1 (by decide)) (fun hc30_1 => ?_)
      refine E_aloadN (v := (.ref a)) (pc' := 34) X d11_33 rfl rfl rfl ?_
      refine E_getF (pc' := 37) X (host := "") (Or.inl (w_63 hw)) Via.refl hF1 d11_34 rfl (fun T X => ?_)
      refine E_iload (pc' := 39) X d11_37 rfl rfl ?_
      refine E_aaload (v := (.ref j0)) (pc' := 40) X hA7 rfl (by decide) rfl d11_39 rfl ?_
      refine E_iloadN (pc' := 41) X d11_40 rfl rfl ?_
      refine E_iaload (v := (.int (0 : Int32))) (pc' := 42) X hA8 (by decide) rfl d11_41 rfl ?_
      refine E_istore (Ls' := #[.val (.ref a), .val (.int (3 : Int32)), .val (.int x), .val (.int (0 : Int32)), .val (.int (0 : Int32)), .val (.int (0 : Int32))]) (pc' := 44) X d11_42 rfl rfl ?_
      refine E_aloadN (v := (.ref a)) (pc' := 45) X d11_44 rfl rfl rfl ?_
      refine E_getF (pc' := 48) X (host := "") (Or.inl (w_24 hw)) Via.refl hF3 d11_45 rfl (fun T X => ?_)
      refine E_iload (pc' := 50) X d11_48 rfl rfl ?_
      refine E_iaload (v := (.int (0 : Int32))) (pc' := 51) X hA5 (by decide) rfl d11_50 rfl ?_
      refine E_iloadN (pc' := 52) X d11_51 rfl rfl ?_
      refine E_icmp (pcY := 58) (pcN := 55) X (ic_lt _ _) d11_52 (by decide) rfl rfl (fun hc52_1 => ?_) (fun hc52_1 => ?_)
      · skip
        refine E_iinc (x := (0 : Int32)) (z := (-1 : Int32)) (Ls' := #[.val (.ref a), .val (.int (3 : Int32)), .val (.int x), .val (.int (0 : Int32)), .val (.int (-1 : Int32)), .val (.int (0 : Int32))]) (pc' := 61) X d11_58 rfl rfl rfl rfl ?_
        refine E_goto (pc' := 28) X d11_61 (by decide) rfl ?_
        refine E_iload (pc' := 30) X d11_28 rfl rfl ?_
        refine E_if (pcY := 64) (pcN := 33) X (i0_lt _) d11_30 (by decide) rfl rfl (fun hc30_2 => ?_) (fun hc30_2 => absurd (by decide) hc30_2)
        refine E_aloadN (v := (.ref a)) (pc' := 65) X d11_64 rfl rfl rfl ?_
        refine E_getF (pc' := 68) X (host := "") (Or.inl (w_22 hw)) Via.refl hF2 d11_65 rfl (fun T X => ?_)
        refine E_iloadN (pc' := 69) X d11_68 rfl rfl ?_
        refine E_iaload (v := (.int (0 : Int32))) (pc' := 70) X hA4 (by decide) rfl d11_69 rfl ?_
        exact E_retI X d11_70 (by decide) (by decide) ⟨(congrArg (fun z => some (Value.int z)) (own_bb_0_3_2 x hc14_0 hc52_0 hc52_1).symm), rfl⟩
      · skip
        refine E_iload (pc' := 57) X d11_55 rfl rfl ?_
        refine E_istoreN (Ls' := #[.val (.ref a), .val (.int (3 : Int32)), .val (.int x), .val (.int (0 : Int32)), .val (.int (0 : Int32)), .val (.int (0 : Int32))]) (pc' := 58) X d11_57 rfl rfl ?_
        refine E_iinc (x := (0 : Int32)) (z := (-1 : Int32)) (Ls' := #[.val (.ref a), .val (.int (3 : Int32)), .val (.int x), .val (.int (0 : Int32)), .val (.int (-1 : Int32)), .val (.int (0 : Int32))]) (pc' := 61) X d11_58 rfl rfl rfl rfl ?_
        refine E_goto (pc' := 28) X d11_61 (by decide) rfl ?_
        refine E_iload (pc' := 30) X d11_28 rfl rfl ?_
        refine E_if (pcY := 64) (pcN := 33) X (i0_lt _) d11_30 (by decide) rfl rfl (fun hc30_2 => ?_) (fun hc30_2 => absurd (by decide) hc30_2)
        refine E_aloadN (v := (.ref a)) (pc' := 65) X d11_64 rfl rfl rfl ?_
        refine E_getF (pc' := 68) X (host := "") (Or.inl (w_22 hw)) Via.refl hF2 d11_65 rfl (fun T X => ?_)
        refine E_iloadN (pc' := 69) X d11_68 rfl rfl ?_
        refine E_iaload (v := (.int (0 : Int32))) (pc' := 70) X hA4 (by decide) rfl d11_69 rfl ?_
        exact E_retI X d11_70 (by decide) (by decide) ⟨(congrArg (fun z => some (Value.int z)) (own_bb_0_3_3 x hc14_0 hc52_0 hc52_1).symm), rfl⟩
  · skip
    replace hc14_0 := Decidable.not_not.mp hc14_0
    refine E_iloadN (pc' := 18) X d11_17 rfl rfl ?_
    exact E_retI X d11_18 (by decide) (by decide) ⟨(congrArg (fun z => some (Value.int z)) (own_bb_0_3_4 x hc14_0).symm), rfl⟩
theorem d12_126 : decode method_2_code 126 = .ok (.iload_n 2, 1) := by decide +kernel
theorem d12_127 : decode method_2_code 127 = .ok (.iconst 3, 1) := by decide +kernel
theorem d12_128 : decode method_2_code 128 = .ok (.if_icmp .gt 7, 3) := by decide +kernel
theorem d12_131 : decode method_2_code 131 = .ok (.iconst 2, 1) := by decide +kernel
theorem d12_132 : decode method_2_code 132 = .ok (.goto 5, 3) := by decide +kernel
theorem d12_135 : decode method_2_code 135 = .ok (.bipush 6, 2) := by decide +kernel
theorem d12_137 : decode method_2_code 137 = .ok (.ireturn, 1) := by decide +kernel
theorem ef_rm_ex03 (m : MethodId) (x0 : Int32) (x1 : Int32) (x2 : Int32) : entryFrame m #[(.int x0), (.int x1), (.int x2)] 3 = mkF m 0 #[.val (.int x0), .val (.int x1), .val (.int x2)] [] := by first | (simp [entryFrame, mkF, argsToLocals, Value.category]; done) | (simp [entryFrame, mkF, argsToLocals, *]; done) | rfl
set_option maxRecDepth 65536 in
set_option maxHeartbeats 2000000 in
theorem rm_ex03 (l : Launch) (Z : State) (a0 : Array Value) (hw : ∀ d ∈ tables_1, d.before a0 Z = true) (x : Int32) (h0 : Heap) (hE : Ext Z.heap h0) :
    Con l Z (⟨"com/example/nimble_calculus/nimblecalculus/equivalence/SplitsBlockBeforePinLaw", "expected", "(ZII)I"⟩ : MethodName) method_2_code 3 (some .int) ({ frames := 0, cells := 0, slots := 0, locals := 0 } : Room) #[(.int (0 : Int32)), (.int (3 : Int32)), (.int x)] h0 (fun vv hh => vv = some (.int (ownE03 x)) ∧ h0 = hh) := by
  refine Con.of (plainFor_of_name (by first | (simp [plainName, overriddenIn]; done) | decide +kernel)) hE ?_
  intro p e s m below T (X : Sd l Z "com/example/nimble_calculus/nimblecalculus/equivalence/SplitsBlockBeforePinLaw" "expected" method_2_code 3 (some .int) ({ frames := 0, cells := 0, slots := 0, locals := 0 } : Room) p e s m #[(.int (0 : Int32)), (.int (3 : Int32)), (.int x)] below T h0 0 0)
  refine End.frame (ef_rm_ex03 m (0 : Int32) (3 : Int32) x) ?_
  show End Z p e below s _ _ _ _ (mkF m 0 #[.val (.int (0 : Int32)), .val (.int (3 : Int32)), .val (.int x)] [])
  refine E_iloadN (pc' := 1) X d12_0 rfl rfl ?_
  refine E_iconst (v := (1 : Int32)) (pc' := 2) X d12_1 rfl rfl ?_
  refine E_icmp (pcY := 7) (pcN := 5) X (ic_gt _ _) d12_2 (by decide) rfl rfl (fun hc2_0 => ?_) (fun hc2_0 => ?_)
  · skip
    refine E_iloadN (pc' := 8) X d12_7 rfl rfl ?_
    refine E_if (pcY := 79) (pcN := 11) X (i0_eq _) d12_8 (by decide) rfl rfl (fun hc8_0 => ?_) (fun hc8_0 => absurd (by decide) hc8_0)
    refine E_iloadN (pc' := 80) X d12_79 rfl rfl ?_
    refine E_if (pcY := 94) (pcN := 83) X (i0_ne _) d12_80 (by decide) rfl rfl (fun hc80_0 => ?_) (fun hc80_0 => absurd (by decide) hc80_0)
    refine E_iloadN (pc' := 95) X d12_94 rfl rfl ?_
    refine E_iconst (v := (1 : Int32)) (pc' := 96) X d12_95 rfl rfl ?_
    refine E_icmp (pcY := 110) (pcN := 99) X (ic_ne _ _) d12_96 (by decide) rfl rfl (fun hc96_0 => ?_) (fun hc96_0 => absurd (by decide) hc96_0)
    refine E_iloadN (pc' := 111) X d12_110 rfl rfl ?_
    refine E_iconst (v := (2 : Int32)) (pc' := 112) X d12_111 rfl rfl ?_
    refine E_icmp (pcY := 126) (pcN := 115) X (ic_ne _ _) d12_112 (by decide) rfl rfl (fun hc112_0 => ?_) (fun hc112_0 => absurd (by decide) hc112_0)
    refine E_iloadN (pc' := 127) X d12_126 rfl rfl ?_
    refine E_iconst (v := (3 : Int32)) (pc' := 128) X d12_127 rfl rfl ?_
    refine E_icmp (pcY := 135) (pcN := 131) X (ic_gt _ _) d12_128 (by decide) rfl rfl (fun hc128_0 => ?_) (fun hc128_0 => ?_)
    · skip
      refine E_bipush (v := (6 : Int32)) (pc' := 137) X d12_135 rfl rfl ?_
      exact E_retI X d12_137 (by decide) (by decide) ⟨(by simp [ownE03, hc2_0, hc128_0]), rfl⟩
    · skip
      refine E_iconst (v := (2 : Int32)) (pc' := 132) X d12_131 rfl rfl ?_
      refine E_goto (pc' := 137) X d12_132 (by decide) rfl ?_
      exact E_retI X d12_137 (by decide) (by decide) ⟨(by simp [ownE03, hc2_0, hc128_0]), rfl⟩
  · skip
    refine E_iconst (v := (0 : Int32)) (pc' := 6) X d12_5 rfl rfl ?_
    exact E_retI X d12_6 (by decide) (by decide) ⟨(by simp [ownE03, hc2_0]), rfl⟩
theorem ef_rm_fin1 (m : MethodId) (x0 : Addr) (x1 : Addr) : entryFrame m #[(.ref x0), (.ref x1)] 8 = mkF m 0 #[.val (.ref x0), .val (.ref x1), .unset, .unset, .unset, .unset, .unset, .unset] [] := by first | (simp [entryFrame, mkF, argsToLocals, Value.category]; done) | (simp [entryFrame, mkF, argsToLocals, *]; done) | rfl
set_option maxRecDepth 65536 in
set_option maxHeartbeats 2000000 in
theorem rm_fin1 (l : Launch) (Z : State) (a0 : Array Value) (hw : ∀ d ∈ tables_1, d.before a0 Z = true) (a : Addr) (t : Addr) (P : Addr) (B : Addr) (RR : Addr) (NB : Addr) (h0 : Heap) (hE : Ext Z.heap h0) (hE0 : Exa Z h0 a "com/example/nimble_calculus/nimblecalculus/equivalence/Splits") (hF1 : Fld Z h0 a "com/example/nimble_calculus/nimblecalculus/equivalence/Splits" "nodeCount" "I" (.int (7 : Int32))) (hF2 : Fld Z h0 a "com/example/nimble_calculus/nimblecalculus/equivalence/Splits" "splitCount" "I" (.int (3 : Int32))) (hF3 : Fld Z h0 a "com/example/nimble_calculus/nimblecalculus/equivalence/Splits" "splitting" "I" (.int (3 : Int32))) (hF4 : Fld Z h0 a "com/example/nimble_calculus/nimblecalculus/equivalence/Splits" "parent" "[I" (.ref P)) (hF5 : Fld Z h0 a "com/example/nimble_calculus/nimblecalculus/equivalence/Splits" "born" "[I" (.ref B)) (hF6 : Fld Z h0 a "com/example/nimble_calculus/nimblecalculus/equivalence/Splits" "representative" "[I" (.ref RR)) (hF7 : Fld Z h0 a "com/example/nimble_calculus/nimblecalculus/equivalence/Splits" "nodeOfBlock" "[I" (.ref NB)) (hF8 : Fld Z h0 a "com/example/nimble_calculus/nimblecalculus/equivalence/Splits" "leaf" "[I" .null) (hF9 : Fld Z h0 a "com/example/nimble_calculus/nimblecalculus/equivalence/Splits" "height" "[I" .null) (hF10 : Fld Z h0 a "com/example/nimble_calculus/nimblecalculus/equivalence/Splits" "jumps" "[[I" .null) (hA11 : Ar Z h0 P .int [(.int (0 : Int32)), (.int (0 : Int32)), (.int (0 : Int32)), (.int (1 : Int32)), (.int (1 : Int32)), (.int (3 : Int32)), (.int (3 : Int32))]) (hE12 : Exa Z h0 P "[I") (hA13 : Ar Z h0 NB .int [(.int (5 : Int32)), (.int (2 : Int32)), (.int (4 : Int32)), (.int (6 : Int32))]) (hA14 : Ar Z h0 t .int [(.int (0 : Int32)), (.int (3 : Int32)), (.int (2 : Int32)), (.int (1 : Int32))]) (hfr15 : Z.heap.size ≤ a) :
    Con l Z (⟨"com/example/nimble_calculus/nimblecalculus/equivalence/Splits", "finish", "([I)V"⟩ : MethodName) prog_61_method_4_code 8 none ({ frames := 2, cells := 5, slots := 27, locals := 30 } : Room) #[(.ref a), (.ref t)] h0 (fun vv hh => ∃ lf : Addr, ∃ jp : Addr, ∃ j0 : Addr, ∃ j1 : Addr, vv = none ∧ Keep h0 hh [a] ∧ h0.size ≤ lf ∧ h0.size ≤ jp ∧ h0.size ≤ j0 ∧ h0.size ≤ j1 ∧ Exa Z hh a "com/example/nimble_calculus/nimblecalculus/equivalence/Splits" ∧ Fld Z hh a "com/example/nimble_calculus/nimblecalculus/equivalence/Splits" "leaf" "[I" (.ref lf) ∧ Fld Z hh a "com/example/nimble_calculus/nimblecalculus/equivalence/Splits" "jumps" "[[I" (.ref jp) ∧ Fld Z hh a "com/example/nimble_calculus/nimblecalculus/equivalence/Splits" "parent" "[I" (.ref P) ∧ Fld Z hh a "com/example/nimble_calculus/nimblecalculus/equivalence/Splits" "born" "[I" (.ref B) ∧ Ar Z hh lf .int [(.int (5 : Int32)), (.int (6 : Int32)), (.int (4 : Int32)), (.int (2 : Int32))] ∧ Ar Z hh jp (.array .int) [(.ref j0), (.ref j1)] ∧ Ar Z hh j0 .int [(.int (0 : Int32)), (.int (0 : Int32)), (.int (0 : Int32)), (.int (1 : Int32)), (.int (1 : Int32)), (.int (3 : Int32)), (.int (3 : Int32))] ∧ Ar Z hh j1 .int [(.int (0 : Int32)), (.int (0 : Int32)), (.int (0 : Int32)), (.int (0 : Int32)), (.int (0 : Int32)), (.int (1 : Int32)), (.int (1 : Int32))]) := by
  refine Con.of (plainFor_of_name (by first | (simp [plainName, overriddenIn]; done) | decide +kernel)) hE ?_
  intro p e s m below T (X : Sd l Z "com/example/nimble_calculus/nimblecalculus/equivalence/Splits" "finish" prog_61_method_4_code 8 none ({ frames := 2, cells := 5, slots := 27, locals := 30 } : Room) p e s m #[(.ref a), (.ref t)] below T h0 0 0)
  refine End.frame (ef_rm_fin1 m a t) ?_
  have K_0 : Keep h0 h0 [a] := Keep.refl _ _
  have ne_1 : NB ≠ a := Ne.symm (Ar.ne_exa hA13 hE0 (w_3 hw))
  have ne_2 : P ≠ a := ne_exa hE12 hE0 (by decide)
  have ne_3 : a ≠ t := Ar.ne_exa hA14 hE0 (w_3 hw)
  show End Z p e below s _ _ _ _ (mkF m 0 #[.val (.ref a), .val (.ref t), .unset, .unset, .unset, .unset, .unset, .unset] [])
  refine E_aloadN (v := (.ref a)) (pc' := 1) X d8_0 rfl rfl rfl ?_
  refine E_aloadN (v := (.ref t)) (pc' := 2) X d8_1 rfl rfl rfl ?_
  refine E_alen (n := (4 : Int32)) (pc' := 3) X hA14 rfl d8_2 rfl ?_
  have le_o4 := X.le
  refine E_newA (pc' := 5) X (aty := .int) (n := (4 : Int32)) (cap := 4) (vs := [(.int (0 : Int32)), (.int (0 : Int32)), (.int (0 : Int32)), (.int (0 : Int32))]) (cells' := 1) (slots' := 4) (w_1 hw) d8_3 rfl (by decide) (by decide) (by decide) rfl rfl rfl (by decide) (by decide) (fun T h_5 o4 g_8 X Ex_6 Aa_7 => ?_)
  have b_9 : h0.size ≤ o4 := by rw [g_8]; exact K_0.1
  have K_10 : Keep h0 h_5 [a] := K_0.ext Ex_6
  have fr_11 : Z.heap.size ≤ o4 := by rw [g_8]; exact le_o4
  have ne_12 : NB ≠ o4 := Nat.ne_of_lt (by rw [g_8]; exact hA13.lt)
  have ne_13 : P ≠ o4 := Nat.ne_of_lt (by rw [g_8]; exact hE12.lt)
  have ne_14 : a ≠ o4 := Nat.ne_of_lt (by rw [g_8]; exact hE0.lt)
  have ne_15 : t ≠ o4 := Nat.ne_of_lt (by rw [g_8]; exact hA14.lt)
  have F_16 : Fld Z h_5 a "com/example/nimble_calculus/nimblecalculus/equivalence/Splits" "leaf" "[I" .null := (hF8.ext Ex_6)
  have E_17 : Exa Z h_5 a "com/example/nimble_calculus/nimblecalculus/equivalence/Splits" := (hE0.ext Ex_6)
  refine E_putF (pc' := 8) X (host := "") (Or.inl (w_52 hw)) Via.refl F_16 E_17 (Or.inl (w_53 hw)) (w_3 hw) (ty := (.array .int)) (by decide) rfl rfl hfr15 d8_5 rfl (fun T h_19 X W_18 => ?_)
  have K_20 : Keep h0 h_19 [a] := K_10.wr W_18 (Or.inl (List.mem_of_getElem? (i := 0) rfl))
  refine E_iconst (v := (0 : Int32)) (pc' := 9) X d8_8 rfl rfl ?_
  refine E_istoreN (Ls' := #[.val (.ref a), .val (.ref t), .val (.int (0 : Int32)), .unset, .unset, .unset, .unset, .unset]) (pc' := 10) X d8_9 rfl rfl ?_
  refine E_iloadN (pc' := 11) X d8_10 rfl rfl ?_
  refine E_aloadN (v := (.ref t)) (pc' := 12) X d8_11 rfl rfl rfl ?_
  have A_21 : Ar Z h_19 t .int [(.int (0 : Int32)), (.int (3 : Int32)), (.int (2 : Int32)), (.int (1 : Int32))] := ((hA14.ext Ex_6).other W_18 (Ne.symm ne_3))
  refine E_alen (n := (4 : Int32)) (pc' := 13) X A_21 rfl d8_12 rfl ?_
  refine E_icmp (pcY := 36) (pcN := 16) X (ic_ge _ _) d8_13 (by decide) rfl rfl (fun hc13_0 => absurd hc13_0 (by decide)) (fun hc13_0 => ?_)
  refine E_aloadN (v := (.ref a)) (pc' := 17) X d8_16 rfl rfl rfl ?_
  have F_22 : Fld Z h_19 a "com/example/nimble_calculus/nimblecalculus/equivalence/Splits" "leaf" "[I" (.ref o4) := (F_16.same W_18)
  refine E_getF (pc' := 20) X (host := "") (Or.inl (w_52 hw)) Via.refl F_22 d8_17 rfl (fun T X => ?_)
  refine E_iloadN (pc' := 21) X d8_20 rfl rfl ?_
  refine E_aloadN (v := (.ref a)) (pc' := 22) X d8_21 rfl rfl rfl ?_
  have F_23 : Fld Z h_19 a "com/example/nimble_calculus/nimblecalculus/equivalence/Splits" "nodeOfBlock" "[I" (.ref NB) := ((hF7.ext Ex_6).other W_18 (Or.inr (slot_ne (Or.inr (w_32 hw)) (Or.inl (w_53 hw)) (by decide) (t := (.array .int)) (t' := (.array .int)) (by decide) (by decide))))
  refine E_getF (pc' := 25) X (host := "") (Or.inl (w_31 hw)) Via.refl F_23 d8_22 rfl (fun T X => ?_)
  refine E_aloadN (v := (.ref t)) (pc' := 26) X d8_25 rfl rfl rfl ?_
  refine E_iloadN (pc' := 27) X d8_26 rfl rfl ?_
  refine E_iaload (v := (.int (0 : Int32))) (pc' := 28) X A_21 (by decide) rfl d8_27 rfl ?_
  have A_24 : Ar Z h_19 NB .int [(.int (5 : Int32)), (.int (2 : Int32)), (.int (4 : Int32)), (.int (6 : Int32))] := ((hA13.ext Ex_6).other W_18 ne_1)
  refine E_iaload (v := (.int (5 : Int32))) (pc' := 29) X A_24 (by decide) rfl d8_28 rfl ?_
  have A_25 : Ar Z h_19 o4 .int [(.int (0 : Int32)), (.int (0 : Int32)), (.int (0 : Int32)), (.int (0 : Int32))] := (Aa_7.other W_18 (Ne.symm ne_14))
  refine E_iastore (vs' := [(.int (5 : Int32)), (.int (0 : Int32)), (.int (0 : Int32)), (.int (0 : Int32))]) (pc' := 30) X A_25 (by decide) (Nat.le_of_ble_eq_true rfl) rfl fr_11 d8_29 rfl (fun T h_27 X W_26 Aa_28 => ?_)
  have K_29 : Keep h0 h_27 [a] := K_20.wr W_26 (Or.inr b_9)
  refine E_iinc (x := (0 : Int32)) (z := (1 : Int32)) (Ls' := #[.val (.ref a), .val (.ref t), .val (.int (1 : Int32)), .unset, .unset, .unset, .unset, .unset]) (pc' := 33) X d8_30 rfl rfl rfl rfl ?_
  refine E_goto (pc' := 10) X d8_33 (by decide) rfl ?_
  refine E_iloadN (pc' := 11) X d8_10 rfl rfl ?_
  refine E_aloadN (v := (.ref t)) (pc' := 12) X d8_11 rfl rfl rfl ?_
  have A_30 : Ar Z h_27 t .int [(.int (0 : Int32)), (.int (3 : Int32)), (.int (2 : Int32)), (.int (1 : Int32))] := (A_21.other W_26 ne_15)
  refine E_alen (n := (4 : Int32)) (pc' := 13) X A_30 rfl d8_12 rfl ?_
  refine E_icmp (pcY := 36) (pcN := 16) X (ic_ge _ _) d8_13 (by decide) rfl rfl (fun hc13_1 => absurd hc13_1 (by decide)) (fun hc13_1 => ?_)
  refine E_aloadN (v := (.ref a)) (pc' := 17) X d8_16 rfl rfl rfl ?_
  have F_31 : Fld Z h_27 a "com/example/nimble_calculus/nimblecalculus/equivalence/Splits" "leaf" "[I" (.ref o4) := (F_22.other W_26 (Or.inl ne_14))
  refine E_getF (pc' := 20) X (host := "") (Or.inl (w_52 hw)) Via.refl F_31 d8_17 rfl (fun T X => ?_)
  refine E_iloadN (pc' := 21) X d8_20 rfl rfl ?_
  refine E_aloadN (v := (.ref a)) (pc' := 22) X d8_21 rfl rfl rfl ?_
  have F_32 : Fld Z h_27 a "com/example/nimble_calculus/nimblecalculus/equivalence/Splits" "nodeOfBlock" "[I" (.ref NB) := (F_23.other W_26 (Or.inl ne_14))
  refine E_getF (pc' := 25) X (host := "") (Or.inl (w_31 hw)) Via.refl F_32 d8_22 rfl (fun T X => ?_)
  refine E_aloadN (v := (.ref t)) (pc' := 26) X d8_25 rfl rfl rfl ?_
  refine E_iloadN (pc' := 27) X d8_26 rfl rfl ?_
  refine E_iaload (v := (.int (3 : Int32))) (pc' := 28) X A_30 (by decide) rfl d8_27 rfl ?_
  have A_33 : Ar Z h_27 NB .int [(.int (5 : Int32)), (.int (2 : Int32)), (.int (4 : Int32)), (.int (6 : Int32))] := (A_24.other W_26 ne_12)
  refine E_iaload (v := (.int (6 : Int32))) (pc' := 29) X A_33 (by decide) rfl d8_28 rfl ?_
  refine E_iastore (vs' := [(.int (5 : Int32)), (.int (6 : Int32)), (.int (0 : Int32)), (.int (0 : Int32))]) (pc' := 30) X Aa_28 (by decide) (Nat.le_of_ble_eq_true rfl) rfl fr_11 d8_29 rfl (fun T h_35 X W_34 Aa_36 => ?_)
  have K_37 : Keep h0 h_35 [a] := K_29.wr W_34 (Or.inr b_9)
  refine E_iinc (x := (1 : Int32)) (z := (2 : Int32)) (Ls' := #[.val (.ref a), .val (.ref t), .val (.int (2 : Int32)), .unset, .unset, .unset, .unset, .unset]) (pc' := 33) X d8_30 rfl rfl rfl rfl ?_
  refine E_goto (pc' := 10) X d8_33 (by decide) rfl ?_
  refine E_iloadN (pc' := 11) X d8_10 rfl rfl ?_
  refine E_aloadN (v := (.ref t)) (pc' := 12) X d8_11 rfl rfl rfl ?_
  have A_38 : Ar Z h_35 t .int [(.int (0 : Int32)), (.int (3 : Int32)), (.int (2 : Int32)), (.int (1 : Int32))] := (A_30.other W_34 ne_15)
  refine E_alen (n := (4 : Int32)) (pc' := 13) X A_38 rfl d8_12 rfl ?_
  refine E_icmp (pcY := 36) (pcN := 16) X (ic_ge _ _) d8_13 (by decide) rfl rfl (fun hc13_2 => absurd hc13_2 (by decide)) (fun hc13_2 => ?_)
  refine E_aloadN (v := (.ref a)) (pc' := 17) X d8_16 rfl rfl rfl ?_
  have F_39 : Fld Z h_35 a "com/example/nimble_calculus/nimblecalculus/equivalence/Splits" "leaf" "[I" (.ref o4) := (F_31.other W_34 (Or.inl ne_14))
  refine E_getF (pc' := 20) X (host := "") (Or.inl (w_52 hw)) Via.refl F_39 d8_17 rfl (fun T X => ?_)
  refine E_iloadN (pc' := 21) X d8_20 rfl rfl ?_
  refine E_aloadN (v := (.ref a)) (pc' := 22) X d8_21 rfl rfl rfl ?_
  have F_40 : Fld Z h_35 a "com/example/nimble_calculus/nimblecalculus/equivalence/Splits" "nodeOfBlock" "[I" (.ref NB) := (F_32.other W_34 (Or.inl ne_14))
  refine E_getF (pc' := 25) X (host := "") (Or.inl (w_31 hw)) Via.refl F_40 d8_22 rfl (fun T X => ?_)
  refine E_aloadN (v := (.ref t)) (pc' := 26) X d8_25 rfl rfl rfl ?_
  refine E_iloadN (pc' := 27) X d8_26 rfl rfl ?_
  refine E_iaload (v := (.int (2 : Int32))) (pc' := 28) X A_38 (by decide) rfl d8_27 rfl ?_
  have A_41 : Ar Z h_35 NB .int [(.int (5 : Int32)), (.int (2 : Int32)), (.int (4 : Int32)), (.int (6 : Int32))] := (A_33.other W_34 ne_12)
  refine E_iaload (v := (.int (4 : Int32))) (pc' := 29) X A_41 (by decide) rfl d8_28 rfl ?_
  refine E_iastore (vs' := [(.int (5 : Int32)), (.int (6 : Int32)), (.int (4 : Int32)), (.int (0 : Int32))]) (pc' := 30) X Aa_36 (by decide) (Nat.le_of_ble_eq_true rfl) rfl fr_11 d8_29 rfl (fun T h_43 X W_42 Aa_44 => ?_)
  have K_45 : Keep h0 h_43 [a] := K_37.wr W_42 (Or.inr b_9)
  refine E_iinc (x := (2 : Int32)) (z := (3 : Int32)) (Ls' := #[.val (.ref a), .val (.ref t), .val (.int (3 : Int32)), .unset, .unset, .unset, .unset, .unset]) (pc' := 33) X d8_30 rfl rfl rfl rfl ?_
  refine E_goto (pc' := 10) X d8_33 (by decide) rfl ?_
  refine E_iloadN (pc' := 11) X d8_10 rfl rfl ?_
  refine E_aloadN (v := (.ref t)) (pc' := 12) X d8_11 rfl rfl rfl ?_
  have A_46 : Ar Z h_43 t .int [(.int (0 : Int32)), (.int (3 : Int32)), (.int (2 : Int32)), (.int (1 : Int32))] := (A_38.other W_42 ne_15)
  refine E_alen (n := (4 : Int32)) (pc' := 13) X A_46 rfl d8_12 rfl ?_
  refine E_icmp (pcY := 36) (pcN := 16) X (ic_ge _ _) d8_13 (by decide) rfl rfl (fun hc13_3 => absurd hc13_3 (by decide)) (fun hc13_3 => ?_)
  refine E_aloadN (v := (.ref a)) (pc' := 17) X d8_16 rfl rfl rfl ?_
  have F_47 : Fld Z h_43 a "com/example/nimble_calculus/nimblecalculus/equivalence/Splits" "leaf" "[I" (.ref o4) := (F_39.other W_42 (Or.inl ne_14))
  refine E_getF (pc' := 20) X (host := "") (Or.inl (w_52 hw)) Via.refl F_47 d8_17 rfl (fun T X => ?_)
  refine E_iloadN (pc' := 21) X d8_20 rfl rfl ?_
  refine E_aloadN (v := (.ref a)) (pc' := 22) X d8_21 rfl rfl rfl ?_
  have F_48 : Fld Z h_43 a "com/example/nimble_calculus/nimblecalculus/equivalence/Splits" "nodeOfBlock" "[I" (.ref NB) := (F_40.other W_42 (Or.inl ne_14))
  refine E_getF (pc' := 25) X (host := "") (Or.inl (w_31 hw)) Via.refl F_48 d8_22 rfl (fun T X => ?_)
  refine E_aloadN (v := (.ref t)) (pc' := 26) X d8_25 rfl rfl rfl ?_
  refine E_iloadN (pc' := 27) X d8_26 rfl rfl ?_
  refine E_iaload (v := (.int (1 : Int32))) (pc' := 28) X A_46 (by decide) rfl d8_27 rfl ?_
  have A_49 : Ar Z h_43 NB .int [(.int (5 : Int32)), (.int (2 : Int32)), (.int (4 : Int32)), (.int (6 : Int32))] := (A_41.other W_42 ne_12)
  refine E_iaload (v := (.int (2 : Int32))) (pc' := 29) X A_49 (by decide) rfl d8_28 rfl ?_
  refine E_iastore (vs' := [(.int (5 : Int32)), (.int (6 : Int32)), (.int (4 : Int32)), (.int (2 : Int32))]) (pc' := 30) X Aa_44 (by decide) (Nat.le_of_ble_eq_true rfl) rfl fr_11 d8_29 rfl (fun T h_51 X W_50 Aa_52 => ?_)
  have K_53 : Keep h0 h_51 [a] := K_45.wr W_50 (Or.inr b_9)
  refine E_iinc (x := (3 : Int32)) (z := (4 : Int32)) (Ls' := #[.val (.ref a), .val (.ref t), .val (.int (4 : Int32)), .unset, .unset, .unset, .unset, .unset]) (pc' := 33) X d8_30 rfl rfl rfl rfl ?_
  refine E_goto (pc' := 10) X d8_33 (by decide) rfl ?_
  refine E_iloadN (pc' := 11) X d8_10 rfl rfl ?_
  refine E_aloadN (v := (.ref t)) (pc' := 12) X d8_11 rfl rfl rfl ?_
  have A_54 : Ar Z h_51 t .int [(.int (0 : Int32)), (.int (3 : Int32)), (.int (2 : Int32)), (.int (1 : Int32))] := (A_46.other W_50 ne_15)
  refine E_alen (n := (4 : Int32)) (pc' := 13) X A_54 rfl d8_12 rfl ?_
  refine E_icmp (pcY := 36) (pcN := 16) X (ic_ge _ _) d8_13 (by decide) rfl rfl (fun hc13_4 => ?_) (fun hc13_4 => absurd (by decide) hc13_4)
  refine E_aloadN (v := (.ref a)) (pc' := 37) X d8_36 rfl rfl rfl ?_
  refine E_aloadN (v := (.ref a)) (pc' := 38) X d8_37 rfl rfl rfl ?_
  have F_55 : Fld Z h_51 a "com/example/nimble_calculus/nimblecalculus/equivalence/Splits" "nodeCount" "I" (.int (7 : Int32)) := ((((((hF1.ext Ex_6).other W_18 (Or.inr (slot_ne (Or.inl (w_12 hw)) (Or.inl (w_53 hw)) (by decide) (t := .int) (t' := (.array .int)) (by decide) (by decide)))).other W_26 (Or.inl ne_14)).other W_34 (Or.inl ne_14)).other W_42 (Or.inl ne_14)).other W_50 (Or.inl ne_14))
  refine E_getF (pc' := 41) X (host := "") (Or.inl (w_11 hw)) Via.refl F_55 d8_38 rfl (fun T X => ?_)
  have A_61 : Ar Z h_51 NB .int [(.int (5 : Int32)), (.int (2 : Int32)), (.int (4 : Int32)), (.int (6 : Int32))] := (A_49.other W_50 ne_12)
  have E_62 : Exa Z h_51 P "[I" := ((((((hE12.ext Ex_6).wr W_18).wr W_26).wr W_34).wr W_42).wr W_50)
  have E_63 : Exa Z h_51 a "com/example/nimble_calculus/nimblecalculus/equivalence/Splits" := (((((E_17.wr W_18).wr W_26).wr W_34).wr W_42).wr W_50)
  have le_o56 := X.le
  refine E_newA (pc' := 43) X (aty := .int) (n := (7 : Int32)) (cap := 7) (vs := [(.int (0 : Int32)), (.int (0 : Int32)), (.int (0 : Int32)), (.int (0 : Int32)), (.int (0 : Int32)), (.int (0 : Int32)), (.int (0 : Int32))]) (cells' := 2) (slots' := 11) (w_1 hw) d8_41 rfl (by decide) (by decide) (by decide) rfl rfl rfl (by decide) (by decide) (fun T h_57 o56 g_60 X Ex_58 Aa_59 => ?_)
  have b_64 : h0.size ≤ o56 := by rw [g_60]; exact K_53.1
  have K_65 : Keep h0 h_57 [a] := K_53.ext Ex_58
  have fr_66 : Z.heap.size ≤ o56 := by rw [g_60]; exact le_o56
  have ne_67 : NB ≠ o56 := Nat.ne_of_lt (by rw [g_60]; exact A_61.lt)
  have ne_68 : P ≠ o56 := Nat.ne_of_lt (by rw [g_60]; exact E_62.lt)
  have ne_69 : a ≠ o56 := Nat.ne_of_lt (by rw [g_60]; exact E_63.lt)
  have ne_70 : o4 ≠ o56 := Nat.ne_of_lt (by rw [g_60]; exact Aa_52.lt)
  have ne_71 : t ≠ o56 := Nat.ne_of_lt (by rw [g_60]; exact A_54.lt)
  have F_72 : Fld Z h_57 a "com/example/nimble_calculus/nimblecalculus/equivalence/Splits" "height" "[I" .null := (((((((hF9.ext Ex_6).other W_18 (Or.inr (slot_ne (Or.inl (w_55 hw)) (Or.inl (w_53 hw)) (by decide) (t := (.array .int)) (t' := (.array .int)) (by decide) (by decide)))).other W_26 (Or.inl ne_14)).other W_34 (Or.inl ne_14)).other W_42 (Or.inl ne_14)).other W_50 (Or.inl ne_14)).ext Ex_58)
  have E_73 : Exa Z h_57 a "com/example/nimble_calculus/nimblecalculus/equivalence/Splits" := (E_63.ext Ex_58)
  refine E_putF (pc' := 46) X (host := "") (Or.inl (w_54 hw)) Via.refl F_72 E_73 (Or.inl (w_55 hw)) (w_3 hw) (ty := (.array .int)) (by decide) rfl rfl hfr15 d8_43 rfl (fun T h_75 X W_74 => ?_)
  have K_76 : Keep h0 h_75 [a] := K_65.wr W_74 (Or.inl (List.mem_of_getElem? (i := 0) rfl))
  refine E_iconst (v := (0 : Int32)) (pc' := 47) X d8_46 rfl rfl ?_
  refine E_istoreN (Ls' := #[.val (.ref a), .val (.ref t), .val (.int (0 : Int32)), .unset, .unset, .unset, .unset, .unset]) (pc' := 48) X d8_47 rfl rfl ?_
  refine E_iconst (v := (1 : Int32)) (pc' := 49) X d8_48 rfl rfl ?_
  refine E_istoreN (Ls' := #[.val (.ref a), .val (.ref t), .val (.int (0 : Int32)), .val (.int (1 : Int32)), .unset, .unset, .unset, .unset]) (pc' := 50) X d8_49 rfl rfl ?_
  refine E_iloadN (pc' := 51) X d8_50 rfl rfl ?_
  refine E_aloadN (v := (.ref a)) (pc' := 52) X d8_51 rfl rfl rfl ?_
  have F_77 : Fld Z h_75 a "com/example/nimble_calculus/nimblecalculus/equivalence/Splits" "nodeCount" "I" (.int (7 : Int32)) := ((F_55.ext Ex_58).other W_74 (Or.inr (slot_ne (Or.inl (w_12 hw)) (Or.inl (w_55 hw)) (by decide) (t := .int) (t' := (.array .int)) (by decide) (by decide))))
  refine E_getF (pc' := 55) X (host := "") (Or.inl (w_11 hw)) Via.refl F_77 d8_52 rfl (fun T X => ?_)
  refine E_icmp (pcY := 94) (pcN := 58) X (ic_ge _ _) d8_55 (by decide) rfl rfl (fun hc55_0 => absurd hc55_0 (by decide)) (fun hc55_0 => ?_)
  refine E_aloadN (v := (.ref a)) (pc' := 59) X d8_58 rfl rfl rfl ?_
  have F_78 : Fld Z h_75 a "com/example/nimble_calculus/nimblecalculus/equivalence/Splits" "height" "[I" (.ref o56) := (F_72.same W_74)
  refine E_getF (pc' := 62) X (host := "") (Or.inl (w_54 hw)) Via.refl F_78 d8_59 rfl (fun T X => ?_)
  refine E_iloadN (pc' := 63) X d8_62 rfl rfl ?_
  refine E_aloadN (v := (.ref a)) (pc' := 64) X d8_63 rfl rfl rfl ?_
  refine E_getF (pc' := 67) X (host := "") (Or.inl (w_54 hw)) Via.refl F_78 d8_64 rfl (fun T X => ?_)
  refine E_aloadN (v := (.ref a)) (pc' := 68) X d8_67 rfl rfl rfl ?_
  have F_79 : Fld Z h_75 a "com/example/nimble_calculus/nimblecalculus/equivalence/Splits" "parent" "[I" (.ref P) := ((((((((hF4.ext Ex_6).other W_18 (Or.inr (slot_ne (Or.inr (w_23 hw)) (Or.inl (w_53 hw)) (by decide) (t := (.array .int)) (t' := (.array .int)) (by decide) (by decide)))).other W_26 (Or.inl ne_14)).other W_34 (Or.inl ne_14)).other W_42 (Or.inl ne_14)).other W_50 (Or.inl ne_14)).ext Ex_58).other W_74 (Or.inr (slot_ne (Or.inr (w_23 hw)) (Or.inl (w_55 hw)) (by decide) (t := (.array .int)) (t' := (.array .int)) (by decide) (by decide))))
  refine E_getF (pc' := 71) X (host := "") (Or.inl (w_22 hw)) Via.refl F_79 d8_68 rfl (fun T X => ?_)
  refine E_iloadN (pc' := 72) X d8_71 rfl rfl ?_
  have A_80 : Ar Z h_75 P .int [(.int (0 : Int32)), (.int (0 : Int32)), (.int (0 : Int32)), (.int (1 : Int32)), (.int (1 : Int32)), (.int (3 : Int32)), (.int (3 : Int32))] := ((((((((hA11.ext Ex_6).other W_18 ne_2).other W_26 ne_13).other W_34 ne_13).other W_42 ne_13).other W_50 ne_13).ext Ex_58).other W_74 ne_2)
  refine E_iaload (v := (.int (0 : Int32))) (pc' := 73) X A_80 (by decide) rfl d8_72 rfl ?_
  have A_81 : Ar Z h_75 o56 .int [(.int (0 : Int32)), (.int (0 : Int32)), (.int (0 : Int32)), (.int (0 : Int32)), (.int (0 : Int32)), (.int (0 : Int32)), (.int (0 : Int32))] := (Aa_59.other W_74 (Ne.symm ne_69))
  refine E_iaload (v := (.int (0 : Int32))) (pc' := 74) X A_81 (by decide) rfl d8_73 rfl ?_
  refine E_iconst (v := (1 : Int32)) (pc' := 75) X d8_74 rfl rfl ?_
  refine E_iadd (pc' := 76) X d8_75 rfl ?_
  refine E_eqI (z := (1 : Int32)) (by decide) ?_
  refine E_iastore (vs' := [(.int (0 : Int32)), (.int (1 : Int32)), (.int (0 : Int32)), (.int (0 : Int32)), (.int (0 : Int32)), (.int (0 : Int32)), (.int (0 : Int32))]) (pc' := 77) X A_81 (by decide) (Nat.le_of_ble_eq_true rfl) rfl fr_66 d8_76 rfl (fun T h_83 X W_82 Aa_84 => ?_)
  have K_85 : Keep h0 h_83 [a] := K_76.wr W_82 (Or.inr b_64)
  refine E_iloadN (pc' := 78) X d8_77 rfl rfl ?_
  refine E_aloadN (v := (.ref a)) (pc' := 79) X d8_78 rfl rfl rfl ?_
  have F_86 : Fld Z h_83 a "com/example/nimble_calculus/nimblecalculus/equivalence/Splits" "height" "[I" (.ref o56) := (F_78.other W_82 (Or.inl ne_69))
  refine E_getF (pc' := 82) X (host := "") (Or.inl (w_54 hw)) Via.refl F_86 d8_79 rfl (fun T X => ?_)
  refine E_iloadN (pc' := 83) X d8_82 rfl rfl ?_
  refine E_iaload (v := (.int (1 : Int32))) (pc' := 84) X Aa_84 (by decide) rfl d8_83 rfl ?_
  refine E_callS (pc' := 87) (W := 0) (cells' := 2) (slots' := 11) (argsL := [(.int (0 : Int32)), (.int (1 : Int32))]) (rest := []) X (rm5 l Z a0 hw (0 : Int32) (1 : Int32) (1 : Int32) h_83 X.ext (by decide)) (w_28 hw) (w_29 hw) (w_17 hw) (w_30 hw) (by decide) rfl rfl pd_1 rfl rfl d8_84 rfl (Nat.le_refl _) (by decide) (by decide) rfl rfl (by decide) (by decide) (fun v87 T h_88 X hQ89 => ?_)
  obtain ⟨rfl, rfl⟩ := hQ89
  show End Z p e below s _ _ _ _ (mkF m 87 #[.val (.ref a), .val (.ref t), .val (.int (0 : Int32)), .val (.int (1 : Int32)), .unset, .unset, .unset, .unset] [(.int (1 : Int32))])
  refine E_istoreN (Ls' := #[.val (.ref a), .val (.ref t), .val (.int (1 : Int32)), .val (.int (1 : Int32)), .unset, .unset, .unset, .unset]) (pc' := 88) X d8_87 rfl rfl ?_
  refine E_iinc (x := (1 : Int32)) (z := (2 : Int32)) (Ls' := #[.val (.ref a), .val (.ref t), .val (.int (1 : Int32)), .val (.int (2 : Int32)), .unset, .unset, .unset, .unset]) (pc' := 91) X d8_88 rfl rfl rfl rfl ?_
  refine E_goto (pc' := 50) X d8_91 (by decide) rfl ?_
  refine E_iloadN (pc' := 51) X d8_50 rfl rfl ?_
  refine E_aloadN (v := (.ref a)) (pc' := 52) X d8_51 rfl rfl rfl ?_
  have F_91 : Fld Z h_83 a "com/example/nimble_calculus/nimblecalculus/equivalence/Splits" "nodeCount" "I" (.int (7 : Int32)) := (F_77.other W_82 (Or.inl ne_69))
  refine E_getF (pc' := 55) X (host := "") (Or.inl (w_11 hw)) Via.refl F_91 d8_52 rfl (fun T X => ?_)
  refine E_icmp (pcY := 94) (pcN := 58) X (ic_ge _ _) d8_55 (by decide) rfl rfl (fun hc55_1 => absurd hc55_1 (by decide)) (fun hc55_1 => ?_)
  refine E_aloadN (v := (.ref a)) (pc' := 59) X d8_58 rfl rfl rfl ?_
  refine E_getF (pc' := 62) X (host := "") (Or.inl (w_54 hw)) Via.refl F_86 d8_59 rfl (fun T X => ?_)
  refine E_iloadN (pc' := 63) X d8_62 rfl rfl ?_
  refine E_aloadN (v := (.ref a)) (pc' := 64) X d8_63 rfl rfl rfl ?_
  refine E_getF (pc' := 67) X (host := "") (Or.inl (w_54 hw)) Via.refl F_86 d8_64 rfl (fun T X => ?_)
  refine E_aloadN (v := (.ref a)) (pc' := 68) X d8_67 rfl rfl rfl ?_
  have F_92 : Fld Z h_83 a "com/example/nimble_calculus/nimblecalculus/equivalence/Splits" "parent" "[I" (.ref P) := (F_79.other W_82 (Or.inl ne_69))
  refine E_getF (pc' := 71) X (host := "") (Or.inl (w_22 hw)) Via.refl F_92 d8_68 rfl (fun T X => ?_)
  refine E_iloadN (pc' := 72) X d8_71 rfl rfl ?_
  have A_93 : Ar Z h_83 P .int [(.int (0 : Int32)), (.int (0 : Int32)), (.int (0 : Int32)), (.int (1 : Int32)), (.int (1 : Int32)), (.int (3 : Int32)), (.int (3 : Int32))] := (A_80.other W_82 ne_68)
  refine E_iaload (v := (.int (0 : Int32))) (pc' := 73) X A_93 (by decide) rfl d8_72 rfl ?_
  refine E_iaload (v := (.int (0 : Int32))) (pc' := 74) X Aa_84 (by decide) rfl d8_73 rfl ?_
  refine E_iconst (v := (1 : Int32)) (pc' := 75) X d8_74 rfl rfl ?_
  refine E_iadd (pc' := 76) X d8_75 rfl ?_
  refine E_eqI (z := (1 : Int32)) (by decide) ?_
  refine E_iastore (vs' := [(.int (0 : Int32)), (.int (1 : Int32)), (.int (1 : Int32)), (.int (0 : Int32)), (.int (0 : Int32)), (.int (0 : Int32)), (.int (0 : Int32))]) (pc' := 77) X Aa_84 (by decide) (Nat.le_of_ble_eq_true rfl) rfl fr_66 d8_76 rfl (fun T h_95 X W_94 Aa_96 => ?_)
  have K_97 : Keep h0 h_95 [a] := K_85.wr W_94 (Or.inr b_64)
  refine E_iloadN (pc' := 78) X d8_77 rfl rfl ?_
  refine E_aloadN (v := (.ref a)) (pc' := 79) X d8_78 rfl rfl rfl ?_
  have F_98 : Fld Z h_95 a "com/example/nimble_calculus/nimblecalculus/equivalence/Splits" "height" "[I" (.ref o56) := (F_86.other W_94 (Or.inl ne_69))
  refine E_getF (pc' := 82) X (host := "") (Or.inl (w_54 hw)) Via.refl F_98 d8_79 rfl (fun T X => ?_)
  refine E_iloadN (pc' := 83) X d8_82 rfl rfl ?_
  refine E_iaload (v := (.int (1 : Int32))) (pc' := 84) X Aa_96 (by decide) rfl d8_83 rfl ?_
  refine E_callS (pc' := 87) (W := 0) (cells' := 2) (slots' := 11) (argsL := [(.int (1 : Int32)), (.int (1 : Int32))]) (rest := []) X (rm5 l Z a0 hw (1 : Int32) (1 : Int32) (1 : Int32) h_95 X.ext (by decide)) (w_28 hw) (w_29 hw) (w_17 hw) (w_30 hw) (by decide) rfl rfl pd_1 rfl rfl d8_84 rfl (Nat.le_refl _) (by decide) (by decide) rfl rfl (by decide) (by decide) (fun v99 T h_100 X hQ101 => ?_)
  obtain ⟨rfl, rfl⟩ := hQ101
  show End Z p e below s _ _ _ _ (mkF m 87 #[.val (.ref a), .val (.ref t), .val (.int (1 : Int32)), .val (.int (2 : Int32)), .unset, .unset, .unset, .unset] [(.int (1 : Int32))])
  refine E_istoreN (Ls' := #[.val (.ref a), .val (.ref t), .val (.int (1 : Int32)), .val (.int (2 : Int32)), .unset, .unset, .unset, .unset]) (pc' := 88) X d8_87 rfl rfl ?_
  refine E_iinc (x := (2 : Int32)) (z := (3 : Int32)) (Ls' := #[.val (.ref a), .val (.ref t), .val (.int (1 : Int32)), .val (.int (3 : Int32)), .unset, .unset, .unset, .unset]) (pc' := 91) X d8_88 rfl rfl rfl rfl ?_
  refine E_goto (pc' := 50) X d8_91 (by decide) rfl ?_
  refine E_iloadN (pc' := 51) X d8_50 rfl rfl ?_
  refine E_aloadN (v := (.ref a)) (pc' := 52) X d8_51 rfl rfl rfl ?_
  have F_103 : Fld Z h_95 a "com/example/nimble_calculus/nimblecalculus/equivalence/Splits" "nodeCount" "I" (.int (7 : Int32)) := (F_91.other W_94 (Or.inl ne_69))
  refine E_getF (pc' := 55) X (host := "") (Or.inl (w_11 hw)) Via.refl F_103 d8_52 rfl (fun T X => ?_)
  refine E_icmp (pcY := 94) (pcN := 58) X (ic_ge _ _) d8_55 (by decide) rfl rfl (fun hc55_2 => absurd hc55_2 (by decide)) (fun hc55_2 => ?_)
  refine E_aloadN (v := (.ref a)) (pc' := 59) X d8_58 rfl rfl rfl ?_
  refine E_getF (pc' := 62) X (host := "") (Or.inl (w_54 hw)) Via.refl F_98 d8_59 rfl (fun T X => ?_)
  refine E_iloadN (pc' := 63) X d8_62 rfl rfl ?_
  refine E_aloadN (v := (.ref a)) (pc' := 64) X d8_63 rfl rfl rfl ?_
  refine E_getF (pc' := 67) X (host := "") (Or.inl (w_54 hw)) Via.refl F_98 d8_64 rfl (fun T X => ?_)
  refine E_aloadN (v := (.ref a)) (pc' := 68) X d8_67 rfl rfl rfl ?_
  have F_104 : Fld Z h_95 a "com/example/nimble_calculus/nimblecalculus/equivalence/Splits" "parent" "[I" (.ref P) := (F_92.other W_94 (Or.inl ne_69))
  refine E_getF (pc' := 71) X (host := "") (Or.inl (w_22 hw)) Via.refl F_104 d8_68 rfl (fun T X => ?_)
  refine E_iloadN (pc' := 72) X d8_71 rfl rfl ?_
  have A_105 : Ar Z h_95 P .int [(.int (0 : Int32)), (.int (0 : Int32)), (.int (0 : Int32)), (.int (1 : Int32)), (.int (1 : Int32)), (.int (3 : Int32)), (.int (3 : Int32))] := (A_93.other W_94 ne_68)
  refine E_iaload (v := (.int (1 : Int32))) (pc' := 73) X A_105 (by decide) rfl d8_72 rfl ?_
  refine E_iaload (v := (.int (1 : Int32))) (pc' := 74) X Aa_96 (by decide) rfl d8_73 rfl ?_
  refine E_iconst (v := (1 : Int32)) (pc' := 75) X d8_74 rfl rfl ?_
  refine E_iadd (pc' := 76) X d8_75 rfl ?_
  refine E_eqI (z := (2 : Int32)) (by decide) ?_
  refine E_iastore (vs' := [(.int (0 : Int32)), (.int (1 : Int32)), (.int (1 : Int32)), (.int (2 : Int32)), (.int (0 : Int32)), (.int (0 : Int32)), (.int (0 : Int32))]) (pc' := 77) X Aa_96 (by decide) (Nat.le_of_ble_eq_true rfl) rfl fr_66 d8_76 rfl (fun T h_107 X W_106 Aa_108 => ?_)
  have K_109 : Keep h0 h_107 [a] := K_97.wr W_106 (Or.inr b_64)
  refine E_iloadN (pc' := 78) X d8_77 rfl rfl ?_
  refine E_aloadN (v := (.ref a)) (pc' := 79) X d8_78 rfl rfl rfl ?_
  have F_110 : Fld Z h_107 a "com/example/nimble_calculus/nimblecalculus/equivalence/Splits" "height" "[I" (.ref o56) := (F_98.other W_106 (Or.inl ne_69))
  refine E_getF (pc' := 82) X (host := "") (Or.inl (w_54 hw)) Via.refl F_110 d8_79 rfl (fun T X => ?_)
  refine E_iloadN (pc' := 83) X d8_82 rfl rfl ?_
  refine E_iaload (v := (.int (2 : Int32))) (pc' := 84) X Aa_108 (by decide) rfl d8_83 rfl ?_
  refine E_callS (pc' := 87) (W := 0) (cells' := 2) (slots' := 11) (argsL := [(.int (1 : Int32)), (.int (2 : Int32))]) (rest := []) X (rm5 l Z a0 hw (1 : Int32) (2 : Int32) (2 : Int32) h_107 X.ext (by decide)) (w_28 hw) (w_29 hw) (w_17 hw) (w_30 hw) (by decide) rfl rfl pd_1 rfl rfl d8_84 rfl (Nat.le_refl _) (by decide) (by decide) rfl rfl (by decide) (by decide) (fun v111 T h_112 X hQ113 => ?_)
  obtain ⟨rfl, rfl⟩ := hQ113
  show End Z p e below s _ _ _ _ (mkF m 87 #[.val (.ref a), .val (.ref t), .val (.int (1 : Int32)), .val (.int (3 : Int32)), .unset, .unset, .unset, .unset] [(.int (2 : Int32))])
  refine E_istoreN (Ls' := #[.val (.ref a), .val (.ref t), .val (.int (2 : Int32)), .val (.int (3 : Int32)), .unset, .unset, .unset, .unset]) (pc' := 88) X d8_87 rfl rfl ?_
  refine E_iinc (x := (3 : Int32)) (z := (4 : Int32)) (Ls' := #[.val (.ref a), .val (.ref t), .val (.int (2 : Int32)), .val (.int (4 : Int32)), .unset, .unset, .unset, .unset]) (pc' := 91) X d8_88 rfl rfl rfl rfl ?_
  refine E_goto (pc' := 50) X d8_91 (by decide) rfl ?_
  refine E_iloadN (pc' := 51) X d8_50 rfl rfl ?_
  refine E_aloadN (v := (.ref a)) (pc' := 52) X d8_51 rfl rfl rfl ?_
  have F_115 : Fld Z h_107 a "com/example/nimble_calculus/nimblecalculus/equivalence/Splits" "nodeCount" "I" (.int (7 : Int32)) := (F_103.other W_106 (Or.inl ne_69))
  refine E_getF (pc' := 55) X (host := "") (Or.inl (w_11 hw)) Via.refl F_115 d8_52 rfl (fun T X => ?_)
  refine E_icmp (pcY := 94) (pcN := 58) X (ic_ge _ _) d8_55 (by decide) rfl rfl (fun hc55_3 => absurd hc55_3 (by decide)) (fun hc55_3 => ?_)
  refine E_aloadN (v := (.ref a)) (pc' := 59) X d8_58 rfl rfl rfl ?_
  refine E_getF (pc' := 62) X (host := "") (Or.inl (w_54 hw)) Via.refl F_110 d8_59 rfl (fun T X => ?_)
  refine E_iloadN (pc' := 63) X d8_62 rfl rfl ?_
  refine E_aloadN (v := (.ref a)) (pc' := 64) X d8_63 rfl rfl rfl ?_
  refine E_getF (pc' := 67) X (host := "") (Or.inl (w_54 hw)) Via.refl F_110 d8_64 rfl (fun T X => ?_)
  refine E_aloadN (v := (.ref a)) (pc' := 68) X d8_67 rfl rfl rfl ?_
  have F_116 : Fld Z h_107 a "com/example/nimble_calculus/nimblecalculus/equivalence/Splits" "parent" "[I" (.ref P) := (F_104.other W_106 (Or.inl ne_69))
  refine E_getF (pc' := 71) X (host := "") (Or.inl (w_22 hw)) Via.refl F_116 d8_68 rfl (fun T X => ?_)
  refine E_iloadN (pc' := 72) X d8_71 rfl rfl ?_
  have A_117 : Ar Z h_107 P .int [(.int (0 : Int32)), (.int (0 : Int32)), (.int (0 : Int32)), (.int (1 : Int32)), (.int (1 : Int32)), (.int (3 : Int32)), (.int (3 : Int32))] := (A_105.other W_106 ne_68)
  refine E_iaload (v := (.int (1 : Int32))) (pc' := 73) X A_117 (by decide) rfl d8_72 rfl ?_
  refine E_iaload (v := (.int (1 : Int32))) (pc' := 74) X Aa_108 (by decide) rfl d8_73 rfl ?_
  refine E_iconst (v := (1 : Int32)) (pc' := 75) X d8_74 rfl rfl ?_
  refine E_iadd (pc' := 76) X d8_75 rfl ?_
  refine E_eqI (z := (2 : Int32)) (by decide) ?_
  refine E_iastore (vs' := [(.int (0 : Int32)), (.int (1 : Int32)), (.int (1 : Int32)), (.int (2 : Int32)), (.int (2 : Int32)), (.int (0 : Int32)), (.int (0 : Int32))]) (pc' := 77) X Aa_108 (by decide) (Nat.le_of_ble_eq_true rfl) rfl fr_66 d8_76 rfl (fun T h_119 X W_118 Aa_120 => ?_)
  have K_121 : Keep h0 h_119 [a] := K_109.wr W_118 (Or.inr b_64)
  refine E_iloadN (pc' := 78) X d8_77 rfl rfl ?_
  refine E_aloadN (v := (.ref a)) (pc' := 79) X d8_78 rfl rfl rfl ?_
  have F_122 : Fld Z h_119 a "com/example/nimble_calculus/nimblecalculus/equivalence/Splits" "height" "[I" (.ref o56) := (F_110.other W_118 (Or.inl ne_69))
  refine E_getF (pc' := 82) X (host := "") (Or.inl (w_54 hw)) Via.refl F_122 d8_79 rfl (fun T X => ?_)
  refine E_iloadN (pc' := 83) X d8_82 rfl rfl ?_
  refine E_iaload (v := (.int (2 : Int32))) (pc' := 84) X Aa_120 (by decide) rfl d8_83 rfl ?_
  refine E_callS (pc' := 87) (W := 0) (cells' := 2) (slots' := 11) (argsL := [(.int (2 : Int32)), (.int (2 : Int32))]) (rest := []) X (rm5 l Z a0 hw (2 : Int32) (2 : Int32) (2 : Int32) h_119 X.ext (by decide)) (w_28 hw) (w_29 hw) (w_17 hw) (w_30 hw) (by decide) rfl rfl pd_1 rfl rfl d8_84 rfl (Nat.le_refl _) (by decide) (by decide) rfl rfl (by decide) (by decide) (fun v123 T h_124 X hQ125 => ?_)
  obtain ⟨rfl, rfl⟩ := hQ125
  show End Z p e below s _ _ _ _ (mkF m 87 #[.val (.ref a), .val (.ref t), .val (.int (2 : Int32)), .val (.int (4 : Int32)), .unset, .unset, .unset, .unset] [(.int (2 : Int32))])
  refine E_istoreN (Ls' := #[.val (.ref a), .val (.ref t), .val (.int (2 : Int32)), .val (.int (4 : Int32)), .unset, .unset, .unset, .unset]) (pc' := 88) X d8_87 rfl rfl ?_
  refine E_iinc (x := (4 : Int32)) (z := (5 : Int32)) (Ls' := #[.val (.ref a), .val (.ref t), .val (.int (2 : Int32)), .val (.int (5 : Int32)), .unset, .unset, .unset, .unset]) (pc' := 91) X d8_88 rfl rfl rfl rfl ?_
  refine E_goto (pc' := 50) X d8_91 (by decide) rfl ?_
  refine E_iloadN (pc' := 51) X d8_50 rfl rfl ?_
  refine E_aloadN (v := (.ref a)) (pc' := 52) X d8_51 rfl rfl rfl ?_
  have F_127 : Fld Z h_119 a "com/example/nimble_calculus/nimblecalculus/equivalence/Splits" "nodeCount" "I" (.int (7 : Int32)) := (F_115.other W_118 (Or.inl ne_69))
  refine E_getF (pc' := 55) X (host := "") (Or.inl (w_11 hw)) Via.refl F_127 d8_52 rfl (fun T X => ?_)
  refine E_icmp (pcY := 94) (pcN := 58) X (ic_ge _ _) d8_55 (by decide) rfl rfl (fun hc55_4 => absurd hc55_4 (by decide)) (fun hc55_4 => ?_)
  refine E_aloadN (v := (.ref a)) (pc' := 59) X d8_58 rfl rfl rfl ?_
  refine E_getF (pc' := 62) X (host := "") (Or.inl (w_54 hw)) Via.refl F_122 d8_59 rfl (fun T X => ?_)
  refine E_iloadN (pc' := 63) X d8_62 rfl rfl ?_
  refine E_aloadN (v := (.ref a)) (pc' := 64) X d8_63 rfl rfl rfl ?_
  refine E_getF (pc' := 67) X (host := "") (Or.inl (w_54 hw)) Via.refl F_122 d8_64 rfl (fun T X => ?_)
  refine E_aloadN (v := (.ref a)) (pc' := 68) X d8_67 rfl rfl rfl ?_
  have F_128 : Fld Z h_119 a "com/example/nimble_calculus/nimblecalculus/equivalence/Splits" "parent" "[I" (.ref P) := (F_116.other W_118 (Or.inl ne_69))
  refine E_getF (pc' := 71) X (host := "") (Or.inl (w_22 hw)) Via.refl F_128 d8_68 rfl (fun T X => ?_)
  refine E_iloadN (pc' := 72) X d8_71 rfl rfl ?_
  have A_129 : Ar Z h_119 P .int [(.int (0 : Int32)), (.int (0 : Int32)), (.int (0 : Int32)), (.int (1 : Int32)), (.int (1 : Int32)), (.int (3 : Int32)), (.int (3 : Int32))] := (A_117.other W_118 ne_68)
  refine E_iaload (v := (.int (3 : Int32))) (pc' := 73) X A_129 (by decide) rfl d8_72 rfl ?_
  refine E_iaload (v := (.int (2 : Int32))) (pc' := 74) X Aa_120 (by decide) rfl d8_73 rfl ?_
  refine E_iconst (v := (1 : Int32)) (pc' := 75) X d8_74 rfl rfl ?_
  refine E_iadd (pc' := 76) X d8_75 rfl ?_
  refine E_eqI (z := (3 : Int32)) (by decide) ?_
  refine E_iastore (vs' := [(.int (0 : Int32)), (.int (1 : Int32)), (.int (1 : Int32)), (.int (2 : Int32)), (.int (2 : Int32)), (.int (3 : Int32)), (.int (0 : Int32))]) (pc' := 77) X Aa_120 (by decide) (Nat.le_of_ble_eq_true rfl) rfl fr_66 d8_76 rfl (fun T h_131 X W_130 Aa_132 => ?_)
  have K_133 : Keep h0 h_131 [a] := K_121.wr W_130 (Or.inr b_64)
  refine E_iloadN (pc' := 78) X d8_77 rfl rfl ?_
  refine E_aloadN (v := (.ref a)) (pc' := 79) X d8_78 rfl rfl rfl ?_
  have F_134 : Fld Z h_131 a "com/example/nimble_calculus/nimblecalculus/equivalence/Splits" "height" "[I" (.ref o56) := (F_122.other W_130 (Or.inl ne_69))
  refine E_getF (pc' := 82) X (host := "") (Or.inl (w_54 hw)) Via.refl F_134 d8_79 rfl (fun T X => ?_)
  refine E_iloadN (pc' := 83) X d8_82 rfl rfl ?_
  refine E_iaload (v := (.int (3 : Int32))) (pc' := 84) X Aa_132 (by decide) rfl d8_83 rfl ?_
  refine E_callS (pc' := 87) (W := 0) (cells' := 2) (slots' := 11) (argsL := [(.int (2 : Int32)), (.int (3 : Int32))]) (rest := []) X (rm5 l Z a0 hw (2 : Int32) (3 : Int32) (3 : Int32) h_131 X.ext (by decide)) (w_28 hw) (w_29 hw) (w_17 hw) (w_30 hw) (by decide) rfl rfl pd_1 rfl rfl d8_84 rfl (Nat.le_refl _) (by decide) (by decide) rfl rfl (by decide) (by decide) (fun v135 T h_136 X hQ137 => ?_)
  obtain ⟨rfl, rfl⟩ := hQ137
  show End Z p e below s _ _ _ _ (mkF m 87 #[.val (.ref a), .val (.ref t), .val (.int (2 : Int32)), .val (.int (5 : Int32)), .unset, .unset, .unset, .unset] [(.int (3 : Int32))])
  refine E_istoreN (Ls' := #[.val (.ref a), .val (.ref t), .val (.int (3 : Int32)), .val (.int (5 : Int32)), .unset, .unset, .unset, .unset]) (pc' := 88) X d8_87 rfl rfl ?_
  refine E_iinc (x := (5 : Int32)) (z := (6 : Int32)) (Ls' := #[.val (.ref a), .val (.ref t), .val (.int (3 : Int32)), .val (.int (6 : Int32)), .unset, .unset, .unset, .unset]) (pc' := 91) X d8_88 rfl rfl rfl rfl ?_
  refine E_goto (pc' := 50) X d8_91 (by decide) rfl ?_
  refine E_iloadN (pc' := 51) X d8_50 rfl rfl ?_
  refine E_aloadN (v := (.ref a)) (pc' := 52) X d8_51 rfl rfl rfl ?_
  have F_139 : Fld Z h_131 a "com/example/nimble_calculus/nimblecalculus/equivalence/Splits" "nodeCount" "I" (.int (7 : Int32)) := (F_127.other W_130 (Or.inl ne_69))
  refine E_getF (pc' := 55) X (host := "") (Or.inl (w_11 hw)) Via.refl F_139 d8_52 rfl (fun T X => ?_)
  refine E_icmp (pcY := 94) (pcN := 58) X (ic_ge _ _) d8_55 (by decide) rfl rfl (fun hc55_5 => absurd hc55_5 (by decide)) (fun hc55_5 => ?_)
  refine E_aloadN (v := (.ref a)) (pc' := 59) X d8_58 rfl rfl rfl ?_
  refine E_getF (pc' := 62) X (host := "") (Or.inl (w_54 hw)) Via.refl F_134 d8_59 rfl (fun T X => ?_)
  refine E_iloadN (pc' := 63) X d8_62 rfl rfl ?_
  refine E_aloadN (v := (.ref a)) (pc' := 64) X d8_63 rfl rfl rfl ?_
  refine E_getF (pc' := 67) X (host := "") (Or.inl (w_54 hw)) Via.refl F_134 d8_64 rfl (fun T X => ?_)
  refine E_aloadN (v := (.ref a)) (pc' := 68) X d8_67 rfl rfl rfl ?_
  have F_140 : Fld Z h_131 a "com/example/nimble_calculus/nimblecalculus/equivalence/Splits" "parent" "[I" (.ref P) := (F_128.other W_130 (Or.inl ne_69))
  refine E_getF (pc' := 71) X (host := "") (Or.inl (w_22 hw)) Via.refl F_140 d8_68 rfl (fun T X => ?_)
  refine E_iloadN (pc' := 72) X d8_71 rfl rfl ?_
  have A_141 : Ar Z h_131 P .int [(.int (0 : Int32)), (.int (0 : Int32)), (.int (0 : Int32)), (.int (1 : Int32)), (.int (1 : Int32)), (.int (3 : Int32)), (.int (3 : Int32))] := (A_129.other W_130 ne_68)
  refine E_iaload (v := (.int (3 : Int32))) (pc' := 73) X A_141 (by decide) rfl d8_72 rfl ?_
  refine E_iaload (v := (.int (2 : Int32))) (pc' := 74) X Aa_132 (by decide) rfl d8_73 rfl ?_
  refine E_iconst (v := (1 : Int32)) (pc' := 75) X d8_74 rfl rfl ?_
  refine E_iadd (pc' := 76) X d8_75 rfl ?_
  refine E_eqI (z := (3 : Int32)) (by decide) ?_
  refine E_iastore (vs' := [(.int (0 : Int32)), (.int (1 : Int32)), (.int (1 : Int32)), (.int (2 : Int32)), (.int (2 : Int32)), (.int (3 : Int32)), (.int (3 : Int32))]) (pc' := 77) X Aa_132 (by decide) (Nat.le_of_ble_eq_true rfl) rfl fr_66 d8_76 rfl (fun T h_143 X W_142 Aa_144 => ?_)
  have K_145 : Keep h0 h_143 [a] := K_133.wr W_142 (Or.inr b_64)
  refine E_iloadN (pc' := 78) X d8_77 rfl rfl ?_
  refine E_aloadN (v := (.ref a)) (pc' := 79) X d8_78 rfl rfl rfl ?_
  have F_146 : Fld Z h_143 a "com/example/nimble_calculus/nimblecalculus/equivalence/Splits" "height" "[I" (.ref o56) := (F_134.other W_142 (Or.inl ne_69))
  refine E_getF (pc' := 82) X (host := "") (Or.inl (w_54 hw)) Via.refl F_146 d8_79 rfl (fun T X => ?_)
  refine E_iloadN (pc' := 83) X d8_82 rfl rfl ?_
  refine E_iaload (v := (.int (3 : Int32))) (pc' := 84) X Aa_144 (by decide) rfl d8_83 rfl ?_
  refine E_callS (pc' := 87) (W := 0) (cells' := 2) (slots' := 11) (argsL := [(.int (3 : Int32)), (.int (3 : Int32))]) (rest := []) X (rm5 l Z a0 hw (3 : Int32) (3 : Int32) (3 : Int32) h_143 X.ext (by decide)) (w_28 hw) (w_29 hw) (w_17 hw) (w_30 hw) (by decide) rfl rfl pd_1 rfl rfl d8_84 rfl (Nat.le_refl _) (by decide) (by decide) rfl rfl (by decide) (by decide) (fun v147 T h_148 X hQ149 => ?_)
  obtain ⟨rfl, rfl⟩ := hQ149
  show End Z p e below s _ _ _ _ (mkF m 87 #[.val (.ref a), .val (.ref t), .val (.int (3 : Int32)), .val (.int (6 : Int32)), .unset, .unset, .unset, .unset] [(.int (3 : Int32))])
  refine E_istoreN (Ls' := #[.val (.ref a), .val (.ref t), .val (.int (3 : Int32)), .val (.int (6 : Int32)), .unset, .unset, .unset, .unset]) (pc' := 88) X d8_87 rfl rfl ?_
  refine E_iinc (x := (6 : Int32)) (z := (7 : Int32)) (Ls' := #[.val (.ref a), .val (.ref t), .val (.int (3 : Int32)), .val (.int (7 : Int32)), .unset, .unset, .unset, .unset]) (pc' := 91) X d8_88 rfl rfl rfl rfl ?_
  refine E_goto (pc' := 50) X d8_91 (by decide) rfl ?_
  refine E_iloadN (pc' := 51) X d8_50 rfl rfl ?_
  refine E_aloadN (v := (.ref a)) (pc' := 52) X d8_51 rfl rfl rfl ?_
  have F_151 : Fld Z h_143 a "com/example/nimble_calculus/nimblecalculus/equivalence/Splits" "nodeCount" "I" (.int (7 : Int32)) := (F_139.other W_142 (Or.inl ne_69))
  refine E_getF (pc' := 55) X (host := "") (Or.inl (w_11 hw)) Via.refl F_151 d8_52 rfl (fun T X => ?_)
  refine E_icmp (pcY := 94) (pcN := 58) X (ic_ge _ _) d8_55 (by decide) rfl rfl (fun hc55_6 => ?_) (fun hc55_6 => absurd (by decide) hc55_6)
  refine E_bipush (v := (32 : Int32)) (pc' := 96) X d8_94 rfl rfl ?_
  refine E_iconst (v := (1 : Int32)) (pc' := 97) X d8_96 rfl rfl ?_
  refine E_iloadN (pc' := 98) X d8_97 rfl rfl ?_
  refine E_callS (pc' := 101) (W := 1) (cells' := 2) (slots' := 11) (argsL := [(.int (1 : Int32)), (.int (3 : Int32))]) (rest := [(.int (32 : Int32))]) X (rm5 l Z a0 hw (1 : Int32) (3 : Int32) (3 : Int32) h_143 X.ext (by decide)) (w_28 hw) (w_29 hw) (w_17 hw) (w_30 hw) (by decide) rfl rfl pd_1 rfl rfl d8_98 rfl (Nat.le_refl _) (by decide) (by decide) rfl rfl (by decide) (by decide) (fun v152 T h_153 X hQ154 => ?_)
  obtain ⟨rfl, rfl⟩ := hQ154
  show End Z p e below s _ _ _ _ (mkF m 101 #[.val (.ref a), .val (.ref t), .val (.int (3 : Int32)), .val (.int (7 : Int32)), .unset, .unset, .unset, .unset] [(.int (3 : Int32)), (.int (32 : Int32))])
  refine E_callS (pc' := 104) (W := 1) (cells' := 2) (slots' := 11) (argsL := [(.int (3 : Int32))]) (rest := [(.int (32 : Int32))]) X (rm_nlz3 l Z a0 hw h_143 X.ext) (w_56 hw) (w_57 hw) (w_58 hw) (w_59 hw) (by decide) rfl rfl pd_2 rfl rfl d8_101 rfl (Nat.le_refl _) (by decide) (by decide) rfl rfl (by decide) (by decide) (fun v156 T h_157 X hQ158 => ?_)
  obtain ⟨rfl, rfl⟩ := hQ158
  show End Z p e below s _ _ _ _ (mkF m 104 #[.val (.ref a), .val (.ref t), .val (.int (3 : Int32)), .val (.int (7 : Int32)), .unset, .unset, .unset, .unset] [(.int (30 : Int32)), (.int (32 : Int32))])
  refine E_isub (pc' := 105) X d8_104 rfl ?_
  refine E_eqI (z := (2 : Int32)) (by decide) ?_
  refine E_istoreN (Ls' := #[.val (.ref a), .val (.ref t), .val (.int (3 : Int32)), .val (.int (2 : Int32)), .unset, .unset, .unset, .unset]) (pc' := 106) X d8_105 rfl rfl ?_
  refine E_aloadN (v := (.ref a)) (pc' := 107) X d8_106 rfl rfl rfl ?_
  refine E_iloadN (pc' := 108) X d8_107 rfl rfl ?_
  have A_165 : Ar Z h_143 NB .int [(.int (5 : Int32)), (.int (2 : Int32)), (.int (4 : Int32)), (.int (6 : Int32))] := ((((((((A_61.ext Ex_58).other W_74 ne_1).other W_82 ne_67).other W_94 ne_67).other W_106 ne_67).other W_118 ne_67).other W_130 ne_67).other W_142 ne_67)
  have E_166 : Exa Z h_143 P "[I" := ((((((((E_62.ext Ex_58).wr W_74).wr W_82).wr W_94).wr W_106).wr W_118).wr W_130).wr W_142)
  have E_167 : Exa Z h_143 a "com/example/nimble_calculus/nimblecalculus/equivalence/Splits" := (((((((E_73.wr W_74).wr W_82).wr W_94).wr W_106).wr W_118).wr W_130).wr W_142)
  have A_168 : Ar Z h_143 o4 .int [(.int (5 : Int32)), (.int (6 : Int32)), (.int (4 : Int32)), (.int (2 : Int32))] := ((((((((Aa_52.ext Ex_58).other W_74 (Ne.symm ne_14)).other W_82 ne_70).other W_94 ne_70).other W_106 ne_70).other W_118 ne_70).other W_130 ne_70).other W_142 ne_70)
  have A_169 : Ar Z h_143 t .int [(.int (0 : Int32)), (.int (3 : Int32)), (.int (2 : Int32)), (.int (1 : Int32))] := ((((((((A_54.ext Ex_58).other W_74 (Ne.symm ne_3)).other W_82 ne_71).other W_94 ne_71).other W_106 ne_71).other W_118 ne_71).other W_130 ne_71).other W_142 ne_71)
  have le_o160 := X.le
  refine E_newRA (pc' := 111) X (n := (2 : Int32)) (cap := 2) (vs := [.null, .null]) (cells' := 3) (slots' := 13) (by decide) (w_61 hw) (w_62 hw) d8_108 rfl (by decide) (by decide) (by decide) rfl rfl rfl (by decide) (by decide) (fun T h_161 o160 g_164 X Ex_162 Aa_163 => ?_)
  have b_170 : h0.size ≤ o160 := by rw [g_164]; exact K_145.1
  have K_171 : Keep h0 h_161 [a] := K_145.ext Ex_162
  have fr_172 : Z.heap.size ≤ o160 := by rw [g_164]; exact le_o160
  have ne_173 : NB ≠ o160 := Nat.ne_of_lt (by rw [g_164]; exact A_165.lt)
  have ne_174 : P ≠ o160 := Nat.ne_of_lt (by rw [g_164]; exact E_166.lt)
  have ne_175 : a ≠ o160 := Nat.ne_of_lt (by rw [g_164]; exact E_167.lt)
  have ne_176 : o4 ≠ o160 := Nat.ne_of_lt (by rw [g_164]; exact A_168.lt)
  have ne_177 : o56 ≠ o160 := Nat.ne_of_lt (by rw [g_164]; exact Aa_144.lt)
  have ne_178 : t ≠ o160 := Nat.ne_of_lt (by rw [g_164]; exact A_169.lt)
  have F_179 : Fld Z h_161 a "com/example/nimble_calculus/nimblecalculus/equivalence/Splits" "jumps" "[[I" .null := (((((((((((((((hF10.ext Ex_6).other W_18 (Or.inr (slot_ne (Or.inl (w_64 hw)) (Or.inl (w_53 hw)) (by decide) (t := (.array (.array .int))) (t' := (.array .int)) (by decide) (by decide)))).other W_26 (Or.inl ne_14)).other W_34 (Or.inl ne_14)).other W_42 (Or.inl ne_14)).other W_50 (Or.inl ne_14)).ext Ex_58).other W_74 (Or.inr (slot_ne (Or.inl (w_64 hw)) (Or.inl (w_55 hw)) (by decide) (t := (.array (.array .int))) (t' := (.array .int)) (by decide) (by decide)))).other W_82 (Or.inl ne_69)).other W_94 (Or.inl ne_69)).other W_106 (Or.inl ne_69)).other W_118 (Or.inl ne_69)).other W_130 (Or.inl ne_69)).other W_142 (Or.inl ne_69)).ext Ex_162)
  have E_180 : Exa Z h_161 a "com/example/nimble_calculus/nimblecalculus/equivalence/Splits" := (E_167.ext Ex_162)
  refine E_putF (pc' := 114) X (host := "") (Or.inl (w_63 hw)) Via.refl F_179 E_180 (Or.inl (w_64 hw)) (w_3 hw) (ty := (.array (.array .int))) (by decide) rfl rfl hfr15 d8_111 rfl (fun T h_182 X W_181 => ?_)
  have K_183 : Keep h0 h_182 [a] := K_171.wr W_181 (Or.inl (List.mem_of_getElem? (i := 0) rfl))
  refine E_aloadN (v := (.ref a)) (pc' := 115) X d8_114 rfl rfl rfl ?_
  have F_184 : Fld Z h_182 a "com/example/nimble_calculus/nimblecalculus/equivalence/Splits" "jumps" "[[I" (.ref o160) := (F_179.same W_181)
  refine E_getF (pc' := 118) X (host := "") (Or.inl (w_63 hw)) Via.refl F_184 d8_115 rfl (fun T X => ?_)
  refine E_iconst (v := (0 : Int32)) (pc' := 119) X d8_118 rfl rfl ?_
  refine E_aloadN (v := (.ref a)) (pc' := 120) X d8_119 rfl rfl rfl ?_
  have F_185 : Fld Z h_182 a "com/example/nimble_calculus/nimblecalculus/equivalence/Splits" "parent" "[I" (.ref P) := (((F_140.other W_142 (Or.inl ne_69)).ext Ex_162).other W_181 (Or.inr (slot_ne (Or.inr (w_23 hw)) (Or.inl (w_64 hw)) (by decide) (t := (.array .int)) (t' := (.array (.array .int))) (by decide) (by decide))))
  refine E_getF (pc' := 123) X (host := "") (Or.inl (w_22 hw)) Via.refl F_185 d8_120 rfl (fun T X => ?_)
  refine E_aloadN (v := (.ref a)) (pc' := 124) X d8_123 rfl rfl rfl ?_
  have F_186 : Fld Z h_182 a "com/example/nimble_calculus/nimblecalculus/equivalence/Splits" "nodeCount" "I" (.int (7 : Int32)) := ((F_151.ext Ex_162).other W_181 (Or.inr (slot_ne (Or.inl (w_12 hw)) (Or.inl (w_64 hw)) (by decide) (t := .int) (t' := (.array (.array .int))) (by decide) (by decide))))
  refine E_getF (pc' := 127) X (host := "") (Or.inl (w_11 hw)) Via.refl F_186 d8_124 rfl (fun T X => ?_)
  have A_187 : Ar Z h_182 P .int [(.int (0 : Int32)), (.int (0 : Int32)), (.int (0 : Int32)), (.int (1 : Int32)), (.int (1 : Int32)), (.int (3 : Int32)), (.int (3 : Int32))] := (((A_141.other W_142 ne_68).ext Ex_162).other W_181 ne_2)
  have E_188 : Exa Z h_182 P "[I" := ((E_166.ext Ex_162).wr W_181)
  have A_192 : Ar Z h_182 NB .int [(.int (5 : Int32)), (.int (2 : Int32)), (.int (4 : Int32)), (.int (6 : Int32))] := ((A_165.ext Ex_162).other W_181 ne_1)
  have E_193 : Exa Z h_182 a "com/example/nimble_calculus/nimblecalculus/equivalence/Splits" := (E_180.wr W_181)
  have A_194 : ArR Z h_182 o160 (.array .int) "[I" [.null, .null] := (Aa_163.other W_181 (Ne.symm ne_175))
  have A_195 : Ar Z h_182 o4 .int [(.int (5 : Int32)), (.int (6 : Int32)), (.int (4 : Int32)), (.int (2 : Int32))] := ((A_168.ext Ex_162).other W_181 (Ne.symm ne_14))
  have A_196 : Ar Z h_182 o56 .int [(.int (0 : Int32)), (.int (1 : Int32)), (.int (1 : Int32)), (.int (2 : Int32)), (.int (2 : Int32)), (.int (3 : Int32)), (.int (3 : Int32))] := ((Aa_144.ext Ex_162).other W_181 (Ne.symm ne_69))
  have A_197 : Ar Z h_182 t .int [(.int (0 : Int32)), (.int (3 : Int32)), (.int (2 : Int32)), (.int (1 : Int32))] := ((A_169.ext Ex_162).other W_181 (Ne.symm ne_3))
  have le_198 := X.le
  refine E_callS (pc' := 130) (W := 2) (cells' := 4) (slots' := 20) (argsL := [(.ref P), (.int (7 : Int32))]) (rest := [(.int (0 : Int32)), (.ref o160)]) X (rm10 l Z a0 hw P (0 : Int32) (0 : Int32) (0 : Int32) (1 : Int32) (1 : Int32) (3 : Int32) (3 : Int32) h_182 X.ext A_187 E_188) (w_65 hw) (w_66 hw) (w_67 hw) (w_68 hw) (by decide) rfl rfl pd_3 rfl rfl d8_127 rfl (Nat.le_refl _) (by decide) (by decide) rfl rfl (by decide) (by decide) (fun v189 T h_190 X hQ191 => ?_)
  obtain ⟨r_199, rfl, Kc_200, nw_201, A_202, E_203⟩ := hQ191
  have K_204 : Keep h0 h_190 [a] := K_183.trans Kc_200 all0
  have ne_205 : NB ≠ r_199 := Nat.ne_of_lt (Nat.lt_of_lt_of_le A_192.lt nw_201)
  have ne_206 : P ≠ r_199 := Nat.ne_of_lt (Nat.lt_of_lt_of_le E_188.lt nw_201)
  have ne_207 : a ≠ r_199 := Nat.ne_of_lt (Nat.lt_of_lt_of_le E_193.lt nw_201)
  have ne_208 : o160 ≠ r_199 := Nat.ne_of_lt (Nat.lt_of_lt_of_le A_194.lt nw_201)
  have ne_209 : o4 ≠ r_199 := Nat.ne_of_lt (Nat.lt_of_lt_of_le A_195.lt nw_201)
  have ne_210 : o56 ≠ r_199 := Nat.ne_of_lt (Nat.lt_of_lt_of_le A_196.lt nw_201)
  have ne_211 : t ≠ r_199 := Nat.ne_of_lt (Nat.lt_of_lt_of_le A_197.lt nw_201)
  have fr_212 : Z.heap.size ≤ r_199 := Nat.le_trans le_198 nw_201
  show End Z p e below s _ _ _ _ (mkF m 130 #[.val (.ref a), .val (.ref t), .val (.int (3 : Int32)), .val (.int (2 : Int32)), .unset, .unset, .unset, .unset] [(.ref r_199), (.int (0 : Int32)), (.ref o160)])
  have A_213 : ArR Z h_190 o160 (.array .int) "[I" [.null, .null] := (A_194.keep Kc_200 nin0)
  refine E_aastore (vs' := [(.ref r_199), .null]) (pc' := 131) X A_213 (Ins.self E_203) rfl (by decide) (Nat.le_of_ble_eq_true rfl) rfl fr_172 d8_130 rfl (fun T h_215 X W_214 Aa_216 => ?_)
  have K_217 : Keep h0 h_215 [a] := K_204.wr W_214 (Or.inr b_170)
  refine E_iconst (v := (1 : Int32)) (pc' := 132) X d8_131 rfl rfl ?_
  refine E_istore (Ls' := #[.val (.ref a), .val (.ref t), .val (.int (3 : Int32)), .val (.int (2 : Int32)), .val (.int (1 : Int32)), .unset, .unset, .unset]) (pc' := 134) X d8_132 rfl rfl ?_
  refine E_iload (pc' := 136) X d8_134 rfl rfl ?_
  refine E_iloadN (pc' := 137) X d8_136 rfl rfl ?_
  refine E_icmp (pcY := 205) (pcN := 140) X (ic_ge _ _) d8_137 (by decide) rfl rfl (fun hc137_0 => absurd hc137_0 (by decide)) (fun hc137_0 => ?_)
  refine E_aloadN (v := (.ref a)) (pc' := 141) X d8_140 rfl rfl rfl ?_
  have F_218 : Fld Z h_215 a "com/example/nimble_calculus/nimblecalculus/equivalence/Splits" "jumps" "[[I" (.ref o160) := ((F_184.keep Kc_200 nin0).other W_214 (Or.inl ne_175))
  refine E_getF (pc' := 144) X (host := "") (Or.inl (w_63 hw)) Via.refl F_218 d8_141 rfl (fun T X => ?_)
  refine E_iload (pc' := 146) X d8_144 rfl rfl ?_
  refine E_iconst (v := (1 : Int32)) (pc' := 147) X d8_146 rfl rfl ?_
  refine E_isub (pc' := 148) X d8_147 rfl ?_
  refine E_eqI (z := (0 : Int32)) (by decide) ?_
  refine E_aaload (v := (.ref r_199)) (pc' := 149) X Aa_216.ar rfl (by decide) rfl d8_148 rfl ?_
  refine E_astore (Ls' := #[.val (.ref a), .val (.ref t), .val (.int (3 : Int32)), .val (.int (2 : Int32)), .val (.int (1 : Int32)), .val (.ref r_199), .unset, .unset]) (pc' := 151) X d8_149 rfl rfl rfl ?_
  refine E_aloadN (v := (.ref a)) (pc' := 152) X d8_151 rfl rfl rfl ?_
  have F_219 : Fld Z h_215 a "com/example/nimble_calculus/nimblecalculus/equivalence/Splits" "nodeCount" "I" (.int (7 : Int32)) := ((F_186.keep Kc_200 nin0).other W_214 (Or.inl ne_175))
  refine E_getF (pc' := 155) X (host := "") (Or.inl (w_11 hw)) Via.refl F_219 d8_152 rfl (fun T X => ?_)
  have A_225 : Ar Z h_215 NB .int [(.int (5 : Int32)), (.int (2 : Int32)), (.int (4 : Int32)), (.int (6 : Int32))] := ((A_192.keep Kc_200 nin0).other W_214 ne_173)
  have E_226 : Exa Z h_215 P "[I" := ((E_188.keep Kc_200).wr W_214)
  have E_227 : Exa Z h_215 a "com/example/nimble_calculus/nimblecalculus/equivalence/Splits" := ((E_193.keep Kc_200).wr W_214)
  have A_228 : Ar Z h_215 o4 .int [(.int (5 : Int32)), (.int (6 : Int32)), (.int (4 : Int32)), (.int (2 : Int32))] := ((A_195.keep Kc_200 nin0).other W_214 ne_176)
  have A_229 : Ar Z h_215 o56 .int [(.int (0 : Int32)), (.int (1 : Int32)), (.int (1 : Int32)), (.int (2 : Int32)), (.int (2 : Int32)), (.int (3 : Int32)), (.int (3 : Int32))] := ((A_196.keep Kc_200 nin0).other W_214 ne_177)
  have E_230 : Exa Z h_215 r_199 "[I" := (E_203.wr W_214)
  have A_231 : Ar Z h_215 t .int [(.int (0 : Int32)), (.int (3 : Int32)), (.int (2 : Int32)), (.int (1 : Int32))] := ((A_197.keep Kc_200 nin0).other W_214 ne_178)
  have le_o220 := X.le
  refine E_newAE (pc' := 157) X (aty := .int) (n := (7 : Int32)) (cap := 7) (vs := [(.int (0 : Int32)), (.int (0 : Int32)), (.int (0 : Int32)), (.int (0 : Int32)), (.int (0 : Int32)), (.int (0 : Int32)), (.int (0 : Int32))]) (cells' := 5) (slots' := 27) (ad := "[I") (by decide) (w_1 hw) d8_155 rfl (by decide) (by decide) (by decide) rfl rfl rfl (by decide) (by decide) (fun T h_221 o220 g_224 X Ex_222 Aa_223 EaAa_223 => ?_)
  have b_232 : h0.size ≤ o220 := by rw [g_224]; exact K_217.1
  have K_233 : Keep h0 h_221 [a] := K_217.ext Ex_222
  have fr_234 : Z.heap.size ≤ o220 := by rw [g_224]; exact le_o220
  have ne_235 : NB ≠ o220 := Nat.ne_of_lt (by rw [g_224]; exact A_225.lt)
  have ne_236 : P ≠ o220 := Nat.ne_of_lt (by rw [g_224]; exact E_226.lt)
  have ne_237 : a ≠ o220 := Nat.ne_of_lt (by rw [g_224]; exact E_227.lt)
  have ne_238 : o160 ≠ o220 := Nat.ne_of_lt (by rw [g_224]; exact Aa_216.lt)
  have ne_239 : o4 ≠ o220 := Nat.ne_of_lt (by rw [g_224]; exact A_228.lt)
  have ne_240 : o56 ≠ o220 := Nat.ne_of_lt (by rw [g_224]; exact A_229.lt)
  have ne_241 : r_199 ≠ o220 := Nat.ne_of_lt (by rw [g_224]; exact E_230.lt)
  have ne_242 : t ≠ o220 := Nat.ne_of_lt (by rw [g_224]; exact A_231.lt)
  refine E_astore (Ls' := #[.val (.ref a), .val (.ref t), .val (.int (3 : Int32)), .val (.int (2 : Int32)), .val (.int (1 : Int32)), .val (.ref r_199), .val (.ref o220), .unset]) (pc' := 159) X d8_157 rfl rfl rfl ?_
  refine E_iconst (v := (0 : Int32)) (pc' := 160) X d8_159 rfl rfl ?_
  refine E_istore (Ls' := #[.val (.ref a), .val (.ref t), .val (.int (3 : Int32)), .val (.int (2 : Int32)), .val (.int (1 : Int32)), .val (.ref r_199), .val (.ref o220), .val (.int (0 : Int32))]) (pc' := 162) X d8_160 rfl rfl ?_
  refine E_iload (pc' := 164) X d8_162 rfl rfl ?_
  refine E_aloadN (v := (.ref a)) (pc' := 165) X d8_164 rfl rfl rfl ?_
  have F_243 : Fld Z h_221 a "com/example/nimble_calculus/nimblecalculus/equivalence/Splits" "nodeCount" "I" (.int (7 : Int32)) := (F_219.ext Ex_222)
  refine E_getF (pc' := 168) X (host := "") (Or.inl (w_11 hw)) Via.refl F_243 d8_165 rfl (fun T X => ?_)
  refine E_icmp (pcY := 190) (pcN := 171) X (ic_ge _ _) d8_168 (by decide) rfl rfl (fun hc168_0 => absurd hc168_0 (by decide)) (fun hc168_0 => ?_)
  refine E_aload (v := (.ref o220)) (pc' := 173) X d8_171 rfl rfl rfl ?_
  refine E_iload (pc' := 175) X d8_173 rfl rfl ?_
  refine E_aload (v := (.ref r_199)) (pc' := 177) X d8_175 rfl rfl rfl ?_
  refine E_aload (v := (.ref r_199)) (pc' := 179) X d8_177 rfl rfl rfl ?_
  refine E_iload (pc' := 181) X d8_179 rfl rfl ?_
  have A_244 : Ar Z h_221 r_199 .int [(.int (0 : Int32)), (.int (0 : Int32)), (.int (0 : Int32)), (.int (1 : Int32)), (.int (1 : Int32)), (.int (3 : Int32)), (.int (3 : Int32))] := ((A_202.other W_214 (Ne.symm ne_208)).ext Ex_222)
  refine E_iaload (v := (.int (0 : Int32))) (pc' := 182) X A_244 (by decide) rfl d8_181 rfl ?_
  refine E_iaload (v := (.int (0 : Int32))) (pc' := 183) X A_244 (by decide) rfl d8_182 rfl ?_
  refine E_iastore (vs' := [(.int (0 : Int32)), (.int (0 : Int32)), (.int (0 : Int32)), (.int (0 : Int32)), (.int (0 : Int32)), (.int (0 : Int32)), (.int (0 : Int32))]) (pc' := 184) X Aa_223 (by decide) (Nat.le_of_ble_eq_true rfl) rfl fr_234 d8_183 rfl (fun T h_246 X W_245 Aa_247 => ?_)
  have K_248 : Keep h0 h_246 [a] := K_233.wr W_245 (Or.inr b_232)
  refine E_iinc (x := (0 : Int32)) (z := (1 : Int32)) (Ls' := #[.val (.ref a), .val (.ref t), .val (.int (3 : Int32)), .val (.int (2 : Int32)), .val (.int (1 : Int32)), .val (.ref r_199), .val (.ref o220), .val (.int (1 : Int32))]) (pc' := 187) X d8_184 rfl rfl rfl rfl ?_
  refine E_goto (pc' := 162) X d8_187 (by decide) rfl ?_
  refine E_iload (pc' := 164) X d8_162 rfl rfl ?_
  refine E_aloadN (v := (.ref a)) (pc' := 165) X d8_164 rfl rfl rfl ?_
  have F_249 : Fld Z h_246 a "com/example/nimble_calculus/nimblecalculus/equivalence/Splits" "nodeCount" "I" (.int (7 : Int32)) := (F_243.other W_245 (Or.inl ne_237))
  refine E_getF (pc' := 168) X (host := "") (Or.inl (w_11 hw)) Via.refl F_249 d8_165 rfl (fun T X => ?_)
  refine E_icmp (pcY := 190) (pcN := 171) X (ic_ge _ _) d8_168 (by decide) rfl rfl (fun hc168_1 => absurd hc168_1 (by decide)) (fun hc168_1 => ?_)
  refine E_aload (v := (.ref o220)) (pc' := 173) X d8_171 rfl rfl rfl ?_
  refine E_iload (pc' := 175) X d8_173 rfl rfl ?_
  refine E_aload (v := (.ref r_199)) (pc' := 177) X d8_175 rfl rfl rfl ?_
  refine E_aload (v := (.ref r_199)) (pc' := 179) X d8_177 rfl rfl rfl ?_
  refine E_iload (pc' := 181) X d8_179 rfl rfl ?_
  have A_250 : Ar Z h_246 r_199 .int [(.int (0 : Int32)), (.int (0 : Int32)), (.int (0 : Int32)), (.int (1 : Int32)), (.int (1 : Int32)), (.int (3 : Int32)), (.int (3 : Int32))] := (A_244.other W_245 ne_241)
  refine E_iaload (v := (.int (0 : Int32))) (pc' := 182) X A_250 (by decide) rfl d8_181 rfl ?_
  refine E_iaload (v := (.int (0 : Int32))) (pc' := 183) X A_250 (by decide) rfl d8_182 rfl ?_
  refine E_iastore (vs' := [(.int (0 : Int32)), (.int (0 : Int32)), (.int (0 : Int32)), (.int (0 : Int32)), (.int (0 : Int32)), (.int (0 : Int32)), (.int (0 : Int32))]) (pc' := 184) X Aa_247 (by decide) (Nat.le_of_ble_eq_true rfl) rfl fr_234 d8_183 rfl (fun T h_252 X W_251 Aa_253 => ?_)
  have K_254 : Keep h0 h_252 [a] := K_248.wr W_251 (Or.inr b_232)
  refine E_iinc (x := (1 : Int32)) (z := (2 : Int32)) (Ls' := #[.val (.ref a), .val (.ref t), .val (.int (3 : Int32)), .val (.int (2 : Int32)), .val (.int (1 : Int32)), .val (.ref r_199), .val (.ref o220), .val (.int (2 : Int32))]) (pc' := 187) X d8_184 rfl rfl rfl rfl ?_
  refine E_goto (pc' := 162) X d8_187 (by decide) rfl ?_
  refine E_iload (pc' := 164) X d8_162 rfl rfl ?_
  refine E_aloadN (v := (.ref a)) (pc' := 165) X d8_164 rfl rfl rfl ?_
  have F_255 : Fld Z h_252 a "com/example/nimble_calculus/nimblecalculus/equivalence/Splits" "nodeCount" "I" (.int (7 : Int32)) := (F_249.other W_251 (Or.inl ne_237))
  refine E_getF (pc' := 168) X (host := "") (Or.inl (w_11 hw)) Via.refl F_255 d8_165 rfl (fun T X => ?_)
  refine E_icmp (pcY := 190) (pcN := 171) X (ic_ge _ _) d8_168 (by decide) rfl rfl (fun hc168_2 => absurd hc168_2 (by decide)) (fun hc168_2 => ?_)
  refine E_aload (v := (.ref o220)) (pc' := 173) X d8_171 rfl rfl rfl ?_
  refine E_iload (pc' := 175) X d8_173 rfl rfl ?_
  refine E_aload (v := (.ref r_199)) (pc' := 177) X d8_175 rfl rfl rfl ?_
  refine E_aload (v := (.ref r_199)) (pc' := 179) X d8_177 rfl rfl rfl ?_
  refine E_iload (pc' := 181) X d8_179 rfl rfl ?_
  have A_256 : Ar Z h_252 r_199 .int [(.int (0 : Int32)), (.int (0 : Int32)), (.int (0 : Int32)), (.int (1 : Int32)), (.int (1 : Int32)), (.int (3 : Int32)), (.int (3 : Int32))] := (A_250.other W_251 ne_241)
  refine E_iaload (v := (.int (0 : Int32))) (pc' := 182) X A_256 (by decide) rfl d8_181 rfl ?_
  refine E_iaload (v := (.int (0 : Int32))) (pc' := 183) X A_256 (by decide) rfl d8_182 rfl ?_
  refine E_iastore (vs' := [(.int (0 : Int32)), (.int (0 : Int32)), (.int (0 : Int32)), (.int (0 : Int32)), (.int (0 : Int32)), (.int (0 : Int32)), (.int (0 : Int32))]) (pc' := 184) X Aa_253 (by decide) (Nat.le_of_ble_eq_true rfl) rfl fr_234 d8_183 rfl (fun T h_258 X W_257 Aa_259 => ?_)
  have K_260 : Keep h0 h_258 [a] := K_254.wr W_257 (Or.inr b_232)
  refine E_iinc (x := (2 : Int32)) (z := (3 : Int32)) (Ls' := #[.val (.ref a), .val (.ref t), .val (.int (3 : Int32)), .val (.int (2 : Int32)), .val (.int (1 : Int32)), .val (.ref r_199), .val (.ref o220), .val (.int (3 : Int32))]) (pc' := 187) X d8_184 rfl rfl rfl rfl ?_
  refine E_goto (pc' := 162) X d8_187 (by decide) rfl ?_
  refine E_iload (pc' := 164) X d8_162 rfl rfl ?_
  refine E_aloadN (v := (.ref a)) (pc' := 165) X d8_164 rfl rfl rfl ?_
  have F_261 : Fld Z h_258 a "com/example/nimble_calculus/nimblecalculus/equivalence/Splits" "nodeCount" "I" (.int (7 : Int32)) := (F_255.other W_257 (Or.inl ne_237))
  refine E_getF (pc' := 168) X (host := "") (Or.inl (w_11 hw)) Via.refl F_261 d8_165 rfl (fun T X => ?_)
  refine E_icmp (pcY := 190) (pcN := 171) X (ic_ge _ _) d8_168 (by decide) rfl rfl (fun hc168_3 => absurd hc168_3 (by decide)) (fun hc168_3 => ?_)
  refine E_aload (v := (.ref o220)) (pc' := 173) X d8_171 rfl rfl rfl ?_
  refine E_iload (pc' := 175) X d8_173 rfl rfl ?_
  refine E_aload (v := (.ref r_199)) (pc' := 177) X d8_175 rfl rfl rfl ?_
  refine E_aload (v := (.ref r_199)) (pc' := 179) X d8_177 rfl rfl rfl ?_
  refine E_iload (pc' := 181) X d8_179 rfl rfl ?_
  have A_262 : Ar Z h_258 r_199 .int [(.int (0 : Int32)), (.int (0 : Int32)), (.int (0 : Int32)), (.int (1 : Int32)), (.int (1 : Int32)), (.int (3 : Int32)), (.int (3 : Int32))] := (A_256.other W_257 ne_241)
  refine E_iaload (v := (.int (1 : Int32))) (pc' := 182) X A_262 (by decide) rfl d8_181 rfl ?_
  refine E_iaload (v := (.int (0 : Int32))) (pc' := 183) X A_262 (by decide) rfl d8_182 rfl ?_
  refine E_iastore (vs' := [(.int (0 : Int32)), (.int (0 : Int32)), (.int (0 : Int32)), (.int (0 : Int32)), (.int (0 : Int32)), (.int (0 : Int32)), (.int (0 : Int32))]) (pc' := 184) X Aa_259 (by decide) (Nat.le_of_ble_eq_true rfl) rfl fr_234 d8_183 rfl (fun T h_264 X W_263 Aa_265 => ?_)
  have K_266 : Keep h0 h_264 [a] := K_260.wr W_263 (Or.inr b_232)
  refine E_iinc (x := (3 : Int32)) (z := (4 : Int32)) (Ls' := #[.val (.ref a), .val (.ref t), .val (.int (3 : Int32)), .val (.int (2 : Int32)), .val (.int (1 : Int32)), .val (.ref r_199), .val (.ref o220), .val (.int (4 : Int32))]) (pc' := 187) X d8_184 rfl rfl rfl rfl ?_
  refine E_goto (pc' := 162) X d8_187 (by decide) rfl ?_
  refine E_iload (pc' := 164) X d8_162 rfl rfl ?_
  refine E_aloadN (v := (.ref a)) (pc' := 165) X d8_164 rfl rfl rfl ?_
  have F_267 : Fld Z h_264 a "com/example/nimble_calculus/nimblecalculus/equivalence/Splits" "nodeCount" "I" (.int (7 : Int32)) := (F_261.other W_263 (Or.inl ne_237))
  refine E_getF (pc' := 168) X (host := "") (Or.inl (w_11 hw)) Via.refl F_267 d8_165 rfl (fun T X => ?_)
  refine E_icmp (pcY := 190) (pcN := 171) X (ic_ge _ _) d8_168 (by decide) rfl rfl (fun hc168_4 => absurd hc168_4 (by decide)) (fun hc168_4 => ?_)
  refine E_aload (v := (.ref o220)) (pc' := 173) X d8_171 rfl rfl rfl ?_
  refine E_iload (pc' := 175) X d8_173 rfl rfl ?_
  refine E_aload (v := (.ref r_199)) (pc' := 177) X d8_175 rfl rfl rfl ?_
  refine E_aload (v := (.ref r_199)) (pc' := 179) X d8_177 rfl rfl rfl ?_
  refine E_iload (pc' := 181) X d8_179 rfl rfl ?_
  have A_268 : Ar Z h_264 r_199 .int [(.int (0 : Int32)), (.int (0 : Int32)), (.int (0 : Int32)), (.int (1 : Int32)), (.int (1 : Int32)), (.int (3 : Int32)), (.int (3 : Int32))] := (A_262.other W_263 ne_241)
  refine E_iaload (v := (.int (1 : Int32))) (pc' := 182) X A_268 (by decide) rfl d8_181 rfl ?_
  refine E_iaload (v := (.int (0 : Int32))) (pc' := 183) X A_268 (by decide) rfl d8_182 rfl ?_
  refine E_iastore (vs' := [(.int (0 : Int32)), (.int (0 : Int32)), (.int (0 : Int32)), (.int (0 : Int32)), (.int (0 : Int32)), (.int (0 : Int32)), (.int (0 : Int32))]) (pc' := 184) X Aa_265 (by decide) (Nat.le_of_ble_eq_true rfl) rfl fr_234 d8_183 rfl (fun T h_270 X W_269 Aa_271 => ?_)
  have K_272 : Keep h0 h_270 [a] := K_266.wr W_269 (Or.inr b_232)
  refine E_iinc (x := (4 : Int32)) (z := (5 : Int32)) (Ls' := #[.val (.ref a), .val (.ref t), .val (.int (3 : Int32)), .val (.int (2 : Int32)), .val (.int (1 : Int32)), .val (.ref r_199), .val (.ref o220), .val (.int (5 : Int32))]) (pc' := 187) X d8_184 rfl rfl rfl rfl ?_
  refine E_goto (pc' := 162) X d8_187 (by decide) rfl ?_
  refine E_iload (pc' := 164) X d8_162 rfl rfl ?_
  refine E_aloadN (v := (.ref a)) (pc' := 165) X d8_164 rfl rfl rfl ?_
  have F_273 : Fld Z h_270 a "com/example/nimble_calculus/nimblecalculus/equivalence/Splits" "nodeCount" "I" (.int (7 : Int32)) := (F_267.other W_269 (Or.inl ne_237))
  refine E_getF (pc' := 168) X (host := "") (Or.inl (w_11 hw)) Via.refl F_273 d8_165 rfl (fun T X => ?_)
  refine E_icmp (pcY := 190) (pcN := 171) X (ic_ge _ _) d8_168 (by decide) rfl rfl (fun hc168_5 => absurd hc168_5 (by decide)) (fun hc168_5 => ?_)
  refine E_aload (v := (.ref o220)) (pc' := 173) X d8_171 rfl rfl rfl ?_
  refine E_iload (pc' := 175) X d8_173 rfl rfl ?_
  refine E_aload (v := (.ref r_199)) (pc' := 177) X d8_175 rfl rfl rfl ?_
  refine E_aload (v := (.ref r_199)) (pc' := 179) X d8_177 rfl rfl rfl ?_
  refine E_iload (pc' := 181) X d8_179 rfl rfl ?_
  have A_274 : Ar Z h_270 r_199 .int [(.int (0 : Int32)), (.int (0 : Int32)), (.int (0 : Int32)), (.int (1 : Int32)), (.int (1 : Int32)), (.int (3 : Int32)), (.int (3 : Int32))] := (A_268.other W_269 ne_241)
  refine E_iaload (v := (.int (3 : Int32))) (pc' := 182) X A_274 (by decide) rfl d8_181 rfl ?_
  refine E_iaload (v := (.int (1 : Int32))) (pc' := 183) X A_274 (by decide) rfl d8_182 rfl ?_
  refine E_iastore (vs' := [(.int (0 : Int32)), (.int (0 : Int32)), (.int (0 : Int32)), (.int (0 : Int32)), (.int (0 : Int32)), (.int (1 : Int32)), (.int (0 : Int32))]) (pc' := 184) X Aa_271 (by decide) (Nat.le_of_ble_eq_true rfl) rfl fr_234 d8_183 rfl (fun T h_276 X W_275 Aa_277 => ?_)
  have K_278 : Keep h0 h_276 [a] := K_272.wr W_275 (Or.inr b_232)
  refine E_iinc (x := (5 : Int32)) (z := (6 : Int32)) (Ls' := #[.val (.ref a), .val (.ref t), .val (.int (3 : Int32)), .val (.int (2 : Int32)), .val (.int (1 : Int32)), .val (.ref r_199), .val (.ref o220), .val (.int (6 : Int32))]) (pc' := 187) X d8_184 rfl rfl rfl rfl ?_
  refine E_goto (pc' := 162) X d8_187 (by decide) rfl ?_
  refine E_iload (pc' := 164) X d8_162 rfl rfl ?_
  refine E_aloadN (v := (.ref a)) (pc' := 165) X d8_164 rfl rfl rfl ?_
  have F_279 : Fld Z h_276 a "com/example/nimble_calculus/nimblecalculus/equivalence/Splits" "nodeCount" "I" (.int (7 : Int32)) := (F_273.other W_275 (Or.inl ne_237))
  refine E_getF (pc' := 168) X (host := "") (Or.inl (w_11 hw)) Via.refl F_279 d8_165 rfl (fun T X => ?_)
  refine E_icmp (pcY := 190) (pcN := 171) X (ic_ge _ _) d8_168 (by decide) rfl rfl (fun hc168_6 => absurd hc168_6 (by decide)) (fun hc168_6 => ?_)
  refine E_aload (v := (.ref o220)) (pc' := 173) X d8_171 rfl rfl rfl ?_
  refine E_iload (pc' := 175) X d8_173 rfl rfl ?_
  refine E_aload (v := (.ref r_199)) (pc' := 177) X d8_175 rfl rfl rfl ?_
  refine E_aload (v := (.ref r_199)) (pc' := 179) X d8_177 rfl rfl rfl ?_
  refine E_iload (pc' := 181) X d8_179 rfl rfl ?_
  have A_280 : Ar Z h_276 r_199 .int [(.int (0 : Int32)), (.int (0 : Int32)), (.int (0 : Int32)), (.int (1 : Int32)), (.int (1 : Int32)), (.int (3 : Int32)), (.int (3 : Int32))] := (A_274.other W_275 ne_241)
  refine E_iaload (v := (.int (3 : Int32))) (pc' := 182) X A_280 (by decide) rfl d8_181 rfl ?_
  refine E_iaload (v := (.int (1 : Int32))) (pc' := 183) X A_280 (by decide) rfl d8_182 rfl ?_
  refine E_iastore (vs' := [(.int (0 : Int32)), (.int (0 : Int32)), (.int (0 : Int32)), (.int (0 : Int32)), (.int (0 : Int32)), (.int (1 : Int32)), (.int (1 : Int32))]) (pc' := 184) X Aa_277 (by decide) (Nat.le_of_ble_eq_true rfl) rfl fr_234 d8_183 rfl (fun T h_282 X W_281 Aa_283 => ?_)
  have K_284 : Keep h0 h_282 [a] := K_278.wr W_281 (Or.inr b_232)
  refine E_iinc (x := (6 : Int32)) (z := (7 : Int32)) (Ls' := #[.val (.ref a), .val (.ref t), .val (.int (3 : Int32)), .val (.int (2 : Int32)), .val (.int (1 : Int32)), .val (.ref r_199), .val (.ref o220), .val (.int (7 : Int32))]) (pc' := 187) X d8_184 rfl rfl rfl rfl ?_
  refine E_goto (pc' := 162) X d8_187 (by decide) rfl ?_
  refine E_iload (pc' := 164) X d8_162 rfl rfl ?_
  refine E_aloadN (v := (.ref a)) (pc' := 165) X d8_164 rfl rfl rfl ?_
  have F_285 : Fld Z h_282 a "com/example/nimble_calculus/nimblecalculus/equivalence/Splits" "nodeCount" "I" (.int (7 : Int32)) := (F_279.other W_281 (Or.inl ne_237))
  refine E_getF (pc' := 168) X (host := "") (Or.inl (w_11 hw)) Via.refl F_285 d8_165 rfl (fun T X => ?_)
  refine E_icmp (pcY := 190) (pcN := 171) X (ic_ge _ _) d8_168 (by decide) rfl rfl (fun hc168_7 => ?_) (fun hc168_7 => absurd (by decide) hc168_7)
  refine E_aloadN (v := (.ref a)) (pc' := 191) X d8_190 rfl rfl rfl ?_
  have F_286 : Fld Z h_282 a "com/example/nimble_calculus/nimblecalculus/equivalence/Splits" "jumps" "[[I" (.ref o160) := ((((((((F_218.ext Ex_222).other W_245 (Or.inl ne_237)).other W_251 (Or.inl ne_237)).other W_257 (Or.inl ne_237)).other W_263 (Or.inl ne_237)).other W_269 (Or.inl ne_237)).other W_275 (Or.inl ne_237)).other W_281 (Or.inl ne_237))
  refine E_getF (pc' := 194) X (host := "") (Or.inl (w_63 hw)) Via.refl F_286 d8_191 rfl (fun T X => ?_)
  refine E_iload (pc' := 196) X d8_194 rfl rfl ?_
  refine E_aload (v := (.ref o220)) (pc' := 198) X d8_196 rfl rfl rfl ?_
  have A_287 : ArR Z h_282 o160 (.array .int) "[I" [(.ref r_199), .null] := ((((((((Aa_216.ext Ex_222).other W_245 ne_238).other W_251 ne_238).other W_257 ne_238).other W_263 ne_238).other W_269 ne_238).other W_275 ne_238).other W_281 ne_238)
  have E_288 : Exa Z h_282 o220 "[I" := (((((((EaAa_223.wr W_245).wr W_251).wr W_257).wr W_263).wr W_269).wr W_275).wr W_281)
  refine E_aastore (vs' := [(.ref r_199), (.ref o220)]) (pc' := 199) X A_287 (Ins.self E_288) rfl (by decide) (Nat.le_of_ble_eq_true rfl) rfl fr_172 d8_198 rfl (fun T h_290 X W_289 Aa_291 => ?_)
  have K_292 : Keep h0 h_290 [a] := K_284.wr W_289 (Or.inr b_170)
  refine E_iinc (x := (1 : Int32)) (z := (2 : Int32)) (Ls' := #[.val (.ref a), .val (.ref t), .val (.int (3 : Int32)), .val (.int (2 : Int32)), .val (.int (2 : Int32)), .val (.ref r_199), .val (.ref o220), .val (.int (7 : Int32))]) (pc' := 202) X d8_199 rfl rfl rfl rfl ?_
  refine E_goto (pc' := 134) X d8_202 (by decide) rfl ?_
  refine E_iload (pc' := 136) X d8_134 rfl rfl ?_
  refine E_iloadN (pc' := 137) X d8_136 rfl rfl ?_
  refine E_icmp (pcY := 205) (pcN := 140) X (ic_ge _ _) d8_137 (by decide) rfl rfl (fun hc137_1 => ?_) (fun hc137_1 => absurd (by decide) hc137_1)
  have E_293 : Exa Z h_290 a "com/example/nimble_calculus/nimblecalculus/equivalence/Splits" := (((((((((E_227.ext Ex_222).wr W_245).wr W_251).wr W_257).wr W_263).wr W_269).wr W_275).wr W_281).wr W_289)
  have F_294 : Fld Z h_290 a "com/example/nimble_calculus/nimblecalculus/equivalence/Splits" "leaf" "[I" (.ref o4) := ((((((((((((((((((((((F_47.other W_50 (Or.inl ne_14)).ext Ex_58).other W_74 (Or.inr (slot_ne (Or.inl (w_53 hw)) (Or.inl (w_55 hw)) (by decide) (t := (.array .int)) (t' := (.array .int)) (by decide) (by decide)))).other W_82 (Or.inl ne_69)).other W_94 (Or.inl ne_69)).other W_106 (Or.inl ne_69)).other W_118 (Or.inl ne_69)).other W_130 (Or.inl ne_69)).other W_142 (Or.inl ne_69)).ext Ex_162).other W_181 (Or.inr (slot_ne (Or.inl (w_53 hw)) (Or.inl (w_64 hw)) (by decide) (t := (.array .int)) (t' := (.array (.array .int))) (by decide) (by decide)))).keep Kc_200 nin0).other W_214 (Or.inl ne_175)).ext Ex_222).other W_245 (Or.inl ne_237)).other W_251 (Or.inl ne_237)).other W_257 (Or.inl ne_237)).other W_263 (Or.inl ne_237)).other W_269 (Or.inl ne_237)).other W_275 (Or.inl ne_237)).other W_281 (Or.inl ne_237)).other W_289 (Or.inl ne_175))
  have F_295 : Fld Z h_290 a "com/example/nimble_calculus/nimblecalculus/equivalence/Splits" "jumps" "[[I" (.ref o160) := (F_286.other W_289 (Or.inl ne_175))
  have F_296 : Fld Z h_290 a "com/example/nimble_calculus/nimblecalculus/equivalence/Splits" "parent" "[I" (.ref P) := (((((((((((F_185.keep Kc_200 nin0).other W_214 (Or.inl ne_175)).ext Ex_222).other W_245 (Or.inl ne_237)).other W_251 (Or.inl ne_237)).other W_257 (Or.inl ne_237)).other W_263 (Or.inl ne_237)).other W_269 (Or.inl ne_237)).other W_275 (Or.inl ne_237)).other W_281 (Or.inl ne_237)).other W_289 (Or.inl ne_175))
  have F_297 : Fld Z h_290 a "com/example/nimble_calculus/nimblecalculus/equivalence/Splits" "born" "[I" (.ref B) := (((((((((((((((((((((((((((hF5.ext Ex_6).other W_18 (Or.inr (slot_ne (Or.inr (w_25 hw)) (Or.inl (w_53 hw)) (by decide) (t := (.array .int)) (t' := (.array .int)) (by decide) (by decide)))).other W_26 (Or.inl ne_14)).other W_34 (Or.inl ne_14)).other W_42 (Or.inl ne_14)).other W_50 (Or.inl ne_14)).ext Ex_58).other W_74 (Or.inr (slot_ne (Or.inr (w_25 hw)) (Or.inl (w_55 hw)) (by decide) (t := (.array .int)) (t' := (.array .int)) (by decide) (by decide)))).other W_82 (Or.inl ne_69)).other W_94 (Or.inl ne_69)).other W_106 (Or.inl ne_69)).other W_118 (Or.inl ne_69)).other W_130 (Or.inl ne_69)).other W_142 (Or.inl ne_69)).ext Ex_162).other W_181 (Or.inr (slot_ne (Or.inr (w_25 hw)) (Or.inl (w_64 hw)) (by decide) (t := (.array .int)) (t' := (.array (.array .int))) (by decide) (by decide)))).keep Kc_200 nin0).other W_214 (Or.inl ne_175)).ext Ex_222).other W_245 (Or.inl ne_237)).other W_251 (Or.inl ne_237)).other W_257 (Or.inl ne_237)).other W_263 (Or.inl ne_237)).other W_269 (Or.inl ne_237)).other W_275 (Or.inl ne_237)).other W_281 (Or.inl ne_237)).other W_289 (Or.inl ne_175))
  have A_298 : Ar Z h_290 o4 .int [(.int (5 : Int32)), (.int (6 : Int32)), (.int (4 : Int32)), (.int (2 : Int32))] := (((((((((A_228.ext Ex_222).other W_245 ne_239).other W_251 ne_239).other W_257 ne_239).other W_263 ne_239).other W_269 ne_239).other W_275 ne_239).other W_281 ne_239).other W_289 ne_176)
  have A_299 : Ar Z h_290 r_199 .int [(.int (0 : Int32)), (.int (0 : Int32)), (.int (0 : Int32)), (.int (1 : Int32)), (.int (1 : Int32)), (.int (3 : Int32)), (.int (3 : Int32))] := ((A_280.other W_281 ne_241).other W_289 (Ne.symm ne_208))
  have A_300 : Ar Z h_290 o220 .int [(.int (0 : Int32)), (.int (0 : Int32)), (.int (0 : Int32)), (.int (0 : Int32)), (.int (0 : Int32)), (.int (1 : Int32)), (.int (1 : Int32))] := (Aa_283.other W_289 (Ne.symm ne_238))
  exact E_ret0 X d8_205 (by decide) (by decide) ⟨o4, o160, r_199, o220, rfl, K_292, b_9, b_170, (Nat.le_trans K_183.1 nw_201), b_232, E_293, F_294, F_295, F_296, F_297, A_298, Aa_291.ar, A_299, A_300⟩
theorem own_bb_1_0_0 (x : Int32) (q0 : ¬ (3 : Int32) < x) (q1 : (1 : Int32) < x) (q2 : (2 : Int32) < x) : ownE10 x = (3 : Int32) := by
  unfold ownE10
  simp only [Int32.lt_iff_toInt_lt] at *
  have e0 : (0 : Int32).toInt = 0 := rfl
  have e1 : (1 : Int32).toInt = 1 := rfl
  have e2 : (2 : Int32).toInt = 2 := rfl
  have e3 : (3 : Int32).toInt = 3 := rfl
  repeat' split
  all_goals first | rfl | (exfalso; omega)
theorem own_bb_1_0_1 (x : Int32) (q0 : ¬ (3 : Int32) < x) (q1 : (1 : Int32) < x) (q2 : ¬ (2 : Int32) < x) : ownE10 x = (1 : Int32) := by
  unfold ownE10
  simp only [Int32.lt_iff_toInt_lt] at *
  have e0 : (0 : Int32).toInt = 0 := rfl
  have e1 : (1 : Int32).toInt = 1 := rfl
  have e2 : (2 : Int32).toInt = 2 := rfl
  have e3 : (3 : Int32).toInt = 3 := rfl
  repeat' split
  all_goals first | rfl | (exfalso; omega)
theorem own_bb_1_0_2 (x : Int32) (q0 : ¬ (3 : Int32) < x) (q1 : ¬ (1 : Int32) < x) (q2 : (0 : Int32) < x) : ownE10 x = (0 : Int32) := by
  unfold ownE10
  simp only [Int32.lt_iff_toInt_lt] at *
  have e0 : (0 : Int32).toInt = 0 := rfl
  have e1 : (1 : Int32).toInt = 1 := rfl
  have e2 : (2 : Int32).toInt = 2 := rfl
  have e3 : (3 : Int32).toInt = 3 := rfl
  repeat' split
  all_goals first | rfl | (exfalso; omega)
theorem own_bb_1_0_3 (x : Int32) (q0 : ¬ (3 : Int32) < x) (q1 : ¬ (1 : Int32) < x) (q2 : ¬ (0 : Int32) < x) : ownE10 x = (0 : Int32) := by
  unfold ownE10
  simp only [Int32.lt_iff_toInt_lt] at *
  have e0 : (0 : Int32).toInt = 0 := rfl
  have e1 : (1 : Int32).toInt = 1 := rfl
  have e2 : (2 : Int32).toInt = 2 := rfl
  have e3 : (3 : Int32).toInt = 3 := rfl
  repeat' split
  all_goals first | rfl | (exfalso; omega)
theorem own_bb_1_0_4 (x : Int32) (q0 : (3 : Int32) < x) : ownE10 x = (5 : Int32) := by
  unfold ownE10
  simp only [Int32.lt_iff_toInt_lt] at *
  have e0 : (0 : Int32).toInt = 0 := rfl
  have e1 : (1 : Int32).toInt = 1 := rfl
  have e2 : (2 : Int32).toInt = 2 := rfl
  have e3 : (3 : Int32).toInt = 3 := rfl
  repeat' split
  all_goals first | rfl | (exfalso; omega)
theorem ef_rm_bb10 (m : MethodId) (x0 : Addr) (x1 : Int32) (x2 : Int32) : entryFrame m #[(.ref x0), (.int x1), (.int x2)] 6 = mkF m 0 #[.val (.ref x0), .val (.int x1), .val (.int x2), .unset, .unset, .unset] [] := by first | (simp [entryFrame, mkF, argsToLocals, Value.category]; done) | (simp [entryFrame, mkF, argsToLocals, *]; done) | rfl
set_option maxRecDepth 65536 in
set_option maxHeartbeats 2000000 in
theorem rm_bb10 (l : Launch) (Z : State) (a0 : Array Value) (hw : ∀ d ∈ tables_1, d.before a0 Z = true) (a : Addr) (x : Int32) (lf : Addr) (jp : Addr) (P : Addr) (B : Addr) (j0 : Addr) (j1 : Addr) (h0 : Heap) (hE : Ext Z.heap h0) (hF0 : Fld Z h0 a "com/example/nimble_calculus/nimblecalculus/equivalence/Splits" "leaf" "[I" (.ref lf)) (hF1 : Fld Z h0 a "com/example/nimble_calculus/nimblecalculus/equivalence/Splits" "jumps" "[[I" (.ref jp)) (hF2 : Fld Z h0 a "com/example/nimble_calculus/nimblecalculus/equivalence/Splits" "parent" "[I" (.ref P)) (hF3 : Fld Z h0 a "com/example/nimble_calculus/nimblecalculus/equivalence/Splits" "born" "[I" (.ref B)) (hA4 : Ar Z h0 P .int [(.int (0 : Int32)), (.int (0 : Int32)), (.int (0 : Int32)), (.int (1 : Int32)), (.int (1 : Int32)), (.int (3 : Int32)), (.int (3 : Int32))]) (hA5 : Ar Z h0 B .int [(.int (0 : Int32)), (.int (1 : Int32)), (.int (1 : Int32)), (.int (2 : Int32)), (.int (2 : Int32)), (.int (3 : Int32)), (.int (3 : Int32))]) (hA6 : Ar Z h0 lf .int [(.int (5 : Int32)), (.int (6 : Int32)), (.int (4 : Int32)), (.int (2 : Int32))]) (hA7 : Ar Z h0 jp (.array .int) [(.ref j0), (.ref j1)]) (hA8 : Ar Z h0 j0 .int [(.int (0 : Int32)), (.int (0 : Int32)), (.int (0 : Int32)), (.int (1 : Int32)), (.int (1 : Int32)), (.int (3 : Int32)), (.int (3 : Int32))]) (hA9 : Ar Z h0 j1 .int [(.int (0 : Int32)), (.int (0 : Int32)), (.int (0 : Int32)), (.int (0 : Int32)), (.int (0 : Int32)), (.int (1 : Int32)), (.int (1 : Int32))]) :
    Con l Z (⟨"com/example/nimble_calculus/nimblecalculus/equivalence/Splits", "blockBefore", "(II)I"⟩ : MethodName) prog_61_method_8_code 6 (some .int) ({ frames := 0, cells := 0, slots := 0, locals := 0 } : Room) #[(.ref a), (.int (0 : Int32)), (.int x)] h0 (fun vv hh => vv = some (.int (ownE10 x)) ∧ h0 = hh) := by
  refine Con.of (plainFor_of_name (by first | (simp [plainName, overriddenIn]; done) | decide +kernel)) hE ?_
  intro p e s m below T (X : Sd l Z "com/example/nimble_calculus/nimblecalculus/equivalence/Splits" "blockBefore" prog_61_method_8_code 6 (some .int) ({ frames := 0, cells := 0, slots := 0, locals := 0 } : Room) p e s m #[(.ref a), (.int (0 : Int32)), (.int x)] below T h0 0 0)
  refine End.frame (ef_rm_bb10 m a (0 : Int32) x) ?_
  show End Z p e below s _ _ _ _ (mkF m 0 #[.val (.ref a), .val (.int (0 : Int32)), .val (.int x), .unset, .unset, .unset] [])
  refine E_aloadN (v := (.ref a)) (pc' := 1) X d11_0 rfl rfl rfl ?_
  refine E_getF (pc' := 4) X (host := "") (Or.inl (w_52 hw)) Via.refl hF0 d11_1 rfl (fun T X => ?_)
  refine E_iloadN (pc' := 5) X d11_4 rfl rfl ?_
  refine E_iaload (v := (.int (5 : Int32))) (pc' := 6) X hA6 (by decide) rfl d11_5 rfl ?_
  refine E_istoreN (Ls' := #[.val (.ref a), .val (.int (0 : Int32)), .val (.int x), .val (.int (5 : Int32)), .unset, .unset]) (pc' := 7) X d11_6 rfl rfl ?_
  refine E_aloadN (v := (.ref a)) (pc' := 8) X d11_7 rfl rfl rfl ?_
  refine E_getF (pc' := 11) X (host := "") (Or.inl (w_24 hw)) Via.refl hF3 d11_8 rfl (fun T X => ?_)
  refine E_iloadN (pc' := 12) X d11_11 rfl rfl ?_
  refine E_iaload (v := (.int (3 : Int32))) (pc' := 13) X hA5 (by decide) rfl d11_12 rfl ?_
  refine E_iloadN (pc' := 14) X d11_13 rfl rfl ?_
  refine E_icmp (pcY := 19) (pcN := 17) X (ic_ge _ _) d11_14 (by decide) rfl rfl (fun hc14_0 => ?_) (fun hc14_0 => ?_)
  · skip
    refine E_aloadN (v := (.ref a)) (pc' := 20) X d11_19 rfl rfl rfl ?_
    refine E_getF (pc' := 23) X (host := "") (Or.inl (w_63 hw)) Via.refl hF1 d11_20 rfl (fun T X => ?_)
    refine E_alen (n := (2 : Int32)) (pc' := 24) X hA7 rfl d11_23 rfl ?_
    refine E_iconst (v := (1 : Int32)) (pc' := 25) X d11_24 rfl rfl ?_
    refine E_isub (pc' := 26) X d11_25 rfl ?_
    refine E_eqI (z := (1 : Int32)) (by decide) ?_
    refine E_istore (Ls' := #[.val (.ref a), .val (.int (0 : Int32)), .val (.int x), .val (.int (5 : Int32)), .val (.int (1 : Int32)), .unset]) (pc' := 28) X d11_26 rfl rfl ?_
    refine E_iload (pc' := 30) X d11_28 rfl rfl ?_
    refine E_if (pcY := 64) (pcN := 33) X (i0_lt _) d11_30 (by decide) rfl rfl (fun hc30_0 => absurd hc30_0 (by decide)) (fun hc30_0 => ?_)
    refine E_aloadN (v := (.ref a)) (pc' := 34) X d11_33 rfl rfl rfl ?_
    refine E_getF (pc' := 37) X (host := "") (Or.inl (w_63 hw)) Via.refl hF1 d11_34 rfl (fun T X => ?_)
    refine E_iload (pc' := 39) X d11_37 rfl rfl ?_
    refine E_aaload (v := (.ref j1)) (pc' := 40) X hA7 rfl (by decide) rfl d11_39 rfl ?_
    refine E_iloadN (pc' := 41) X d11_40 rfl rfl ?_
    refine E_iaload (v := (.int (1 : Int32))) (pc' := 42) X hA9 (by decide) rfl d11_41 rfl ?_
    refine E_istore (Ls' := #[.val (.ref a), .val (.int (0 : Int32)), .val (.int x), .val (.int (5 : Int32)), .val (.int (1 : Int32)), .val (.int (1 : Int32))]) (pc' := 44) X d11_42 rfl rfl ?_
    refine E_aloadN (v := (.ref a)) (pc' := 45) X d11_44 rfl rfl rfl ?_
    refine E_getF (pc' := 48) X (host := "") (Or.inl (w_24 hw)) Via.refl hF3 d11_45 rfl (fun T X => ?_)
    refine E_iload (pc' := 50) X d11_48 rfl rfl ?_
    refine E_iaload (v := (.int (1 : Int32))) (pc' := 51) X hA5 (by decide) rfl d11_50 rfl ?_
    refine E_iloadN (pc' := 52) X d11_51 rfl rfl ?_
    refine E_icmp (pcY := 58) (pcN := 55) X (ic_lt _ _) d11_52 (by decide) rfl rfl (fun hc52_0 => ?_) (fun hc52_0 => ?_)
    · skip
      refine E_iinc (x := (1 : Int32)) (z := (0 : Int32)) (Ls' := #[.val (.ref a), .val (.int (0 : Int32)), .val (.int x), .val (.int (5 : Int32)), .val (.int (0 : Int32)), .val (.int (1 : Int32))]) (pc' := 61) X d11_58 rfl rfl rfl rfl ?_
      refine E_goto (pc' := 28) X d11_61 (by decide) rfl ?_
      refine E_iload (pc' := 30) X d11_28 rfl rfl ?_
      refine E_if (pcY := 64) (pcN := 33) X (i0_lt _) d11_30 (by decide) rfl rfl (fun hc30_1 => absurd hc30_1 (by decide)) (fun hc30_1 => ?_)
      refine E_aloadN (v := (.ref a)) (pc' := 34) X d11_33 rfl rfl rfl ?_
      refine E_getF (pc' := 37) X (host := "") (Or.inl (w_63 hw)) Via.refl hF1 d11_34 rfl (fun T X => ?_)
      refine E_iload (pc' := 39) X d11_37 rfl rfl ?_
      refine E_aaload (v := (.ref j0)) (pc' := 40) X hA7 rfl (by decide) rfl d11_39 rfl ?_
      refine E_iloadN (pc' := 41) X d11_40 rfl rfl ?_
      refine E_iaload (v := (.int (3 : Int32))) (pc' := 42) X hA8 (by decide) rfl d11_41 rfl ?_
      refine E_istore (Ls' := #[.val (.ref a), .val (.int (0 : Int32)), .val (.int x), .val (.int (5 : Int32)), .val (.int (0 : Int32)), .val (.int (3 : Int32))]) (pc' := 44) X d11_42 rfl rfl ?_
      refine E_aloadN (v := (.ref a)) (pc' := 45) X d11_44 rfl rfl rfl ?_
      refine E_getF (pc' := 48) X (host := "") (Or.inl (w_24 hw)) Via.refl hF3 d11_45 rfl (fun T X => ?_)
      refine E_iload (pc' := 50) X d11_48 rfl rfl ?_
      refine E_iaload (v := (.int (2 : Int32))) (pc' := 51) X hA5 (by decide) rfl d11_50 rfl ?_
      refine E_iloadN (pc' := 52) X d11_51 rfl rfl ?_
      refine E_icmp (pcY := 58) (pcN := 55) X (ic_lt _ _) d11_52 (by decide) rfl rfl (fun hc52_1 => ?_) (fun hc52_1 => ?_)
      · skip
        refine E_iinc (x := (0 : Int32)) (z := (-1 : Int32)) (Ls' := #[.val (.ref a), .val (.int (0 : Int32)), .val (.int x), .val (.int (5 : Int32)), .val (.int (-1 : Int32)), .val (.int (3 : Int32))]) (pc' := 61) X d11_58 rfl rfl rfl rfl ?_
        refine E_goto (pc' := 28) X d11_61 (by decide) rfl ?_
        refine E_iload (pc' := 30) X d11_28 rfl rfl ?_
        refine E_if (pcY := 64) (pcN := 33) X (i0_lt _) d11_30 (by decide) rfl rfl (fun hc30_2 => ?_) (fun hc30_2 => absurd (by decide) hc30_2)
        refine E_aloadN (v := (.ref a)) (pc' := 65) X d11_64 rfl rfl rfl ?_
        refine E_getF (pc' := 68) X (host := "") (Or.inl (w_22 hw)) Via.refl hF2 d11_65 rfl (fun T X => ?_)
        refine E_iloadN (pc' := 69) X d11_68 rfl rfl ?_
        refine E_iaload (v := (.int (3 : Int32))) (pc' := 70) X hA4 (by decide) rfl d11_69 rfl ?_
        exact E_retI X d11_70 (by decide) (by decide) ⟨(congrArg (fun z => some (Value.int z)) (own_bb_1_0_0 x hc14_0 hc52_0 hc52_1).symm), rfl⟩
      · skip
        refine E_iload (pc' := 57) X d11_55 rfl rfl ?_
        refine E_istoreN (Ls' := #[.val (.ref a), .val (.int (0 : Int32)), .val (.int x), .val (.int (3 : Int32)), .val (.int (0 : Int32)), .val (.int (3 : Int32))]) (pc' := 58) X d11_57 rfl rfl ?_
        refine E_iinc (x := (0 : Int32)) (z := (-1 : Int32)) (Ls' := #[.val (.ref a), .val (.int (0 : Int32)), .val (.int x), .val (.int (3 : Int32)), .val (.int (-1 : Int32)), .val (.int (3 : Int32))]) (pc' := 61) X d11_58 rfl rfl rfl rfl ?_
        refine E_goto (pc' := 28) X d11_61 (by decide) rfl ?_
        refine E_iload (pc' := 30) X d11_28 rfl rfl ?_
        refine E_if (pcY := 64) (pcN := 33) X (i0_lt _) d11_30 (by decide) rfl rfl (fun hc30_2 => ?_) (fun hc30_2 => absurd (by decide) hc30_2)
        refine E_aloadN (v := (.ref a)) (pc' := 65) X d11_64 rfl rfl rfl ?_
        refine E_getF (pc' := 68) X (host := "") (Or.inl (w_22 hw)) Via.refl hF2 d11_65 rfl (fun T X => ?_)
        refine E_iloadN (pc' := 69) X d11_68 rfl rfl ?_
        refine E_iaload (v := (.int (1 : Int32))) (pc' := 70) X hA4 (by decide) rfl d11_69 rfl ?_
        exact E_retI X d11_70 (by decide) (by decide) ⟨(congrArg (fun z => some (Value.int z)) (own_bb_1_0_1 x hc14_0 hc52_0 hc52_1).symm), rfl⟩
    · skip
      refine E_iload (pc' := 57) X d11_55 rfl rfl ?_
      refine E_istoreN (Ls' := #[.val (.ref a), .val (.int (0 : Int32)), .val (.int x), .val (.int (1 : Int32)), .val (.int (1 : Int32)), .val (.int (1 : Int32))]) (pc' := 58) X d11_57 rfl rfl ?_
      refine E_iinc (x := (1 : Int32)) (z := (0 : Int32)) (Ls' := #[.val (.ref a), .val (.int (0 : Int32)), .val (.int x), .val (.int (1 : Int32)), .val (.int (0 : Int32)), .val (.int (1 : Int32))]) (pc' := 61) X d11_58 rfl rfl rfl rfl ?_
      refine E_goto (pc' := 28) X d11_61 (by decide) rfl ?_
      refine E_iload (pc' := 30) X d11_28 rfl rfl ?_
      refine E_if (pcY := 64) (pcN := 33) X (i0_lt _) d11_30 (by decide) rfl rfl (fun hc30_1 => absurd hc30_1 (by decide)) (fun hc30_1 => ?_)
      refine E_aloadN (v := (.ref a)) (pc' := 34) X d11_33 rfl rfl rfl ?_
      refine E_getF (pc' := 37) X (host := "") (Or.inl (w_63 hw)) Via.refl hF1 d11_34 rfl (fun T X => ?_)
      refine E_iload (pc' := 39) X d11_37 rfl rfl ?_
      refine E_aaload (v := (.ref j0)) (pc' := 40) X hA7 rfl (by decide) rfl d11_39 rfl ?_
      refine E_iloadN (pc' := 41) X d11_40 rfl rfl ?_
      refine E_iaload (v := (.int (0 : Int32))) (pc' := 42) X hA8 (by decide) rfl d11_41 rfl ?_
      refine E_istore (Ls' := #[.val (.ref a), .val (.int (0 : Int32)), .val (.int x), .val (.int (1 : Int32)), .val (.int (0 : Int32)), .val (.int (0 : Int32))]) (pc' := 44) X d11_42 rfl rfl ?_
      refine E_aloadN (v := (.ref a)) (pc' := 45) X d11_44 rfl rfl rfl ?_
      refine E_getF (pc' := 48) X (host := "") (Or.inl (w_24 hw)) Via.refl hF3 d11_45 rfl (fun T X => ?_)
      refine E_iload (pc' := 50) X d11_48 rfl rfl ?_
      refine E_iaload (v := (.int (0 : Int32))) (pc' := 51) X hA5 (by decide) rfl d11_50 rfl ?_
      refine E_iloadN (pc' := 52) X d11_51 rfl rfl ?_
      refine E_icmp (pcY := 58) (pcN := 55) X (ic_lt _ _) d11_52 (by decide) rfl rfl (fun hc52_1 => ?_) (fun hc52_1 => ?_)
      · skip
        refine E_iinc (x := (0 : Int32)) (z := (-1 : Int32)) (Ls' := #[.val (.ref a), .val (.int (0 : Int32)), .val (.int x), .val (.int (1 : Int32)), .val (.int (-1 : Int32)), .val (.int (0 : Int32))]) (pc' := 61) X d11_58 rfl rfl rfl rfl ?_
        refine E_goto (pc' := 28) X d11_61 (by decide) rfl ?_
        refine E_iload (pc' := 30) X d11_28 rfl rfl ?_
        refine E_if (pcY := 64) (pcN := 33) X (i0_lt _) d11_30 (by decide) rfl rfl (fun hc30_2 => ?_) (fun hc30_2 => absurd (by decide) hc30_2)
        refine E_aloadN (v := (.ref a)) (pc' := 65) X d11_64 rfl rfl rfl ?_
        refine E_getF (pc' := 68) X (host := "") (Or.inl (w_22 hw)) Via.refl hF2 d11_65 rfl (fun T X => ?_)
        refine E_iloadN (pc' := 69) X d11_68 rfl rfl ?_
        refine E_iaload (v := (.int (0 : Int32))) (pc' := 70) X hA4 (by decide) rfl d11_69 rfl ?_
        exact E_retI X d11_70 (by decide) (by decide) ⟨(congrArg (fun z => some (Value.int z)) (own_bb_1_0_2 x hc14_0 hc52_0 hc52_1).symm), rfl⟩
      · skip
        refine E_iload (pc' := 57) X d11_55 rfl rfl ?_
        refine E_istoreN (Ls' := #[.val (.ref a), .val (.int (0 : Int32)), .val (.int x), .val (.int (0 : Int32)), .val (.int (0 : Int32)), .val (.int (0 : Int32))]) (pc' := 58) X d11_57 rfl rfl ?_
        refine E_iinc (x := (0 : Int32)) (z := (-1 : Int32)) (Ls' := #[.val (.ref a), .val (.int (0 : Int32)), .val (.int x), .val (.int (0 : Int32)), .val (.int (-1 : Int32)), .val (.int (0 : Int32))]) (pc' := 61) X d11_58 rfl rfl rfl rfl ?_
        refine E_goto (pc' := 28) X d11_61 (by decide) rfl ?_
        refine E_iload (pc' := 30) X d11_28 rfl rfl ?_
        refine E_if (pcY := 64) (pcN := 33) X (i0_lt _) d11_30 (by decide) rfl rfl (fun hc30_2 => ?_) (fun hc30_2 => absurd (by decide) hc30_2)
        refine E_aloadN (v := (.ref a)) (pc' := 65) X d11_64 rfl rfl rfl ?_
        refine E_getF (pc' := 68) X (host := "") (Or.inl (w_22 hw)) Via.refl hF2 d11_65 rfl (fun T X => ?_)
        refine E_iloadN (pc' := 69) X d11_68 rfl rfl ?_
        refine E_iaload (v := (.int (0 : Int32))) (pc' := 70) X hA4 (by decide) rfl d11_69 rfl ?_
        exact E_retI X d11_70 (by decide) (by decide) ⟨(congrArg (fun z => some (Value.int z)) (own_bb_1_0_3 x hc14_0 hc52_0 hc52_1).symm), rfl⟩
  · skip
    replace hc14_0 := Decidable.not_not.mp hc14_0
    refine E_iloadN (pc' := 18) X d11_17 rfl rfl ?_
    exact E_retI X d11_18 (by decide) (by decide) ⟨(congrArg (fun z => some (Value.int z)) (own_bb_1_0_4 x hc14_0).symm), rfl⟩
theorem d12_11 : decode method_2_code 11 = .ok (.iload_n 1, 1) := by decide +kernel
theorem d12_12 : decode method_2_code 12 = .ok (.ifCond .ne 23, 3) := by decide +kernel
theorem d12_15 : decode method_2_code 15 = .ok (.iload_n 2, 1) := by decide +kernel
theorem d12_16 : decode method_2_code 16 = .ok (.iconst 2, 1) := by decide +kernel
theorem d12_17 : decode method_2_code 17 = .ok (.if_icmp .gt 7, 3) := by decide +kernel
theorem d12_20 : decode method_2_code 20 = .ok (.iconst 1, 1) := by decide +kernel
theorem d12_21 : decode method_2_code 21 = .ok (.goto 13, 3) := by decide +kernel
theorem d12_24 : decode method_2_code 24 = .ok (.iload_n 2, 1) := by decide +kernel
theorem d12_25 : decode method_2_code 25 = .ok (.iconst 3, 1) := by decide +kernel
theorem d12_26 : decode method_2_code 26 = .ok (.if_icmp .gt 7, 3) := by decide +kernel
theorem d12_29 : decode method_2_code 29 = .ok (.iconst 3, 1) := by decide +kernel
theorem d12_30 : decode method_2_code 30 = .ok (.goto 4, 3) := by decide +kernel
theorem d12_33 : decode method_2_code 33 = .ok (.iconst 5, 1) := by decide +kernel
theorem d12_34 : decode method_2_code 34 = .ok (.ireturn, 1) := by decide +kernel
theorem ef_rm_ex10 (m : MethodId) (x0 : Int32) (x1 : Int32) (x2 : Int32) : entryFrame m #[(.int x0), (.int x1), (.int x2)] 3 = mkF m 0 #[.val (.int x0), .val (.int x1), .val (.int x2)] [] := by first | (simp [entryFrame, mkF, argsToLocals, Value.category]; done) | (simp [entryFrame, mkF, argsToLocals, *]; done) | rfl
set_option maxRecDepth 65536 in
set_option maxHeartbeats 2000000 in
theorem rm_ex10 (l : Launch) (Z : State) (a0 : Array Value) (hw : ∀ d ∈ tables_1, d.before a0 Z = true) (x : Int32) (h0 : Heap) (hE : Ext Z.heap h0) :
    Con l Z (⟨"com/example/nimble_calculus/nimblecalculus/equivalence/SplitsBlockBeforePinLaw", "expected", "(ZII)I"⟩ : MethodName) method_2_code 3 (some .int) ({ frames := 0, cells := 0, slots := 0, locals := 0 } : Room) #[(.int (1 : Int32)), (.int (0 : Int32)), (.int x)] h0 (fun vv hh => vv = some (.int (ownE10 x)) ∧ h0 = hh) := by
  refine Con.of (plainFor_of_name (by first | (simp [plainName, overriddenIn]; done) | decide +kernel)) hE ?_
  intro p e s m below T (X : Sd l Z "com/example/nimble_calculus/nimblecalculus/equivalence/SplitsBlockBeforePinLaw" "expected" method_2_code 3 (some .int) ({ frames := 0, cells := 0, slots := 0, locals := 0 } : Room) p e s m #[(.int (1 : Int32)), (.int (0 : Int32)), (.int x)] below T h0 0 0)
  refine End.frame (ef_rm_ex10 m (1 : Int32) (0 : Int32) x) ?_
  show End Z p e below s _ _ _ _ (mkF m 0 #[.val (.int (1 : Int32)), .val (.int (0 : Int32)), .val (.int x)] [])
  refine E_iloadN (pc' := 1) X d12_0 rfl rfl ?_
  refine E_iconst (v := (1 : Int32)) (pc' := 2) X d12_1 rfl rfl ?_
  refine E_icmp (pcY := 7) (pcN := 5) X (ic_gt _ _) d12_2 (by decide) rfl rfl (fun hc2_0 => ?_) (fun hc2_0 => ?_)
  · skip
    refine E_iloadN (pc' := 8) X d12_7 rfl rfl ?_
    refine E_if (pcY := 79) (pcN := 11) X (i0_eq _) d12_8 (by decide) rfl rfl (fun hc8_0 => absurd hc8_0 (by decide)) (fun hc8_0 => ?_)
    refine E_iloadN (pc' := 12) X d12_11 rfl rfl ?_
    refine E_if (pcY := 35) (pcN := 15) X (i0_ne _) d12_12 (by decide) rfl rfl (fun hc12_0 => absurd hc12_0 (by decide)) (fun hc12_0 => ?_)
    refine E_iloadN (pc' := 16) X d12_15 rfl rfl ?_
    refine E_iconst (v := (2 : Int32)) (pc' := 17) X d12_16 rfl rfl ?_
    refine E_icmp (pcY := 24) (pcN := 20) X (ic_gt _ _) d12_17 (by decide) rfl rfl (fun hc17_0 => ?_) (fun hc17_0 => ?_)
    · skip
      refine E_iloadN (pc' := 25) X d12_24 rfl rfl ?_
      refine E_iconst (v := (3 : Int32)) (pc' := 26) X d12_25 rfl rfl ?_
      refine E_icmp (pcY := 33) (pcN := 29) X (ic_gt _ _) d12_26 (by decide) rfl rfl (fun hc26_0 => ?_) (fun hc26_0 => ?_)
      · skip
        refine E_iconst (v := (5 : Int32)) (pc' := 34) X d12_33 rfl rfl ?_
        exact E_retI X d12_34 (by decide) (by decide) ⟨(by simp [ownE10, hc2_0, hc17_0, hc26_0]), rfl⟩
      · skip
        refine E_iconst (v := (3 : Int32)) (pc' := 30) X d12_29 rfl rfl ?_
        refine E_goto (pc' := 34) X d12_30 (by decide) rfl ?_
        exact E_retI X d12_34 (by decide) (by decide) ⟨(by simp [ownE10, hc2_0, hc17_0, hc26_0]), rfl⟩
    · skip
      refine E_iconst (v := (1 : Int32)) (pc' := 21) X d12_20 rfl rfl ?_
      refine E_goto (pc' := 34) X d12_21 (by decide) rfl ?_
      exact E_retI X d12_34 (by decide) (by decide) ⟨(by simp [ownE10, hc2_0, hc17_0]), rfl⟩
  · skip
    refine E_iconst (v := (0 : Int32)) (pc' := 6) X d12_5 rfl rfl ?_
    exact E_retI X d12_6 (by decide) (by decide) ⟨(by simp [ownE10, hc2_0]), rfl⟩
theorem own_bb_1_1_0 (x : Int32) (q0 : ¬ (3 : Int32) < x) (q1 : (1 : Int32) < x) (q2 : (2 : Int32) < x) : ownE11 x = (3 : Int32) := by
  unfold ownE11
  simp only [Int32.lt_iff_toInt_lt] at *
  have e0 : (0 : Int32).toInt = 0 := rfl
  have e1 : (1 : Int32).toInt = 1 := rfl
  have e2 : (2 : Int32).toInt = 2 := rfl
  have e3 : (3 : Int32).toInt = 3 := rfl
  repeat' split
  all_goals first | rfl | (exfalso; omega)
theorem own_bb_1_1_1 (x : Int32) (q0 : ¬ (3 : Int32) < x) (q1 : (1 : Int32) < x) (q2 : ¬ (2 : Int32) < x) : ownE11 x = (1 : Int32) := by
  unfold ownE11
  simp only [Int32.lt_iff_toInt_lt] at *
  have e0 : (0 : Int32).toInt = 0 := rfl
  have e1 : (1 : Int32).toInt = 1 := rfl
  have e2 : (2 : Int32).toInt = 2 := rfl
  have e3 : (3 : Int32).toInt = 3 := rfl
  repeat' split
  all_goals first | rfl | (exfalso; omega)
theorem own_bb_1_1_2 (x : Int32) (q0 : ¬ (3 : Int32) < x) (q1 : ¬ (1 : Int32) < x) (q2 : (0 : Int32) < x) : ownE11 x = (0 : Int32) := by
  unfold ownE11
  simp only [Int32.lt_iff_toInt_lt] at *
  have e0 : (0 : Int32).toInt = 0 := rfl
  have e1 : (1 : Int32).toInt = 1 := rfl
  have e2 : (2 : Int32).toInt = 2 := rfl
  have e3 : (3 : Int32).toInt = 3 := rfl
  repeat' split
  all_goals first | rfl | (exfalso; omega)
theorem own_bb_1_1_3 (x : Int32) (q0 : ¬ (3 : Int32) < x) (q1 : ¬ (1 : Int32) < x) (q2 : ¬ (0 : Int32) < x) : ownE11 x = (0 : Int32) := by
  unfold ownE11
  simp only [Int32.lt_iff_toInt_lt] at *
  have e0 : (0 : Int32).toInt = 0 := rfl
  have e1 : (1 : Int32).toInt = 1 := rfl
  have e2 : (2 : Int32).toInt = 2 := rfl
  have e3 : (3 : Int32).toInt = 3 := rfl
  repeat' split
  all_goals first | rfl | (exfalso; omega)
theorem own_bb_1_1_4 (x : Int32) (q0 : (3 : Int32) < x) : ownE11 x = (6 : Int32) := by
  unfold ownE11
  simp only [Int32.lt_iff_toInt_lt] at *
  have e0 : (0 : Int32).toInt = 0 := rfl
  have e1 : (1 : Int32).toInt = 1 := rfl
  have e2 : (2 : Int32).toInt = 2 := rfl
  have e3 : (3 : Int32).toInt = 3 := rfl
  repeat' split
  all_goals first | rfl | (exfalso; omega)
theorem ef_rm_bb11 (m : MethodId) (x0 : Addr) (x1 : Int32) (x2 : Int32) : entryFrame m #[(.ref x0), (.int x1), (.int x2)] 6 = mkF m 0 #[.val (.ref x0), .val (.int x1), .val (.int x2), .unset, .unset, .unset] [] := by first | (simp [entryFrame, mkF, argsToLocals, Value.category]; done) | (simp [entryFrame, mkF, argsToLocals, *]; done) | rfl
set_option maxRecDepth 65536 in
set_option maxHeartbeats 2000000 in
theorem rm_bb11 (l : Launch) (Z : State) (a0 : Array Value) (hw : ∀ d ∈ tables_1, d.before a0 Z = true) (a : Addr) (x : Int32) (lf : Addr) (jp : Addr) (P : Addr) (B : Addr) (j0 : Addr) (j1 : Addr) (h0 : Heap) (hE : Ext Z.heap h0) (hF0 : Fld Z h0 a "com/example/nimble_calculus/nimblecalculus/equivalence/Splits" "leaf" "[I" (.ref lf)) (hF1 : Fld Z h0 a "com/example/nimble_calculus/nimblecalculus/equivalence/Splits" "jumps" "[[I" (.ref jp)) (hF2 : Fld Z h0 a "com/example/nimble_calculus/nimblecalculus/equivalence/Splits" "parent" "[I" (.ref P)) (hF3 : Fld Z h0 a "com/example/nimble_calculus/nimblecalculus/equivalence/Splits" "born" "[I" (.ref B)) (hA4 : Ar Z h0 P .int [(.int (0 : Int32)), (.int (0 : Int32)), (.int (0 : Int32)), (.int (1 : Int32)), (.int (1 : Int32)), (.int (3 : Int32)), (.int (3 : Int32))]) (hA5 : Ar Z h0 B .int [(.int (0 : Int32)), (.int (1 : Int32)), (.int (1 : Int32)), (.int (2 : Int32)), (.int (2 : Int32)), (.int (3 : Int32)), (.int (3 : Int32))]) (hA6 : Ar Z h0 lf .int [(.int (5 : Int32)), (.int (6 : Int32)), (.int (4 : Int32)), (.int (2 : Int32))]) (hA7 : Ar Z h0 jp (.array .int) [(.ref j0), (.ref j1)]) (hA8 : Ar Z h0 j0 .int [(.int (0 : Int32)), (.int (0 : Int32)), (.int (0 : Int32)), (.int (1 : Int32)), (.int (1 : Int32)), (.int (3 : Int32)), (.int (3 : Int32))]) (hA9 : Ar Z h0 j1 .int [(.int (0 : Int32)), (.int (0 : Int32)), (.int (0 : Int32)), (.int (0 : Int32)), (.int (0 : Int32)), (.int (1 : Int32)), (.int (1 : Int32))]) :
    Con l Z (⟨"com/example/nimble_calculus/nimblecalculus/equivalence/Splits", "blockBefore", "(II)I"⟩ : MethodName) prog_61_method_8_code 6 (some .int) ({ frames := 0, cells := 0, slots := 0, locals := 0 } : Room) #[(.ref a), (.int (1 : Int32)), (.int x)] h0 (fun vv hh => vv = some (.int (ownE11 x)) ∧ h0 = hh) := by
  refine Con.of (plainFor_of_name (by first | (simp [plainName, overriddenIn]; done) | decide +kernel)) hE ?_
  intro p e s m below T (X : Sd l Z "com/example/nimble_calculus/nimblecalculus/equivalence/Splits" "blockBefore" prog_61_method_8_code 6 (some .int) ({ frames := 0, cells := 0, slots := 0, locals := 0 } : Room) p e s m #[(.ref a), (.int (1 : Int32)), (.int x)] below T h0 0 0)
  refine End.frame (ef_rm_bb11 m a (1 : Int32) x) ?_
  show End Z p e below s _ _ _ _ (mkF m 0 #[.val (.ref a), .val (.int (1 : Int32)), .val (.int x), .unset, .unset, .unset] [])
  refine E_aloadN (v := (.ref a)) (pc' := 1) X d11_0 rfl rfl rfl ?_
  refine E_getF (pc' := 4) X (host := "") (Or.inl (w_52 hw)) Via.refl hF0 d11_1 rfl (fun T X => ?_)
  refine E_iloadN (pc' := 5) X d11_4 rfl rfl ?_
  refine E_iaload (v := (.int (6 : Int32))) (pc' := 6) X hA6 (by decide) rfl d11_5 rfl ?_
  refine E_istoreN (Ls' := #[.val (.ref a), .val (.int (1 : Int32)), .val (.int x), .val (.int (6 : Int32)), .unset, .unset]) (pc' := 7) X d11_6 rfl rfl ?_
  refine E_aloadN (v := (.ref a)) (pc' := 8) X d11_7 rfl rfl rfl ?_
  refine E_getF (pc' := 11) X (host := "") (Or.inl (w_24 hw)) Via.refl hF3 d11_8 rfl (fun T X => ?_)
  refine E_iloadN (pc' := 12) X d11_11 rfl rfl ?_
  refine E_iaload (v := (.int (3 : Int32))) (pc' := 13) X hA5 (by decide) rfl d11_12 rfl ?_
  refine E_iloadN (pc' := 14) X d11_13 rfl rfl ?_
  refine E_icmp (pcY := 19) (pcN := 17) X (ic_ge _ _) d11_14 (by decide) rfl rfl (fun hc14_0 => ?_) (fun hc14_0 => ?_)
  · skip
    refine E_aloadN (v := (.ref a)) (pc' := 20) X d11_19 rfl rfl rfl ?_
    refine E_getF (pc' := 23) X (host := "") (Or.inl (w_63 hw)) Via.refl hF1 d11_20 rfl (fun T X => ?_)
    refine E_alen (n := (2 : Int32)) (pc' := 24) X hA7 rfl d11_23 rfl ?_
    refine E_iconst (v := (1 : Int32)) (pc' := 25) X d11_24 rfl rfl ?_
    refine E_isub (pc' := 26) X d11_25 rfl ?_
    refine E_eqI (z := (1 : Int32)) (by decide) ?_
    refine E_istore (Ls' := #[.val (.ref a), .val (.int (1 : Int32)), .val (.int x), .val (.int (6 : Int32)), .val (.int (1 : Int32)), .unset]) (pc' := 28) X d11_26 rfl rfl ?_
    refine E_iload (pc' := 30) X d11_28 rfl rfl ?_
    refine E_if (pcY := 64) (pcN := 33) X (i0_lt _) d11_30 (by decide) rfl rfl (fun hc30_0 => absurd hc30_0 (by decide)) (fun hc30_0 => ?_)
    refine E_aloadN (v := (.ref a)) (pc' := 34) X d11_33 rfl rfl rfl ?_
    refine E_getF (pc' := 37) X (host := "") (Or.inl (w_63 hw)) Via.refl hF1 d11_34 rfl (fun T X => ?_)
    refine E_iload (pc' := 39) X d11_37 rfl rfl ?_
    refine E_aaload (v := (.ref j1)) (pc' := 40) X hA7 rfl (by decide) rfl d11_39 rfl ?_
    refine E_iloadN (pc' := 41) X d11_40 rfl rfl ?_
    refine E_iaload (v := (.int (1 : Int32))) (pc' := 42) X hA9 (by decide) rfl d11_41 rfl ?_
    refine E_istore (Ls' := #[.val (.ref a), .val (.int (1 : Int32)), .val (.int x), .val (.int (6 : Int32)), .val (.int (1 : Int32)), .val (.int (1 : Int32))]) (pc' := 44) X d11_42 rfl rfl ?_
    refine E_aloadN (v := (.ref a)) (pc' := 45) X d11_44 rfl rfl rfl ?_
    refine E_getF (pc' := 48) X (host := "") (Or.inl (w_24 hw)) Via.refl hF3 d11_45 rfl (fun T X => ?_)
    refine E_iload (pc' := 50) X d11_48 rfl rfl ?_
    refine E_iaload (v := (.int (1 : Int32))) (pc' := 51) X hA5 (by decide) rfl d11_50 rfl ?_
    refine E_iloadN (pc' := 52) X d11_51 rfl rfl ?_
    refine E_icmp (pcY := 58) (pcN := 55) X (ic_lt _ _) d11_52 (by decide) rfl rfl (fun hc52_0 => ?_) (fun hc52_0 => ?_)
    · skip
      refine E_iinc (x := (1 : Int32)) (z := (0 : Int32)) (Ls' := #[.val (.ref a), .val (.int (1 : Int32)), .val (.int x), .val (.int (6 : Int32)), .val (.int (0 : Int32)), .val (.int (1 : Int32))]) (pc' := 61) X d11_58 rfl rfl rfl rfl ?_
      refine E_goto (pc' := 28) X d11_61 (by decide) rfl ?_
      refine E_iload (pc' := 30) X d11_28 rfl rfl ?_
      refine E_if (pcY := 64) (pcN := 33) X (i0_lt _) d11_30 (by decide) rfl rfl (fun hc30_1 => absurd hc30_1 (by decide)) (fun hc30_1 => ?_)
      refine E_aloadN (v := (.ref a)) (pc' := 34) X d11_33 rfl rfl rfl ?_
      refine E_getF (pc' := 37) X (host := "") (Or.inl (w_63 hw)) Via.refl hF1 d11_34 rfl (fun T X => ?_)
      refine E_iload (pc' := 39) X d11_37 rfl rfl ?_
      refine E_aaload (v := (.ref j0)) (pc' := 40) X hA7 rfl (by decide) rfl d11_39 rfl ?_
      refine E_iloadN (pc' := 41) X d11_40 rfl rfl ?_
      refine E_iaload (v := (.int (3 : Int32))) (pc' := 42) X hA8 (by decide) rfl d11_41 rfl ?_
      refine E_istore (Ls' := #[.val (.ref a), .val (.int (1 : Int32)), .val (.int x), .val (.int (6 : Int32)), .val (.int (0 : Int32)), .val (.int (3 : Int32))]) (pc' := 44) X d11_42 rfl rfl ?_
      refine E_aloadN (v := (.ref a)) (pc' := 45) X d11_44 rfl rfl rfl ?_
      refine E_getF (pc' := 48) X (host := "") (Or.inl (w_24 hw)) Via.refl hF3 d11_45 rfl (fun T X => ?_)
      refine E_iload (pc' := 50) X d11_48 rfl rfl ?_
      refine E_iaload (v := (.int (2 : Int32))) (pc' := 51) X hA5 (by decide) rfl d11_50 rfl ?_
      refine E_iloadN (pc' := 52) X d11_51 rfl rfl ?_
      refine E_icmp (pcY := 58) (pcN := 55) X (ic_lt _ _) d11_52 (by decide) rfl rfl (fun hc52_1 => ?_) (fun hc52_1 => ?_)
      · skip
        refine E_iinc (x := (0 : Int32)) (z := (-1 : Int32)) (Ls' := #[.val (.ref a), .val (.int (1 : Int32)), .val (.int x), .val (.int (6 : Int32)), .val (.int (-1 : Int32)), .val (.int (3 : Int32))]) (pc' := 61) X d11_58 rfl rfl rfl rfl ?_
        refine E_goto (pc' := 28) X d11_61 (by decide) rfl ?_
        refine E_iload (pc' := 30) X d11_28 rfl rfl ?_
        refine E_if (pcY := 64) (pcN := 33) X (i0_lt _) d11_30 (by decide) rfl rfl (fun hc30_2 => ?_) (fun hc30_2 => absurd (by decide) hc30_2)
        refine E_aloadN (v := (.ref a)) (pc' := 65) X d11_64 rfl rfl rfl ?_
        refine E_getF (pc' := 68) X (host := "") (Or.inl (w_22 hw)) Via.refl hF2 d11_65 rfl (fun T X => ?_)
        refine E_iloadN (pc' := 69) X d11_68 rfl rfl ?_
        refine E_iaload (v := (.int (3 : Int32))) (pc' := 70) X hA4 (by decide) rfl d11_69 rfl ?_
        exact E_retI X d11_70 (by decide) (by decide) ⟨(congrArg (fun z => some (Value.int z)) (own_bb_1_1_0 x hc14_0 hc52_0 hc52_1).symm), rfl⟩
      · skip
        refine E_iload (pc' := 57) X d11_55 rfl rfl ?_
        refine E_istoreN (Ls' := #[.val (.ref a), .val (.int (1 : Int32)), .val (.int x), .val (.int (3 : Int32)), .val (.int (0 : Int32)), .val (.int (3 : Int32))]) (pc' := 58) X d11_57 rfl rfl ?_
        refine E_iinc (x := (0 : Int32)) (z := (-1 : Int32)) (Ls' := #[.val (.ref a), .val (.int (1 : Int32)), .val (.int x), .val (.int (3 : Int32)), .val (.int (-1 : Int32)), .val (.int (3 : Int32))]) (pc' := 61) X d11_58 rfl rfl rfl rfl ?_
        refine E_goto (pc' := 28) X d11_61 (by decide) rfl ?_
        refine E_iload (pc' := 30) X d11_28 rfl rfl ?_
        refine E_if (pcY := 64) (pcN := 33) X (i0_lt _) d11_30 (by decide) rfl rfl (fun hc30_2 => ?_) (fun hc30_2 => absurd (by decide) hc30_2)
        refine E_aloadN (v := (.ref a)) (pc' := 65) X d11_64 rfl rfl rfl ?_
        refine E_getF (pc' := 68) X (host := "") (Or.inl (w_22 hw)) Via.refl hF2 d11_65 rfl (fun T X => ?_)
        refine E_iloadN (pc' := 69) X d11_68 rfl rfl ?_
        refine E_iaload (v := (.int (1 : Int32))) (pc' := 70) X hA4 (by decide) rfl d11_69 rfl ?_
        exact E_retI X d11_70 (by decide) (by decide) ⟨(congrArg (fun z => some (Value.int z)) (own_bb_1_1_1 x hc14_0 hc52_0 hc52_1).symm), rfl⟩
    · skip
      refine E_iload (pc' := 57) X d11_55 rfl rfl ?_
      refine E_istoreN (Ls' := #[.val (.ref a), .val (.int (1 : Int32)), .val (.int x), .val (.int (1 : Int32)), .val (.int (1 : Int32)), .val (.int (1 : Int32))]) (pc' := 58) X d11_57 rfl rfl ?_
      refine E_iinc (x := (1 : Int32)) (z := (0 : Int32)) (Ls' := #[.val (.ref a), .val (.int (1 : Int32)), .val (.int x), .val (.int (1 : Int32)), .val (.int (0 : Int32)), .val (.int (1 : Int32))]) (pc' := 61) X d11_58 rfl rfl rfl rfl ?_
      refine E_goto (pc' := 28) X d11_61 (by decide) rfl ?_
      refine E_iload (pc' := 30) X d11_28 rfl rfl ?_
      refine E_if (pcY := 64) (pcN := 33) X (i0_lt _) d11_30 (by decide) rfl rfl (fun hc30_1 => absurd hc30_1 (by decide)) (fun hc30_1 => ?_)
      refine E_aloadN (v := (.ref a)) (pc' := 34) X d11_33 rfl rfl rfl ?_
      refine E_getF (pc' := 37) X (host := "") (Or.inl (w_63 hw)) Via.refl hF1 d11_34 rfl (fun T X => ?_)
      refine E_iload (pc' := 39) X d11_37 rfl rfl ?_
      refine E_aaload (v := (.ref j0)) (pc' := 40) X hA7 rfl (by decide) rfl d11_39 rfl ?_
      refine E_iloadN (pc' := 41) X d11_40 rfl rfl ?_
      refine E_iaload (v := (.int (0 : Int32))) (pc' := 42) X hA8 (by decide) rfl d11_41 rfl ?_
      refine E_istore (Ls' := #[.val (.ref a), .val (.int (1 : Int32)), .val (.int x), .val (.int (1 : Int32)), .val (.int (0 : Int32)), .val (.int (0 : Int32))]) (pc' := 44) X d11_42 rfl rfl ?_
      refine E_aloadN (v := (.ref a)) (pc' := 45) X d11_44 rfl rfl rfl ?_
      refine E_getF (pc' := 48) X (host := "") (Or.inl (w_24 hw)) Via.refl hF3 d11_45 rfl (fun T X => ?_)
      refine E_iload (pc' := 50) X d11_48 rfl rfl ?_
      refine E_iaload (v := (.int (0 : Int32))) (pc' := 51) X hA5 (by decide) rfl d11_50 rfl ?_
      refine E_iloadN (pc' := 52) X d11_51 rfl rfl ?_
      refine E_icmp (pcY := 58) (pcN := 55) X (ic_lt _ _) d11_52 (by decide) rfl rfl (fun hc52_1 => ?_) (fun hc52_1 => ?_)
      · skip
        refine E_iinc (x := (0 : Int32)) (z := (-1 : Int32)) (Ls' := #[.val (.ref a), .val (.int (1 : Int32)), .val (.int x), .val (.int (1 : Int32)), .val (.int (-1 : Int32)), .val (.int (0 : Int32))]) (pc' := 61) X d11_58 rfl rfl rfl rfl ?_
        refine E_goto (pc' := 28) X d11_61 (by decide) rfl ?_
        refine E_iload (pc' := 30) X d11_28 rfl rfl ?_
        refine E_if (pcY := 64) (pcN := 33) X (i0_lt _) d11_30 (by decide) rfl rfl (fun hc30_2 => ?_) (fun hc30_2 => absurd (by decide) hc30_2)
        refine E_aloadN (v := (.ref a)) (pc' := 65) X d11_64 rfl rfl rfl ?_
        refine E_getF (pc' := 68) X (host := "") (Or.inl (w_22 hw)) Via.refl hF2 d11_65 rfl (fun T X => ?_)
        refine E_iloadN (pc' := 69) X d11_68 rfl rfl ?_
        refine E_iaload (v := (.int (0 : Int32))) (pc' := 70) X hA4 (by decide) rfl d11_69 rfl ?_
        exact E_retI X d11_70 (by decide) (by decide) ⟨(congrArg (fun z => some (Value.int z)) (own_bb_1_1_2 x hc14_0 hc52_0 hc52_1).symm), rfl⟩
      · skip
        refine E_iload (pc' := 57) X d11_55 rfl rfl ?_
        refine E_istoreN (Ls' := #[.val (.ref a), .val (.int (1 : Int32)), .val (.int x), .val (.int (0 : Int32)), .val (.int (0 : Int32)), .val (.int (0 : Int32))]) (pc' := 58) X d11_57 rfl rfl ?_
        refine E_iinc (x := (0 : Int32)) (z := (-1 : Int32)) (Ls' := #[.val (.ref a), .val (.int (1 : Int32)), .val (.int x), .val (.int (0 : Int32)), .val (.int (-1 : Int32)), .val (.int (0 : Int32))]) (pc' := 61) X d11_58 rfl rfl rfl rfl ?_
        refine E_goto (pc' := 28) X d11_61 (by decide) rfl ?_
        refine E_iload (pc' := 30) X d11_28 rfl rfl ?_
        refine E_if (pcY := 64) (pcN := 33) X (i0_lt _) d11_30 (by decide) rfl rfl (fun hc30_2 => ?_) (fun hc30_2 => absurd (by decide) hc30_2)
        refine E_aloadN (v := (.ref a)) (pc' := 65) X d11_64 rfl rfl rfl ?_
        refine E_getF (pc' := 68) X (host := "") (Or.inl (w_22 hw)) Via.refl hF2 d11_65 rfl (fun T X => ?_)
        refine E_iloadN (pc' := 69) X d11_68 rfl rfl ?_
        refine E_iaload (v := (.int (0 : Int32))) (pc' := 70) X hA4 (by decide) rfl d11_69 rfl ?_
        exact E_retI X d11_70 (by decide) (by decide) ⟨(congrArg (fun z => some (Value.int z)) (own_bb_1_1_3 x hc14_0 hc52_0 hc52_1).symm), rfl⟩
  · skip
    replace hc14_0 := Decidable.not_not.mp hc14_0
    refine E_iloadN (pc' := 18) X d11_17 rfl rfl ?_
    exact E_retI X d11_18 (by decide) (by decide) ⟨(congrArg (fun z => some (Value.int z)) (own_bb_1_1_4 x hc14_0).symm), rfl⟩
theorem d12_35 : decode method_2_code 35 = .ok (.iload_n 1, 1) := by decide +kernel
theorem d12_36 : decode method_2_code 36 = .ok (.iconst 1, 1) := by decide +kernel
theorem d12_37 : decode method_2_code 37 = .ok (.if_icmp .ne 24, 3) := by decide +kernel
theorem d12_40 : decode method_2_code 40 = .ok (.iload_n 2, 1) := by decide +kernel
theorem d12_41 : decode method_2_code 41 = .ok (.iconst 2, 1) := by decide +kernel
theorem d12_42 : decode method_2_code 42 = .ok (.if_icmp .gt 7, 3) := by decide +kernel
theorem d12_45 : decode method_2_code 45 = .ok (.iconst 1, 1) := by decide +kernel
theorem d12_46 : decode method_2_code 46 = .ok (.goto 14, 3) := by decide +kernel
theorem d12_49 : decode method_2_code 49 = .ok (.iload_n 2, 1) := by decide +kernel
theorem d12_50 : decode method_2_code 50 = .ok (.iconst 3, 1) := by decide +kernel
theorem d12_51 : decode method_2_code 51 = .ok (.if_icmp .gt 7, 3) := by decide +kernel
theorem d12_54 : decode method_2_code 54 = .ok (.iconst 3, 1) := by decide +kernel
theorem d12_55 : decode method_2_code 55 = .ok (.goto 5, 3) := by decide +kernel
theorem d12_58 : decode method_2_code 58 = .ok (.bipush 6, 2) := by decide +kernel
theorem d12_60 : decode method_2_code 60 = .ok (.ireturn, 1) := by decide +kernel
theorem ef_rm_ex11 (m : MethodId) (x0 : Int32) (x1 : Int32) (x2 : Int32) : entryFrame m #[(.int x0), (.int x1), (.int x2)] 3 = mkF m 0 #[.val (.int x0), .val (.int x1), .val (.int x2)] [] := by first | (simp [entryFrame, mkF, argsToLocals, Value.category]; done) | (simp [entryFrame, mkF, argsToLocals, *]; done) | rfl
set_option maxRecDepth 65536 in
set_option maxHeartbeats 2000000 in
theorem rm_ex11 (l : Launch) (Z : State) (a0 : Array Value) (hw : ∀ d ∈ tables_1, d.before a0 Z = true) (x : Int32) (h0 : Heap) (hE : Ext Z.heap h0) :
    Con l Z (⟨"com/example/nimble_calculus/nimblecalculus/equivalence/SplitsBlockBeforePinLaw", "expected", "(ZII)I"⟩ : MethodName) method_2_code 3 (some .int) ({ frames := 0, cells := 0, slots := 0, locals := 0 } : Room) #[(.int (1 : Int32)), (.int (1 : Int32)), (.int x)] h0 (fun vv hh => vv = some (.int (ownE11 x)) ∧ h0 = hh) := by
  refine Con.of (plainFor_of_name (by first | (simp [plainName, overriddenIn]; done) | decide +kernel)) hE ?_
  intro p e s m below T (X : Sd l Z "com/example/nimble_calculus/nimblecalculus/equivalence/SplitsBlockBeforePinLaw" "expected" method_2_code 3 (some .int) ({ frames := 0, cells := 0, slots := 0, locals := 0 } : Room) p e s m #[(.int (1 : Int32)), (.int (1 : Int32)), (.int x)] below T h0 0 0)
  refine End.frame (ef_rm_ex11 m (1 : Int32) (1 : Int32) x) ?_
  show End Z p e below s _ _ _ _ (mkF m 0 #[.val (.int (1 : Int32)), .val (.int (1 : Int32)), .val (.int x)] [])
  refine E_iloadN (pc' := 1) X d12_0 rfl rfl ?_
  refine E_iconst (v := (1 : Int32)) (pc' := 2) X d12_1 rfl rfl ?_
  refine E_icmp (pcY := 7) (pcN := 5) X (ic_gt _ _) d12_2 (by decide) rfl rfl (fun hc2_0 => ?_) (fun hc2_0 => ?_)
  · skip
    refine E_iloadN (pc' := 8) X d12_7 rfl rfl ?_
    refine E_if (pcY := 79) (pcN := 11) X (i0_eq _) d12_8 (by decide) rfl rfl (fun hc8_0 => absurd hc8_0 (by decide)) (fun hc8_0 => ?_)
    refine E_iloadN (pc' := 12) X d12_11 rfl rfl ?_
    refine E_if (pcY := 35) (pcN := 15) X (i0_ne _) d12_12 (by decide) rfl rfl (fun hc12_0 => ?_) (fun hc12_0 => absurd (by decide) hc12_0)
    refine E_iloadN (pc' := 36) X d12_35 rfl rfl ?_
    refine E_iconst (v := (1 : Int32)) (pc' := 37) X d12_36 rfl rfl ?_
    refine E_icmp (pcY := 61) (pcN := 40) X (ic_ne _ _) d12_37 (by decide) rfl rfl (fun hc37_0 => absurd hc37_0 (by decide)) (fun hc37_0 => ?_)
    refine E_iloadN (pc' := 41) X d12_40 rfl rfl ?_
    refine E_iconst (v := (2 : Int32)) (pc' := 42) X d12_41 rfl rfl ?_
    refine E_icmp (pcY := 49) (pcN := 45) X (ic_gt _ _) d12_42 (by decide) rfl rfl (fun hc42_0 => ?_) (fun hc42_0 => ?_)
    · skip
      refine E_iloadN (pc' := 50) X d12_49 rfl rfl ?_
      refine E_iconst (v := (3 : Int32)) (pc' := 51) X d12_50 rfl rfl ?_
      refine E_icmp (pcY := 58) (pcN := 54) X (ic_gt _ _) d12_51 (by decide) rfl rfl (fun hc51_0 => ?_) (fun hc51_0 => ?_)
      · skip
        refine E_bipush (v := (6 : Int32)) (pc' := 60) X d12_58 rfl rfl ?_
        exact E_retI X d12_60 (by decide) (by decide) ⟨(by simp [ownE11, hc2_0, hc42_0, hc51_0]), rfl⟩
      · skip
        refine E_iconst (v := (3 : Int32)) (pc' := 55) X d12_54 rfl rfl ?_
        refine E_goto (pc' := 60) X d12_55 (by decide) rfl ?_
        exact E_retI X d12_60 (by decide) (by decide) ⟨(by simp [ownE11, hc2_0, hc42_0, hc51_0]), rfl⟩
    · skip
      refine E_iconst (v := (1 : Int32)) (pc' := 46) X d12_45 rfl rfl ?_
      refine E_goto (pc' := 60) X d12_46 (by decide) rfl ?_
      exact E_retI X d12_60 (by decide) (by decide) ⟨(by simp [ownE11, hc2_0, hc42_0]), rfl⟩
  · skip
    refine E_iconst (v := (0 : Int32)) (pc' := 6) X d12_5 rfl rfl ?_
    exact E_retI X d12_6 (by decide) (by decide) ⟨(by simp [ownE11, hc2_0]), rfl⟩
theorem own_bb_1_2_0 (x : Int32) (q0 : ¬ (2 : Int32) < x) (q1 : (0 : Int32) < x) (q2 : (1 : Int32) < x) : ownE12 x = (1 : Int32) := by
  unfold ownE12
  simp only [Int32.lt_iff_toInt_lt] at *
  have e0 : (0 : Int32).toInt = 0 := rfl
  have e1 : (1 : Int32).toInt = 1 := rfl
  have e2 : (2 : Int32).toInt = 2 := rfl
  have e3 : (3 : Int32).toInt = 3 := rfl
  repeat' split
  all_goals first | rfl | (exfalso; omega)
theorem own_bb_1_2_1 (x : Int32) (q0 : ¬ (2 : Int32) < x) (q1 : (0 : Int32) < x) (q2 : ¬ (1 : Int32) < x) : ownE12 x = (0 : Int32) := by
  unfold ownE12
  simp only [Int32.lt_iff_toInt_lt] at *
  have e0 : (0 : Int32).toInt = 0 := rfl
  have e1 : (1 : Int32).toInt = 1 := rfl
  have e2 : (2 : Int32).toInt = 2 := rfl
  have e3 : (3 : Int32).toInt = 3 := rfl
  repeat' split
  all_goals first | rfl | (exfalso; omega)
theorem own_bb_1_2_2 (x : Int32) (q0 : ¬ (2 : Int32) < x) (q1 : ¬ (0 : Int32) < x) (q2 : (0 : Int32) < x) : ownE12 x = (0 : Int32) := by
  unfold ownE12
  simp only [Int32.lt_iff_toInt_lt] at *
  have e0 : (0 : Int32).toInt = 0 := rfl
  have e1 : (1 : Int32).toInt = 1 := rfl
  have e2 : (2 : Int32).toInt = 2 := rfl
  have e3 : (3 : Int32).toInt = 3 := rfl
  repeat' split
  all_goals first | rfl | (exfalso; omega)
theorem own_bb_1_2_3 (x : Int32) (q0 : ¬ (2 : Int32) < x) (q1 : ¬ (0 : Int32) < x) (q2 : ¬ (0 : Int32) < x) : ownE12 x = (0 : Int32) := by
  unfold ownE12
  simp only [Int32.lt_iff_toInt_lt] at *
  have e0 : (0 : Int32).toInt = 0 := rfl
  have e1 : (1 : Int32).toInt = 1 := rfl
  have e2 : (2 : Int32).toInt = 2 := rfl
  have e3 : (3 : Int32).toInt = 3 := rfl
  repeat' split
  all_goals first | rfl | (exfalso; omega)
theorem own_bb_1_2_4 (x : Int32) (q0 : (2 : Int32) < x) : ownE12 x = (4 : Int32) := by
  unfold ownE12
  simp only [Int32.lt_iff_toInt_lt] at *
  have e0 : (0 : Int32).toInt = 0 := rfl
  have e1 : (1 : Int32).toInt = 1 := rfl
  have e2 : (2 : Int32).toInt = 2 := rfl
  have e3 : (3 : Int32).toInt = 3 := rfl
  repeat' split
  all_goals first | rfl | (exfalso; omega)
theorem ef_rm_bb12 (m : MethodId) (x0 : Addr) (x1 : Int32) (x2 : Int32) : entryFrame m #[(.ref x0), (.int x1), (.int x2)] 6 = mkF m 0 #[.val (.ref x0), .val (.int x1), .val (.int x2), .unset, .unset, .unset] [] := by first | (simp [entryFrame, mkF, argsToLocals, Value.category]; done) | (simp [entryFrame, mkF, argsToLocals, *]; done) | rfl
set_option maxRecDepth 65536 in
set_option maxHeartbeats 2000000 in
theorem rm_bb12 (l : Launch) (Z : State) (a0 : Array Value) (hw : ∀ d ∈ tables_1, d.before a0 Z = true) (a : Addr) (x : Int32) (lf : Addr) (jp : Addr) (P : Addr) (B : Addr) (j0 : Addr) (j1 : Addr) (h0 : Heap) (hE : Ext Z.heap h0) (hF0 : Fld Z h0 a "com/example/nimble_calculus/nimblecalculus/equivalence/Splits" "leaf" "[I" (.ref lf)) (hF1 : Fld Z h0 a "com/example/nimble_calculus/nimblecalculus/equivalence/Splits" "jumps" "[[I" (.ref jp)) (hF2 : Fld Z h0 a "com/example/nimble_calculus/nimblecalculus/equivalence/Splits" "parent" "[I" (.ref P)) (hF3 : Fld Z h0 a "com/example/nimble_calculus/nimblecalculus/equivalence/Splits" "born" "[I" (.ref B)) (hA4 : Ar Z h0 P .int [(.int (0 : Int32)), (.int (0 : Int32)), (.int (0 : Int32)), (.int (1 : Int32)), (.int (1 : Int32)), (.int (3 : Int32)), (.int (3 : Int32))]) (hA5 : Ar Z h0 B .int [(.int (0 : Int32)), (.int (1 : Int32)), (.int (1 : Int32)), (.int (2 : Int32)), (.int (2 : Int32)), (.int (3 : Int32)), (.int (3 : Int32))]) (hA6 : Ar Z h0 lf .int [(.int (5 : Int32)), (.int (6 : Int32)), (.int (4 : Int32)), (.int (2 : Int32))]) (hA7 : Ar Z h0 jp (.array .int) [(.ref j0), (.ref j1)]) (hA8 : Ar Z h0 j0 .int [(.int (0 : Int32)), (.int (0 : Int32)), (.int (0 : Int32)), (.int (1 : Int32)), (.int (1 : Int32)), (.int (3 : Int32)), (.int (3 : Int32))]) (hA9 : Ar Z h0 j1 .int [(.int (0 : Int32)), (.int (0 : Int32)), (.int (0 : Int32)), (.int (0 : Int32)), (.int (0 : Int32)), (.int (1 : Int32)), (.int (1 : Int32))]) :
    Con l Z (⟨"com/example/nimble_calculus/nimblecalculus/equivalence/Splits", "blockBefore", "(II)I"⟩ : MethodName) prog_61_method_8_code 6 (some .int) ({ frames := 0, cells := 0, slots := 0, locals := 0 } : Room) #[(.ref a), (.int (2 : Int32)), (.int x)] h0 (fun vv hh => vv = some (.int (ownE12 x)) ∧ h0 = hh) := by
  refine Con.of (plainFor_of_name (by first | (simp [plainName, overriddenIn]; done) | decide +kernel)) hE ?_
  intro p e s m below T (X : Sd l Z "com/example/nimble_calculus/nimblecalculus/equivalence/Splits" "blockBefore" prog_61_method_8_code 6 (some .int) ({ frames := 0, cells := 0, slots := 0, locals := 0 } : Room) p e s m #[(.ref a), (.int (2 : Int32)), (.int x)] below T h0 0 0)
  refine End.frame (ef_rm_bb12 m a (2 : Int32) x) ?_
  show End Z p e below s _ _ _ _ (mkF m 0 #[.val (.ref a), .val (.int (2 : Int32)), .val (.int x), .unset, .unset, .unset] [])
  refine E_aloadN (v := (.ref a)) (pc' := 1) X d11_0 rfl rfl rfl ?_
  refine E_getF (pc' := 4) X (host := "") (Or.inl (w_52 hw)) Via.refl hF0 d11_1 rfl (fun T X => ?_)
  refine E_iloadN (pc' := 5) X d11_4 rfl rfl ?_
  refine E_iaload (v := (.int (4 : Int32))) (pc' := 6) X hA6 (by decide) rfl d11_5 rfl ?_
  refine E_istoreN (Ls' := #[.val (.ref a), .val (.int (2 : Int32)), .val (.int x), .val (.int (4 : Int32)), .unset, .unset]) (pc' := 7) X d11_6 rfl rfl ?_
  refine E_aloadN (v := (.ref a)) (pc' := 8) X d11_7 rfl rfl rfl ?_
  refine E_getF (pc' := 11) X (host := "") (Or.inl (w_24 hw)) Via.refl hF3 d11_8 rfl (fun T X => ?_)
  refine E_iloadN (pc' := 12) X d11_11 rfl rfl ?_
  refine E_iaload (v := (.int (2 : Int32))) (pc' := 13) X hA5 (by decide) rfl d11_12 rfl ?_
  refine E_iloadN (pc' := 14) X d11_13 rfl rfl ?_
  refine E_icmp (pcY := 19) (pcN := 17) X (ic_ge _ _) d11_14 (by decide) rfl rfl (fun hc14_0 => ?_) (fun hc14_0 => ?_)
  · skip
    refine E_aloadN (v := (.ref a)) (pc' := 20) X d11_19 rfl rfl rfl ?_
    refine E_getF (pc' := 23) X (host := "") (Or.inl (w_63 hw)) Via.refl hF1 d11_20 rfl (fun T X => ?_)
    refine E_alen (n := (2 : Int32)) (pc' := 24) X hA7 rfl d11_23 rfl ?_
    refine E_iconst (v := (1 : Int32)) (pc' := 25) X d11_24 rfl rfl ?_
    refine E_isub (pc' := 26) X d11_25 rfl ?_
    refine E_eqI (z := (1 : Int32)) (by decide) ?_
    refine E_istore (Ls' := #[.val (.ref a), .val (.int (2 : Int32)), .val (.int x), .val (.int (4 : Int32)), .val (.int (1 : Int32)), .unset]) (pc' := 28) X d11_26 rfl rfl ?_
    refine E_iload (pc' := 30) X d11_28 rfl rfl ?_
    refine E_if (pcY := 64) (pcN := 33) X (i0_lt _) d11_30 (by decide) rfl rfl (fun hc30_0 => absurd hc30_0 (by decide)) (fun hc30_0 => ?_)
    refine E_aloadN (v := (.ref a)) (pc' := 34) X d11_33 rfl rfl rfl ?_
    refine E_getF (pc' := 37) X (host := "") (Or.inl (w_63 hw)) Via.refl hF1 d11_34 rfl (fun T X => ?_)
    refine E_iload (pc' := 39) X d11_37 rfl rfl ?_
    refine E_aaload (v := (.ref j1)) (pc' := 40) X hA7 rfl (by decide) rfl d11_39 rfl ?_
    refine E_iloadN (pc' := 41) X d11_40 rfl rfl ?_
    refine E_iaload (v := (.int (0 : Int32))) (pc' := 42) X hA9 (by decide) rfl d11_41 rfl ?_
    refine E_istore (Ls' := #[.val (.ref a), .val (.int (2 : Int32)), .val (.int x), .val (.int (4 : Int32)), .val (.int (1 : Int32)), .val (.int (0 : Int32))]) (pc' := 44) X d11_42 rfl rfl ?_
    refine E_aloadN (v := (.ref a)) (pc' := 45) X d11_44 rfl rfl rfl ?_
    refine E_getF (pc' := 48) X (host := "") (Or.inl (w_24 hw)) Via.refl hF3 d11_45 rfl (fun T X => ?_)
    refine E_iload (pc' := 50) X d11_48 rfl rfl ?_
    refine E_iaload (v := (.int (0 : Int32))) (pc' := 51) X hA5 (by decide) rfl d11_50 rfl ?_
    refine E_iloadN (pc' := 52) X d11_51 rfl rfl ?_
    refine E_icmp (pcY := 58) (pcN := 55) X (ic_lt _ _) d11_52 (by decide) rfl rfl (fun hc52_0 => ?_) (fun hc52_0 => ?_)
    · skip
      refine E_iinc (x := (1 : Int32)) (z := (0 : Int32)) (Ls' := #[.val (.ref a), .val (.int (2 : Int32)), .val (.int x), .val (.int (4 : Int32)), .val (.int (0 : Int32)), .val (.int (0 : Int32))]) (pc' := 61) X d11_58 rfl rfl rfl rfl ?_
      refine E_goto (pc' := 28) X d11_61 (by decide) rfl ?_
      refine E_iload (pc' := 30) X d11_28 rfl rfl ?_
      refine E_if (pcY := 64) (pcN := 33) X (i0_lt _) d11_30 (by decide) rfl rfl (fun hc30_1 => absurd hc30_1 (by decide)) (fun hc30_1 => ?_)
      refine E_aloadN (v := (.ref a)) (pc' := 34) X d11_33 rfl rfl rfl ?_
      refine E_getF (pc' := 37) X (host := "") (Or.inl (w_63 hw)) Via.refl hF1 d11_34 rfl (fun T X => ?_)
      refine E_iload (pc' := 39) X d11_37 rfl rfl ?_
      refine E_aaload (v := (.ref j0)) (pc' := 40) X hA7 rfl (by decide) rfl d11_39 rfl ?_
      refine E_iloadN (pc' := 41) X d11_40 rfl rfl ?_
      refine E_iaload (v := (.int (1 : Int32))) (pc' := 42) X hA8 (by decide) rfl d11_41 rfl ?_
      refine E_istore (Ls' := #[.val (.ref a), .val (.int (2 : Int32)), .val (.int x), .val (.int (4 : Int32)), .val (.int (0 : Int32)), .val (.int (1 : Int32))]) (pc' := 44) X d11_42 rfl rfl ?_
      refine E_aloadN (v := (.ref a)) (pc' := 45) X d11_44 rfl rfl rfl ?_
      refine E_getF (pc' := 48) X (host := "") (Or.inl (w_24 hw)) Via.refl hF3 d11_45 rfl (fun T X => ?_)
      refine E_iload (pc' := 50) X d11_48 rfl rfl ?_
      refine E_iaload (v := (.int (1 : Int32))) (pc' := 51) X hA5 (by decide) rfl d11_50 rfl ?_
      refine E_iloadN (pc' := 52) X d11_51 rfl rfl ?_
      refine E_icmp (pcY := 58) (pcN := 55) X (ic_lt _ _) d11_52 (by decide) rfl rfl (fun hc52_1 => ?_) (fun hc52_1 => ?_)
      · skip
        refine E_iinc (x := (0 : Int32)) (z := (-1 : Int32)) (Ls' := #[.val (.ref a), .val (.int (2 : Int32)), .val (.int x), .val (.int (4 : Int32)), .val (.int (-1 : Int32)), .val (.int (1 : Int32))]) (pc' := 61) X d11_58 rfl rfl rfl rfl ?_
        refine E_goto (pc' := 28) X d11_61 (by decide) rfl ?_
        refine E_iload (pc' := 30) X d11_28 rfl rfl ?_
        refine E_if (pcY := 64) (pcN := 33) X (i0_lt _) d11_30 (by decide) rfl rfl (fun hc30_2 => ?_) (fun hc30_2 => absurd (by decide) hc30_2)
        refine E_aloadN (v := (.ref a)) (pc' := 65) X d11_64 rfl rfl rfl ?_
        refine E_getF (pc' := 68) X (host := "") (Or.inl (w_22 hw)) Via.refl hF2 d11_65 rfl (fun T X => ?_)
        refine E_iloadN (pc' := 69) X d11_68 rfl rfl ?_
        refine E_iaload (v := (.int (1 : Int32))) (pc' := 70) X hA4 (by decide) rfl d11_69 rfl ?_
        exact E_retI X d11_70 (by decide) (by decide) ⟨(congrArg (fun z => some (Value.int z)) (own_bb_1_2_0 x hc14_0 hc52_0 hc52_1).symm), rfl⟩
      · skip
        refine E_iload (pc' := 57) X d11_55 rfl rfl ?_
        refine E_istoreN (Ls' := #[.val (.ref a), .val (.int (2 : Int32)), .val (.int x), .val (.int (1 : Int32)), .val (.int (0 : Int32)), .val (.int (1 : Int32))]) (pc' := 58) X d11_57 rfl rfl ?_
        refine E_iinc (x := (0 : Int32)) (z := (-1 : Int32)) (Ls' := #[.val (.ref a), .val (.int (2 : Int32)), .val (.int x), .val (.int (1 : Int32)), .val (.int (-1 : Int32)), .val (.int (1 : Int32))]) (pc' := 61) X d11_58 rfl rfl rfl rfl ?_
        refine E_goto (pc' := 28) X d11_61 (by decide) rfl ?_
        refine E_iload (pc' := 30) X d11_28 rfl rfl ?_
        refine E_if (pcY := 64) (pcN := 33) X (i0_lt _) d11_30 (by decide) rfl rfl (fun hc30_2 => ?_) (fun hc30_2 => absurd (by decide) hc30_2)
        refine E_aloadN (v := (.ref a)) (pc' := 65) X d11_64 rfl rfl rfl ?_
        refine E_getF (pc' := 68) X (host := "") (Or.inl (w_22 hw)) Via.refl hF2 d11_65 rfl (fun T X => ?_)
        refine E_iloadN (pc' := 69) X d11_68 rfl rfl ?_
        refine E_iaload (v := (.int (0 : Int32))) (pc' := 70) X hA4 (by decide) rfl d11_69 rfl ?_
        exact E_retI X d11_70 (by decide) (by decide) ⟨(congrArg (fun z => some (Value.int z)) (own_bb_1_2_1 x hc14_0 hc52_0 hc52_1).symm), rfl⟩
    · skip
      refine E_iload (pc' := 57) X d11_55 rfl rfl ?_
      refine E_istoreN (Ls' := #[.val (.ref a), .val (.int (2 : Int32)), .val (.int x), .val (.int (0 : Int32)), .val (.int (1 : Int32)), .val (.int (0 : Int32))]) (pc' := 58) X d11_57 rfl rfl ?_
      refine E_iinc (x := (1 : Int32)) (z := (0 : Int32)) (Ls' := #[.val (.ref a), .val (.int (2 : Int32)), .val (.int x), .val (.int (0 : Int32)), .val (.int (0 : Int32)), .val (.int (0 : Int32))]) (pc' := 61) X d11_58 rfl rfl rfl rfl ?_
      refine E_goto (pc' := 28) X d11_61 (by decide) rfl ?_
      refine E_iload (pc' := 30) X d11_28 rfl rfl ?_
      refine E_if (pcY := 64) (pcN := 33) X (i0_lt _) d11_30 (by decide) rfl rfl (fun hc30_1 => absurd hc30_1 (by decide)) (fun hc30_1 => ?_)
      refine E_aloadN (v := (.ref a)) (pc' := 34) X d11_33 rfl rfl rfl ?_
      refine E_getF (pc' := 37) X (host := "") (Or.inl (w_63 hw)) Via.refl hF1 d11_34 rfl (fun T X => ?_)
      refine E_iload (pc' := 39) X d11_37 rfl rfl ?_
      refine E_aaload (v := (.ref j0)) (pc' := 40) X hA7 rfl (by decide) rfl d11_39 rfl ?_
      refine E_iloadN (pc' := 41) X d11_40 rfl rfl ?_
      refine E_iaload (v := (.int (0 : Int32))) (pc' := 42) X hA8 (by decide) rfl d11_41 rfl ?_
      refine E_istore (Ls' := #[.val (.ref a), .val (.int (2 : Int32)), .val (.int x), .val (.int (0 : Int32)), .val (.int (0 : Int32)), .val (.int (0 : Int32))]) (pc' := 44) X d11_42 rfl rfl ?_
      refine E_aloadN (v := (.ref a)) (pc' := 45) X d11_44 rfl rfl rfl ?_
      refine E_getF (pc' := 48) X (host := "") (Or.inl (w_24 hw)) Via.refl hF3 d11_45 rfl (fun T X => ?_)
      refine E_iload (pc' := 50) X d11_48 rfl rfl ?_
      refine E_iaload (v := (.int (0 : Int32))) (pc' := 51) X hA5 (by decide) rfl d11_50 rfl ?_
      refine E_iloadN (pc' := 52) X d11_51 rfl rfl ?_
      refine E_icmp (pcY := 58) (pcN := 55) X (ic_lt _ _) d11_52 (by decide) rfl rfl (fun hc52_1 => ?_) (fun hc52_1 => ?_)
      · skip
        refine E_iinc (x := (0 : Int32)) (z := (-1 : Int32)) (Ls' := #[.val (.ref a), .val (.int (2 : Int32)), .val (.int x), .val (.int (0 : Int32)), .val (.int (-1 : Int32)), .val (.int (0 : Int32))]) (pc' := 61) X d11_58 rfl rfl rfl rfl ?_
        refine E_goto (pc' := 28) X d11_61 (by decide) rfl ?_
        refine E_iload (pc' := 30) X d11_28 rfl rfl ?_
        refine E_if (pcY := 64) (pcN := 33) X (i0_lt _) d11_30 (by decide) rfl rfl (fun hc30_2 => ?_) (fun hc30_2 => absurd (by decide) hc30_2)
        refine E_aloadN (v := (.ref a)) (pc' := 65) X d11_64 rfl rfl rfl ?_
        refine E_getF (pc' := 68) X (host := "") (Or.inl (w_22 hw)) Via.refl hF2 d11_65 rfl (fun T X => ?_)
        refine E_iloadN (pc' := 69) X d11_68 rfl rfl ?_
        refine E_iaload (v := (.int (0 : Int32))) (pc' := 70) X hA4 (by decide) rfl d11_69 rfl ?_
        exact E_retI X d11_70 (by decide) (by decide) ⟨(congrArg (fun z => some (Value.int z)) (own_bb_1_2_2 x hc14_0 hc52_0 hc52_1).symm), rfl⟩
      · skip
        refine E_iload (pc' := 57) X d11_55 rfl rfl ?_
        refine E_istoreN (Ls' := #[.val (.ref a), .val (.int (2 : Int32)), .val (.int x), .val (.int (0 : Int32)), .val (.int (0 : Int32)), .val (.int (0 : Int32))]) (pc' := 58) X d11_57 rfl rfl ?_
        refine E_iinc (x := (0 : Int32)) (z := (-1 : Int32)) (Ls' := #[.val (.ref a), .val (.int (2 : Int32)), .val (.int x), .val (.int (0 : Int32)), .val (.int (-1 : Int32)), .val (.int (0 : Int32))]) (pc' := 61) X d11_58 rfl rfl rfl rfl ?_
        refine E_goto (pc' := 28) X d11_61 (by decide) rfl ?_
        refine E_iload (pc' := 30) X d11_28 rfl rfl ?_
        refine E_if (pcY := 64) (pcN := 33) X (i0_lt _) d11_30 (by decide) rfl rfl (fun hc30_2 => ?_) (fun hc30_2 => absurd (by decide) hc30_2)
        refine E_aloadN (v := (.ref a)) (pc' := 65) X d11_64 rfl rfl rfl ?_
        refine E_getF (pc' := 68) X (host := "") (Or.inl (w_22 hw)) Via.refl hF2 d11_65 rfl (fun T X => ?_)
        refine E_iloadN (pc' := 69) X d11_68 rfl rfl ?_
        refine E_iaload (v := (.int (0 : Int32))) (pc' := 70) X hA4 (by decide) rfl d11_69 rfl ?_
        exact E_retI X d11_70 (by decide) (by decide) ⟨(congrArg (fun z => some (Value.int z)) (own_bb_1_2_3 x hc14_0 hc52_0 hc52_1).symm), rfl⟩
  · skip
    replace hc14_0 := Decidable.not_not.mp hc14_0
    refine E_iloadN (pc' := 18) X d11_17 rfl rfl ?_
    exact E_retI X d11_18 (by decide) (by decide) ⟨(congrArg (fun z => some (Value.int z)) (own_bb_1_2_4 x hc14_0).symm), rfl⟩
theorem d12_61 : decode method_2_code 61 = .ok (.iload_n 1, 1) := by decide +kernel
theorem d12_62 : decode method_2_code 62 = .ok (.iconst 2, 1) := by decide +kernel
theorem d12_63 : decode method_2_code 63 = .ok (.if_icmp .ne 14, 3) := by decide +kernel
theorem d12_66 : decode method_2_code 66 = .ok (.iload_n 2, 1) := by decide +kernel
theorem d12_67 : decode method_2_code 67 = .ok (.iconst 2, 1) := by decide +kernel
theorem d12_68 : decode method_2_code 68 = .ok (.if_icmp .gt 7, 3) := by decide +kernel
theorem d12_71 : decode method_2_code 71 = .ok (.iconst 1, 1) := by decide +kernel
theorem d12_72 : decode method_2_code 72 = .ok (.goto 4, 3) := by decide +kernel
theorem d12_75 : decode method_2_code 75 = .ok (.iconst 4, 1) := by decide +kernel
theorem d12_76 : decode method_2_code 76 = .ok (.ireturn, 1) := by decide +kernel
theorem ef_rm_ex12 (m : MethodId) (x0 : Int32) (x1 : Int32) (x2 : Int32) : entryFrame m #[(.int x0), (.int x1), (.int x2)] 3 = mkF m 0 #[.val (.int x0), .val (.int x1), .val (.int x2)] [] := by first | (simp [entryFrame, mkF, argsToLocals, Value.category]; done) | (simp [entryFrame, mkF, argsToLocals, *]; done) | rfl
set_option maxRecDepth 65536 in
set_option maxHeartbeats 2000000 in
theorem rm_ex12 (l : Launch) (Z : State) (a0 : Array Value) (hw : ∀ d ∈ tables_1, d.before a0 Z = true) (x : Int32) (h0 : Heap) (hE : Ext Z.heap h0) :
    Con l Z (⟨"com/example/nimble_calculus/nimblecalculus/equivalence/SplitsBlockBeforePinLaw", "expected", "(ZII)I"⟩ : MethodName) method_2_code 3 (some .int) ({ frames := 0, cells := 0, slots := 0, locals := 0 } : Room) #[(.int (1 : Int32)), (.int (2 : Int32)), (.int x)] h0 (fun vv hh => vv = some (.int (ownE12 x)) ∧ h0 = hh) := by
  refine Con.of (plainFor_of_name (by first | (simp [plainName, overriddenIn]; done) | decide +kernel)) hE ?_
  intro p e s m below T (X : Sd l Z "com/example/nimble_calculus/nimblecalculus/equivalence/SplitsBlockBeforePinLaw" "expected" method_2_code 3 (some .int) ({ frames := 0, cells := 0, slots := 0, locals := 0 } : Room) p e s m #[(.int (1 : Int32)), (.int (2 : Int32)), (.int x)] below T h0 0 0)
  refine End.frame (ef_rm_ex12 m (1 : Int32) (2 : Int32) x) ?_
  show End Z p e below s _ _ _ _ (mkF m 0 #[.val (.int (1 : Int32)), .val (.int (2 : Int32)), .val (.int x)] [])
  refine E_iloadN (pc' := 1) X d12_0 rfl rfl ?_
  refine E_iconst (v := (1 : Int32)) (pc' := 2) X d12_1 rfl rfl ?_
  refine E_icmp (pcY := 7) (pcN := 5) X (ic_gt _ _) d12_2 (by decide) rfl rfl (fun hc2_0 => ?_) (fun hc2_0 => ?_)
  · skip
    refine E_iloadN (pc' := 8) X d12_7 rfl rfl ?_
    refine E_if (pcY := 79) (pcN := 11) X (i0_eq _) d12_8 (by decide) rfl rfl (fun hc8_0 => absurd hc8_0 (by decide)) (fun hc8_0 => ?_)
    refine E_iloadN (pc' := 12) X d12_11 rfl rfl ?_
    refine E_if (pcY := 35) (pcN := 15) X (i0_ne _) d12_12 (by decide) rfl rfl (fun hc12_0 => ?_) (fun hc12_0 => absurd (by decide) hc12_0)
    refine E_iloadN (pc' := 36) X d12_35 rfl rfl ?_
    refine E_iconst (v := (1 : Int32)) (pc' := 37) X d12_36 rfl rfl ?_
    refine E_icmp (pcY := 61) (pcN := 40) X (ic_ne _ _) d12_37 (by decide) rfl rfl (fun hc37_0 => ?_) (fun hc37_0 => absurd (by decide) hc37_0)
    refine E_iloadN (pc' := 62) X d12_61 rfl rfl ?_
    refine E_iconst (v := (2 : Int32)) (pc' := 63) X d12_62 rfl rfl ?_
    refine E_icmp (pcY := 77) (pcN := 66) X (ic_ne _ _) d12_63 (by decide) rfl rfl (fun hc63_0 => absurd hc63_0 (by decide)) (fun hc63_0 => ?_)
    refine E_iloadN (pc' := 67) X d12_66 rfl rfl ?_
    refine E_iconst (v := (2 : Int32)) (pc' := 68) X d12_67 rfl rfl ?_
    refine E_icmp (pcY := 75) (pcN := 71) X (ic_gt _ _) d12_68 (by decide) rfl rfl (fun hc68_0 => ?_) (fun hc68_0 => ?_)
    · skip
      refine E_iconst (v := (4 : Int32)) (pc' := 76) X d12_75 rfl rfl ?_
      exact E_retI X d12_76 (by decide) (by decide) ⟨(by simp [ownE12, hc2_0, hc68_0]), rfl⟩
    · skip
      refine E_iconst (v := (1 : Int32)) (pc' := 72) X d12_71 rfl rfl ?_
      refine E_goto (pc' := 76) X d12_72 (by decide) rfl ?_
      exact E_retI X d12_76 (by decide) (by decide) ⟨(by simp [ownE12, hc2_0, hc68_0]), rfl⟩
  · skip
    refine E_iconst (v := (0 : Int32)) (pc' := 6) X d12_5 rfl rfl ?_
    exact E_retI X d12_6 (by decide) (by decide) ⟨(by simp [ownE12, hc2_0]), rfl⟩
theorem own_bb_1_3_0 (x : Int32) (q0 : ¬ (1 : Int32) < x) (q1 : (0 : Int32) < x) (q2 : (0 : Int32) < x) : ownE13 x = (0 : Int32) := by
  unfold ownE13
  simp only [Int32.lt_iff_toInt_lt] at *
  have e0 : (0 : Int32).toInt = 0 := rfl
  have e1 : (1 : Int32).toInt = 1 := rfl
  have e2 : (2 : Int32).toInt = 2 := rfl
  have e3 : (3 : Int32).toInt = 3 := rfl
  repeat' split
  all_goals first | rfl | (exfalso; omega)
theorem own_bb_1_3_1 (x : Int32) (q0 : ¬ (1 : Int32) < x) (q1 : (0 : Int32) < x) (q2 : ¬ (0 : Int32) < x) : ownE13 x = (0 : Int32) := by
  unfold ownE13
  simp only [Int32.lt_iff_toInt_lt] at *
  have e0 : (0 : Int32).toInt = 0 := rfl
  have e1 : (1 : Int32).toInt = 1 := rfl
  have e2 : (2 : Int32).toInt = 2 := rfl
  have e3 : (3 : Int32).toInt = 3 := rfl
  repeat' split
  all_goals first | rfl | (exfalso; omega)
theorem own_bb_1_3_2 (x : Int32) (q0 : ¬ (1 : Int32) < x) (q1 : ¬ (0 : Int32) < x) (q2 : (0 : Int32) < x) : ownE13 x = (0 : Int32) := by
  unfold ownE13
  simp only [Int32.lt_iff_toInt_lt] at *
  have e0 : (0 : Int32).toInt = 0 := rfl
  have e1 : (1 : Int32).toInt = 1 := rfl
  have e2 : (2 : Int32).toInt = 2 := rfl
  have e3 : (3 : Int32).toInt = 3 := rfl
  repeat' split
  all_goals first | rfl | (exfalso; omega)
theorem own_bb_1_3_3 (x : Int32) (q0 : ¬ (1 : Int32) < x) (q1 : ¬ (0 : Int32) < x) (q2 : ¬ (0 : Int32) < x) : ownE13 x = (0 : Int32) := by
  unfold ownE13
  simp only [Int32.lt_iff_toInt_lt] at *
  have e0 : (0 : Int32).toInt = 0 := rfl
  have e1 : (1 : Int32).toInt = 1 := rfl
  have e2 : (2 : Int32).toInt = 2 := rfl
  have e3 : (3 : Int32).toInt = 3 := rfl
  repeat' split
  all_goals first | rfl | (exfalso; omega)
theorem own_bb_1_3_4 (x : Int32) (q0 : (1 : Int32) < x) : ownE13 x = (2 : Int32) := by
  unfold ownE13
  simp only [Int32.lt_iff_toInt_lt] at *
  have e0 : (0 : Int32).toInt = 0 := rfl
  have e1 : (1 : Int32).toInt = 1 := rfl
  have e2 : (2 : Int32).toInt = 2 := rfl
  have e3 : (3 : Int32).toInt = 3 := rfl
  repeat' split
  all_goals first | rfl | (exfalso; omega)
theorem ef_rm_bb13 (m : MethodId) (x0 : Addr) (x1 : Int32) (x2 : Int32) : entryFrame m #[(.ref x0), (.int x1), (.int x2)] 6 = mkF m 0 #[.val (.ref x0), .val (.int x1), .val (.int x2), .unset, .unset, .unset] [] := by first | (simp [entryFrame, mkF, argsToLocals, Value.category]; done) | (simp [entryFrame, mkF, argsToLocals, *]; done) | rfl
set_option maxRecDepth 65536 in
set_option maxHeartbeats 2000000 in
theorem rm_bb13 (l : Launch) (Z : State) (a0 : Array Value) (hw : ∀ d ∈ tables_1, d.before a0 Z = true) (a : Addr) (x : Int32) (lf : Addr) (jp : Addr) (P : Addr) (B : Addr) (j0 : Addr) (j1 : Addr) (h0 : Heap) (hE : Ext Z.heap h0) (hF0 : Fld Z h0 a "com/example/nimble_calculus/nimblecalculus/equivalence/Splits" "leaf" "[I" (.ref lf)) (hF1 : Fld Z h0 a "com/example/nimble_calculus/nimblecalculus/equivalence/Splits" "jumps" "[[I" (.ref jp)) (hF2 : Fld Z h0 a "com/example/nimble_calculus/nimblecalculus/equivalence/Splits" "parent" "[I" (.ref P)) (hF3 : Fld Z h0 a "com/example/nimble_calculus/nimblecalculus/equivalence/Splits" "born" "[I" (.ref B)) (hA4 : Ar Z h0 P .int [(.int (0 : Int32)), (.int (0 : Int32)), (.int (0 : Int32)), (.int (1 : Int32)), (.int (1 : Int32)), (.int (3 : Int32)), (.int (3 : Int32))]) (hA5 : Ar Z h0 B .int [(.int (0 : Int32)), (.int (1 : Int32)), (.int (1 : Int32)), (.int (2 : Int32)), (.int (2 : Int32)), (.int (3 : Int32)), (.int (3 : Int32))]) (hA6 : Ar Z h0 lf .int [(.int (5 : Int32)), (.int (6 : Int32)), (.int (4 : Int32)), (.int (2 : Int32))]) (hA7 : Ar Z h0 jp (.array .int) [(.ref j0), (.ref j1)]) (hA8 : Ar Z h0 j0 .int [(.int (0 : Int32)), (.int (0 : Int32)), (.int (0 : Int32)), (.int (1 : Int32)), (.int (1 : Int32)), (.int (3 : Int32)), (.int (3 : Int32))]) (hA9 : Ar Z h0 j1 .int [(.int (0 : Int32)), (.int (0 : Int32)), (.int (0 : Int32)), (.int (0 : Int32)), (.int (0 : Int32)), (.int (1 : Int32)), (.int (1 : Int32))]) :
    Con l Z (⟨"com/example/nimble_calculus/nimblecalculus/equivalence/Splits", "blockBefore", "(II)I"⟩ : MethodName) prog_61_method_8_code 6 (some .int) ({ frames := 0, cells := 0, slots := 0, locals := 0 } : Room) #[(.ref a), (.int (3 : Int32)), (.int x)] h0 (fun vv hh => vv = some (.int (ownE13 x)) ∧ h0 = hh) := by
  refine Con.of (plainFor_of_name (by first | (simp [plainName, overriddenIn]; done) | decide +kernel)) hE ?_
  intro p e s m below T (X : Sd l Z "com/example/nimble_calculus/nimblecalculus/equivalence/Splits" "blockBefore" prog_61_method_8_code 6 (some .int) ({ frames := 0, cells := 0, slots := 0, locals := 0 } : Room) p e s m #[(.ref a), (.int (3 : Int32)), (.int x)] below T h0 0 0)
  refine End.frame (ef_rm_bb13 m a (3 : Int32) x) ?_
  show End Z p e below s _ _ _ _ (mkF m 0 #[.val (.ref a), .val (.int (3 : Int32)), .val (.int x), .unset, .unset, .unset] [])
  refine E_aloadN (v := (.ref a)) (pc' := 1) X d11_0 rfl rfl rfl ?_
  refine E_getF (pc' := 4) X (host := "") (Or.inl (w_52 hw)) Via.refl hF0 d11_1 rfl (fun T X => ?_)
  refine E_iloadN (pc' := 5) X d11_4 rfl rfl ?_
  refine E_iaload (v := (.int (2 : Int32))) (pc' := 6) X hA6 (by decide) rfl d11_5 rfl ?_
  refine E_istoreN (Ls' := #[.val (.ref a), .val (.int (3 : Int32)), .val (.int x), .val (.int (2 : Int32)), .unset, .unset]) (pc' := 7) X d11_6 rfl rfl ?_
  refine E_aloadN (v := (.ref a)) (pc' := 8) X d11_7 rfl rfl rfl ?_
  refine E_getF (pc' := 11) X (host := "") (Or.inl (w_24 hw)) Via.refl hF3 d11_8 rfl (fun T X => ?_)
  refine E_iloadN (pc' := 12) X d11_11 rfl rfl ?_
  refine E_iaload (v := (.int (1 : Int32))) (pc' := 13) X hA5 (by decide) rfl d11_12 rfl ?_
  refine E_iloadN (pc' := 14) X d11_13 rfl rfl ?_
  refine E_icmp (pcY := 19) (pcN := 17) X (ic_ge _ _) d11_14 (by decide) rfl rfl (fun hc14_0 => ?_) (fun hc14_0 => ?_)
  · skip
    refine E_aloadN (v := (.ref a)) (pc' := 20) X d11_19 rfl rfl rfl ?_
    refine E_getF (pc' := 23) X (host := "") (Or.inl (w_63 hw)) Via.refl hF1 d11_20 rfl (fun T X => ?_)
    refine E_alen (n := (2 : Int32)) (pc' := 24) X hA7 rfl d11_23 rfl ?_
    refine E_iconst (v := (1 : Int32)) (pc' := 25) X d11_24 rfl rfl ?_
    refine E_isub (pc' := 26) X d11_25 rfl ?_
    refine E_eqI (z := (1 : Int32)) (by decide) ?_
    refine E_istore (Ls' := #[.val (.ref a), .val (.int (3 : Int32)), .val (.int x), .val (.int (2 : Int32)), .val (.int (1 : Int32)), .unset]) (pc' := 28) X d11_26 rfl rfl ?_
    refine E_iload (pc' := 30) X d11_28 rfl rfl ?_
    refine E_if (pcY := 64) (pcN := 33) X (i0_lt _) d11_30 (by decide) rfl rfl (fun hc30_0 => absurd hc30_0 (by decide)) (fun hc30_0 => ?_)
    refine E_aloadN (v := (.ref a)) (pc' := 34) X d11_33 rfl rfl rfl ?_
    refine E_getF (pc' := 37) X (host := "") (Or.inl (w_63 hw)) Via.refl hF1 d11_34 rfl (fun T X => ?_)
    refine E_iload (pc' := 39) X d11_37 rfl rfl ?_
    refine E_aaload (v := (.ref j1)) (pc' := 40) X hA7 rfl (by decide) rfl d11_39 rfl ?_
    refine E_iloadN (pc' := 41) X d11_40 rfl rfl ?_
    refine E_iaload (v := (.int (0 : Int32))) (pc' := 42) X hA9 (by decide) rfl d11_41 rfl ?_
    refine E_istore (Ls' := #[.val (.ref a), .val (.int (3 : Int32)), .val (.int x), .val (.int (2 : Int32)), .val (.int (1 : Int32)), .val (.int (0 : Int32))]) (pc' := 44) X d11_42 rfl rfl ?_
    refine E_aloadN (v := (.ref a)) (pc' := 45) X d11_44 rfl rfl rfl ?_
    refine E_getF (pc' := 48) X (host := "") (Or.inl (w_24 hw)) Via.refl hF3 d11_45 rfl (fun T X => ?_)
    refine E_iload (pc' := 50) X d11_48 rfl rfl ?_
    refine E_iaload (v := (.int (0 : Int32))) (pc' := 51) X hA5 (by decide) rfl d11_50 rfl ?_
    refine E_iloadN (pc' := 52) X d11_51 rfl rfl ?_
    refine E_icmp (pcY := 58) (pcN := 55) X (ic_lt _ _) d11_52 (by decide) rfl rfl (fun hc52_0 => ?_) (fun hc52_0 => ?_)
    · skip
      refine E_iinc (x := (1 : Int32)) (z := (0 : Int32)) (Ls' := #[.val (.ref a), .val (.int (3 : Int32)), .val (.int x), .val (.int (2 : Int32)), .val (.int (0 : Int32)), .val (.int (0 : Int32))]) (pc' := 61) X d11_58 rfl rfl rfl rfl ?_
      refine E_goto (pc' := 28) X d11_61 (by decide) rfl ?_
      refine E_iload (pc' := 30) X d11_28 rfl rfl ?_
      refine E_if (pcY := 64) (pcN := 33) X (i0_lt _) d11_30 (by decide) rfl rfl (fun hc30_1 => absurd hc30_1 (by decide)) (fun hc30_1 => ?_)
      refine E_aloadN (v := (.ref a)) (pc' := 34) X d11_33 rfl rfl rfl ?_
      refine E_getF (pc' := 37) X (host := "") (Or.inl (w_63 hw)) Via.refl hF1 d11_34 rfl (fun T X => ?_)
      refine E_iload (pc' := 39) X d11_37 rfl rfl ?_
      refine E_aaload (v := (.ref j0)) (pc' := 40) X hA7 rfl (by decide) rfl d11_39 rfl ?_
      refine E_iloadN (pc' := 41) X d11_40 rfl rfl ?_
      refine E_iaload (v := (.int (0 : Int32))) (pc' := 42) X hA8 (by decide) rfl d11_41 rfl ?_
      refine E_istore (Ls' := #[.val (.ref a), .val (.int (3 : Int32)), .val (.int x), .val (.int (2 : Int32)), .val (.int (0 : Int32)), .val (.int (0 : Int32))]) (pc' := 44) X d11_42 rfl rfl ?_
      refine E_aloadN (v := (.ref a)) (pc' := 45) X d11_44 rfl rfl rfl ?_
      refine E_getF (pc' := 48) X (host := "") (Or.inl (w_24 hw)) Via.refl hF3 d11_45 rfl (fun T X => ?_)
      refine E_iload (pc' := 50) X d11_48 rfl rfl ?_
      refine E_iaload (v := (.int (0 : Int32))) (pc' := 51) X hA5 (by decide) rfl d11_50 rfl ?_
      refine E_iloadN (pc' := 52) X d11_51 rfl rfl ?_
      refine E_icmp (pcY := 58) (pcN := 55) X (ic_lt _ _) d11_52 (by decide) rfl rfl (fun hc52_1 => ?_) (fun hc52_1 => ?_)
      · skip
        refine E_iinc (x := (0 : Int32)) (z := (-1 : Int32)) (Ls' := #[.val (.ref a), .val (.int (3 : Int32)), .val (.int x), .val (.int (2 : Int32)), .val (.int (-1 : Int32)), .val (.int (0 : Int32))]) (pc' := 61) X d11_58 rfl rfl rfl rfl ?_
        refine E_goto (pc' := 28) X d11_61 (by decide) rfl ?_
        refine E_iload (pc' := 30) X d11_28 rfl rfl ?_
        refine E_if (pcY := 64) (pcN := 33) X (i0_lt _) d11_30 (by decide) rfl rfl (fun hc30_2 => ?_) (fun hc30_2 => absurd (by decide) hc30_2)
        refine E_aloadN (v := (.ref a)) (pc' := 65) X d11_64 rfl rfl rfl ?_
        refine E_getF (pc' := 68) X (host := "") (Or.inl (w_22 hw)) Via.refl hF2 d11_65 rfl (fun T X => ?_)
        refine E_iloadN (pc' := 69) X d11_68 rfl rfl ?_
        refine E_iaload (v := (.int (0 : Int32))) (pc' := 70) X hA4 (by decide) rfl d11_69 rfl ?_
        exact E_retI X d11_70 (by decide) (by decide) ⟨(congrArg (fun z => some (Value.int z)) (own_bb_1_3_0 x hc14_0 hc52_0 hc52_1).symm), rfl⟩
      · skip
        refine E_iload (pc' := 57) X d11_55 rfl rfl ?_
        refine E_istoreN (Ls' := #[.val (.ref a), .val (.int (3 : Int32)), .val (.int x), .val (.int (0 : Int32)), .val (.int (0 : Int32)), .val (.int (0 : Int32))]) (pc' := 58) X d11_57 rfl rfl ?_
        refine E_iinc (x := (0 : Int32)) (z := (-1 : Int32)) (Ls' := #[.val (.ref a), .val (.int (3 : Int32)), .val (.int x), .val (.int (0 : Int32)), .val (.int (-1 : Int32)), .val (.int (0 : Int32))]) (pc' := 61) X d11_58 rfl rfl rfl rfl ?_
        refine E_goto (pc' := 28) X d11_61 (by decide) rfl ?_
        refine E_iload (pc' := 30) X d11_28 rfl rfl ?_
        refine E_if (pcY := 64) (pcN := 33) X (i0_lt _) d11_30 (by decide) rfl rfl (fun hc30_2 => ?_) (fun hc30_2 => absurd (by decide) hc30_2)
        refine E_aloadN (v := (.ref a)) (pc' := 65) X d11_64 rfl rfl rfl ?_
        refine E_getF (pc' := 68) X (host := "") (Or.inl (w_22 hw)) Via.refl hF2 d11_65 rfl (fun T X => ?_)
        refine E_iloadN (pc' := 69) X d11_68 rfl rfl ?_
        refine E_iaload (v := (.int (0 : Int32))) (pc' := 70) X hA4 (by decide) rfl d11_69 rfl ?_
        exact E_retI X d11_70 (by decide) (by decide) ⟨(congrArg (fun z => some (Value.int z)) (own_bb_1_3_1 x hc14_0 hc52_0 hc52_1).symm), rfl⟩
    · skip
      refine E_iload (pc' := 57) X d11_55 rfl rfl ?_
      refine E_istoreN (Ls' := #[.val (.ref a), .val (.int (3 : Int32)), .val (.int x), .val (.int (0 : Int32)), .val (.int (1 : Int32)), .val (.int (0 : Int32))]) (pc' := 58) X d11_57 rfl rfl ?_
      refine E_iinc (x := (1 : Int32)) (z := (0 : Int32)) (Ls' := #[.val (.ref a), .val (.int (3 : Int32)), .val (.int x), .val (.int (0 : Int32)), .val (.int (0 : Int32)), .val (.int (0 : Int32))]) (pc' := 61) X d11_58 rfl rfl rfl rfl ?_
      refine E_goto (pc' := 28) X d11_61 (by decide) rfl ?_
      refine E_iload (pc' := 30) X d11_28 rfl rfl ?_
      refine E_if (pcY := 64) (pcN := 33) X (i0_lt _) d11_30 (by decide) rfl rfl (fun hc30_1 => absurd hc30_1 (by decide)) (fun hc30_1 => ?_)
      refine E_aloadN (v := (.ref a)) (pc' := 34) X d11_33 rfl rfl rfl ?_
      refine E_getF (pc' := 37) X (host := "") (Or.inl (w_63 hw)) Via.refl hF1 d11_34 rfl (fun T X => ?_)
      refine E_iload (pc' := 39) X d11_37 rfl rfl ?_
      refine E_aaload (v := (.ref j0)) (pc' := 40) X hA7 rfl (by decide) rfl d11_39 rfl ?_
      refine E_iloadN (pc' := 41) X d11_40 rfl rfl ?_
      refine E_iaload (v := (.int (0 : Int32))) (pc' := 42) X hA8 (by decide) rfl d11_41 rfl ?_
      refine E_istore (Ls' := #[.val (.ref a), .val (.int (3 : Int32)), .val (.int x), .val (.int (0 : Int32)), .val (.int (0 : Int32)), .val (.int (0 : Int32))]) (pc' := 44) X d11_42 rfl rfl ?_
      refine E_aloadN (v := (.ref a)) (pc' := 45) X d11_44 rfl rfl rfl ?_
      refine E_getF (pc' := 48) X (host := "") (Or.inl (w_24 hw)) Via.refl hF3 d11_45 rfl (fun T X => ?_)
      refine E_iload (pc' := 50) X d11_48 rfl rfl ?_
      refine E_iaload (v := (.int (0 : Int32))) (pc' := 51) X hA5 (by decide) rfl d11_50 rfl ?_
      refine E_iloadN (pc' := 52) X d11_51 rfl rfl ?_
      refine E_icmp (pcY := 58) (pcN := 55) X (ic_lt _ _) d11_52 (by decide) rfl rfl (fun hc52_1 => ?_) (fun hc52_1 => ?_)
      · skip
        refine E_iinc (x := (0 : Int32)) (z := (-1 : Int32)) (Ls' := #[.val (.ref a), .val (.int (3 : Int32)), .val (.int x), .val (.int (0 : Int32)), .val (.int (-1 : Int32)), .val (.int (0 : Int32))]) (pc' := 61) X d11_58 rfl rfl rfl rfl ?_
        refine E_goto (pc' := 28) X d11_61 (by decide) rfl ?_
        refine E_iload (pc' := 30) X d11_28 rfl rfl ?_
        refine E_if (pcY := 64) (pcN := 33) X (i0_lt _) d11_30 (by decide) rfl rfl (fun hc30_2 => ?_) (fun hc30_2 => absurd (by decide) hc30_2)
        refine E_aloadN (v := (.ref a)) (pc' := 65) X d11_64 rfl rfl rfl ?_
        refine E_getF (pc' := 68) X (host := "") (Or.inl (w_22 hw)) Via.refl hF2 d11_65 rfl (fun T X => ?_)
        refine E_iloadN (pc' := 69) X d11_68 rfl rfl ?_
        refine E_iaload (v := (.int (0 : Int32))) (pc' := 70) X hA4 (by decide) rfl d11_69 rfl ?_
        exact E_retI X d11_70 (by decide) (by decide) ⟨(congrArg (fun z => some (Value.int z)) (own_bb_1_3_2 x hc14_0 hc52_0 hc52_1).symm), rfl⟩
      · skip
        refine E_iload (pc' := 57) X d11_55 rfl rfl ?_
        refine E_istoreN (Ls' := #[.val (.ref a), .val (.int (3 : Int32)), .val (.int x), .val (.int (0 : Int32)), .val (.int (0 : Int32)), .val (.int (0 : Int32))]) (pc' := 58) X d11_57 rfl rfl ?_
        refine E_iinc (x := (0 : Int32)) (z := (-1 : Int32)) (Ls' := #[.val (.ref a), .val (.int (3 : Int32)), .val (.int x), .val (.int (0 : Int32)), .val (.int (-1 : Int32)), .val (.int (0 : Int32))]) (pc' := 61) X d11_58 rfl rfl rfl rfl ?_
        refine E_goto (pc' := 28) X d11_61 (by decide) rfl ?_
        refine E_iload (pc' := 30) X d11_28 rfl rfl ?_
        refine E_if (pcY := 64) (pcN := 33) X (i0_lt _) d11_30 (by decide) rfl rfl (fun hc30_2 => ?_) (fun hc30_2 => absurd (by decide) hc30_2)
        refine E_aloadN (v := (.ref a)) (pc' := 65) X d11_64 rfl rfl rfl ?_
        refine E_getF (pc' := 68) X (host := "") (Or.inl (w_22 hw)) Via.refl hF2 d11_65 rfl (fun T X => ?_)
        refine E_iloadN (pc' := 69) X d11_68 rfl rfl ?_
        refine E_iaload (v := (.int (0 : Int32))) (pc' := 70) X hA4 (by decide) rfl d11_69 rfl ?_
        exact E_retI X d11_70 (by decide) (by decide) ⟨(congrArg (fun z => some (Value.int z)) (own_bb_1_3_3 x hc14_0 hc52_0 hc52_1).symm), rfl⟩
  · skip
    replace hc14_0 := Decidable.not_not.mp hc14_0
    refine E_iloadN (pc' := 18) X d11_17 rfl rfl ?_
    exact E_retI X d11_18 (by decide) (by decide) ⟨(congrArg (fun z => some (Value.int z)) (own_bb_1_3_4 x hc14_0).symm), rfl⟩
theorem d12_77 : decode method_2_code 77 = .ok (.iconst 2, 1) := by decide +kernel
theorem d12_78 : decode method_2_code 78 = .ok (.ireturn, 1) := by decide +kernel
theorem ef_rm_ex13 (m : MethodId) (x0 : Int32) (x1 : Int32) (x2 : Int32) : entryFrame m #[(.int x0), (.int x1), (.int x2)] 3 = mkF m 0 #[.val (.int x0), .val (.int x1), .val (.int x2)] [] := by first | (simp [entryFrame, mkF, argsToLocals, Value.category]; done) | (simp [entryFrame, mkF, argsToLocals, *]; done) | rfl
set_option maxRecDepth 65536 in
set_option maxHeartbeats 2000000 in
theorem rm_ex13 (l : Launch) (Z : State) (a0 : Array Value) (hw : ∀ d ∈ tables_1, d.before a0 Z = true) (x : Int32) (h0 : Heap) (hE : Ext Z.heap h0) :
    Con l Z (⟨"com/example/nimble_calculus/nimblecalculus/equivalence/SplitsBlockBeforePinLaw", "expected", "(ZII)I"⟩ : MethodName) method_2_code 3 (some .int) ({ frames := 0, cells := 0, slots := 0, locals := 0 } : Room) #[(.int (1 : Int32)), (.int (3 : Int32)), (.int x)] h0 (fun vv hh => vv = some (.int (ownE13 x)) ∧ h0 = hh) := by
  refine Con.of (plainFor_of_name (by first | (simp [plainName, overriddenIn]; done) | decide +kernel)) hE ?_
  intro p e s m below T (X : Sd l Z "com/example/nimble_calculus/nimblecalculus/equivalence/SplitsBlockBeforePinLaw" "expected" method_2_code 3 (some .int) ({ frames := 0, cells := 0, slots := 0, locals := 0 } : Room) p e s m #[(.int (1 : Int32)), (.int (3 : Int32)), (.int x)] below T h0 0 0)
  refine End.frame (ef_rm_ex13 m (1 : Int32) (3 : Int32) x) ?_
  show End Z p e below s _ _ _ _ (mkF m 0 #[.val (.int (1 : Int32)), .val (.int (3 : Int32)), .val (.int x)] [])
  refine E_iloadN (pc' := 1) X d12_0 rfl rfl ?_
  refine E_iconst (v := (1 : Int32)) (pc' := 2) X d12_1 rfl rfl ?_
  refine E_icmp (pcY := 7) (pcN := 5) X (ic_gt _ _) d12_2 (by decide) rfl rfl (fun hc2_0 => ?_) (fun hc2_0 => ?_)
  · skip
    refine E_iloadN (pc' := 8) X d12_7 rfl rfl ?_
    refine E_if (pcY := 79) (pcN := 11) X (i0_eq _) d12_8 (by decide) rfl rfl (fun hc8_0 => absurd hc8_0 (by decide)) (fun hc8_0 => ?_)
    refine E_iloadN (pc' := 12) X d12_11 rfl rfl ?_
    refine E_if (pcY := 35) (pcN := 15) X (i0_ne _) d12_12 (by decide) rfl rfl (fun hc12_0 => ?_) (fun hc12_0 => absurd (by decide) hc12_0)
    refine E_iloadN (pc' := 36) X d12_35 rfl rfl ?_
    refine E_iconst (v := (1 : Int32)) (pc' := 37) X d12_36 rfl rfl ?_
    refine E_icmp (pcY := 61) (pcN := 40) X (ic_ne _ _) d12_37 (by decide) rfl rfl (fun hc37_0 => ?_) (fun hc37_0 => absurd (by decide) hc37_0)
    refine E_iloadN (pc' := 62) X d12_61 rfl rfl ?_
    refine E_iconst (v := (2 : Int32)) (pc' := 63) X d12_62 rfl rfl ?_
    refine E_icmp (pcY := 77) (pcN := 66) X (ic_ne _ _) d12_63 (by decide) rfl rfl (fun hc63_0 => ?_) (fun hc63_0 => absurd (by decide) hc63_0)
    refine E_iconst (v := (2 : Int32)) (pc' := 78) X d12_77 rfl rfl ?_
    exact E_retI X d12_78 (by decide) (by decide) ⟨(by simp [ownE13, hc2_0]), rfl⟩
  · skip
    refine E_iconst (v := (0 : Int32)) (pc' := 6) X d12_5 rfl rfl ?_
    exact E_retI X d12_6 (by decide) (by decide) ⟨(by simp [ownE13, hc2_0]), rfl⟩
theorem pd_4 : parseMethodDescriptor "(I)V" = some ⟨[.int], none⟩ := by decide +kernel
theorem pd_5 : parseMethodDescriptor "(II)V" = some ⟨[.int, .int], none⟩ := by decide +kernel
theorem pd_6 : parseMethodDescriptor "([I)V" = some ⟨[(.array .int)], none⟩ := by decide +kernel
theorem pd_7 : parseMethodDescriptor "(ZII)I" = some ⟨[.boolean, .int, .int], some .int⟩ := by decide +kernel
theorem ef_rm0 (m : MethodId) (x0 : Int32) (x1 : Int32) (x2 : Int32) : entryFrame m #[(.int x0), (.int x1), (.int x2)] 7 = mkF m 0 #[.val (.int x0), .val (.int x1), .val (.int x2), .unset, .unset, .unset, .unset] [] := by first | (simp [entryFrame, mkF, argsToLocals, Value.category]; done) | (simp [entryFrame, mkF, argsToLocals, *]; done) | rfl
set_option maxRecDepth 65536 in
set_option maxHeartbeats 2000000 in
theorem rm0 (l : Launch) (Z : State) (a0 : Array Value) (hw : ∀ d ∈ tables_1, d.before a0 Z = true) (i0 : Int32) (i1 : Int32) (i2 : Int32) (h0 : Heap) (hE : Ext Z.heap h0) :
    Con l Z x code maxLocals ret room_1 #[(.int i0), (.int i1), (.int i2)] h0 (fun vv hh => vv = some (.int (1 : Int32))) := by
  refine Con.of (plainFor_of_name (by first | (simp [plainName, overriddenIn]; done) | decide +kernel)) hE ?_
  intro p e s m below T (X : Sd l Z "com/example/nimble_calculus/nimblecalculus/equivalence/SplitsBlockBeforePinLaw" "law" code 7 (some .boolean) room_1 p e s m #[(.int i0), (.int i1), (.int i2)] below T h0 0 0)
  refine End.frame (ef_rm0 m i0 i1 i2) ?_
  show End Z p e below s _ _ _ _ (mkF m 0 #[.val (.int i0), .val (.int i1), .val (.int i2), .unset, .unset, .unset, .unset] [])
  refine E_iloadN (pc' := 1) X at_0 rfl rfl ?_
  refine E_ldcI (v := (2147483647 : Int32)) (pc' := 3) X (w_0 hw) at_1 rfl ?_
  refine E_iand (pc' := 4) X at_3 rfl ?_
  refine E_iconst (v := (4 : Int32)) (pc' := 5) X at_4 rfl rfl ?_
  refine E_irem (pc' := 6) X at_5 rfl (by decide) ?_
  obtain ⟨stt, q_stt⟩ : ∃ z : Int32, ((i0 &&& (2147483647 : Int32)) % (4 : Int32)) = z := ⟨_, rfl⟩
  refine E_eqI (z := stt) q_stt ?_
  refine E_istoreN (Ls' := #[.val (.int i0), .val (.int i1), .val (.int i2), .val (.int stt), .unset, .unset, .unset]) (pc' := 7) X at_6 rfl rfl ?_
  refine E_iloadN (pc' := 8) X at_7 rfl rfl ?_
  refine E_iconst (v := (1 : Int32)) (pc' := 9) X at_8 rfl rfl ?_
  refine E_iand (pc' := 10) X at_9 rfl ?_
  refine E_if (pcY := 17) (pcN := 13) X (i0_eq _) at_10 (by decide) rfl rfl (fun hc10_0 => ?_) (fun hc10_0 => ?_)
  · skip
    refine E_iconst (v := (0 : Int32)) (pc' := 18) X at_17 rfl rfl ?_
    refine E_istore (Ls' := #[.val (.int i0), .val (.int i1), .val (.int i2), .val (.int stt), .val (.int (0 : Int32)), .unset, .unset]) (pc' := 20) X at_18 rfl rfl ?_
    refine E_iconst (v := (4 : Int32)) (pc' := 21) X at_20 rfl rfl ?_
    have le_o1 := X.le
    refine E_newA (pc' := 23) X (aty := .int) (n := (4 : Int32)) (cap := 4) (vs := [(.int (0 : Int32)), (.int (0 : Int32)), (.int (0 : Int32)), (.int (0 : Int32))]) (cells' := 1) (slots' := 4) (w_1 hw) at_21 rfl (by decide) (by decide) (by decide) rfl rfl rfl (by decide) (by decide) (fun T h_2 o1 g_5 X Ex_3 Aa_4 => ?_)
    have fr_6 : Z.heap.size ≤ o1 := by rw [g_5]; exact le_o1
    refine E_astore (Ls' := #[.val (.int i0), .val (.int i1), .val (.int i2), .val (.int stt), .val (.int (0 : Int32)), .val (.ref o1), .unset]) (pc' := 25) X at_23 rfl rfl rfl ?_
    refine E_aload (v := (.ref o1)) (pc' := 27) X at_25 rfl rfl rfl ?_
    refine E_iconst (v := (0 : Int32)) (pc' := 28) X at_27 rfl rfl ?_
    refine E_iconst (v := (0 : Int32)) (pc' := 29) X at_28 rfl rfl ?_
    refine E_iastore (vs' := [(.int (0 : Int32)), (.int (0 : Int32)), (.int (0 : Int32)), (.int (0 : Int32))]) (pc' := 30) X Aa_4 (by decide) (Nat.le_of_ble_eq_true rfl) rfl fr_6 at_29 rfl (fun T h_8 X W_7 Aa_9 => ?_)
    refine E_aload (v := (.ref o1)) (pc' := 32) X at_30 rfl rfl rfl ?_
    refine E_iconst (v := (1 : Int32)) (pc' := 33) X at_32 rfl rfl ?_
    refine E_iconst (v := (3 : Int32)) (pc' := 34) X at_33 rfl rfl ?_
    refine E_iastore (vs' := [(.int (0 : Int32)), (.int (3 : Int32)), (.int (0 : Int32)), (.int (0 : Int32))]) (pc' := 35) X Aa_9 (by decide) (Nat.le_of_ble_eq_true rfl) rfl fr_6 at_34 rfl (fun T h_11 X W_10 Aa_12 => ?_)
    refine E_aload (v := (.ref o1)) (pc' := 37) X at_35 rfl rfl rfl ?_
    refine E_iconst (v := (2 : Int32)) (pc' := 38) X at_37 rfl rfl ?_
    refine E_iload (pc' := 40) X at_38 rfl rfl ?_
    refine E_if (pcY := 47) (pcN := 43) X (i0_eq _) at_40 (by decide) rfl rfl (fun hc40_0 => ?_) (fun hc40_0 => absurd (by decide) hc40_0)
    refine E_iconst (v := (1 : Int32)) (pc' := 48) X at_47 rfl rfl ?_
    refine E_iastore (vs' := [(.int (0 : Int32)), (.int (3 : Int32)), (.int (1 : Int32)), (.int (0 : Int32))]) (pc' := 49) X Aa_12 (by decide) (Nat.le_of_ble_eq_true rfl) rfl fr_6 at_48 rfl (fun T h_14 X W_13 Aa_15 => ?_)
    refine E_aload (v := (.ref o1)) (pc' := 51) X at_49 rfl rfl rfl ?_
    refine E_iconst (v := (3 : Int32)) (pc' := 52) X at_51 rfl rfl ?_
    refine E_iload (pc' := 54) X at_52 rfl rfl ?_
    refine E_if (pcY := 61) (pcN := 57) X (i0_eq _) at_54 (by decide) rfl rfl (fun hc54_0 => ?_) (fun hc54_0 => absurd (by decide) hc54_0)
    refine E_iconst (v := (2 : Int32)) (pc' := 62) X at_61 rfl rfl ?_
    refine E_iastore (vs' := [(.int (0 : Int32)), (.int (3 : Int32)), (.int (1 : Int32)), (.int (2 : Int32))]) (pc' := 63) X Aa_15 (by decide) (Nat.le_of_ble_eq_true rfl) rfl fr_6 at_62 rfl (fun T h_17 X W_16 Aa_18 => ?_)
    have le_o19 := X.le
    refine E_new (pc' := 66) X (cells' := 2) (slots' := 14) (w_2 hw) (w_3 hw) (w_4 hw) at_63 rfl rfl rfl (by decide) (by decide) (fun T h_20 o19 g_24 X Ex_21 Ea_22 D_23 => ?_)
    have fr_25 : Z.heap.size ≤ o19 := by rw [g_24]; exact le_o19
    have ne_26 : o1 ≠ o19 := Nat.ne_of_lt (by rw [g_24]; exact Aa_18.lt)
    refine E_dup (pc' := 67) X at_66 rfl rfl ?_
    refine E_iconst (v := (4 : Int32)) (pc' := 68) X at_67 rfl rfl ?_
    have F_27 : Fld Z h_20 o19 "com/example/nimble_calculus/nimblecalculus/equivalence/Splits" "nodeCount" "I" (.int (0 : Int32)) := (D_23 (Or.inl (w_12 hw)) (ty := .int) (by decide))
    have F_28 : Fld Z h_20 o19 "com/example/nimble_calculus/nimblecalculus/equivalence/Splits" "splitCount" "I" (.int (0 : Int32)) := (D_23 (Or.inl (w_39 hw)) (ty := .int) (by decide))
    have F_29 : Fld Z h_20 o19 "com/example/nimble_calculus/nimblecalculus/equivalence/Splits" "splitting" "I" (.int (0 : Int32)) := (D_23 (Or.inl (w_41 hw)) (ty := .int) (by decide))
    have F_30 : Fld Z h_20 o19 "com/example/nimble_calculus/nimblecalculus/equivalence/Splits" "parent" "[I" .null := (D_23 (Or.inr (w_23 hw)) (ty := (.array .int)) (by decide))
    have F_31 : Fld Z h_20 o19 "com/example/nimble_calculus/nimblecalculus/equivalence/Splits" "born" "[I" .null := (D_23 (Or.inr (w_25 hw)) (ty := (.array .int)) (by decide))
    have F_32 : Fld Z h_20 o19 "com/example/nimble_calculus/nimblecalculus/equivalence/Splits" "representative" "[I" .null := (D_23 (Or.inr (w_27 hw)) (ty := (.array .int)) (by decide))
    have F_33 : Fld Z h_20 o19 "com/example/nimble_calculus/nimblecalculus/equivalence/Splits" "nodeOfBlock" "[I" .null := (D_23 (Or.inr (w_32 hw)) (ty := (.array .int)) (by decide))
    have F_34 : Fld Z h_20 o19 "com/example/nimble_calculus/nimblecalculus/equivalence/Splits" "leaf" "[I" .null := (D_23 (Or.inl (w_53 hw)) (ty := (.array .int)) (by decide))
    have F_35 : Fld Z h_20 o19 "com/example/nimble_calculus/nimblecalculus/equivalence/Splits" "height" "[I" .null := (D_23 (Or.inl (w_55 hw)) (ty := (.array .int)) (by decide))
    have F_36 : Fld Z h_20 o19 "com/example/nimble_calculus/nimblecalculus/equivalence/Splits" "jumps" "[[I" .null := (D_23 (Or.inl (w_64 hw)) (ty := (.array (.array .int))) (by decide))
    have A_40 : Ar Z h_20 o1 .int [(.int (0 : Int32)), (.int (3 : Int32)), (.int (1 : Int32)), (.int (2 : Int32))] := (Aa_18.ext Ex_21)
    have le_41 := X.le
    refine E_callI (a := o19) (pc' := 71) (W := 1) (cells' := 6) (slots' := 39) (argsL := [(.int (4 : Int32))]) (rest := [(.ref o19)]) X (rm1 l Z a0 hw o19 h_20 X.ext Ea_22 F_27 F_28 F_29 F_30 F_31 F_32 F_33 F_34 F_35 F_36 fr_25) (w_5 hw) (w_6 hw) (w_4 hw) (w_7 hw) rfl (by decide) rfl rfl pd_4 rfl rfl at_68 rfl (Nat.le_refl _) (by decide) (by decide) rfl rfl (by decide) (by decide) (fun v37 T h_38 X hQ39 => ?_)
    obtain ⟨P_42, B_43, RR_44, NB_45, rfl, Kc_46, nw_47, nw_48, nw_49, nw_50, E_51, F_52, F_53, F_54, F_55, F_56, F_57, F_58, F_59, F_60, F_61, A_62, A_63, A_64, A_65, E_66, P_67, P_68, P_69, P_70, P_71, P_72⟩ := hQ39
    have ne_73 : o1 ≠ P_42 := Nat.ne_of_lt (Nat.lt_of_lt_of_le A_40.lt nw_47)
    have ne_74 : o19 ≠ P_42 := Nat.ne_of_lt (Nat.lt_of_lt_of_le Ea_22.lt nw_47)
    have fr_75 : Z.heap.size ≤ P_42 := Nat.le_trans le_41 nw_47
    have ne_76 : o1 ≠ B_43 := Nat.ne_of_lt (Nat.lt_of_lt_of_le A_40.lt nw_48)
    have ne_77 : o19 ≠ B_43 := Nat.ne_of_lt (Nat.lt_of_lt_of_le Ea_22.lt nw_48)
    have fr_78 : Z.heap.size ≤ B_43 := Nat.le_trans le_41 nw_48
    have ne_79 : o1 ≠ RR_44 := Nat.ne_of_lt (Nat.lt_of_lt_of_le A_40.lt nw_49)
    have ne_80 : o19 ≠ RR_44 := Nat.ne_of_lt (Nat.lt_of_lt_of_le Ea_22.lt nw_49)
    have fr_81 : Z.heap.size ≤ RR_44 := Nat.le_trans le_41 nw_49
    have ne_82 : o1 ≠ NB_45 := Nat.ne_of_lt (Nat.lt_of_lt_of_le A_40.lt nw_50)
    have ne_83 : o19 ≠ NB_45 := Nat.ne_of_lt (Nat.lt_of_lt_of_le Ea_22.lt nw_50)
    have fr_84 : Z.heap.size ≤ NB_45 := Nat.le_trans le_41 nw_50
    show End Z p e below s _ _ _ _ (mkF m 71 #[.val (.int i0), .val (.int i1), .val (.int i2), .val (.int stt), .val (.int (0 : Int32)), .val (.ref o1), .unset] [(.ref o19)])
    refine E_astore (Ls' := #[.val (.int i0), .val (.int i1), .val (.int i2), .val (.int stt), .val (.int (0 : Int32)), .val (.ref o1), .val (.ref o19)]) (pc' := 73) X at_71 rfl rfl rfl ?_
    refine E_aload (v := (.ref o19)) (pc' := 75) X at_73 rfl rfl rfl ?_
    refine E_iconst (v := (0 : Int32)) (pc' := 76) X at_75 rfl rfl ?_
    refine E_callV (a := o19) (pc' := 79) (W := 0) (cells' := 6) (slots' := 39) (argsL := [(.int (0 : Int32))]) (rest := []) X (rm6 l Z a0 hw o19 (0 : Int32) (1 : Int32) (0 : Int32) (0 : Int32) P_42 B_43 RR_44 NB_45 [(.int (0 : Int32)), (.int (0 : Int32)), (.int (0 : Int32)), (.int (0 : Int32))] (1 : Int32) (0 : Int32) h_38 X.ext E_51 F_52 F_53 F_54 F_55 F_56 F_57 F_58 F_59 F_60 F_61 A_65 fr_25 (by decide) rfl (by decide)) E_51 (w_33 hw) (w_34 hw) (w_36 hw) (w_35 hw) (w_4 hw) (w_37 hw) rfl (by decide) rfl rfl pd_4 rfl rfl at_76 rfl (Nat.le_refl _) (by decide) (by decide) rfl rfl (by decide) (by decide) (fun v85 T h_86 X hQ87 => ?_)
    obtain ⟨rfl, Kc_88, E_89, F_90, F_91, F_92, F_93, F_94, F_95, F_96, F_97, F_98, F_99⟩ := hQ87
    show End Z p e below s _ _ _ _ (mkF m 79 #[.val (.int i0), .val (.int i1), .val (.int i2), .val (.int stt), .val (.int (0 : Int32)), .val (.ref o1), .val (.ref o19)] [])
    refine E_aload (v := (.ref o19)) (pc' := 81) X at_79 rfl rfl rfl ?_
    refine E_iconst (v := (0 : Int32)) (pc' := 82) X at_81 rfl rfl ?_
    refine E_iconst (v := (0 : Int32)) (pc' := 83) X at_82 rfl rfl ?_
    have A_100 : Ar Z h_86 P_42 .int [(.int (0 : Int32)), (.int (0 : Int32)), (.int (0 : Int32)), (.int (0 : Int32)), (.int (0 : Int32)), (.int (0 : Int32)), (.int (0 : Int32))] := (A_62.keep Kc_88 (ninS (Ne.symm ne_74) nin0))
    have A_101 : Ar Z h_86 B_43 .int [(.int (0 : Int32)), (.int (0 : Int32)), (.int (0 : Int32)), (.int (0 : Int32)), (.int (0 : Int32)), (.int (0 : Int32)), (.int (0 : Int32))] := (A_63.keep Kc_88 (ninS (Ne.symm ne_77) nin0))
    have A_102 : Ar Z h_86 RR_44 .int [(.int (0 : Int32)), (.int (0 : Int32)), (.int (0 : Int32)), (.int (0 : Int32)), (.int (0 : Int32)), (.int (0 : Int32)), (.int (0 : Int32))] := (A_64.keep Kc_88 (ninS (Ne.symm ne_80) nin0))
    have A_103 : Ar Z h_86 NB_45 .int [(.int (0 : Int32)), (.int (0 : Int32)), (.int (0 : Int32)), (.int (0 : Int32))] := (A_65.keep Kc_88 (ninS (Ne.symm ne_83) nin0))
    refine E_callV (a := o19) (pc' := 86) (W := 0) (cells' := 6) (slots' := 39) (argsL := [(.int (0 : Int32)), (.int (0 : Int32))]) (rest := []) X (rm7 l Z a0 hw o19 (0 : Int32) (0 : Int32) (1 : Int32) (1 : Int32) (0 : Int32) P_42 B_43 RR_44 NB_45 [(.int (0 : Int32)), (.int (0 : Int32)), (.int (0 : Int32)), (.int (0 : Int32)), (.int (0 : Int32)), (.int (0 : Int32)), (.int (0 : Int32))] [(.int (0 : Int32)), (.int (0 : Int32)), (.int (0 : Int32)), (.int (0 : Int32)), (.int (0 : Int32)), (.int (0 : Int32)), (.int (0 : Int32))] [(.int (0 : Int32)), (.int (0 : Int32)), (.int (0 : Int32)), (.int (0 : Int32)), (.int (0 : Int32)), (.int (0 : Int32)), (.int (0 : Int32))] [(.int (0 : Int32)), (.int (0 : Int32)), (.int (0 : Int32)), (.int (0 : Int32))] [(.int (0 : Int32)), (.int (0 : Int32)), (.int (0 : Int32)), (.int (0 : Int32)), (.int (0 : Int32)), (.int (0 : Int32)), (.int (0 : Int32))] [(.int (0 : Int32)), (.int (1 : Int32)), (.int (0 : Int32)), (.int (0 : Int32)), (.int (0 : Int32)), (.int (0 : Int32)), (.int (0 : Int32))] [(.int (0 : Int32)), (.int (0 : Int32)), (.int (0 : Int32)), (.int (0 : Int32)), (.int (0 : Int32)), (.int (0 : Int32)), (.int (0 : Int32))] [(.int (1 : Int32)), (.int (0 : Int32)), (.int (0 : Int32)), (.int (0 : Int32))] (2 : Int32) h_86 X.ext E_89 F_90 F_91 F_92 F_93 F_94 F_95 F_96 F_97 F_98 F_99 A_100 A_101 A_102 A_103 fr_25 fr_75 fr_78 fr_81 fr_84 P_67 P_68 P_69 P_70 P_71 P_72 (by decide) (by decide) (Nat.le_of_ble_eq_true rfl) (Nat.le_of_ble_eq_true rfl) (Nat.le_of_ble_eq_true rfl) (Nat.le_of_ble_eq_true rfl) rfl rfl rfl rfl (by decide)) E_89 (w_42 hw) (w_43 hw) (w_45 hw) (w_44 hw) (w_4 hw) (w_46 hw) rfl (by decide) rfl rfl pd_5 rfl rfl at_83 rfl (Nat.le_refl _) (by decide) (by decide) rfl rfl (by decide) (by decide) (fun v104 T h_105 X hQ106 => ?_)
    obtain ⟨rfl, Kc_107, E_108, F_109, F_110, F_111, F_112, F_113, F_114, F_115, F_116, F_117, F_118, A_119, A_120, A_121, A_122⟩ := hQ106
    show End Z p e below s _ _ _ _ (mkF m 86 #[.val (.int i0), .val (.int i1), .val (.int i2), .val (.int stt), .val (.int (0 : Int32)), .val (.ref o1), .val (.ref o19)] [])
    refine E_aload (v := (.ref o19)) (pc' := 88) X at_86 rfl rfl rfl ?_
    refine E_iconst (v := (1 : Int32)) (pc' := 89) X at_88 rfl rfl ?_
    refine E_iload (pc' := 91) X at_89 rfl rfl ?_
    refine E_if (pcY := 98) (pcN := 94) X (i0_eq _) at_91 (by decide) rfl rfl (fun hc91_0 => ?_) (fun hc91_0 => absurd (by decide) hc91_0)
    refine E_iconst (v := (2 : Int32)) (pc' := 99) X at_98 rfl rfl ?_
    refine E_callV (a := o19) (pc' := 102) (W := 0) (cells' := 6) (slots' := 39) (argsL := [(.int (1 : Int32)), (.int (2 : Int32))]) (rest := []) X (rm7 l Z a0 hw o19 (1 : Int32) (2 : Int32) (2 : Int32) (1 : Int32) (0 : Int32) P_42 B_43 RR_44 NB_45 [(.int (0 : Int32)), (.int (0 : Int32)), (.int (0 : Int32)), (.int (0 : Int32)), (.int (0 : Int32)), (.int (0 : Int32)), (.int (0 : Int32))] [(.int (0 : Int32)), (.int (1 : Int32)), (.int (0 : Int32)), (.int (0 : Int32)), (.int (0 : Int32)), (.int (0 : Int32)), (.int (0 : Int32))] [(.int (0 : Int32)), (.int (0 : Int32)), (.int (0 : Int32)), (.int (0 : Int32)), (.int (0 : Int32)), (.int (0 : Int32)), (.int (0 : Int32))] [(.int (1 : Int32)), (.int (0 : Int32)), (.int (0 : Int32)), (.int (0 : Int32))] [(.int (0 : Int32)), (.int (0 : Int32)), (.int (0 : Int32)), (.int (0 : Int32)), (.int (0 : Int32)), (.int (0 : Int32)), (.int (0 : Int32))] [(.int (0 : Int32)), (.int (1 : Int32)), (.int (1 : Int32)), (.int (0 : Int32)), (.int (0 : Int32)), (.int (0 : Int32)), (.int (0 : Int32))] [(.int (0 : Int32)), (.int (0 : Int32)), (.int (2 : Int32)), (.int (0 : Int32)), (.int (0 : Int32)), (.int (0 : Int32)), (.int (0 : Int32))] [(.int (1 : Int32)), (.int (2 : Int32)), (.int (0 : Int32)), (.int (0 : Int32))] (3 : Int32) h_105 X.ext E_108 F_109 F_110 F_111 F_112 F_113 F_114 F_115 F_116 F_117 F_118 A_119 A_120 A_121 A_122 fr_25 fr_75 fr_78 fr_81 fr_84 P_67 P_68 P_69 P_70 P_71 P_72 (by decide) (by decide) (Nat.le_of_ble_eq_true rfl) (Nat.le_of_ble_eq_true rfl) (Nat.le_of_ble_eq_true rfl) (Nat.le_of_ble_eq_true rfl) rfl rfl rfl rfl (by decide)) E_108 (w_42 hw) (w_43 hw) (w_45 hw) (w_44 hw) (w_4 hw) (w_46 hw) rfl (by decide) rfl rfl pd_5 rfl rfl at_99 rfl (Nat.le_refl _) (by decide) (by decide) rfl rfl (by decide) (by decide) (fun v123 T h_124 X hQ125 => ?_)
    obtain ⟨rfl, Kc_126, E_127, F_128, F_129, F_130, F_131, F_132, F_133, F_134, F_135, F_136, F_137, A_138, A_139, A_140, A_141⟩ := hQ125
    show End Z p e below s _ _ _ _ (mkF m 102 #[.val (.int i0), .val (.int i1), .val (.int i2), .val (.int stt), .val (.int (0 : Int32)), .val (.ref o1), .val (.ref o19)] [])
    refine E_aload (v := (.ref o19)) (pc' := 104) X at_102 rfl rfl rfl ?_
    refine E_iconst (v := (0 : Int32)) (pc' := 105) X at_104 rfl rfl ?_
    refine E_callV (a := o19) (pc' := 108) (W := 0) (cells' := 6) (slots' := 39) (argsL := [(.int (0 : Int32))]) (rest := []) X (rm6 l Z a0 hw o19 (0 : Int32) (3 : Int32) (1 : Int32) (0 : Int32) P_42 B_43 RR_44 NB_45 [(.int (1 : Int32)), (.int (2 : Int32)), (.int (0 : Int32)), (.int (0 : Int32))] (2 : Int32) (1 : Int32) h_124 X.ext E_127 F_128 F_129 F_130 F_131 F_132 F_133 F_134 F_135 F_136 F_137 A_141 fr_25 (by decide) rfl (by decide)) E_127 (w_33 hw) (w_34 hw) (w_36 hw) (w_35 hw) (w_4 hw) (w_37 hw) rfl (by decide) rfl rfl pd_4 rfl rfl at_105 rfl (Nat.le_refl _) (by decide) (by decide) rfl rfl (by decide) (by decide) (fun v142 T h_143 X hQ144 => ?_)
    obtain ⟨rfl, Kc_145, E_146, F_147, F_148, F_149, F_150, F_151, F_152, F_153, F_154, F_155, F_156⟩ := hQ144
    show End Z p e below s _ _ _ _ (mkF m 108 #[.val (.int i0), .val (.int i1), .val (.int i2), .val (.int stt), .val (.int (0 : Int32)), .val (.ref o1), .val (.ref o19)] [])
    refine E_aload (v := (.ref o19)) (pc' := 110) X at_108 rfl rfl rfl ?_
    refine E_iconst (v := (0 : Int32)) (pc' := 111) X at_110 rfl rfl ?_
    refine E_iconst (v := (0 : Int32)) (pc' := 112) X at_111 rfl rfl ?_
    have A_157 : Ar Z h_143 P_42 .int [(.int (0 : Int32)), (.int (0 : Int32)), (.int (0 : Int32)), (.int (0 : Int32)), (.int (0 : Int32)), (.int (0 : Int32)), (.int (0 : Int32))] := (A_138.keep Kc_145 (ninS (Ne.symm ne_74) nin0))
    have A_158 : Ar Z h_143 B_43 .int [(.int (0 : Int32)), (.int (1 : Int32)), (.int (1 : Int32)), (.int (0 : Int32)), (.int (0 : Int32)), (.int (0 : Int32)), (.int (0 : Int32))] := (A_139.keep Kc_145 (ninS (Ne.symm ne_77) nin0))
    have A_159 : Ar Z h_143 RR_44 .int [(.int (0 : Int32)), (.int (0 : Int32)), (.int (2 : Int32)), (.int (0 : Int32)), (.int (0 : Int32)), (.int (0 : Int32)), (.int (0 : Int32))] := (A_140.keep Kc_145 (ninS (Ne.symm ne_80) nin0))
    have A_160 : Ar Z h_143 NB_45 .int [(.int (1 : Int32)), (.int (2 : Int32)), (.int (0 : Int32)), (.int (0 : Int32))] := (A_141.keep Kc_145 (ninS (Ne.symm ne_83) nin0))
    refine E_callV (a := o19) (pc' := 115) (W := 0) (cells' := 6) (slots' := 39) (argsL := [(.int (0 : Int32)), (.int (0 : Int32))]) (rest := []) X (rm7 l Z a0 hw o19 (0 : Int32) (0 : Int32) (3 : Int32) (2 : Int32) (1 : Int32) P_42 B_43 RR_44 NB_45 [(.int (0 : Int32)), (.int (0 : Int32)), (.int (0 : Int32)), (.int (0 : Int32)), (.int (0 : Int32)), (.int (0 : Int32)), (.int (0 : Int32))] [(.int (0 : Int32)), (.int (1 : Int32)), (.int (1 : Int32)), (.int (0 : Int32)), (.int (0 : Int32)), (.int (0 : Int32)), (.int (0 : Int32))] [(.int (0 : Int32)), (.int (0 : Int32)), (.int (2 : Int32)), (.int (0 : Int32)), (.int (0 : Int32)), (.int (0 : Int32)), (.int (0 : Int32))] [(.int (1 : Int32)), (.int (2 : Int32)), (.int (0 : Int32)), (.int (0 : Int32))] [(.int (0 : Int32)), (.int (0 : Int32)), (.int (0 : Int32)), (.int (1 : Int32)), (.int (0 : Int32)), (.int (0 : Int32)), (.int (0 : Int32))] [(.int (0 : Int32)), (.int (1 : Int32)), (.int (1 : Int32)), (.int (2 : Int32)), (.int (0 : Int32)), (.int (0 : Int32)), (.int (0 : Int32))] [(.int (0 : Int32)), (.int (0 : Int32)), (.int (2 : Int32)), (.int (0 : Int32)), (.int (0 : Int32)), (.int (0 : Int32)), (.int (0 : Int32))] [(.int (3 : Int32)), (.int (2 : Int32)), (.int (0 : Int32)), (.int (0 : Int32))] (4 : Int32) h_143 X.ext E_146 F_147 F_148 F_149 F_150 F_151 F_152 F_153 F_154 F_155 F_156 A_157 A_158 A_159 A_160 fr_25 fr_75 fr_78 fr_81 fr_84 P_67 P_68 P_69 P_70 P_71 P_72 (by decide) (by decide) (Nat.le_of_ble_eq_true rfl) (Nat.le_of_ble_eq_true rfl) (Nat.le_of_ble_eq_true rfl) (Nat.le_of_ble_eq_true rfl) rfl rfl rfl rfl (by decide)) E_146 (w_42 hw) (w_43 hw) (w_45 hw) (w_44 hw) (w_4 hw) (w_46 hw) rfl (by decide) rfl rfl pd_5 rfl rfl at_112 rfl (Nat.le_refl _) (by decide) (by decide) rfl rfl (by decide) (by decide) (fun v161 T h_162 X hQ163 => ?_)
    obtain ⟨rfl, Kc_164, E_165, F_166, F_167, F_168, F_169, F_170, F_171, F_172, F_173, F_174, F_175, A_176, A_177, A_178, A_179⟩ := hQ163
    show End Z p e below s _ _ _ _ (mkF m 115 #[.val (.int i0), .val (.int i1), .val (.int i2), .val (.int stt), .val (.int (0 : Int32)), .val (.ref o1), .val (.ref o19)] [])
    refine E_aload (v := (.ref o19)) (pc' := 117) X at_115 rfl rfl rfl ?_
    refine E_iload (pc' := 119) X at_117 rfl rfl ?_
    refine E_if (pcY := 126) (pcN := 122) X (i0_eq _) at_119 (by decide) rfl rfl (fun hc119_0 => ?_) (fun hc119_0 => absurd (by decide) hc119_0)
    refine E_iconst (v := (3 : Int32)) (pc' := 127) X at_126 rfl rfl ?_
    refine E_iload (pc' := 129) X at_127 rfl rfl ?_
    refine E_if (pcY := 136) (pcN := 132) X (i0_eq _) at_129 (by decide) rfl rfl (fun hc129_0 => ?_) (fun hc129_0 => absurd (by decide) hc129_0)
    refine E_iconst (v := (1 : Int32)) (pc' := 137) X at_136 rfl rfl ?_
    refine E_callV (a := o19) (pc' := 140) (W := 0) (cells' := 6) (slots' := 39) (argsL := [(.int (3 : Int32)), (.int (1 : Int32))]) (rest := []) X (rm7 l Z a0 hw o19 (3 : Int32) (1 : Int32) (4 : Int32) (2 : Int32) (1 : Int32) P_42 B_43 RR_44 NB_45 [(.int (0 : Int32)), (.int (0 : Int32)), (.int (0 : Int32)), (.int (1 : Int32)), (.int (0 : Int32)), (.int (0 : Int32)), (.int (0 : Int32))] [(.int (0 : Int32)), (.int (1 : Int32)), (.int (1 : Int32)), (.int (2 : Int32)), (.int (0 : Int32)), (.int (0 : Int32)), (.int (0 : Int32))] [(.int (0 : Int32)), (.int (0 : Int32)), (.int (2 : Int32)), (.int (0 : Int32)), (.int (0 : Int32)), (.int (0 : Int32)), (.int (0 : Int32))] [(.int (3 : Int32)), (.int (2 : Int32)), (.int (0 : Int32)), (.int (0 : Int32))] [(.int (0 : Int32)), (.int (0 : Int32)), (.int (0 : Int32)), (.int (1 : Int32)), (.int (1 : Int32)), (.int (0 : Int32)), (.int (0 : Int32))] [(.int (0 : Int32)), (.int (1 : Int32)), (.int (1 : Int32)), (.int (2 : Int32)), (.int (2 : Int32)), (.int (0 : Int32)), (.int (0 : Int32))] [(.int (0 : Int32)), (.int (0 : Int32)), (.int (2 : Int32)), (.int (0 : Int32)), (.int (1 : Int32)), (.int (0 : Int32)), (.int (0 : Int32))] [(.int (3 : Int32)), (.int (2 : Int32)), (.int (0 : Int32)), (.int (4 : Int32))] (5 : Int32) h_162 X.ext E_165 F_166 F_167 F_168 F_169 F_170 F_171 F_172 F_173 F_174 F_175 A_176 A_177 A_178 A_179 fr_25 fr_75 fr_78 fr_81 fr_84 P_67 P_68 P_69 P_70 P_71 P_72 (by decide) (by decide) (Nat.le_of_ble_eq_true rfl) (Nat.le_of_ble_eq_true rfl) (Nat.le_of_ble_eq_true rfl) (Nat.le_of_ble_eq_true rfl) rfl rfl rfl rfl (by decide)) E_165 (w_42 hw) (w_43 hw) (w_45 hw) (w_44 hw) (w_4 hw) (w_46 hw) rfl (by decide) rfl rfl pd_5 rfl rfl at_137 rfl (Nat.le_refl _) (by decide) (by decide) rfl rfl (by decide) (by decide) (fun v180 T h_181 X hQ182 => ?_)
    obtain ⟨rfl, Kc_183, E_184, F_185, F_186, F_187, F_188, F_189, F_190, F_191, F_192, F_193, F_194, A_195, A_196, A_197, A_198⟩ := hQ182
    show End Z p e below s _ _ _ _ (mkF m 140 #[.val (.int i0), .val (.int i1), .val (.int i2), .val (.int stt), .val (.int (0 : Int32)), .val (.ref o1), .val (.ref o19)] [])
    refine E_aload (v := (.ref o19)) (pc' := 142) X at_140 rfl rfl rfl ?_
    refine E_iload (pc' := 144) X at_142 rfl rfl ?_
    refine E_if (pcY := 151) (pcN := 147) X (i0_eq _) at_144 (by decide) rfl rfl (fun hc144_0 => ?_) (fun hc144_0 => absurd (by decide) hc144_0)
    refine E_iconst (v := (1 : Int32)) (pc' := 152) X at_151 rfl rfl ?_
    refine E_callV (a := o19) (pc' := 155) (W := 0) (cells' := 6) (slots' := 39) (argsL := [(.int (1 : Int32))]) (rest := []) X (rm6 l Z a0 hw o19 (1 : Int32) (5 : Int32) (2 : Int32) (1 : Int32) P_42 B_43 RR_44 NB_45 [(.int (3 : Int32)), (.int (2 : Int32)), (.int (0 : Int32)), (.int (4 : Int32))] (3 : Int32) (2 : Int32) h_181 X.ext E_184 F_185 F_186 F_187 F_188 F_189 F_190 F_191 F_192 F_193 F_194 A_198 fr_25 (by decide) rfl (by decide)) E_184 (w_33 hw) (w_34 hw) (w_36 hw) (w_35 hw) (w_4 hw) (w_37 hw) rfl (by decide) rfl rfl pd_4 rfl rfl at_152 rfl (Nat.le_refl _) (by decide) (by decide) rfl rfl (by decide) (by decide) (fun v199 T h_200 X hQ201 => ?_)
    obtain ⟨rfl, Kc_202, E_203, F_204, F_205, F_206, F_207, F_208, F_209, F_210, F_211, F_212, F_213⟩ := hQ201
    show End Z p e below s _ _ _ _ (mkF m 155 #[.val (.int i0), .val (.int i1), .val (.int i2), .val (.int stt), .val (.int (0 : Int32)), .val (.ref o1), .val (.ref o19)] [])
    refine E_aload (v := (.ref o19)) (pc' := 157) X at_155 rfl rfl rfl ?_
    refine E_iload (pc' := 159) X at_157 rfl rfl ?_
    refine E_if (pcY := 166) (pcN := 162) X (i0_eq _) at_159 (by decide) rfl rfl (fun hc159_0 => ?_) (fun hc159_0 => absurd (by decide) hc159_0)
    refine E_iconst (v := (1 : Int32)) (pc' := 167) X at_166 rfl rfl ?_
    refine E_iload (pc' := 169) X at_167 rfl rfl ?_
    refine E_if (pcY := 176) (pcN := 172) X (i0_eq _) at_169 (by decide) rfl rfl (fun hc169_0 => ?_) (fun hc169_0 => absurd (by decide) hc169_0)
    refine E_iconst (v := (2 : Int32)) (pc' := 177) X at_176 rfl rfl ?_
    have A_214 : Ar Z h_200 P_42 .int [(.int (0 : Int32)), (.int (0 : Int32)), (.int (0 : Int32)), (.int (1 : Int32)), (.int (1 : Int32)), (.int (0 : Int32)), (.int (0 : Int32))] := (A_195.keep Kc_202 (ninS (Ne.symm ne_74) nin0))
    have A_215 : Ar Z h_200 B_43 .int [(.int (0 : Int32)), (.int (1 : Int32)), (.int (1 : Int32)), (.int (2 : Int32)), (.int (2 : Int32)), (.int (0 : Int32)), (.int (0 : Int32))] := (A_196.keep Kc_202 (ninS (Ne.symm ne_77) nin0))
    have A_216 : Ar Z h_200 RR_44 .int [(.int (0 : Int32)), (.int (0 : Int32)), (.int (2 : Int32)), (.int (0 : Int32)), (.int (1 : Int32)), (.int (0 : Int32)), (.int (0 : Int32))] := (A_197.keep Kc_202 (ninS (Ne.symm ne_80) nin0))
    have A_217 : Ar Z h_200 NB_45 .int [(.int (3 : Int32)), (.int (2 : Int32)), (.int (0 : Int32)), (.int (4 : Int32))] := (A_198.keep Kc_202 (ninS (Ne.symm ne_83) nin0))
    refine E_callV (a := o19) (pc' := 180) (W := 0) (cells' := 6) (slots' := 39) (argsL := [(.int (1 : Int32)), (.int (2 : Int32))]) (rest := []) X (rm7 l Z a0 hw o19 (1 : Int32) (2 : Int32) (5 : Int32) (3 : Int32) (2 : Int32) P_42 B_43 RR_44 NB_45 [(.int (0 : Int32)), (.int (0 : Int32)), (.int (0 : Int32)), (.int (1 : Int32)), (.int (1 : Int32)), (.int (0 : Int32)), (.int (0 : Int32))] [(.int (0 : Int32)), (.int (1 : Int32)), (.int (1 : Int32)), (.int (2 : Int32)), (.int (2 : Int32)), (.int (0 : Int32)), (.int (0 : Int32))] [(.int (0 : Int32)), (.int (0 : Int32)), (.int (2 : Int32)), (.int (0 : Int32)), (.int (1 : Int32)), (.int (0 : Int32)), (.int (0 : Int32))] [(.int (3 : Int32)), (.int (2 : Int32)), (.int (0 : Int32)), (.int (4 : Int32))] [(.int (0 : Int32)), (.int (0 : Int32)), (.int (0 : Int32)), (.int (1 : Int32)), (.int (1 : Int32)), (.int (2 : Int32)), (.int (0 : Int32))] [(.int (0 : Int32)), (.int (1 : Int32)), (.int (1 : Int32)), (.int (2 : Int32)), (.int (2 : Int32)), (.int (3 : Int32)), (.int (0 : Int32))] [(.int (0 : Int32)), (.int (0 : Int32)), (.int (2 : Int32)), (.int (0 : Int32)), (.int (1 : Int32)), (.int (2 : Int32)), (.int (0 : Int32))] [(.int (3 : Int32)), (.int (5 : Int32)), (.int (0 : Int32)), (.int (4 : Int32))] (6 : Int32) h_200 X.ext E_203 F_204 F_205 F_206 F_207 F_208 F_209 F_210 F_211 F_212 F_213 A_214 A_215 A_216 A_217 fr_25 fr_75 fr_78 fr_81 fr_84 P_67 P_68 P_69 P_70 P_71 P_72 (by decide) (by decide) (Nat.le_of_ble_eq_true rfl) (Nat.le_of_ble_eq_true rfl) (Nat.le_of_ble_eq_true rfl) (Nat.le_of_ble_eq_true rfl) rfl rfl rfl rfl (by decide)) E_203 (w_42 hw) (w_43 hw) (w_45 hw) (w_44 hw) (w_4 hw) (w_46 hw) rfl (by decide) rfl rfl pd_5 rfl rfl at_177 rfl (Nat.le_refl _) (by decide) (by decide) rfl rfl (by decide) (by decide) (fun v218 T h_219 X hQ220 => ?_)
    obtain ⟨rfl, Kc_221, E_222, F_223, F_224, F_225, F_226, F_227, F_228, F_229, F_230, F_231, F_232, A_233, A_234, A_235, A_236⟩ := hQ220
    show End Z p e below s _ _ _ _ (mkF m 180 #[.val (.int i0), .val (.int i1), .val (.int i2), .val (.int stt), .val (.int (0 : Int32)), .val (.ref o1), .val (.ref o19)] [])
    refine E_aload (v := (.ref o19)) (pc' := 182) X at_180 rfl rfl rfl ?_
    refine E_iload (pc' := 184) X at_182 rfl rfl ?_
    refine E_if (pcY := 191) (pcN := 187) X (i0_eq _) at_184 (by decide) rfl rfl (fun hc184_0 => ?_) (fun hc184_0 => absurd (by decide) hc184_0)
    refine E_iconst (v := (2 : Int32)) (pc' := 192) X at_191 rfl rfl ?_
    refine E_iload (pc' := 194) X at_192 rfl rfl ?_
    refine E_if (pcY := 201) (pcN := 197) X (i0_eq _) at_194 (by decide) rfl rfl (fun hc194_0 => ?_) (fun hc194_0 => absurd (by decide) hc194_0)
    refine E_iconst (v := (3 : Int32)) (pc' := 202) X at_201 rfl rfl ?_
    refine E_callV (a := o19) (pc' := 205) (W := 0) (cells' := 6) (slots' := 39) (argsL := [(.int (2 : Int32)), (.int (3 : Int32))]) (rest := []) X (rm7 l Z a0 hw o19 (2 : Int32) (3 : Int32) (6 : Int32) (3 : Int32) (2 : Int32) P_42 B_43 RR_44 NB_45 [(.int (0 : Int32)), (.int (0 : Int32)), (.int (0 : Int32)), (.int (1 : Int32)), (.int (1 : Int32)), (.int (2 : Int32)), (.int (0 : Int32))] [(.int (0 : Int32)), (.int (1 : Int32)), (.int (1 : Int32)), (.int (2 : Int32)), (.int (2 : Int32)), (.int (3 : Int32)), (.int (0 : Int32))] [(.int (0 : Int32)), (.int (0 : Int32)), (.int (2 : Int32)), (.int (0 : Int32)), (.int (1 : Int32)), (.int (2 : Int32)), (.int (0 : Int32))] [(.int (3 : Int32)), (.int (5 : Int32)), (.int (0 : Int32)), (.int (4 : Int32))] [(.int (0 : Int32)), (.int (0 : Int32)), (.int (0 : Int32)), (.int (1 : Int32)), (.int (1 : Int32)), (.int (2 : Int32)), (.int (2 : Int32))] [(.int (0 : Int32)), (.int (1 : Int32)), (.int (1 : Int32)), (.int (2 : Int32)), (.int (2 : Int32)), (.int (3 : Int32)), (.int (3 : Int32))] [(.int (0 : Int32)), (.int (0 : Int32)), (.int (2 : Int32)), (.int (0 : Int32)), (.int (1 : Int32)), (.int (2 : Int32)), (.int (3 : Int32))] [(.int (3 : Int32)), (.int (5 : Int32)), (.int (6 : Int32)), (.int (4 : Int32))] (7 : Int32) h_219 X.ext E_222 F_223 F_224 F_225 F_226 F_227 F_228 F_229 F_230 F_231 F_232 A_233 A_234 A_235 A_236 fr_25 fr_75 fr_78 fr_81 fr_84 P_67 P_68 P_69 P_70 P_71 P_72 (by decide) (by decide) (Nat.le_of_ble_eq_true rfl) (Nat.le_of_ble_eq_true rfl) (Nat.le_of_ble_eq_true rfl) (Nat.le_of_ble_eq_true rfl) rfl rfl rfl rfl (by decide)) E_222 (w_42 hw) (w_43 hw) (w_45 hw) (w_44 hw) (w_4 hw) (w_46 hw) rfl (by decide) rfl rfl pd_5 rfl rfl at_202 rfl (Nat.le_refl _) (by decide) (by decide) rfl rfl (by decide) (by decide) (fun v237 T h_238 X hQ239 => ?_)
    obtain ⟨rfl, Kc_240, E_241, F_242, F_243, F_244, F_245, F_246, F_247, F_248, F_249, F_250, F_251, A_252, A_253, A_254, A_255⟩ := hQ239
    show End Z p e below s _ _ _ _ (mkF m 205 #[.val (.int i0), .val (.int i1), .val (.int i2), .val (.int stt), .val (.int (0 : Int32)), .val (.ref o1), .val (.ref o19)] [])
    refine E_aload (v := (.ref o19)) (pc' := 207) X at_205 rfl rfl rfl ?_
    refine E_aload (v := (.ref o1)) (pc' := 209) X at_207 rfl rfl rfl ?_
    have E_256 : Exa Z h_238 P_42 "[I" := (((((((((E_66.keep Kc_88).keep Kc_107).keep Kc_126).keep Kc_145).keep Kc_164).keep Kc_183).keep Kc_202).keep Kc_221).keep Kc_240)
    have A_257 : Ar Z h_238 o1 .int [(.int (0 : Int32)), (.int (3 : Int32)), (.int (1 : Int32)), (.int (2 : Int32))] := ((((((((((A_40.keep Kc_46 (ninS ne_26 nin0)).keep Kc_88 (ninS ne_26 nin0)).keep Kc_107 (ninS ne_26 (ninS ne_73 (ninS ne_76 (ninS ne_79 (ninS ne_82 nin0)))))).keep Kc_126 (ninS ne_26 (ninS ne_73 (ninS ne_76 (ninS ne_79 (ninS ne_82 nin0)))))).keep Kc_145 (ninS ne_26 nin0)).keep Kc_164 (ninS ne_26 (ninS ne_73 (ninS ne_76 (ninS ne_79 (ninS ne_82 nin0)))))).keep Kc_183 (ninS ne_26 (ninS ne_73 (ninS ne_76 (ninS ne_79 (ninS ne_82 nin0)))))).keep Kc_202 (ninS ne_26 nin0)).keep Kc_221 (ninS ne_26 (ninS ne_73 (ninS ne_76 (ninS ne_79 (ninS ne_82 nin0)))))).keep Kc_240 (ninS ne_26 (ninS ne_73 (ninS ne_76 (ninS ne_79 (ninS ne_82 nin0))))))
    have le_261 := X.le
    refine E_callV (a := o19) (pc' := 212) (W := 0) (cells' := 11) (slots' := 66) (argsL := [(.ref o1)]) (rest := []) X (rm_fin0 l Z a0 hw o19 o1 P_42 B_43 RR_44 NB_45 h_238 X.ext E_241 F_242 F_243 F_244 F_245 F_246 F_247 F_248 F_249 F_250 F_251 A_252 E_256 A_255 A_257 fr_25) E_241 (w_47 hw) (w_48 hw) (w_50 hw) (w_49 hw) (w_4 hw) (w_51 hw) rfl (by decide) rfl rfl pd_6 rfl rfl at_209 rfl (Nat.le_refl _) (by decide) (by decide) rfl rfl (by decide) (by decide) (fun v258 T h_259 X hQ260 => ?_)
    obtain ⟨lf_262, jp_263, j0_264, j1_265, rfl, Kc_266, nw_267, nw_268, nw_269, nw_270, E_271, F_272, F_273, F_274, F_275, A_276, A_277, A_278, A_279⟩ := hQ260
    have ne_280 : B_43 ≠ lf_262 := Nat.ne_of_lt (Nat.lt_of_lt_of_le A_253.lt nw_267)
    have ne_281 : NB_45 ≠ lf_262 := Nat.ne_of_lt (Nat.lt_of_lt_of_le A_255.lt nw_267)
    have ne_282 : P_42 ≠ lf_262 := Nat.ne_of_lt (Nat.lt_of_lt_of_le E_256.lt nw_267)
    have ne_283 : RR_44 ≠ lf_262 := Nat.ne_of_lt (Nat.lt_of_lt_of_le A_254.lt nw_267)
    have ne_284 : o1 ≠ lf_262 := Nat.ne_of_lt (Nat.lt_of_lt_of_le A_257.lt nw_267)
    have ne_285 : o19 ≠ lf_262 := Nat.ne_of_lt (Nat.lt_of_lt_of_le E_241.lt nw_267)
    have fr_286 : Z.heap.size ≤ lf_262 := Nat.le_trans le_261 nw_267
    have ne_287 : B_43 ≠ jp_263 := Nat.ne_of_lt (Nat.lt_of_lt_of_le A_253.lt nw_268)
    have ne_288 : NB_45 ≠ jp_263 := Nat.ne_of_lt (Nat.lt_of_lt_of_le A_255.lt nw_268)
    have ne_289 : P_42 ≠ jp_263 := Nat.ne_of_lt (Nat.lt_of_lt_of_le E_256.lt nw_268)
    have ne_290 : RR_44 ≠ jp_263 := Nat.ne_of_lt (Nat.lt_of_lt_of_le A_254.lt nw_268)
    have ne_291 : o1 ≠ jp_263 := Nat.ne_of_lt (Nat.lt_of_lt_of_le A_257.lt nw_268)
    have ne_292 : o19 ≠ jp_263 := Nat.ne_of_lt (Nat.lt_of_lt_of_le E_241.lt nw_268)
    have fr_293 : Z.heap.size ≤ jp_263 := Nat.le_trans le_261 nw_268
    have ne_294 : B_43 ≠ j0_264 := Nat.ne_of_lt (Nat.lt_of_lt_of_le A_253.lt nw_269)
    have ne_295 : NB_45 ≠ j0_264 := Nat.ne_of_lt (Nat.lt_of_lt_of_le A_255.lt nw_269)
    have ne_296 : P_42 ≠ j0_264 := Nat.ne_of_lt (Nat.lt_of_lt_of_le E_256.lt nw_269)
    have ne_297 : RR_44 ≠ j0_264 := Nat.ne_of_lt (Nat.lt_of_lt_of_le A_254.lt nw_269)
    have ne_298 : o1 ≠ j0_264 := Nat.ne_of_lt (Nat.lt_of_lt_of_le A_257.lt nw_269)
    have ne_299 : o19 ≠ j0_264 := Nat.ne_of_lt (Nat.lt_of_lt_of_le E_241.lt nw_269)
    have fr_300 : Z.heap.size ≤ j0_264 := Nat.le_trans le_261 nw_269
    have ne_301 : B_43 ≠ j1_265 := Nat.ne_of_lt (Nat.lt_of_lt_of_le A_253.lt nw_270)
    have ne_302 : NB_45 ≠ j1_265 := Nat.ne_of_lt (Nat.lt_of_lt_of_le A_255.lt nw_270)
    have ne_303 : P_42 ≠ j1_265 := Nat.ne_of_lt (Nat.lt_of_lt_of_le E_256.lt nw_270)
    have ne_304 : RR_44 ≠ j1_265 := Nat.ne_of_lt (Nat.lt_of_lt_of_le A_254.lt nw_270)
    have ne_305 : o1 ≠ j1_265 := Nat.ne_of_lt (Nat.lt_of_lt_of_le A_257.lt nw_270)
    have ne_306 : o19 ≠ j1_265 := Nat.ne_of_lt (Nat.lt_of_lt_of_le E_241.lt nw_270)
    have fr_307 : Z.heap.size ≤ j1_265 := Nat.le_trans le_261 nw_270
    show End Z p e below s _ _ _ _ (mkF m 212 #[.val (.int i0), .val (.int i1), .val (.int i2), .val (.int stt), .val (.int (0 : Int32)), .val (.ref o1), .val (.ref o19)] [])
    rcases (by rw [← q_stt]; exact own_rem4 i0 : stt = (0 : Int32) ∨ stt = (1 : Int32) ∨ stt = (2 : Int32) ∨ stt = (3 : Int32)) with rfl | rfl | rfl | rfl
    · skip
      refine E_aload (v := (.ref o19)) (pc' := 214) X at_212 rfl rfl rfl ?_
      refine E_iloadN (pc' := 215) X at_214 rfl rfl ?_
      refine E_iloadN (pc' := 216) X at_215 rfl rfl ?_
      have A_308 : Ar Z h_259 P_42 .int [(.int (0 : Int32)), (.int (0 : Int32)), (.int (0 : Int32)), (.int (1 : Int32)), (.int (1 : Int32)), (.int (2 : Int32)), (.int (2 : Int32))] := (A_252.keep Kc_266 (ninS (Ne.symm ne_74) nin0))
      have A_309 : Ar Z h_259 B_43 .int [(.int (0 : Int32)), (.int (1 : Int32)), (.int (1 : Int32)), (.int (2 : Int32)), (.int (2 : Int32)), (.int (3 : Int32)), (.int (3 : Int32))] := (A_253.keep Kc_266 (ninS (Ne.symm ne_77) nin0))
      refine E_callV (a := o19) (pc' := 219) (W := 0) (cells' := 11) (slots' := 66) (argsL := [(.int (0 : Int32)), (.int i1)]) (rest := []) X (rm_bb00 l Z a0 hw o19 i1 lf_262 jp_263 P_42 B_43 j0_264 j1_265 h_259 X.ext F_272 F_273 F_274 F_275 A_308 A_309 A_276 A_277 A_278 A_279) E_271 (w_78 hw) (w_79 hw) (w_81 hw) (w_80 hw) (w_4 hw) (w_82 hw) rfl (by decide) rfl rfl pd_1 rfl rfl at_216 rfl (Nat.le_refl _) (by decide) (by decide) rfl rfl (by decide) (by decide) (fun v310 T h_311 X hQ312 => ?_)
      obtain ⟨rfl, rfl⟩ := hQ312
      show End Z p e below s _ _ _ _ (mkF m 219 #[.val (.int i0), .val (.int i1), .val (.int i2), .val (.int (0 : Int32)), .val (.int (0 : Int32)), .val (.ref o1), .val (.ref o19)] [(.int (ownE00 i1))])
      refine E_iload (pc' := 221) X at_219 rfl rfl ?_
      refine E_iloadN (pc' := 222) X at_221 rfl rfl ?_
      refine E_iloadN (pc' := 223) X at_222 rfl rfl ?_
      refine E_callS (pc' := 226) (W := 1) (cells' := 11) (slots' := 66) (argsL := [(.int (0 : Int32)), (.int (0 : Int32)), (.int i1)]) (rest := [(.int (ownE00 i1))]) X (rm_ex00 l Z a0 hw i1 h_259 X.ext) (w_83 hw) (w_84 hw) (w_85 hw) (w_86 hw) (by decide) rfl rfl pd_7 rfl rfl at_223 rfl (Nat.le_refl _) (by decide) (by decide) rfl rfl (by decide) (by decide) (fun v314 T h_315 X hQ316 => ?_)
      obtain ⟨rfl, rfl⟩ := hQ316
      show End Z p e below s _ _ _ _ (mkF m 226 #[.val (.int i0), .val (.int i1), .val (.int i2), .val (.int (0 : Int32)), .val (.int (0 : Int32)), .val (.ref o1), .val (.ref o19)] [(.int (ownE00 i1)), (.int (ownE00 i1))])
      refine E_icmp (pcY := 233) (pcN := 229) X (ic_ne _ _) at_226 (by decide) rfl rfl (fun hc226_0 => absurd hc226_0 (fun q => q rfl)) (fun hc226_0 => ?_)
      refine E_iconst (v := (1 : Int32)) (pc' := 230) X at_229 rfl rfl ?_
      refine E_goto (pc' := 234) X at_230 (by decide) rfl ?_
      exact E_retZ (Or.inr rfl) X at_234 (by decide) (by decide) rfl
    · skip
      refine E_aload (v := (.ref o19)) (pc' := 214) X at_212 rfl rfl rfl ?_
      refine E_iloadN (pc' := 215) X at_214 rfl rfl ?_
      refine E_iloadN (pc' := 216) X at_215 rfl rfl ?_
      have A_318 : Ar Z h_259 P_42 .int [(.int (0 : Int32)), (.int (0 : Int32)), (.int (0 : Int32)), (.int (1 : Int32)), (.int (1 : Int32)), (.int (2 : Int32)), (.int (2 : Int32))] := (A_252.keep Kc_266 (ninS (Ne.symm ne_74) nin0))
      have A_319 : Ar Z h_259 B_43 .int [(.int (0 : Int32)), (.int (1 : Int32)), (.int (1 : Int32)), (.int (2 : Int32)), (.int (2 : Int32)), (.int (3 : Int32)), (.int (3 : Int32))] := (A_253.keep Kc_266 (ninS (Ne.symm ne_77) nin0))
      refine E_callV (a := o19) (pc' := 219) (W := 0) (cells' := 11) (slots' := 66) (argsL := [(.int (1 : Int32)), (.int i1)]) (rest := []) X (rm_bb01 l Z a0 hw o19 i1 lf_262 jp_263 P_42 B_43 j0_264 j1_265 h_259 X.ext F_272 F_273 F_274 F_275 A_318 A_319 A_276 A_277 A_278 A_279) E_271 (w_78 hw) (w_79 hw) (w_81 hw) (w_80 hw) (w_4 hw) (w_82 hw) rfl (by decide) rfl rfl pd_1 rfl rfl at_216 rfl (Nat.le_refl _) (by decide) (by decide) rfl rfl (by decide) (by decide) (fun v320 T h_321 X hQ322 => ?_)
      obtain ⟨rfl, rfl⟩ := hQ322
      show End Z p e below s _ _ _ _ (mkF m 219 #[.val (.int i0), .val (.int i1), .val (.int i2), .val (.int (1 : Int32)), .val (.int (0 : Int32)), .val (.ref o1), .val (.ref o19)] [(.int (ownE01 i1))])
      refine E_iload (pc' := 221) X at_219 rfl rfl ?_
      refine E_iloadN (pc' := 222) X at_221 rfl rfl ?_
      refine E_iloadN (pc' := 223) X at_222 rfl rfl ?_
      refine E_callS (pc' := 226) (W := 1) (cells' := 11) (slots' := 66) (argsL := [(.int (0 : Int32)), (.int (1 : Int32)), (.int i1)]) (rest := [(.int (ownE01 i1))]) X (rm_ex01 l Z a0 hw i1 h_259 X.ext) (w_83 hw) (w_84 hw) (w_85 hw) (w_86 hw) (by decide) rfl rfl pd_7 rfl rfl at_223 rfl (Nat.le_refl _) (by decide) (by decide) rfl rfl (by decide) (by decide) (fun v324 T h_325 X hQ326 => ?_)
      obtain ⟨rfl, rfl⟩ := hQ326
      show End Z p e below s _ _ _ _ (mkF m 226 #[.val (.int i0), .val (.int i1), .val (.int i2), .val (.int (1 : Int32)), .val (.int (0 : Int32)), .val (.ref o1), .val (.ref o19)] [(.int (ownE01 i1)), (.int (ownE01 i1))])
      refine E_icmp (pcY := 233) (pcN := 229) X (ic_ne _ _) at_226 (by decide) rfl rfl (fun hc226_0 => absurd hc226_0 (fun q => q rfl)) (fun hc226_0 => ?_)
      refine E_iconst (v := (1 : Int32)) (pc' := 230) X at_229 rfl rfl ?_
      refine E_goto (pc' := 234) X at_230 (by decide) rfl ?_
      exact E_retZ (Or.inr rfl) X at_234 (by decide) (by decide) rfl
    · skip
      refine E_aload (v := (.ref o19)) (pc' := 214) X at_212 rfl rfl rfl ?_
      refine E_iloadN (pc' := 215) X at_214 rfl rfl ?_
      refine E_iloadN (pc' := 216) X at_215 rfl rfl ?_
      have A_328 : Ar Z h_259 P_42 .int [(.int (0 : Int32)), (.int (0 : Int32)), (.int (0 : Int32)), (.int (1 : Int32)), (.int (1 : Int32)), (.int (2 : Int32)), (.int (2 : Int32))] := (A_252.keep Kc_266 (ninS (Ne.symm ne_74) nin0))
      have A_329 : Ar Z h_259 B_43 .int [(.int (0 : Int32)), (.int (1 : Int32)), (.int (1 : Int32)), (.int (2 : Int32)), (.int (2 : Int32)), (.int (3 : Int32)), (.int (3 : Int32))] := (A_253.keep Kc_266 (ninS (Ne.symm ne_77) nin0))
      refine E_callV (a := o19) (pc' := 219) (W := 0) (cells' := 11) (slots' := 66) (argsL := [(.int (2 : Int32)), (.int i1)]) (rest := []) X (rm_bb02 l Z a0 hw o19 i1 lf_262 jp_263 P_42 B_43 j0_264 j1_265 h_259 X.ext F_272 F_273 F_274 F_275 A_328 A_329 A_276 A_277 A_278 A_279) E_271 (w_78 hw) (w_79 hw) (w_81 hw) (w_80 hw) (w_4 hw) (w_82 hw) rfl (by decide) rfl rfl pd_1 rfl rfl at_216 rfl (Nat.le_refl _) (by decide) (by decide) rfl rfl (by decide) (by decide) (fun v330 T h_331 X hQ332 => ?_)
      obtain ⟨rfl, rfl⟩ := hQ332
      show End Z p e below s _ _ _ _ (mkF m 219 #[.val (.int i0), .val (.int i1), .val (.int i2), .val (.int (2 : Int32)), .val (.int (0 : Int32)), .val (.ref o1), .val (.ref o19)] [(.int (ownE02 i1))])
      refine E_iload (pc' := 221) X at_219 rfl rfl ?_
      refine E_iloadN (pc' := 222) X at_221 rfl rfl ?_
      refine E_iloadN (pc' := 223) X at_222 rfl rfl ?_
      refine E_callS (pc' := 226) (W := 1) (cells' := 11) (slots' := 66) (argsL := [(.int (0 : Int32)), (.int (2 : Int32)), (.int i1)]) (rest := [(.int (ownE02 i1))]) X (rm_ex02 l Z a0 hw i1 h_259 X.ext) (w_83 hw) (w_84 hw) (w_85 hw) (w_86 hw) (by decide) rfl rfl pd_7 rfl rfl at_223 rfl (Nat.le_refl _) (by decide) (by decide) rfl rfl (by decide) (by decide) (fun v334 T h_335 X hQ336 => ?_)
      obtain ⟨rfl, rfl⟩ := hQ336
      show End Z p e below s _ _ _ _ (mkF m 226 #[.val (.int i0), .val (.int i1), .val (.int i2), .val (.int (2 : Int32)), .val (.int (0 : Int32)), .val (.ref o1), .val (.ref o19)] [(.int (ownE02 i1)), (.int (ownE02 i1))])
      refine E_icmp (pcY := 233) (pcN := 229) X (ic_ne _ _) at_226 (by decide) rfl rfl (fun hc226_0 => absurd hc226_0 (fun q => q rfl)) (fun hc226_0 => ?_)
      refine E_iconst (v := (1 : Int32)) (pc' := 230) X at_229 rfl rfl ?_
      refine E_goto (pc' := 234) X at_230 (by decide) rfl ?_
      exact E_retZ (Or.inr rfl) X at_234 (by decide) (by decide) rfl
    · skip
      refine E_aload (v := (.ref o19)) (pc' := 214) X at_212 rfl rfl rfl ?_
      refine E_iloadN (pc' := 215) X at_214 rfl rfl ?_
      refine E_iloadN (pc' := 216) X at_215 rfl rfl ?_
      have A_338 : Ar Z h_259 P_42 .int [(.int (0 : Int32)), (.int (0 : Int32)), (.int (0 : Int32)), (.int (1 : Int32)), (.int (1 : Int32)), (.int (2 : Int32)), (.int (2 : Int32))] := (A_252.keep Kc_266 (ninS (Ne.symm ne_74) nin0))
      have A_339 : Ar Z h_259 B_43 .int [(.int (0 : Int32)), (.int (1 : Int32)), (.int (1 : Int32)), (.int (2 : Int32)), (.int (2 : Int32)), (.int (3 : Int32)), (.int (3 : Int32))] := (A_253.keep Kc_266 (ninS (Ne.symm ne_77) nin0))
      refine E_callV (a := o19) (pc' := 219) (W := 0) (cells' := 11) (slots' := 66) (argsL := [(.int (3 : Int32)), (.int i1)]) (rest := []) X (rm_bb03 l Z a0 hw o19 i1 lf_262 jp_263 P_42 B_43 j0_264 j1_265 h_259 X.ext F_272 F_273 F_274 F_275 A_338 A_339 A_276 A_277 A_278 A_279) E_271 (w_78 hw) (w_79 hw) (w_81 hw) (w_80 hw) (w_4 hw) (w_82 hw) rfl (by decide) rfl rfl pd_1 rfl rfl at_216 rfl (Nat.le_refl _) (by decide) (by decide) rfl rfl (by decide) (by decide) (fun v340 T h_341 X hQ342 => ?_)
      obtain ⟨rfl, rfl⟩ := hQ342
      show End Z p e below s _ _ _ _ (mkF m 219 #[.val (.int i0), .val (.int i1), .val (.int i2), .val (.int (3 : Int32)), .val (.int (0 : Int32)), .val (.ref o1), .val (.ref o19)] [(.int (ownE03 i1))])
      refine E_iload (pc' := 221) X at_219 rfl rfl ?_
      refine E_iloadN (pc' := 222) X at_221 rfl rfl ?_
      refine E_iloadN (pc' := 223) X at_222 rfl rfl ?_
      refine E_callS (pc' := 226) (W := 1) (cells' := 11) (slots' := 66) (argsL := [(.int (0 : Int32)), (.int (3 : Int32)), (.int i1)]) (rest := [(.int (ownE03 i1))]) X (rm_ex03 l Z a0 hw i1 h_259 X.ext) (w_83 hw) (w_84 hw) (w_85 hw) (w_86 hw) (by decide) rfl rfl pd_7 rfl rfl at_223 rfl (Nat.le_refl _) (by decide) (by decide) rfl rfl (by decide) (by decide) (fun v344 T h_345 X hQ346 => ?_)
      obtain ⟨rfl, rfl⟩ := hQ346
      show End Z p e below s _ _ _ _ (mkF m 226 #[.val (.int i0), .val (.int i1), .val (.int i2), .val (.int (3 : Int32)), .val (.int (0 : Int32)), .val (.ref o1), .val (.ref o19)] [(.int (ownE03 i1)), (.int (ownE03 i1))])
      refine E_icmp (pcY := 233) (pcN := 229) X (ic_ne _ _) at_226 (by decide) rfl rfl (fun hc226_0 => absurd hc226_0 (fun q => q rfl)) (fun hc226_0 => ?_)
      refine E_iconst (v := (1 : Int32)) (pc' := 230) X at_229 rfl rfl ?_
      refine E_goto (pc' := 234) X at_230 (by decide) rfl ?_
      exact E_retZ (Or.inr rfl) X at_234 (by decide) (by decide) rfl
  · skip
    refine E_iconst (v := (1 : Int32)) (pc' := 14) X at_13 rfl rfl ?_
    refine E_goto (pc' := 18) X at_14 (by decide) rfl ?_
    refine E_istore (Ls' := #[.val (.int i0), .val (.int i1), .val (.int i2), .val (.int stt), .val (.int (1 : Int32)), .unset, .unset]) (pc' := 20) X at_18 rfl rfl ?_
    refine E_iconst (v := (4 : Int32)) (pc' := 21) X at_20 rfl rfl ?_
    have le_o348 := X.le
    refine E_newA (pc' := 23) X (aty := .int) (n := (4 : Int32)) (cap := 4) (vs := [(.int (0 : Int32)), (.int (0 : Int32)), (.int (0 : Int32)), (.int (0 : Int32))]) (cells' := 1) (slots' := 4) (w_1 hw) at_21 rfl (by decide) (by decide) (by decide) rfl rfl rfl (by decide) (by decide) (fun T h_349 o348 g_352 X Ex_350 Aa_351 => ?_)
    have fr_353 : Z.heap.size ≤ o348 := by rw [g_352]; exact le_o348
    refine E_astore (Ls' := #[.val (.int i0), .val (.int i1), .val (.int i2), .val (.int stt), .val (.int (1 : Int32)), .val (.ref o348), .unset]) (pc' := 25) X at_23 rfl rfl rfl ?_
    refine E_aload (v := (.ref o348)) (pc' := 27) X at_25 rfl rfl rfl ?_
    refine E_iconst (v := (0 : Int32)) (pc' := 28) X at_27 rfl rfl ?_
    refine E_iconst (v := (0 : Int32)) (pc' := 29) X at_28 rfl rfl ?_
    refine E_iastore (vs' := [(.int (0 : Int32)), (.int (0 : Int32)), (.int (0 : Int32)), (.int (0 : Int32))]) (pc' := 30) X Aa_351 (by decide) (Nat.le_of_ble_eq_true rfl) rfl fr_353 at_29 rfl (fun T h_355 X W_354 Aa_356 => ?_)
    refine E_aload (v := (.ref o348)) (pc' := 32) X at_30 rfl rfl rfl ?_
    refine E_iconst (v := (1 : Int32)) (pc' := 33) X at_32 rfl rfl ?_
    refine E_iconst (v := (3 : Int32)) (pc' := 34) X at_33 rfl rfl ?_
    refine E_iastore (vs' := [(.int (0 : Int32)), (.int (3 : Int32)), (.int (0 : Int32)), (.int (0 : Int32))]) (pc' := 35) X Aa_356 (by decide) (Nat.le_of_ble_eq_true rfl) rfl fr_353 at_34 rfl (fun T h_358 X W_357 Aa_359 => ?_)
    refine E_aload (v := (.ref o348)) (pc' := 37) X at_35 rfl rfl rfl ?_
    refine E_iconst (v := (2 : Int32)) (pc' := 38) X at_37 rfl rfl ?_
    refine E_iload (pc' := 40) X at_38 rfl rfl ?_
    refine E_if (pcY := 47) (pcN := 43) X (i0_eq _) at_40 (by decide) rfl rfl (fun hc40_0 => absurd hc40_0 (by decide)) (fun hc40_0 => ?_)
    refine E_iconst (v := (2 : Int32)) (pc' := 44) X at_43 rfl rfl ?_
    refine E_goto (pc' := 48) X at_44 (by decide) rfl ?_
    refine E_iastore (vs' := [(.int (0 : Int32)), (.int (3 : Int32)), (.int (2 : Int32)), (.int (0 : Int32))]) (pc' := 49) X Aa_359 (by decide) (Nat.le_of_ble_eq_true rfl) rfl fr_353 at_48 rfl (fun T h_361 X W_360 Aa_362 => ?_)
    refine E_aload (v := (.ref o348)) (pc' := 51) X at_49 rfl rfl rfl ?_
    refine E_iconst (v := (3 : Int32)) (pc' := 52) X at_51 rfl rfl ?_
    refine E_iload (pc' := 54) X at_52 rfl rfl ?_
    refine E_if (pcY := 61) (pcN := 57) X (i0_eq _) at_54 (by decide) rfl rfl (fun hc54_0 => absurd hc54_0 (by decide)) (fun hc54_0 => ?_)
    refine E_iconst (v := (1 : Int32)) (pc' := 58) X at_57 rfl rfl ?_
    refine E_goto (pc' := 62) X at_58 (by decide) rfl ?_
    refine E_iastore (vs' := [(.int (0 : Int32)), (.int (3 : Int32)), (.int (2 : Int32)), (.int (1 : Int32))]) (pc' := 63) X Aa_362 (by decide) (Nat.le_of_ble_eq_true rfl) rfl fr_353 at_62 rfl (fun T h_364 X W_363 Aa_365 => ?_)
    have le_o366 := X.le
    refine E_new (pc' := 66) X (cells' := 2) (slots' := 14) (w_2 hw) (w_3 hw) (w_4 hw) at_63 rfl rfl rfl (by decide) (by decide) (fun T h_367 o366 g_371 X Ex_368 Ea_369 D_370 => ?_)
    have fr_372 : Z.heap.size ≤ o366 := by rw [g_371]; exact le_o366
    have ne_373 : o348 ≠ o366 := Nat.ne_of_lt (by rw [g_371]; exact Aa_365.lt)
    refine E_dup (pc' := 67) X at_66 rfl rfl ?_
    refine E_iconst (v := (4 : Int32)) (pc' := 68) X at_67 rfl rfl ?_
    have F_374 : Fld Z h_367 o366 "com/example/nimble_calculus/nimblecalculus/equivalence/Splits" "nodeCount" "I" (.int (0 : Int32)) := (D_370 (Or.inl (w_12 hw)) (ty := .int) (by decide))
    have F_375 : Fld Z h_367 o366 "com/example/nimble_calculus/nimblecalculus/equivalence/Splits" "splitCount" "I" (.int (0 : Int32)) := (D_370 (Or.inl (w_39 hw)) (ty := .int) (by decide))
    have F_376 : Fld Z h_367 o366 "com/example/nimble_calculus/nimblecalculus/equivalence/Splits" "splitting" "I" (.int (0 : Int32)) := (D_370 (Or.inl (w_41 hw)) (ty := .int) (by decide))
    have F_377 : Fld Z h_367 o366 "com/example/nimble_calculus/nimblecalculus/equivalence/Splits" "parent" "[I" .null := (D_370 (Or.inr (w_23 hw)) (ty := (.array .int)) (by decide))
    have F_378 : Fld Z h_367 o366 "com/example/nimble_calculus/nimblecalculus/equivalence/Splits" "born" "[I" .null := (D_370 (Or.inr (w_25 hw)) (ty := (.array .int)) (by decide))
    have F_379 : Fld Z h_367 o366 "com/example/nimble_calculus/nimblecalculus/equivalence/Splits" "representative" "[I" .null := (D_370 (Or.inr (w_27 hw)) (ty := (.array .int)) (by decide))
    have F_380 : Fld Z h_367 o366 "com/example/nimble_calculus/nimblecalculus/equivalence/Splits" "nodeOfBlock" "[I" .null := (D_370 (Or.inr (w_32 hw)) (ty := (.array .int)) (by decide))
    have F_381 : Fld Z h_367 o366 "com/example/nimble_calculus/nimblecalculus/equivalence/Splits" "leaf" "[I" .null := (D_370 (Or.inl (w_53 hw)) (ty := (.array .int)) (by decide))
    have F_382 : Fld Z h_367 o366 "com/example/nimble_calculus/nimblecalculus/equivalence/Splits" "height" "[I" .null := (D_370 (Or.inl (w_55 hw)) (ty := (.array .int)) (by decide))
    have F_383 : Fld Z h_367 o366 "com/example/nimble_calculus/nimblecalculus/equivalence/Splits" "jumps" "[[I" .null := (D_370 (Or.inl (w_64 hw)) (ty := (.array (.array .int))) (by decide))
    have A_387 : Ar Z h_367 o348 .int [(.int (0 : Int32)), (.int (3 : Int32)), (.int (2 : Int32)), (.int (1 : Int32))] := (Aa_365.ext Ex_368)
    have le_388 := X.le
    refine E_callI (a := o366) (pc' := 71) (W := 1) (cells' := 6) (slots' := 39) (argsL := [(.int (4 : Int32))]) (rest := [(.ref o366)]) X (rm1 l Z a0 hw o366 h_367 X.ext Ea_369 F_374 F_375 F_376 F_377 F_378 F_379 F_380 F_381 F_382 F_383 fr_372) (w_5 hw) (w_6 hw) (w_4 hw) (w_7 hw) rfl (by decide) rfl rfl pd_4 rfl rfl at_68 rfl (Nat.le_refl _) (by decide) (by decide) rfl rfl (by decide) (by decide) (fun v384 T h_385 X hQ386 => ?_)
    obtain ⟨P_389, B_390, RR_391, NB_392, rfl, Kc_393, nw_394, nw_395, nw_396, nw_397, E_398, F_399, F_400, F_401, F_402, F_403, F_404, F_405, F_406, F_407, F_408, A_409, A_410, A_411, A_412, E_413, P_414, P_415, P_416, P_417, P_418, P_419⟩ := hQ386
    have ne_420 : o348 ≠ P_389 := Nat.ne_of_lt (Nat.lt_of_lt_of_le A_387.lt nw_394)
    have ne_421 : o366 ≠ P_389 := Nat.ne_of_lt (Nat.lt_of_lt_of_le Ea_369.lt nw_394)
    have fr_422 : Z.heap.size ≤ P_389 := Nat.le_trans le_388 nw_394
    have ne_423 : o348 ≠ B_390 := Nat.ne_of_lt (Nat.lt_of_lt_of_le A_387.lt nw_395)
    have ne_424 : o366 ≠ B_390 := Nat.ne_of_lt (Nat.lt_of_lt_of_le Ea_369.lt nw_395)
    have fr_425 : Z.heap.size ≤ B_390 := Nat.le_trans le_388 nw_395
    have ne_426 : o348 ≠ RR_391 := Nat.ne_of_lt (Nat.lt_of_lt_of_le A_387.lt nw_396)
    have ne_427 : o366 ≠ RR_391 := Nat.ne_of_lt (Nat.lt_of_lt_of_le Ea_369.lt nw_396)
    have fr_428 : Z.heap.size ≤ RR_391 := Nat.le_trans le_388 nw_396
    have ne_429 : o348 ≠ NB_392 := Nat.ne_of_lt (Nat.lt_of_lt_of_le A_387.lt nw_397)
    have ne_430 : o366 ≠ NB_392 := Nat.ne_of_lt (Nat.lt_of_lt_of_le Ea_369.lt nw_397)
    have fr_431 : Z.heap.size ≤ NB_392 := Nat.le_trans le_388 nw_397
    show End Z p e below s _ _ _ _ (mkF m 71 #[.val (.int i0), .val (.int i1), .val (.int i2), .val (.int stt), .val (.int (1 : Int32)), .val (.ref o348), .unset] [(.ref o366)])
    refine E_astore (Ls' := #[.val (.int i0), .val (.int i1), .val (.int i2), .val (.int stt), .val (.int (1 : Int32)), .val (.ref o348), .val (.ref o366)]) (pc' := 73) X at_71 rfl rfl rfl ?_
    refine E_aload (v := (.ref o366)) (pc' := 75) X at_73 rfl rfl rfl ?_
    refine E_iconst (v := (0 : Int32)) (pc' := 76) X at_75 rfl rfl ?_
    refine E_callV (a := o366) (pc' := 79) (W := 0) (cells' := 6) (slots' := 39) (argsL := [(.int (0 : Int32))]) (rest := []) X (rm6 l Z a0 hw o366 (0 : Int32) (1 : Int32) (0 : Int32) (0 : Int32) P_389 B_390 RR_391 NB_392 [(.int (0 : Int32)), (.int (0 : Int32)), (.int (0 : Int32)), (.int (0 : Int32))] (1 : Int32) (0 : Int32) h_385 X.ext E_398 F_399 F_400 F_401 F_402 F_403 F_404 F_405 F_406 F_407 F_408 A_412 fr_372 (by decide) rfl (by decide)) E_398 (w_33 hw) (w_34 hw) (w_36 hw) (w_35 hw) (w_4 hw) (w_37 hw) rfl (by decide) rfl rfl pd_4 rfl rfl at_76 rfl (Nat.le_refl _) (by decide) (by decide) rfl rfl (by decide) (by decide) (fun v432 T h_433 X hQ434 => ?_)
    obtain ⟨rfl, Kc_435, E_436, F_437, F_438, F_439, F_440, F_441, F_442, F_443, F_444, F_445, F_446⟩ := hQ434
    show End Z p e below s _ _ _ _ (mkF m 79 #[.val (.int i0), .val (.int i1), .val (.int i2), .val (.int stt), .val (.int (1 : Int32)), .val (.ref o348), .val (.ref o366)] [])
    refine E_aload (v := (.ref o366)) (pc' := 81) X at_79 rfl rfl rfl ?_
    refine E_iconst (v := (0 : Int32)) (pc' := 82) X at_81 rfl rfl ?_
    refine E_iconst (v := (0 : Int32)) (pc' := 83) X at_82 rfl rfl ?_
    have A_447 : Ar Z h_433 P_389 .int [(.int (0 : Int32)), (.int (0 : Int32)), (.int (0 : Int32)), (.int (0 : Int32)), (.int (0 : Int32)), (.int (0 : Int32)), (.int (0 : Int32))] := (A_409.keep Kc_435 (ninS (Ne.symm ne_421) nin0))
    have A_448 : Ar Z h_433 B_390 .int [(.int (0 : Int32)), (.int (0 : Int32)), (.int (0 : Int32)), (.int (0 : Int32)), (.int (0 : Int32)), (.int (0 : Int32)), (.int (0 : Int32))] := (A_410.keep Kc_435 (ninS (Ne.symm ne_424) nin0))
    have A_449 : Ar Z h_433 RR_391 .int [(.int (0 : Int32)), (.int (0 : Int32)), (.int (0 : Int32)), (.int (0 : Int32)), (.int (0 : Int32)), (.int (0 : Int32)), (.int (0 : Int32))] := (A_411.keep Kc_435 (ninS (Ne.symm ne_427) nin0))
    have A_450 : Ar Z h_433 NB_392 .int [(.int (0 : Int32)), (.int (0 : Int32)), (.int (0 : Int32)), (.int (0 : Int32))] := (A_412.keep Kc_435 (ninS (Ne.symm ne_430) nin0))
    refine E_callV (a := o366) (pc' := 86) (W := 0) (cells' := 6) (slots' := 39) (argsL := [(.int (0 : Int32)), (.int (0 : Int32))]) (rest := []) X (rm7 l Z a0 hw o366 (0 : Int32) (0 : Int32) (1 : Int32) (1 : Int32) (0 : Int32) P_389 B_390 RR_391 NB_392 [(.int (0 : Int32)), (.int (0 : Int32)), (.int (0 : Int32)), (.int (0 : Int32)), (.int (0 : Int32)), (.int (0 : Int32)), (.int (0 : Int32))] [(.int (0 : Int32)), (.int (0 : Int32)), (.int (0 : Int32)), (.int (0 : Int32)), (.int (0 : Int32)), (.int (0 : Int32)), (.int (0 : Int32))] [(.int (0 : Int32)), (.int (0 : Int32)), (.int (0 : Int32)), (.int (0 : Int32)), (.int (0 : Int32)), (.int (0 : Int32)), (.int (0 : Int32))] [(.int (0 : Int32)), (.int (0 : Int32)), (.int (0 : Int32)), (.int (0 : Int32))] [(.int (0 : Int32)), (.int (0 : Int32)), (.int (0 : Int32)), (.int (0 : Int32)), (.int (0 : Int32)), (.int (0 : Int32)), (.int (0 : Int32))] [(.int (0 : Int32)), (.int (1 : Int32)), (.int (0 : Int32)), (.int (0 : Int32)), (.int (0 : Int32)), (.int (0 : Int32)), (.int (0 : Int32))] [(.int (0 : Int32)), (.int (0 : Int32)), (.int (0 : Int32)), (.int (0 : Int32)), (.int (0 : Int32)), (.int (0 : Int32)), (.int (0 : Int32))] [(.int (1 : Int32)), (.int (0 : Int32)), (.int (0 : Int32)), (.int (0 : Int32))] (2 : Int32) h_433 X.ext E_436 F_437 F_438 F_439 F_440 F_441 F_442 F_443 F_444 F_445 F_446 A_447 A_448 A_449 A_450 fr_372 fr_422 fr_425 fr_428 fr_431 P_414 P_415 P_416 P_417 P_418 P_419 (by decide) (by decide) (Nat.le_of_ble_eq_true rfl) (Nat.le_of_ble_eq_true rfl) (Nat.le_of_ble_eq_true rfl) (Nat.le_of_ble_eq_true rfl) rfl rfl rfl rfl (by decide)) E_436 (w_42 hw) (w_43 hw) (w_45 hw) (w_44 hw) (w_4 hw) (w_46 hw) rfl (by decide) rfl rfl pd_5 rfl rfl at_83 rfl (Nat.le_refl _) (by decide) (by decide) rfl rfl (by decide) (by decide) (fun v451 T h_452 X hQ453 => ?_)
    obtain ⟨rfl, Kc_454, E_455, F_456, F_457, F_458, F_459, F_460, F_461, F_462, F_463, F_464, F_465, A_466, A_467, A_468, A_469⟩ := hQ453
    show End Z p e below s _ _ _ _ (mkF m 86 #[.val (.int i0), .val (.int i1), .val (.int i2), .val (.int stt), .val (.int (1 : Int32)), .val (.ref o348), .val (.ref o366)] [])
    refine E_aload (v := (.ref o366)) (pc' := 88) X at_86 rfl rfl rfl ?_
    refine E_iconst (v := (1 : Int32)) (pc' := 89) X at_88 rfl rfl ?_
    refine E_iload (pc' := 91) X at_89 rfl rfl ?_
    refine E_if (pcY := 98) (pcN := 94) X (i0_eq _) at_91 (by decide) rfl rfl (fun hc91_0 => absurd hc91_0 (by decide)) (fun hc91_0 => ?_)
    refine E_iconst (v := (3 : Int32)) (pc' := 95) X at_94 rfl rfl ?_
    refine E_goto (pc' := 99) X at_95 (by decide) rfl ?_
    refine E_callV (a := o366) (pc' := 102) (W := 0) (cells' := 6) (slots' := 39) (argsL := [(.int (1 : Int32)), (.int (3 : Int32))]) (rest := []) X (rm7 l Z a0 hw o366 (1 : Int32) (3 : Int32) (2 : Int32) (1 : Int32) (0 : Int32) P_389 B_390 RR_391 NB_392 [(.int (0 : Int32)), (.int (0 : Int32)), (.int (0 : Int32)), (.int (0 : Int32)), (.int (0 : Int32)), (.int (0 : Int32)), (.int (0 : Int32))] [(.int (0 : Int32)), (.int (1 : Int32)), (.int (0 : Int32)), (.int (0 : Int32)), (.int (0 : Int32)), (.int (0 : Int32)), (.int (0 : Int32))] [(.int (0 : Int32)), (.int (0 : Int32)), (.int (0 : Int32)), (.int (0 : Int32)), (.int (0 : Int32)), (.int (0 : Int32)), (.int (0 : Int32))] [(.int (1 : Int32)), (.int (0 : Int32)), (.int (0 : Int32)), (.int (0 : Int32))] [(.int (0 : Int32)), (.int (0 : Int32)), (.int (0 : Int32)), (.int (0 : Int32)), (.int (0 : Int32)), (.int (0 : Int32)), (.int (0 : Int32))] [(.int (0 : Int32)), (.int (1 : Int32)), (.int (1 : Int32)), (.int (0 : Int32)), (.int (0 : Int32)), (.int (0 : Int32)), (.int (0 : Int32))] [(.int (0 : Int32)), (.int (0 : Int32)), (.int (3 : Int32)), (.int (0 : Int32)), (.int (0 : Int32)), (.int (0 : Int32)), (.int (0 : Int32))] [(.int (1 : Int32)), (.int (2 : Int32)), (.int (0 : Int32)), (.int (0 : Int32))] (3 : Int32) h_452 X.ext E_455 F_456 F_457 F_458 F_459 F_460 F_461 F_462 F_463 F_464 F_465 A_466 A_467 A_468 A_469 fr_372 fr_422 fr_425 fr_428 fr_431 P_414 P_415 P_416 P_417 P_418 P_419 (by decide) (by decide) (Nat.le_of_ble_eq_true rfl) (Nat.le_of_ble_eq_true rfl) (Nat.le_of_ble_eq_true rfl) (Nat.le_of_ble_eq_true rfl) rfl rfl rfl rfl (by decide)) E_455 (w_42 hw) (w_43 hw) (w_45 hw) (w_44 hw) (w_4 hw) (w_46 hw) rfl (by decide) rfl rfl pd_5 rfl rfl at_99 rfl (Nat.le_refl _) (by decide) (by decide) rfl rfl (by decide) (by decide) (fun v470 T h_471 X hQ472 => ?_)
    obtain ⟨rfl, Kc_473, E_474, F_475, F_476, F_477, F_478, F_479, F_480, F_481, F_482, F_483, F_484, A_485, A_486, A_487, A_488⟩ := hQ472
    show End Z p e below s _ _ _ _ (mkF m 102 #[.val (.int i0), .val (.int i1), .val (.int i2), .val (.int stt), .val (.int (1 : Int32)), .val (.ref o348), .val (.ref o366)] [])
    refine E_aload (v := (.ref o366)) (pc' := 104) X at_102 rfl rfl rfl ?_
    refine E_iconst (v := (0 : Int32)) (pc' := 105) X at_104 rfl rfl ?_
    refine E_callV (a := o366) (pc' := 108) (W := 0) (cells' := 6) (slots' := 39) (argsL := [(.int (0 : Int32))]) (rest := []) X (rm6 l Z a0 hw o366 (0 : Int32) (3 : Int32) (1 : Int32) (0 : Int32) P_389 B_390 RR_391 NB_392 [(.int (1 : Int32)), (.int (2 : Int32)), (.int (0 : Int32)), (.int (0 : Int32))] (2 : Int32) (1 : Int32) h_471 X.ext E_474 F_475 F_476 F_477 F_478 F_479 F_480 F_481 F_482 F_483 F_484 A_488 fr_372 (by decide) rfl (by decide)) E_474 (w_33 hw) (w_34 hw) (w_36 hw) (w_35 hw) (w_4 hw) (w_37 hw) rfl (by decide) rfl rfl pd_4 rfl rfl at_105 rfl (Nat.le_refl _) (by decide) (by decide) rfl rfl (by decide) (by decide) (fun v489 T h_490 X hQ491 => ?_)
    obtain ⟨rfl, Kc_492, E_493, F_494, F_495, F_496, F_497, F_498, F_499, F_500, F_501, F_502, F_503⟩ := hQ491
    show End Z p e below s _ _ _ _ (mkF m 108 #[.val (.int i0), .val (.int i1), .val (.int i2), .val (.int stt), .val (.int (1 : Int32)), .val (.ref o348), .val (.ref o366)] [])
    refine E_aload (v := (.ref o366)) (pc' := 110) X at_108 rfl rfl rfl ?_
    refine E_iconst (v := (0 : Int32)) (pc' := 111) X at_110 rfl rfl ?_
    refine E_iconst (v := (0 : Int32)) (pc' := 112) X at_111 rfl rfl ?_
    have A_504 : Ar Z h_490 P_389 .int [(.int (0 : Int32)), (.int (0 : Int32)), (.int (0 : Int32)), (.int (0 : Int32)), (.int (0 : Int32)), (.int (0 : Int32)), (.int (0 : Int32))] := (A_485.keep Kc_492 (ninS (Ne.symm ne_421) nin0))
    have A_505 : Ar Z h_490 B_390 .int [(.int (0 : Int32)), (.int (1 : Int32)), (.int (1 : Int32)), (.int (0 : Int32)), (.int (0 : Int32)), (.int (0 : Int32)), (.int (0 : Int32))] := (A_486.keep Kc_492 (ninS (Ne.symm ne_424) nin0))
    have A_506 : Ar Z h_490 RR_391 .int [(.int (0 : Int32)), (.int (0 : Int32)), (.int (3 : Int32)), (.int (0 : Int32)), (.int (0 : Int32)), (.int (0 : Int32)), (.int (0 : Int32))] := (A_487.keep Kc_492 (ninS (Ne.symm ne_427) nin0))
    have A_507 : Ar Z h_490 NB_392 .int [(.int (1 : Int32)), (.int (2 : Int32)), (.int (0 : Int32)), (.int (0 : Int32))] := (A_488.keep Kc_492 (ninS (Ne.symm ne_430) nin0))
    refine E_callV (a := o366) (pc' := 115) (W := 0) (cells' := 6) (slots' := 39) (argsL := [(.int (0 : Int32)), (.int (0 : Int32))]) (rest := []) X (rm7 l Z a0 hw o366 (0 : Int32) (0 : Int32) (3 : Int32) (2 : Int32) (1 : Int32) P_389 B_390 RR_391 NB_392 [(.int (0 : Int32)), (.int (0 : Int32)), (.int (0 : Int32)), (.int (0 : Int32)), (.int (0 : Int32)), (.int (0 : Int32)), (.int (0 : Int32))] [(.int (0 : Int32)), (.int (1 : Int32)), (.int (1 : Int32)), (.int (0 : Int32)), (.int (0 : Int32)), (.int (0 : Int32)), (.int (0 : Int32))] [(.int (0 : Int32)), (.int (0 : Int32)), (.int (3 : Int32)), (.int (0 : Int32)), (.int (0 : Int32)), (.int (0 : Int32)), (.int (0 : Int32))] [(.int (1 : Int32)), (.int (2 : Int32)), (.int (0 : Int32)), (.int (0 : Int32))] [(.int (0 : Int32)), (.int (0 : Int32)), (.int (0 : Int32)), (.int (1 : Int32)), (.int (0 : Int32)), (.int (0 : Int32)), (.int (0 : Int32))] [(.int (0 : Int32)), (.int (1 : Int32)), (.int (1 : Int32)), (.int (2 : Int32)), (.int (0 : Int32)), (.int (0 : Int32)), (.int (0 : Int32))] [(.int (0 : Int32)), (.int (0 : Int32)), (.int (3 : Int32)), (.int (0 : Int32)), (.int (0 : Int32)), (.int (0 : Int32)), (.int (0 : Int32))] [(.int (3 : Int32)), (.int (2 : Int32)), (.int (0 : Int32)), (.int (0 : Int32))] (4 : Int32) h_490 X.ext E_493 F_494 F_495 F_496 F_497 F_498 F_499 F_500 F_501 F_502 F_503 A_504 A_505 A_506 A_507 fr_372 fr_422 fr_425 fr_428 fr_431 P_414 P_415 P_416 P_417 P_418 P_419 (by decide) (by decide) (Nat.le_of_ble_eq_true rfl) (Nat.le_of_ble_eq_true rfl) (Nat.le_of_ble_eq_true rfl) (Nat.le_of_ble_eq_true rfl) rfl rfl rfl rfl (by decide)) E_493 (w_42 hw) (w_43 hw) (w_45 hw) (w_44 hw) (w_4 hw) (w_46 hw) rfl (by decide) rfl rfl pd_5 rfl rfl at_112 rfl (Nat.le_refl _) (by decide) (by decide) rfl rfl (by decide) (by decide) (fun v508 T h_509 X hQ510 => ?_)
    obtain ⟨rfl, Kc_511, E_512, F_513, F_514, F_515, F_516, F_517, F_518, F_519, F_520, F_521, F_522, A_523, A_524, A_525, A_526⟩ := hQ510
    show End Z p e below s _ _ _ _ (mkF m 115 #[.val (.int i0), .val (.int i1), .val (.int i2), .val (.int stt), .val (.int (1 : Int32)), .val (.ref o348), .val (.ref o366)] [])
    refine E_aload (v := (.ref o366)) (pc' := 117) X at_115 rfl rfl rfl ?_
    refine E_iload (pc' := 119) X at_117 rfl rfl ?_
    refine E_if (pcY := 126) (pcN := 122) X (i0_eq _) at_119 (by decide) rfl rfl (fun hc119_0 => absurd hc119_0 (by decide)) (fun hc119_0 => ?_)
    refine E_iconst (v := (2 : Int32)) (pc' := 123) X at_122 rfl rfl ?_
    refine E_goto (pc' := 127) X at_123 (by decide) rfl ?_
    refine E_iload (pc' := 129) X at_127 rfl rfl ?_
    refine E_if (pcY := 136) (pcN := 132) X (i0_eq _) at_129 (by decide) rfl rfl (fun hc129_0 => absurd hc129_0 (by decide)) (fun hc129_0 => ?_)
    refine E_iconst (v := (2 : Int32)) (pc' := 133) X at_132 rfl rfl ?_
    refine E_goto (pc' := 137) X at_133 (by decide) rfl ?_
    refine E_callV (a := o366) (pc' := 140) (W := 0) (cells' := 6) (slots' := 39) (argsL := [(.int (2 : Int32)), (.int (2 : Int32))]) (rest := []) X (rm7 l Z a0 hw o366 (2 : Int32) (2 : Int32) (4 : Int32) (2 : Int32) (1 : Int32) P_389 B_390 RR_391 NB_392 [(.int (0 : Int32)), (.int (0 : Int32)), (.int (0 : Int32)), (.int (1 : Int32)), (.int (0 : Int32)), (.int (0 : Int32)), (.int (0 : Int32))] [(.int (0 : Int32)), (.int (1 : Int32)), (.int (1 : Int32)), (.int (2 : Int32)), (.int (0 : Int32)), (.int (0 : Int32)), (.int (0 : Int32))] [(.int (0 : Int32)), (.int (0 : Int32)), (.int (3 : Int32)), (.int (0 : Int32)), (.int (0 : Int32)), (.int (0 : Int32)), (.int (0 : Int32))] [(.int (3 : Int32)), (.int (2 : Int32)), (.int (0 : Int32)), (.int (0 : Int32))] [(.int (0 : Int32)), (.int (0 : Int32)), (.int (0 : Int32)), (.int (1 : Int32)), (.int (1 : Int32)), (.int (0 : Int32)), (.int (0 : Int32))] [(.int (0 : Int32)), (.int (1 : Int32)), (.int (1 : Int32)), (.int (2 : Int32)), (.int (2 : Int32)), (.int (0 : Int32)), (.int (0 : Int32))] [(.int (0 : Int32)), (.int (0 : Int32)), (.int (3 : Int32)), (.int (0 : Int32)), (.int (2 : Int32)), (.int (0 : Int32)), (.int (0 : Int32))] [(.int (3 : Int32)), (.int (2 : Int32)), (.int (4 : Int32)), (.int (0 : Int32))] (5 : Int32) h_509 X.ext E_512 F_513 F_514 F_515 F_516 F_517 F_518 F_519 F_520 F_521 F_522 A_523 A_524 A_525 A_526 fr_372 fr_422 fr_425 fr_428 fr_431 P_414 P_415 P_416 P_417 P_418 P_419 (by decide) (by decide) (Nat.le_of_ble_eq_true rfl) (Nat.le_of_ble_eq_true rfl) (Nat.le_of_ble_eq_true rfl) (Nat.le_of_ble_eq_true rfl) rfl rfl rfl rfl (by decide)) E_512 (w_42 hw) (w_43 hw) (w_45 hw) (w_44 hw) (w_4 hw) (w_46 hw) rfl (by decide) rfl rfl pd_5 rfl rfl at_137 rfl (Nat.le_refl _) (by decide) (by decide) rfl rfl (by decide) (by decide) (fun v527 T h_528 X hQ529 => ?_)
    obtain ⟨rfl, Kc_530, E_531, F_532, F_533, F_534, F_535, F_536, F_537, F_538, F_539, F_540, F_541, A_542, A_543, A_544, A_545⟩ := hQ529
    show End Z p e below s _ _ _ _ (mkF m 140 #[.val (.int i0), .val (.int i1), .val (.int i2), .val (.int stt), .val (.int (1 : Int32)), .val (.ref o348), .val (.ref o366)] [])
    refine E_aload (v := (.ref o366)) (pc' := 142) X at_140 rfl rfl rfl ?_
    refine E_iload (pc' := 144) X at_142 rfl rfl ?_
    refine E_if (pcY := 151) (pcN := 147) X (i0_eq _) at_144 (by decide) rfl rfl (fun hc144_0 => absurd hc144_0 (by decide)) (fun hc144_0 => ?_)
    refine E_iconst (v := (0 : Int32)) (pc' := 148) X at_147 rfl rfl ?_
    refine E_goto (pc' := 152) X at_148 (by decide) rfl ?_
    refine E_callV (a := o366) (pc' := 155) (W := 0) (cells' := 6) (slots' := 39) (argsL := [(.int (0 : Int32))]) (rest := []) X (rm6 l Z a0 hw o366 (0 : Int32) (5 : Int32) (2 : Int32) (1 : Int32) P_389 B_390 RR_391 NB_392 [(.int (3 : Int32)), (.int (2 : Int32)), (.int (4 : Int32)), (.int (0 : Int32))] (3 : Int32) (3 : Int32) h_528 X.ext E_531 F_532 F_533 F_534 F_535 F_536 F_537 F_538 F_539 F_540 F_541 A_545 fr_372 (by decide) rfl (by decide)) E_531 (w_33 hw) (w_34 hw) (w_36 hw) (w_35 hw) (w_4 hw) (w_37 hw) rfl (by decide) rfl rfl pd_4 rfl rfl at_152 rfl (Nat.le_refl _) (by decide) (by decide) rfl rfl (by decide) (by decide) (fun v546 T h_547 X hQ548 => ?_)
    obtain ⟨rfl, Kc_549, E_550, F_551, F_552, F_553, F_554, F_555, F_556, F_557, F_558, F_559, F_560⟩ := hQ548
    show End Z p e below s _ _ _ _ (mkF m 155 #[.val (.int i0), .val (.int i1), .val (.int i2), .val (.int stt), .val (.int (1 : Int32)), .val (.ref o348), .val (.ref o366)] [])
    refine E_aload (v := (.ref o366)) (pc' := 157) X at_155 rfl rfl rfl ?_
    refine E_iload (pc' := 159) X at_157 rfl rfl ?_
    refine E_if (pcY := 166) (pcN := 162) X (i0_eq _) at_159 (by decide) rfl rfl (fun hc159_0 => absurd hc159_0 (by decide)) (fun hc159_0 => ?_)
    refine E_iconst (v := (0 : Int32)) (pc' := 163) X at_162 rfl rfl ?_
    refine E_goto (pc' := 167) X at_163 (by decide) rfl ?_
    refine E_iload (pc' := 169) X at_167 rfl rfl ?_
    refine E_if (pcY := 176) (pcN := 172) X (i0_eq _) at_169 (by decide) rfl rfl (fun hc169_0 => absurd hc169_0 (by decide)) (fun hc169_0 => ?_)
    refine E_iconst (v := (0 : Int32)) (pc' := 173) X at_172 rfl rfl ?_
    refine E_goto (pc' := 177) X at_173 (by decide) rfl ?_
    have A_561 : Ar Z h_547 P_389 .int [(.int (0 : Int32)), (.int (0 : Int32)), (.int (0 : Int32)), (.int (1 : Int32)), (.int (1 : Int32)), (.int (0 : Int32)), (.int (0 : Int32))] := (A_542.keep Kc_549 (ninS (Ne.symm ne_421) nin0))
    have A_562 : Ar Z h_547 B_390 .int [(.int (0 : Int32)), (.int (1 : Int32)), (.int (1 : Int32)), (.int (2 : Int32)), (.int (2 : Int32)), (.int (0 : Int32)), (.int (0 : Int32))] := (A_543.keep Kc_549 (ninS (Ne.symm ne_424) nin0))
    have A_563 : Ar Z h_547 RR_391 .int [(.int (0 : Int32)), (.int (0 : Int32)), (.int (3 : Int32)), (.int (0 : Int32)), (.int (2 : Int32)), (.int (0 : Int32)), (.int (0 : Int32))] := (A_544.keep Kc_549 (ninS (Ne.symm ne_427) nin0))
    have A_564 : Ar Z h_547 NB_392 .int [(.int (3 : Int32)), (.int (2 : Int32)), (.int (4 : Int32)), (.int (0 : Int32))] := (A_545.keep Kc_549 (ninS (Ne.symm ne_430) nin0))
    refine E_callV (a := o366) (pc' := 180) (W := 0) (cells' := 6) (slots' := 39) (argsL := [(.int (0 : Int32)), (.int (0 : Int32))]) (rest := []) X (rm7 l Z a0 hw o366 (0 : Int32) (0 : Int32) (5 : Int32) (3 : Int32) (3 : Int32) P_389 B_390 RR_391 NB_392 [(.int (0 : Int32)), (.int (0 : Int32)), (.int (0 : Int32)), (.int (1 : Int32)), (.int (1 : Int32)), (.int (0 : Int32)), (.int (0 : Int32))] [(.int (0 : Int32)), (.int (1 : Int32)), (.int (1 : Int32)), (.int (2 : Int32)), (.int (2 : Int32)), (.int (0 : Int32)), (.int (0 : Int32))] [(.int (0 : Int32)), (.int (0 : Int32)), (.int (3 : Int32)), (.int (0 : Int32)), (.int (2 : Int32)), (.int (0 : Int32)), (.int (0 : Int32))] [(.int (3 : Int32)), (.int (2 : Int32)), (.int (4 : Int32)), (.int (0 : Int32))] [(.int (0 : Int32)), (.int (0 : Int32)), (.int (0 : Int32)), (.int (1 : Int32)), (.int (1 : Int32)), (.int (3 : Int32)), (.int (0 : Int32))] [(.int (0 : Int32)), (.int (1 : Int32)), (.int (1 : Int32)), (.int (2 : Int32)), (.int (2 : Int32)), (.int (3 : Int32)), (.int (0 : Int32))] [(.int (0 : Int32)), (.int (0 : Int32)), (.int (3 : Int32)), (.int (0 : Int32)), (.int (2 : Int32)), (.int (0 : Int32)), (.int (0 : Int32))] [(.int (5 : Int32)), (.int (2 : Int32)), (.int (4 : Int32)), (.int (0 : Int32))] (6 : Int32) h_547 X.ext E_550 F_551 F_552 F_553 F_554 F_555 F_556 F_557 F_558 F_559 F_560 A_561 A_562 A_563 A_564 fr_372 fr_422 fr_425 fr_428 fr_431 P_414 P_415 P_416 P_417 P_418 P_419 (by decide) (by decide) (Nat.le_of_ble_eq_true rfl) (Nat.le_of_ble_eq_true rfl) (Nat.le_of_ble_eq_true rfl) (Nat.le_of_ble_eq_true rfl) rfl rfl rfl rfl (by decide)) E_550 (w_42 hw) (w_43 hw) (w_45 hw) (w_44 hw) (w_4 hw) (w_46 hw) rfl (by decide) rfl rfl pd_5 rfl rfl at_177 rfl (Nat.le_refl _) (by decide) (by decide) rfl rfl (by decide) (by decide) (fun v565 T h_566 X hQ567 => ?_)
    obtain ⟨rfl, Kc_568, E_569, F_570, F_571, F_572, F_573, F_574, F_575, F_576, F_577, F_578, F_579, A_580, A_581, A_582, A_583⟩ := hQ567
    show End Z p e below s _ _ _ _ (mkF m 180 #[.val (.int i0), .val (.int i1), .val (.int i2), .val (.int stt), .val (.int (1 : Int32)), .val (.ref o348), .val (.ref o366)] [])
    refine E_aload (v := (.ref o366)) (pc' := 182) X at_180 rfl rfl rfl ?_
    refine E_iload (pc' := 184) X at_182 rfl rfl ?_
    refine E_if (pcY := 191) (pcN := 187) X (i0_eq _) at_184 (by decide) rfl rfl (fun hc184_0 => absurd hc184_0 (by decide)) (fun hc184_0 => ?_)
    refine E_iconst (v := (3 : Int32)) (pc' := 188) X at_187 rfl rfl ?_
    refine E_goto (pc' := 192) X at_188 (by decide) rfl ?_
    refine E_iload (pc' := 194) X at_192 rfl rfl ?_
    refine E_if (pcY := 201) (pcN := 197) X (i0_eq _) at_194 (by decide) rfl rfl (fun hc194_0 => absurd hc194_0 (by decide)) (fun hc194_0 => ?_)
    refine E_iconst (v := (1 : Int32)) (pc' := 198) X at_197 rfl rfl ?_
    refine E_goto (pc' := 202) X at_198 (by decide) rfl ?_
    refine E_callV (a := o366) (pc' := 205) (W := 0) (cells' := 6) (slots' := 39) (argsL := [(.int (3 : Int32)), (.int (1 : Int32))]) (rest := []) X (rm7 l Z a0 hw o366 (3 : Int32) (1 : Int32) (6 : Int32) (3 : Int32) (3 : Int32) P_389 B_390 RR_391 NB_392 [(.int (0 : Int32)), (.int (0 : Int32)), (.int (0 : Int32)), (.int (1 : Int32)), (.int (1 : Int32)), (.int (3 : Int32)), (.int (0 : Int32))] [(.int (0 : Int32)), (.int (1 : Int32)), (.int (1 : Int32)), (.int (2 : Int32)), (.int (2 : Int32)), (.int (3 : Int32)), (.int (0 : Int32))] [(.int (0 : Int32)), (.int (0 : Int32)), (.int (3 : Int32)), (.int (0 : Int32)), (.int (2 : Int32)), (.int (0 : Int32)), (.int (0 : Int32))] [(.int (5 : Int32)), (.int (2 : Int32)), (.int (4 : Int32)), (.int (0 : Int32))] [(.int (0 : Int32)), (.int (0 : Int32)), (.int (0 : Int32)), (.int (1 : Int32)), (.int (1 : Int32)), (.int (3 : Int32)), (.int (3 : Int32))] [(.int (0 : Int32)), (.int (1 : Int32)), (.int (1 : Int32)), (.int (2 : Int32)), (.int (2 : Int32)), (.int (3 : Int32)), (.int (3 : Int32))] [(.int (0 : Int32)), (.int (0 : Int32)), (.int (3 : Int32)), (.int (0 : Int32)), (.int (2 : Int32)), (.int (0 : Int32)), (.int (1 : Int32))] [(.int (5 : Int32)), (.int (2 : Int32)), (.int (4 : Int32)), (.int (6 : Int32))] (7 : Int32) h_566 X.ext E_569 F_570 F_571 F_572 F_573 F_574 F_575 F_576 F_577 F_578 F_579 A_580 A_581 A_582 A_583 fr_372 fr_422 fr_425 fr_428 fr_431 P_414 P_415 P_416 P_417 P_418 P_419 (by decide) (by decide) (Nat.le_of_ble_eq_true rfl) (Nat.le_of_ble_eq_true rfl) (Nat.le_of_ble_eq_true rfl) (Nat.le_of_ble_eq_true rfl) rfl rfl rfl rfl (by decide)) E_569 (w_42 hw) (w_43 hw) (w_45 hw) (w_44 hw) (w_4 hw) (w_46 hw) rfl (by decide) rfl rfl pd_5 rfl rfl at_202 rfl (Nat.le_refl _) (by decide) (by decide) rfl rfl (by decide) (by decide) (fun v584 T h_585 X hQ586 => ?_)
    obtain ⟨rfl, Kc_587, E_588, F_589, F_590, F_591, F_592, F_593, F_594, F_595, F_596, F_597, F_598, A_599, A_600, A_601, A_602⟩ := hQ586
    show End Z p e below s _ _ _ _ (mkF m 205 #[.val (.int i0), .val (.int i1), .val (.int i2), .val (.int stt), .val (.int (1 : Int32)), .val (.ref o348), .val (.ref o366)] [])
    refine E_aload (v := (.ref o366)) (pc' := 207) X at_205 rfl rfl rfl ?_
    refine E_aload (v := (.ref o348)) (pc' := 209) X at_207 rfl rfl rfl ?_
    have E_603 : Exa Z h_585 P_389 "[I" := (((((((((E_413.keep Kc_435).keep Kc_454).keep Kc_473).keep Kc_492).keep Kc_511).keep Kc_530).keep Kc_549).keep Kc_568).keep Kc_587)
    have A_604 : Ar Z h_585 o348 .int [(.int (0 : Int32)), (.int (3 : Int32)), (.int (2 : Int32)), (.int (1 : Int32))] := ((((((((((A_387.keep Kc_393 (ninS ne_373 nin0)).keep Kc_435 (ninS ne_373 nin0)).keep Kc_454 (ninS ne_373 (ninS ne_420 (ninS ne_423 (ninS ne_426 (ninS ne_429 nin0)))))).keep Kc_473 (ninS ne_373 (ninS ne_420 (ninS ne_423 (ninS ne_426 (ninS ne_429 nin0)))))).keep Kc_492 (ninS ne_373 nin0)).keep Kc_511 (ninS ne_373 (ninS ne_420 (ninS ne_423 (ninS ne_426 (ninS ne_429 nin0)))))).keep Kc_530 (ninS ne_373 (ninS ne_420 (ninS ne_423 (ninS ne_426 (ninS ne_429 nin0)))))).keep Kc_549 (ninS ne_373 nin0)).keep Kc_568 (ninS ne_373 (ninS ne_420 (ninS ne_423 (ninS ne_426 (ninS ne_429 nin0)))))).keep Kc_587 (ninS ne_373 (ninS ne_420 (ninS ne_423 (ninS ne_426 (ninS ne_429 nin0))))))
    have le_608 := X.le
    refine E_callV (a := o366) (pc' := 212) (W := 0) (cells' := 11) (slots' := 66) (argsL := [(.ref o348)]) (rest := []) X (rm_fin1 l Z a0 hw o366 o348 P_389 B_390 RR_391 NB_392 h_585 X.ext E_588 F_589 F_590 F_591 F_592 F_593 F_594 F_595 F_596 F_597 F_598 A_599 E_603 A_602 A_604 fr_372) E_588 (w_47 hw) (w_48 hw) (w_50 hw) (w_49 hw) (w_4 hw) (w_51 hw) rfl (by decide) rfl rfl pd_6 rfl rfl at_209 rfl (Nat.le_refl _) (by decide) (by decide) rfl rfl (by decide) (by decide) (fun v605 T h_606 X hQ607 => ?_)
    obtain ⟨lf_609, jp_610, j0_611, j1_612, rfl, Kc_613, nw_614, nw_615, nw_616, nw_617, E_618, F_619, F_620, F_621, F_622, A_623, A_624, A_625, A_626⟩ := hQ607
    have ne_627 : B_390 ≠ lf_609 := Nat.ne_of_lt (Nat.lt_of_lt_of_le A_600.lt nw_614)
    have ne_628 : NB_392 ≠ lf_609 := Nat.ne_of_lt (Nat.lt_of_lt_of_le A_602.lt nw_614)
    have ne_629 : P_389 ≠ lf_609 := Nat.ne_of_lt (Nat.lt_of_lt_of_le E_603.lt nw_614)
    have ne_630 : RR_391 ≠ lf_609 := Nat.ne_of_lt (Nat.lt_of_lt_of_le A_601.lt nw_614)
    have ne_631 : o348 ≠ lf_609 := Nat.ne_of_lt (Nat.lt_of_lt_of_le A_604.lt nw_614)
    have ne_632 : o366 ≠ lf_609 := Nat.ne_of_lt (Nat.lt_of_lt_of_le E_588.lt nw_614)
    have fr_633 : Z.heap.size ≤ lf_609 := Nat.le_trans le_608 nw_614
    have ne_634 : B_390 ≠ jp_610 := Nat.ne_of_lt (Nat.lt_of_lt_of_le A_600.lt nw_615)
    have ne_635 : NB_392 ≠ jp_610 := Nat.ne_of_lt (Nat.lt_of_lt_of_le A_602.lt nw_615)
    have ne_636 : P_389 ≠ jp_610 := Nat.ne_of_lt (Nat.lt_of_lt_of_le E_603.lt nw_615)
    have ne_637 : RR_391 ≠ jp_610 := Nat.ne_of_lt (Nat.lt_of_lt_of_le A_601.lt nw_615)
    have ne_638 : o348 ≠ jp_610 := Nat.ne_of_lt (Nat.lt_of_lt_of_le A_604.lt nw_615)
    have ne_639 : o366 ≠ jp_610 := Nat.ne_of_lt (Nat.lt_of_lt_of_le E_588.lt nw_615)
    have fr_640 : Z.heap.size ≤ jp_610 := Nat.le_trans le_608 nw_615
    have ne_641 : B_390 ≠ j0_611 := Nat.ne_of_lt (Nat.lt_of_lt_of_le A_600.lt nw_616)
    have ne_642 : NB_392 ≠ j0_611 := Nat.ne_of_lt (Nat.lt_of_lt_of_le A_602.lt nw_616)
    have ne_643 : P_389 ≠ j0_611 := Nat.ne_of_lt (Nat.lt_of_lt_of_le E_603.lt nw_616)
    have ne_644 : RR_391 ≠ j0_611 := Nat.ne_of_lt (Nat.lt_of_lt_of_le A_601.lt nw_616)
    have ne_645 : o348 ≠ j0_611 := Nat.ne_of_lt (Nat.lt_of_lt_of_le A_604.lt nw_616)
    have ne_646 : o366 ≠ j0_611 := Nat.ne_of_lt (Nat.lt_of_lt_of_le E_588.lt nw_616)
    have fr_647 : Z.heap.size ≤ j0_611 := Nat.le_trans le_608 nw_616
    have ne_648 : B_390 ≠ j1_612 := Nat.ne_of_lt (Nat.lt_of_lt_of_le A_600.lt nw_617)
    have ne_649 : NB_392 ≠ j1_612 := Nat.ne_of_lt (Nat.lt_of_lt_of_le A_602.lt nw_617)
    have ne_650 : P_389 ≠ j1_612 := Nat.ne_of_lt (Nat.lt_of_lt_of_le E_603.lt nw_617)
    have ne_651 : RR_391 ≠ j1_612 := Nat.ne_of_lt (Nat.lt_of_lt_of_le A_601.lt nw_617)
    have ne_652 : o348 ≠ j1_612 := Nat.ne_of_lt (Nat.lt_of_lt_of_le A_604.lt nw_617)
    have ne_653 : o366 ≠ j1_612 := Nat.ne_of_lt (Nat.lt_of_lt_of_le E_588.lt nw_617)
    have fr_654 : Z.heap.size ≤ j1_612 := Nat.le_trans le_608 nw_617
    show End Z p e below s _ _ _ _ (mkF m 212 #[.val (.int i0), .val (.int i1), .val (.int i2), .val (.int stt), .val (.int (1 : Int32)), .val (.ref o348), .val (.ref o366)] [])
    rcases (by rw [← q_stt]; exact own_rem4 i0 : stt = (0 : Int32) ∨ stt = (1 : Int32) ∨ stt = (2 : Int32) ∨ stt = (3 : Int32)) with rfl | rfl | rfl | rfl
    · skip
      refine E_aload (v := (.ref o366)) (pc' := 214) X at_212 rfl rfl rfl ?_
      refine E_iloadN (pc' := 215) X at_214 rfl rfl ?_
      refine E_iloadN (pc' := 216) X at_215 rfl rfl ?_
      have A_655 : Ar Z h_606 P_389 .int [(.int (0 : Int32)), (.int (0 : Int32)), (.int (0 : Int32)), (.int (1 : Int32)), (.int (1 : Int32)), (.int (3 : Int32)), (.int (3 : Int32))] := (A_599.keep Kc_613 (ninS (Ne.symm ne_421) nin0))
      have A_656 : Ar Z h_606 B_390 .int [(.int (0 : Int32)), (.int (1 : Int32)), (.int (1 : Int32)), (.int (2 : Int32)), (.int (2 : Int32)), (.int (3 : Int32)), (.int (3 : Int32))] := (A_600.keep Kc_613 (ninS (Ne.symm ne_424) nin0))
      refine E_callV (a := o366) (pc' := 219) (W := 0) (cells' := 11) (slots' := 66) (argsL := [(.int (0 : Int32)), (.int i1)]) (rest := []) X (rm_bb10 l Z a0 hw o366 i1 lf_609 jp_610 P_389 B_390 j0_611 j1_612 h_606 X.ext F_619 F_620 F_621 F_622 A_655 A_656 A_623 A_624 A_625 A_626) E_618 (w_78 hw) (w_79 hw) (w_81 hw) (w_80 hw) (w_4 hw) (w_82 hw) rfl (by decide) rfl rfl pd_1 rfl rfl at_216 rfl (Nat.le_refl _) (by decide) (by decide) rfl rfl (by decide) (by decide) (fun v657 T h_658 X hQ659 => ?_)
      obtain ⟨rfl, rfl⟩ := hQ659
      show End Z p e below s _ _ _ _ (mkF m 219 #[.val (.int i0), .val (.int i1), .val (.int i2), .val (.int (0 : Int32)), .val (.int (1 : Int32)), .val (.ref o348), .val (.ref o366)] [(.int (ownE10 i1))])
      refine E_iload (pc' := 221) X at_219 rfl rfl ?_
      refine E_iloadN (pc' := 222) X at_221 rfl rfl ?_
      refine E_iloadN (pc' := 223) X at_222 rfl rfl ?_
      refine E_callS (pc' := 226) (W := 1) (cells' := 11) (slots' := 66) (argsL := [(.int (1 : Int32)), (.int (0 : Int32)), (.int i1)]) (rest := [(.int (ownE10 i1))]) X (rm_ex10 l Z a0 hw i1 h_606 X.ext) (w_83 hw) (w_84 hw) (w_85 hw) (w_86 hw) (by decide) rfl rfl pd_7 rfl rfl at_223 rfl (Nat.le_refl _) (by decide) (by decide) rfl rfl (by decide) (by decide) (fun v661 T h_662 X hQ663 => ?_)
      obtain ⟨rfl, rfl⟩ := hQ663
      show End Z p e below s _ _ _ _ (mkF m 226 #[.val (.int i0), .val (.int i1), .val (.int i2), .val (.int (0 : Int32)), .val (.int (1 : Int32)), .val (.ref o348), .val (.ref o366)] [(.int (ownE10 i1)), (.int (ownE10 i1))])
      refine E_icmp (pcY := 233) (pcN := 229) X (ic_ne _ _) at_226 (by decide) rfl rfl (fun hc226_0 => absurd hc226_0 (fun q => q rfl)) (fun hc226_0 => ?_)
      refine E_iconst (v := (1 : Int32)) (pc' := 230) X at_229 rfl rfl ?_
      refine E_goto (pc' := 234) X at_230 (by decide) rfl ?_
      exact E_retZ (Or.inr rfl) X at_234 (by decide) (by decide) rfl
    · skip
      refine E_aload (v := (.ref o366)) (pc' := 214) X at_212 rfl rfl rfl ?_
      refine E_iloadN (pc' := 215) X at_214 rfl rfl ?_
      refine E_iloadN (pc' := 216) X at_215 rfl rfl ?_
      have A_665 : Ar Z h_606 P_389 .int [(.int (0 : Int32)), (.int (0 : Int32)), (.int (0 : Int32)), (.int (1 : Int32)), (.int (1 : Int32)), (.int (3 : Int32)), (.int (3 : Int32))] := (A_599.keep Kc_613 (ninS (Ne.symm ne_421) nin0))
      have A_666 : Ar Z h_606 B_390 .int [(.int (0 : Int32)), (.int (1 : Int32)), (.int (1 : Int32)), (.int (2 : Int32)), (.int (2 : Int32)), (.int (3 : Int32)), (.int (3 : Int32))] := (A_600.keep Kc_613 (ninS (Ne.symm ne_424) nin0))
      refine E_callV (a := o366) (pc' := 219) (W := 0) (cells' := 11) (slots' := 66) (argsL := [(.int (1 : Int32)), (.int i1)]) (rest := []) X (rm_bb11 l Z a0 hw o366 i1 lf_609 jp_610 P_389 B_390 j0_611 j1_612 h_606 X.ext F_619 F_620 F_621 F_622 A_665 A_666 A_623 A_624 A_625 A_626) E_618 (w_78 hw) (w_79 hw) (w_81 hw) (w_80 hw) (w_4 hw) (w_82 hw) rfl (by decide) rfl rfl pd_1 rfl rfl at_216 rfl (Nat.le_refl _) (by decide) (by decide) rfl rfl (by decide) (by decide) (fun v667 T h_668 X hQ669 => ?_)
      obtain ⟨rfl, rfl⟩ := hQ669
      show End Z p e below s _ _ _ _ (mkF m 219 #[.val (.int i0), .val (.int i1), .val (.int i2), .val (.int (1 : Int32)), .val (.int (1 : Int32)), .val (.ref o348), .val (.ref o366)] [(.int (ownE11 i1))])
      refine E_iload (pc' := 221) X at_219 rfl rfl ?_
      refine E_iloadN (pc' := 222) X at_221 rfl rfl ?_
      refine E_iloadN (pc' := 223) X at_222 rfl rfl ?_
      refine E_callS (pc' := 226) (W := 1) (cells' := 11) (slots' := 66) (argsL := [(.int (1 : Int32)), (.int (1 : Int32)), (.int i1)]) (rest := [(.int (ownE11 i1))]) X (rm_ex11 l Z a0 hw i1 h_606 X.ext) (w_83 hw) (w_84 hw) (w_85 hw) (w_86 hw) (by decide) rfl rfl pd_7 rfl rfl at_223 rfl (Nat.le_refl _) (by decide) (by decide) rfl rfl (by decide) (by decide) (fun v671 T h_672 X hQ673 => ?_)
      obtain ⟨rfl, rfl⟩ := hQ673
      show End Z p e below s _ _ _ _ (mkF m 226 #[.val (.int i0), .val (.int i1), .val (.int i2), .val (.int (1 : Int32)), .val (.int (1 : Int32)), .val (.ref o348), .val (.ref o366)] [(.int (ownE11 i1)), (.int (ownE11 i1))])
      refine E_icmp (pcY := 233) (pcN := 229) X (ic_ne _ _) at_226 (by decide) rfl rfl (fun hc226_0 => absurd hc226_0 (fun q => q rfl)) (fun hc226_0 => ?_)
      refine E_iconst (v := (1 : Int32)) (pc' := 230) X at_229 rfl rfl ?_
      refine E_goto (pc' := 234) X at_230 (by decide) rfl ?_
      exact E_retZ (Or.inr rfl) X at_234 (by decide) (by decide) rfl
    · skip
      refine E_aload (v := (.ref o366)) (pc' := 214) X at_212 rfl rfl rfl ?_
      refine E_iloadN (pc' := 215) X at_214 rfl rfl ?_
      refine E_iloadN (pc' := 216) X at_215 rfl rfl ?_
      have A_675 : Ar Z h_606 P_389 .int [(.int (0 : Int32)), (.int (0 : Int32)), (.int (0 : Int32)), (.int (1 : Int32)), (.int (1 : Int32)), (.int (3 : Int32)), (.int (3 : Int32))] := (A_599.keep Kc_613 (ninS (Ne.symm ne_421) nin0))
      have A_676 : Ar Z h_606 B_390 .int [(.int (0 : Int32)), (.int (1 : Int32)), (.int (1 : Int32)), (.int (2 : Int32)), (.int (2 : Int32)), (.int (3 : Int32)), (.int (3 : Int32))] := (A_600.keep Kc_613 (ninS (Ne.symm ne_424) nin0))
      refine E_callV (a := o366) (pc' := 219) (W := 0) (cells' := 11) (slots' := 66) (argsL := [(.int (2 : Int32)), (.int i1)]) (rest := []) X (rm_bb12 l Z a0 hw o366 i1 lf_609 jp_610 P_389 B_390 j0_611 j1_612 h_606 X.ext F_619 F_620 F_621 F_622 A_675 A_676 A_623 A_624 A_625 A_626) E_618 (w_78 hw) (w_79 hw) (w_81 hw) (w_80 hw) (w_4 hw) (w_82 hw) rfl (by decide) rfl rfl pd_1 rfl rfl at_216 rfl (Nat.le_refl _) (by decide) (by decide) rfl rfl (by decide) (by decide) (fun v677 T h_678 X hQ679 => ?_)
      obtain ⟨rfl, rfl⟩ := hQ679
      show End Z p e below s _ _ _ _ (mkF m 219 #[.val (.int i0), .val (.int i1), .val (.int i2), .val (.int (2 : Int32)), .val (.int (1 : Int32)), .val (.ref o348), .val (.ref o366)] [(.int (ownE12 i1))])
      refine E_iload (pc' := 221) X at_219 rfl rfl ?_
      refine E_iloadN (pc' := 222) X at_221 rfl rfl ?_
      refine E_iloadN (pc' := 223) X at_222 rfl rfl ?_
      refine E_callS (pc' := 226) (W := 1) (cells' := 11) (slots' := 66) (argsL := [(.int (1 : Int32)), (.int (2 : Int32)), (.int i1)]) (rest := [(.int (ownE12 i1))]) X (rm_ex12 l Z a0 hw i1 h_606 X.ext) (w_83 hw) (w_84 hw) (w_85 hw) (w_86 hw) (by decide) rfl rfl pd_7 rfl rfl at_223 rfl (Nat.le_refl _) (by decide) (by decide) rfl rfl (by decide) (by decide) (fun v681 T h_682 X hQ683 => ?_)
      obtain ⟨rfl, rfl⟩ := hQ683
      show End Z p e below s _ _ _ _ (mkF m 226 #[.val (.int i0), .val (.int i1), .val (.int i2), .val (.int (2 : Int32)), .val (.int (1 : Int32)), .val (.ref o348), .val (.ref o366)] [(.int (ownE12 i1)), (.int (ownE12 i1))])
      refine E_icmp (pcY := 233) (pcN := 229) X (ic_ne _ _) at_226 (by decide) rfl rfl (fun hc226_0 => absurd hc226_0 (fun q => q rfl)) (fun hc226_0 => ?_)
      refine E_iconst (v := (1 : Int32)) (pc' := 230) X at_229 rfl rfl ?_
      refine E_goto (pc' := 234) X at_230 (by decide) rfl ?_
      exact E_retZ (Or.inr rfl) X at_234 (by decide) (by decide) rfl
    · skip
      refine E_aload (v := (.ref o366)) (pc' := 214) X at_212 rfl rfl rfl ?_
      refine E_iloadN (pc' := 215) X at_214 rfl rfl ?_
      refine E_iloadN (pc' := 216) X at_215 rfl rfl ?_
      have A_685 : Ar Z h_606 P_389 .int [(.int (0 : Int32)), (.int (0 : Int32)), (.int (0 : Int32)), (.int (1 : Int32)), (.int (1 : Int32)), (.int (3 : Int32)), (.int (3 : Int32))] := (A_599.keep Kc_613 (ninS (Ne.symm ne_421) nin0))
      have A_686 : Ar Z h_606 B_390 .int [(.int (0 : Int32)), (.int (1 : Int32)), (.int (1 : Int32)), (.int (2 : Int32)), (.int (2 : Int32)), (.int (3 : Int32)), (.int (3 : Int32))] := (A_600.keep Kc_613 (ninS (Ne.symm ne_424) nin0))
      refine E_callV (a := o366) (pc' := 219) (W := 0) (cells' := 11) (slots' := 66) (argsL := [(.int (3 : Int32)), (.int i1)]) (rest := []) X (rm_bb13 l Z a0 hw o366 i1 lf_609 jp_610 P_389 B_390 j0_611 j1_612 h_606 X.ext F_619 F_620 F_621 F_622 A_685 A_686 A_623 A_624 A_625 A_626) E_618 (w_78 hw) (w_79 hw) (w_81 hw) (w_80 hw) (w_4 hw) (w_82 hw) rfl (by decide) rfl rfl pd_1 rfl rfl at_216 rfl (Nat.le_refl _) (by decide) (by decide) rfl rfl (by decide) (by decide) (fun v687 T h_688 X hQ689 => ?_)
      obtain ⟨rfl, rfl⟩ := hQ689
      show End Z p e below s _ _ _ _ (mkF m 219 #[.val (.int i0), .val (.int i1), .val (.int i2), .val (.int (3 : Int32)), .val (.int (1 : Int32)), .val (.ref o348), .val (.ref o366)] [(.int (ownE13 i1))])
      refine E_iload (pc' := 221) X at_219 rfl rfl ?_
      refine E_iloadN (pc' := 222) X at_221 rfl rfl ?_
      refine E_iloadN (pc' := 223) X at_222 rfl rfl ?_
      refine E_callS (pc' := 226) (W := 1) (cells' := 11) (slots' := 66) (argsL := [(.int (1 : Int32)), (.int (3 : Int32)), (.int i1)]) (rest := [(.int (ownE13 i1))]) X (rm_ex13 l Z a0 hw i1 h_606 X.ext) (w_83 hw) (w_84 hw) (w_85 hw) (w_86 hw) (by decide) rfl rfl pd_7 rfl rfl at_223 rfl (Nat.le_refl _) (by decide) (by decide) rfl rfl (by decide) (by decide) (fun v691 T h_692 X hQ693 => ?_)
      obtain ⟨rfl, rfl⟩ := hQ693
      show End Z p e below s _ _ _ _ (mkF m 226 #[.val (.int i0), .val (.int i1), .val (.int i2), .val (.int (3 : Int32)), .val (.int (1 : Int32)), .val (.ref o348), .val (.ref o366)] [(.int (ownE13 i1)), (.int (ownE13 i1))])
      refine E_icmp (pcY := 233) (pcN := 229) X (ic_ne _ _) at_226 (by decide) rfl rfl (fun hc226_0 => absurd hc226_0 (fun q => q rfl)) (fun hc226_0 => ?_)
      refine E_iconst (v := (1 : Int32)) (pc' := 230) X at_229 rfl rfl ?_
      refine E_goto (pc' := 234) X at_230 (by decide) rfl ?_
      exact E_retZ (Or.inr rfl) X at_234 (by decide) (by decide) rfl
set_option maxRecDepth 65536 in
set_option maxHeartbeats 2000000 in
theorem comes_1 {Post : Tables → Env → Array Value → State → Outcome → State → Prop} (hpost : ∀ tb e args s v u, (limb_1_1.after args s (.returned v) u = true ∧ limb_1_2.after args s (.returned v) u = true ∧ True) → FrameEnd s (.returned v) u (Jvm.fieldLocs frame_1_writes args s ++ Jvm.arrayLocs frame_1_arrays args s ++ Jvm.staticLocs frame_1_statics s) 32 256 → Post tb e args s (.returned v) u) :
    ArmFor flags0 classFile x code maxLocals ret World_1 tables_1 room_1 Calls_1 rest_1 Pre_1 Post := by
  intro l hfl _ _ p e ha hc hk s m args below hf hA hF happ hP
  obtain ⟨hcalls, hrest, hpre⟩ := hP
  obtain ⟨-, -, -, hnamed, -, -, -, hat⟩ := (Spec.applies_iff hf).mp happ
  obtain ⟨hg, hn⟩ := and_e (Cond.before_iff.mp (show (Jvm.Cond.and given_1 narrow_1).before args s = true from hpre))
  obtain ⟨hcnt, hrst⟩ := and_e hg
  obtain ⟨hk0, hrst⟩ := and_e hrst
  obtain ⟨hk1, hrst⟩ := and_e hrst
  have hk2 := hrst
  obtain ⟨w0, w1, w2, rfl⟩ : ∃ w0 w1 w2 : Value, args = #[w0, w1, w2] := by
    have hs : args.size = 3 := by simpa [Cond.value, given_1] using hcnt
    obtain ⟨L⟩ := args
    match L, hs with
    | [w0, w1, w2], _ => exact ⟨w0, w1, w2, rfl⟩
  have hw := fun d (hd : d ∈ tables_1) => atoms_spec (ws := Jvm.Cond.code x code maxLocals ret :: tables_1) hat d (List.mem_cons_of_mem _ hd)
  have hfit : Fit s := fun {y c} hc i hi => by
    obtain ⟨ha, rfl⟩ := Array.getElem?_eq_some_iff.mp hc
    have q := List.all_eq_true.mp ((Array.all_eq_true_iff_forall_mem.mp hF) _ (Array.getElem_mem ha)) i (List.mem_range.mpr hi)
    simpa [Array.getElem?_eq_getElem hi] using q
  obtain ⟨i0, e0⟩ := is_v hk0
  obtain rfl : w0 = (.int i0) := Option.some.inj e0
  obtain ⟨i1, e1⟩ := is_v hk1
  obtain rfl : w1 = (.int i1) := Option.some.inj e1
  obtain ⟨i2, e2⟩ := is_v hk2
  obtain rfl : w2 = (.int i2) := Option.some.inj e2
  obtain ⟨n, o, h1, h2, h3, _, L, rfl, ⟨N, _, rfl⟩, hq⟩ := rm0 l s _ hw i0 i1 i2 s.heap (Ext.refl _) tables_1 p e ha hc hk s m _ below hf ((Spec.applies_iff_loose hf).mp happ).1 ⟨rfl, State.Warmed39.refl s, rfl⟩ trivial
  refine ⟨n, _, h1, h2, h3, hpost _ _ _ _ _ _ ⟨Cond.after_iff.mpr rfl, Cond.after_iff.mpr (eq_i res_at (Term.int_eval (1)) rfl), trivial⟩ ⟨hq.1, hq.2.1, (hq.2.2.sift fun y hy => Or.inr (N y hy)).mono (by decide) (by decide)⟩⟩
theorem main_1_1 : Claimed_1_1 := comes_1 fun _ _ _ _ _ _ h hF => ⟨h.1, hF⟩
theorem main_1_2 : Claimed_1_2 := comes_1 fun _ _ _ _ _ _ h hF => ⟨h.2.1, hF⟩
end Jvm.Pilot.@@N@@
namespace Jvm.Pilot.@@N@@
open Jvm Jvm.ClassFile Sem Op Lib Jvm.Free Jvm.Stand Jvm.Pilot.@@N@@.Jvm.D
/-! MADE BY PROGRAM (witnessworld.py) out of the Statement's table words and the real class files: 17 classes; the members and pool entries that the words name. The judged class is class 1, her method 2. -/
namespace start1
open Jvm.ClassFile
def u (s : String) : CpInfo := .utf8 (stringToUtf16 s)
/-- a pool by its gaps: so many unusable entries, then the entry; so many at the end -/
def gap : Nat → List CpInfo → List CpInfo
  | 0, r => r
  | n + 1, r => .unusable :: gap n r
def poolList (es : List (Nat × CpInfo)) (last : Nat) : List CpInfo := es.foldr (fun e r => gap e.1 (e.2 :: r)) (gap last [])
def pool (es : List (Nat × CpInfo)) (last : Nat) : Array CpInfo := ⟨poolList es last⟩
def fileOf (pool : Array CpInfo) (this : Nat) (attrs : Array Attribute := #[]) (ms : Array MethodInfo := #[]) (fl : Nat := 33) (sup : Nat := 0) (ifs : Array Nat := #[]) (fds : Array FieldInfo := #[]) : ClassFile where
  minorVersion := 0
  majorVersion := 65
  constantPool := pool
  accessFlags := fl
  thisClass := this
  superClass := sup
  interfaces := ifs
  fields := fds
  methods := ms
  attributes := attrs
def plain (name : String) (sup : Option ClassId) : Class where
  name := name
  kind := .ordinary
  loader := none
  accessFlags := 33
  super := sup
  interfaces := #[]
  cf := none
  fields := #[]
  methods := #[]
  instanceTypes := #[]
  staticTypes := #[]
  resolved := #[]
  callSites := []
  init := .initialized
  statics := none
  mirror := none

def pool0 : Array CpInfo := pool [(5, u "<init>"), (0, u "()V"), (1, .class_ 10), (1, u "java/lang/Object"), (85, u "clone"), (0, u "()Ljava/lang/Object;")] 26

def k0c0 : Code := { maxStack := 0, maxLocals := 1, code := object_method_1_code, exceptionTable := #[], attributes := #[] }
def k0m0 : Method := { name := "<init>", desc := "()V", sig := { parameters := [], returnType := none }, accessFlags := 1, code := some k0c0 }
def k0m1 : Method := { name := "clone", desc := "()Ljava/lang/Object;", sig := { parameters := [], returnType := some (.object "java/lang/Object") }, accessFlags := 260, code := none }
/-- java/lang/Object -/
def k0 : Class := { plain "java/lang/Object" none with
  accessFlags := 33
  interfaces := #[]
  cf := some (fileOf pool0 8 #[] #[{ accessFlags := 1, nameIndex := 5, descriptorIndex := 6, attributes := #[] }, { accessFlags := 260, nameIndex := 96, descriptorIndex := 97, attributes := #[] }] 33 0 #[] #[])
  fields := #[]
  methods := #[k0m0, k0m1]
  instanceTypes := #[]
  staticTypes := #[]
  resolved := Array.replicate 124 none
  statics := none }

def pool1 : Array CpInfo := pool [(2, .class_ 4), (1, u "java/lang/Object"), (0, u "<init>"), (0, u "()V"), (0, .integer 2147483647), (0, .class_ 9), (0, u "com/example/nimble_calculus/nimblecalculus/equivalence/Splits"), (0, .methodref 8 11), (0, .nameAndType 5 12), (0, u "(I)V"), (0, .methodref 8 14), (0, .nameAndType 15 12), (0, u "beginSplit"), (0, .methodref 8 17), (0, .nameAndType 18 19), (0, u "addPart"), (0, u "(II)V"), (0, .methodref 8 21), (0, .nameAndType 22 23), (0, u "finish"), (0, u "([I)V"), (0, .methodref 8 25), (0, .nameAndType 26 27), (0, u "blockBefore"), (0, u "(II)I"), (0, .methodref 29 30), (0, .class_ 31), (0, .nameAndType 32 33), (0, u "com/example/nimble_calculus/nimblecalculus/equivalence/SplitsBlockBeforePinLaw"), (0, u "expected"), (0, u "(ZII)I"), (3, u "law"), (0, u "(III)Z")] 4

def k1m0 : Method := { name := "<init>", desc := "()V", sig := { parameters := [], returnType := none }, accessFlags := 1, code := none }
def k1c1 : Code := { maxStack := 2, maxLocals := 3, code := method_2_code, exceptionTable := #[], attributes := #[] }
def k1m1 : Method := { name := "expected", desc := "(ZII)I", sig := { parameters := [.boolean, .int, .int], returnType := some .int }, accessFlags := 10, code := some k1c1 }
def k1c2 : Code := { maxStack := 4, maxLocals := 7, code := code, exceptionTable := #[], attributes := #[] }
def k1m2 : Method := { name := "law", desc := "(III)Z", sig := { parameters := [.int, .int, .int], returnType := some .boolean }, accessFlags := 9, code := some k1c2 }
/-- com/example/nimble_calculus/nimblecalculus/equivalence/SplitsBlockBeforePinLaw -/
def k1 : Class := { plain "com/example/nimble_calculus/nimblecalculus/equivalence/SplitsBlockBeforePinLaw" (some 0) with
  accessFlags := 49
  interfaces := #[]
  cf := some (fileOf pool1 29 #[] #[{ accessFlags := 1, nameIndex := 5, descriptorIndex := 6, attributes := #[] }, { accessFlags := 10, nameIndex := 32, descriptorIndex := 33, attributes := #[] }, { accessFlags := 9, nameIndex := 37, descriptorIndex := 38, attributes := #[] }] 49 2 #[] #[])
  fields := #[]
  methods := #[k1m0, k1m1, k1m2]
  instanceTypes := #[]
  staticTypes := #[]
  resolved := Array.replicate 43 none
  statics := none }

def pool2 : Array CpInfo := pool [(1, .methodref 2 3), (0, .class_ 4), (0, .nameAndType 5 6), (0, u "java/lang/Object"), (0, u "<init>"), (0, u "()V"), (0, .fieldref 8 9), (0, .class_ 10), (0, .nameAndType 11 12), (0, u "com/example/nimble_calculus/nimblecalculus/equivalence/Splits"), (0, u "nodeCount"), (0, u "I"), (0, .class_ 14), (0, u "java/lang/Integer"), (0, .long 2147483647), (1, .long 2), (1, .methodref 20 21), (0, .class_ 22), (0, .nameAndType 23 24), (0, u "java/lang/Math"), (0, u "max"), (0, u "(JJ)J"), (0, .methodref 20 26), (0, .nameAndType 27 24), (0, u "min"), (0, .fieldref 8 29), (0, .nameAndType 30 31), (0, u "parent"), (0, u "[I"), (0, .fieldref 8 33), (0, .nameAndType 34 31), (0, u "born"), (0, .fieldref 8 36), (0, .nameAndType 37 31), (0, u "representative"), (0, .methodref 20 39), (0, .nameAndType 23 40), (0, u "(II)I"), (0, .fieldref 8 42), (0, .nameAndType 43 31), (0, u "nodeOfBlock"), (0, .fieldref 8 45), (0, .nameAndType 46 12), (0, u "splitCount"), (0, .fieldref 8 48), (0, .nameAndType 49 12), (0, u "splitting"), (0, .fieldref 8 51), (0, .nameAndType 52 31), (0, u "leaf"), (0, .fieldref 8 54), (0, .nameAndType 55 31), (0, u "height"), (0, .methodref 13 57), (0, .nameAndType 58 59), (0, u "numberOfLeadingZeros"), (0, u "(I)I"), (0, .class_ 31), (0, .fieldref 8 62), (0, .nameAndType 63 64), (0, u "jumps"), (0, u "[[I"), (0, .methodref 66 67), (0, .class_ 68), (0, .nameAndType 69 70), (0, u "java/util/Arrays"), (0, u "copyOf"), (0, u "([II)[I"), (13, u "(I)V"), (2, u "beginSplit"), (0, u "addPart"), (0, u "(II)V"), (0, u "finish"), (0, u "([I)V"), (1, u "blockBefore")] 21

def k2c0 : Code := { maxStack := 8, maxLocals := 3, code := prog_61_method_1_code, exceptionTable := #[], attributes := #[] }
def k2m0 : Method := { name := "<init>", desc := "(I)V", sig := { parameters := [.int], returnType := none }, accessFlags := 0, code := some k2c0 }
def k2c1 : Code := { maxStack := 3, maxLocals := 2, code := prog_61_method_2_code, exceptionTable := #[], attributes := #[] }
def k2m1 : Method := { name := "beginSplit", desc := "(I)V", sig := { parameters := [.int], returnType := none }, accessFlags := 0, code := some k2c1 }
def k2c2 : Code := { maxStack := 4, maxLocals := 4, code := prog_61_method_3_code, exceptionTable := #[], attributes := #[] }
def k2m2 : Method := { name := "addPart", desc := "(II)V", sig := { parameters := [.int, .int], returnType := none }, accessFlags := 0, code := some k2c2 }
def k2c3 : Code := { maxStack := 5, maxLocals := 8, code := prog_61_method_4_code, exceptionTable := #[], attributes := #[] }
def k2m3 : Method := { name := "finish", desc := "([I)V", sig := { parameters := [(.array .int)], returnType := none }, accessFlags := 0, code := some k2c3 }
def k2c4 : Code := { maxStack := 2, maxLocals := 6, code := prog_61_method_8_code, exceptionTable := #[], attributes := #[] }
def k2m4 : Method := { name := "blockBefore", desc := "(II)I", sig := { parameters := [.int, .int], returnType := some .int }, accessFlags := 0, code := some k2c4 }
/-- com/example/nimble_calculus/nimblecalculus/equivalence/Splits -/
def k2 : Class := { plain "com/example/nimble_calculus/nimblecalculus/equivalence/Splits" (some 0) with
  accessFlags := 32
  interfaces := #[]
  cf := some (fileOf pool2 8 #[] #[{ accessFlags := 0, nameIndex := 5, descriptorIndex := 84, attributes := #[] }, { accessFlags := 0, nameIndex := 87, descriptorIndex := 84, attributes := #[] }, { accessFlags := 0, nameIndex := 88, descriptorIndex := 89, attributes := #[] }, { accessFlags := 0, nameIndex := 90, descriptorIndex := 91, attributes := #[] }, { accessFlags := 0, nameIndex := 93, descriptorIndex := 40, attributes := #[] }] 32 2 #[] #[{ accessFlags := 18, nameIndex := 30, descriptorIndex := 31, attributes := #[] }, { accessFlags := 18, nameIndex := 34, descriptorIndex := 31, attributes := #[] }, { accessFlags := 18, nameIndex := 37, descriptorIndex := 31, attributes := #[] }, { accessFlags := 2, nameIndex := 11, descriptorIndex := 12, attributes := #[] }, { accessFlags := 2, nameIndex := 46, descriptorIndex := 12, attributes := #[] }, { accessFlags := 18, nameIndex := 43, descriptorIndex := 31, attributes := #[] }, { accessFlags := 2, nameIndex := 49, descriptorIndex := 12, attributes := #[] }, { accessFlags := 2, nameIndex := 52, descriptorIndex := 31, attributes := #[] }, { accessFlags := 2, nameIndex := 55, descriptorIndex := 31, attributes := #[] }, { accessFlags := 2, nameIndex := 63, descriptorIndex := 64, attributes := #[] }])
  fields := #[{ name := "parent", type := (.array .int), accessFlags := 18, slot := 0, constantValue := 0 }, { name := "born", type := (.array .int), accessFlags := 18, slot := 1, constantValue := 0 }, { name := "representative", type := (.array .int), accessFlags := 18, slot := 2, constantValue := 0 }, { name := "nodeCount", type := .int, accessFlags := 2, slot := 3, constantValue := 0 }, { name := "splitCount", type := .int, accessFlags := 2, slot := 4, constantValue := 0 }, { name := "nodeOfBlock", type := (.array .int), accessFlags := 18, slot := 5, constantValue := 0 }, { name := "splitting", type := .int, accessFlags := 2, slot := 6, constantValue := 0 }, { name := "leaf", type := (.array .int), accessFlags := 2, slot := 7, constantValue := 0 }, { name := "height", type := (.array .int), accessFlags := 2, slot := 8, constantValue := 0 }, { name := "jumps", type := (.array (.array .int)), accessFlags := 2, slot := 9, constantValue := 0 }]
  methods := #[k2m0, k2m1, k2m2, k2m3, k2m4]
  instanceTypes := #[(.array .int), (.array .int), (.array .int), .int, .int, (.array .int), .int, (.array .int), (.array .int), (.array (.array .int))]
  staticTypes := #[]
  resolved := Array.replicate 115 none
  statics := none }

def pool3 : Array CpInfo := pool [(1, .class_ 2), (0, u "java/lang/Math"), (1, .class_ 6), (1, u "java/lang/Object"), (0, u "<init>"), (0, u "()V"), (89, .class_ 100), (1, u "java/lang/Math$RandomNumberGeneratorHolder"), (20, u "(JJ)J"), (50, u "negativeZeroFloatBits"), (0, u "J"), (2, u "negativeZeroDoubleBits"), (21, u "max"), (2, u "min"), (43, u "$assertionsDisabled"), (0, u "Z"), (88, u "(II)I"), (2, u "twoToTheDoubleScaleDown"), (0, u "D"), (4, u "twoToTheDoubleScaleUp"), (9, u "E"), (3, u "PI"), (2, u "TAU"), (2, u "DEGREES_TO_RADIANS"), (0, u "RADIANS_TO_DEGREES")] 94

def k3m0 : Method := { name := "<init>", desc := "()V", sig := { parameters := [], returnType := none }, accessFlags := 2, code := none }
def k3c1 : Code := { maxStack := 2, maxLocals := 2, code := jdk_29_method_65_code, exceptionTable := #[], attributes := #[] }
def k3m1 : Method := { name := "max", desc := "(II)I", sig := { parameters := [.int, .int], returnType := some .int }, accessFlags := 9, code := some k3c1 }
def k3c2 : Code := { maxStack := 4, maxLocals := 4, code := jdk_29_method_66_code, exceptionTable := #[], attributes := #[] }
def k3m2 : Method := { name := "max", desc := "(JJ)J", sig := { parameters := [.long, .long], returnType := some .long }, accessFlags := 9, code := some k3c2 }
def k3c3 : Code := { maxStack := 4, maxLocals := 4, code := jdk_29_method_70_code, exceptionTable := #[], attributes := #[] }
def k3m3 : Method := { name := "min", desc := "(JJ)J", sig := { parameters := [.long, .long], returnType := some .long }, accessFlags := 9, code := some k3c3 }
/-- java/lang/Math -/
def k3 : Class := { plain "java/lang/Math" (some 0) with
  accessFlags := 49
  interfaces := #[]
  cf := some (fileOf pool3 1 #[.nestMembers #[98]] #[{ accessFlags := 2, nameIndex := 7, descriptorIndex := 8, attributes := #[] }, { accessFlags := 9, nameIndex := 198, descriptorIndex := 335, attributes := #[] }, { accessFlags := 9, nameIndex := 198, descriptorIndex := 121, attributes := #[] }, { accessFlags := 9, nameIndex := 201, descriptorIndex := 121, attributes := #[] }] 49 4 #[] #[{ accessFlags := 25, nameIndex := 354, descriptorIndex := 339, attributes := #[] }, { accessFlags := 25, nameIndex := 358, descriptorIndex := 339, attributes := #[] }, { accessFlags := 25, nameIndex := 361, descriptorIndex := 339, attributes := #[] }, { accessFlags := 26, nameIndex := 364, descriptorIndex := 339, attributes := #[] }, { accessFlags := 26, nameIndex := 365, descriptorIndex := 339, attributes := #[] }, { accessFlags := 26, nameIndex := 172, descriptorIndex := 173, attributes := #[] }, { accessFlags := 26, nameIndex := 176, descriptorIndex := 173, attributes := #[] }, { accessFlags := 8, nameIndex := 344, descriptorIndex := 339, attributes := #[] }, { accessFlags := 8, nameIndex := 338, descriptorIndex := 339, attributes := #[] }, { accessFlags := 4120, nameIndex := 245, descriptorIndex := 246, attributes := #[] }])
  fields := #[{ name := "E", type := .double, accessFlags := 25, slot := 0, constantValue := 0 }, { name := "PI", type := .double, accessFlags := 25, slot := 1, constantValue := 0 }, { name := "TAU", type := .double, accessFlags := 25, slot := 2, constantValue := 0 }, { name := "DEGREES_TO_RADIANS", type := .double, accessFlags := 26, slot := 3, constantValue := 0 }, { name := "RADIANS_TO_DEGREES", type := .double, accessFlags := 26, slot := 4, constantValue := 0 }, { name := "negativeZeroFloatBits", type := .long, accessFlags := 26, slot := 5, constantValue := 0 }, { name := "negativeZeroDoubleBits", type := .long, accessFlags := 26, slot := 6, constantValue := 0 }, { name := "twoToTheDoubleScaleUp", type := .double, accessFlags := 8, slot := 7, constantValue := 0 }, { name := "twoToTheDoubleScaleDown", type := .double, accessFlags := 8, slot := 8, constantValue := 0 }, { name := "$assertionsDisabled", type := .boolean, accessFlags := 4120, slot := 9, constantValue := 0 }]
  methods := #[k3m0, k3m1, k3m2, k3m3]
  instanceTypes := #[]
  staticTypes := #[.double, .double, .double, .double, .double, .long, .long, .double, .double, .boolean]
  resolved := Array.replicate 460 none
  statics := none }

def pool4 : Array CpInfo := pool [(1, .class_ 2), (0, u "java/io/Serializable"), (0, .class_ 4), (0, u "java/lang/Object")] 2

/-- java/io/Serializable -/
def k4 : Class := { plain "java/io/Serializable" (some 0) with
  accessFlags := 1537
  interfaces := #[]
  cf := some (fileOf pool4 1 #[] #[] 1537 3 #[] #[])
  fields := #[]
  methods := #[]
  instanceTypes := #[]
  staticTypes := #[]
  resolved := Array.replicate 7 none
  statics := none }

def pool5 : Array CpInfo := pool [(2, .class_ 4), (1, u "java/lang/Object"), (0, u "<init>"), (0, u "()V"), (1, .class_ 10), (1, u "java/lang/Number"), (2, .class_ 14), (0, u "java/io/Serializable"), (0, u "serialVersionUID"), (0, u "J")] 20

def k5m0 : Method := { name := "<init>", desc := "()V", sig := { parameters := [], returnType := none }, accessFlags := 1, code := none }
/-- java/lang/Number -/
def k5 : Class := { plain "java/lang/Number" (some 0) with
  accessFlags := 1057
  interfaces := #[4]
  cf := some (fileOf pool5 8 #[] #[{ accessFlags := 1, nameIndex := 5, descriptorIndex := 6, attributes := #[] }] 1057 2 #[13] #[{ accessFlags := 26, nameIndex := 15, descriptorIndex := 16, attributes := #[] }])
  fields := #[{ name := "serialVersionUID", type := .long, accessFlags := 26, slot := 0, constantValue := 0 }]
  methods := #[k5m0]
  instanceTypes := #[]
  staticTypes := #[.long]
  resolved := Array.replicate 37 none
  statics := none }

def pool6 : Array CpInfo := pool [(1, .class_ 2), (0, u "java/lang/Comparable"), (0, .class_ 4), (0, u "java/lang/Object")] 7

/-- java/lang/Comparable -/
def k6 : Class := { plain "java/lang/Comparable" (some 0) with
  accessFlags := 1537
  interfaces := #[]
  cf := some (fileOf pool6 1 #[] #[] 1537 3 #[] #[])
  fields := #[]
  methods := #[]
  instanceTypes := #[]
  staticTypes := #[]
  resolved := Array.replicate 12 none
  statics := none }

def pool7 : Array CpInfo := pool [(1, .class_ 2), (0, u "java/lang/constant/Constable"), (0, .class_ 4), (0, u "java/lang/Object")] 6

/-- java/lang/constant/Constable -/
def k7 : Class := { plain "java/lang/constant/Constable" (some 0) with
  accessFlags := 1537
  interfaces := #[]
  cf := some (fileOf pool7 1 #[] #[] 1537 3 #[] #[])
  fields := #[]
  methods := #[]
  instanceTypes := #[]
  staticTypes := #[]
  resolved := Array.replicate 11 none
  statics := none }

def pool8 : Array CpInfo := pool [(1, .class_ 2), (0, u "java/lang/constant/ConstantDesc"), (0, .class_ 4), (0, u "java/lang/Object")] 32

/-- java/lang/constant/ConstantDesc -/
def k8 : Class := { plain "java/lang/constant/ConstantDesc" (some 0) with
  accessFlags := 1537
  interfaces := #[]
  cf := some (fileOf pool8 1 #[] #[] 1537 3 #[] #[])
  fields := #[]
  methods := #[]
  instanceTypes := #[]
  staticTypes := #[]
  resolved := Array.replicate 37 none
  statics := none }

def pool9 : Array CpInfo := pool [(1, .class_ 2), (0, u "java/lang/Integer"), (16, u "digits"), (0, u "[C"), (32, u "numberOfLeadingZeros"), (0, u "(I)I"), (30, u "DigitOnes"), (0, u "[B"), (2, u "DigitTens"), (99, .class_ 190), (0, u "java/lang/Integer$IntegerCache"), (3, u "I"), (8, .class_ 204), (0, u "java/lang/Number"), (2, u "value"), (56, .integer 65536), (37, u "TYPE"), (0, u "Ljava/lang/Class;"), (0, .class_ 305), (0, u "java/lang/Comparable"), (0, .class_ 307), (0, u "java/lang/constant/Constable"), (0, .class_ 309), (0, u "java/lang/constant/ConstantDesc"), (0, u "MIN_VALUE"), (1, u "MAX_VALUE"), (3, u "SIZE"), (1, u "BYTES"), (1, u "serialVersionUID"), (0, u "J")] 131

def k9c0 : Code := { maxStack := 3, maxLocals := 2, code := jdk_33_method_47_code, exceptionTable := #[], attributes := #[] }
def k9m0 : Method := { name := "numberOfLeadingZeros", desc := "(I)I", sig := { parameters := [.int], returnType := some .int }, accessFlags := 9, code := some k9c0 }
/-- java/lang/Integer -/
def k9 : Class := { plain "java/lang/Integer" (some 5) with
  accessFlags := 49
  interfaces := #[6, 7, 8]
  cf := some (fileOf pool9 1 #[.nestMembers #[189]] #[{ accessFlags := 9, nameIndex := 53, descriptorIndex := 54, attributes := #[] }] 49 203 #[304, 306, 308] #[{ accessFlags := 25, nameIndex := 310, descriptorIndex := 194, attributes := #[] }, { accessFlags := 25, nameIndex := 312, descriptorIndex := 194, attributes := #[] }, { accessFlags := 25, nameIndex := 302, descriptorIndex := 303, attributes := #[] }, { accessFlags := 24, nameIndex := 19, descriptorIndex := 20, attributes := #[] }, { accessFlags := 24, nameIndex := 89, descriptorIndex := 86, attributes := #[] }, { accessFlags := 24, nameIndex := 85, descriptorIndex := 86, attributes := #[] }, { accessFlags := 18, nameIndex := 207, descriptorIndex := 194, attributes := #[] }, { accessFlags := 25, nameIndex := 316, descriptorIndex := 194, attributes := #[] }, { accessFlags := 25, nameIndex := 318, descriptorIndex := 194, attributes := #[] }, { accessFlags := 26, nameIndex := 320, descriptorIndex := 321, attributes := #[] }])
  fields := #[{ name := "MIN_VALUE", type := .int, accessFlags := 25, slot := 0, constantValue := 0 }, { name := "MAX_VALUE", type := .int, accessFlags := 25, slot := 1, constantValue := 0 }, { name := "TYPE", type := (.object "java/lang/Class"), accessFlags := 25, slot := 2, constantValue := 0 }, { name := "digits", type := (.array .char), accessFlags := 24, slot := 3, constantValue := 0 }, { name := "DigitTens", type := (.array .byte), accessFlags := 24, slot := 4, constantValue := 0 }, { name := "DigitOnes", type := (.array .byte), accessFlags := 24, slot := 5, constantValue := 0 }, { name := "value", type := .int, accessFlags := 18, slot := 0, constantValue := 0 }, { name := "SIZE", type := .int, accessFlags := 25, slot := 6, constantValue := 0 }, { name := "BYTES", type := .int, accessFlags := 25, slot := 7, constantValue := 0 }, { name := "serialVersionUID", type := .long, accessFlags := 26, slot := 8, constantValue := 0 }]
  methods := #[k9m0]
  instanceTypes := #[.int]
  staticTypes := #[.int, .int, (.object "java/lang/Class"), (.array .char), (.array .byte), (.array .byte), .int, .int, .long]
  resolved := Array.replicate 453 none
  statics := none }

def pool10 : Array CpInfo := pool [(2, .class_ 4), (1, u "java/lang/Object"), (0, u "<init>"), (0, u "()V"), (7, .class_ 16), (1, u "java/util/Arrays"), (57, .class_ 76), (1, u "java/util/Arrays$NaturalOrder"), (32, u "()Ljava/lang/Object;"), (3, .class_ 115), (1, u "java/util/Arrays$LegacyMergeSort"), (1, u "Z"), (10, .nameAndType 129 109), (0, u "clone"), (172, u "copyOf"), (13, .methodref 317 128), (0, .class_ 318), (0, u "[I"), (56, .class_ 376), (0, u "java/util/Arrays$ArrayList"), (68, u "$assertionsDisabled"), (269, u "MIN_ARRAY_SORT_GRAN"), (0, u "I"), (2, u "INSERTIONSORT_THRESHOLD"), (151, u "([II)[I"), (103, .class_ 976), (0, u "java/util/Arrays$ArrayItr")] 52

def k10m0 : Method := { name := "<init>", desc := "()V", sig := { parameters := [], returnType := none }, accessFlags := 2, code := none }
def k10c1 : Code := { maxStack := 6, maxLocals := 3, code := jdk_65_method_123_code, exceptionTable := #[], attributes := #[] }
def k10m1 : Method := { name := "copyOf", desc := "([II)[I", sig := { parameters := [(.array .int), .int], returnType := some (.array .int) }, accessFlags := 9, code := some k10c1 }
/-- java/util/Arrays -/
def k10 : Class := { plain "java/util/Arrays" (some 0) with
  accessFlags := 49
  interfaces := #[]
  cf := some (fileOf pool10 14 #[.nestMembers #[975, 375, 113, 74]] #[{ accessFlags := 2, nameIndex := 5, descriptorIndex := 6, attributes := #[] }, { accessFlags := 9, nameIndex := 302, descriptorIndex := 871, attributes := #[] }] 49 2 #[] #[{ accessFlags := 26, nameIndex := 715, descriptorIndex := 716, attributes := #[] }, { accessFlags := 26, nameIndex := 719, descriptorIndex := 716, attributes := #[] }, { accessFlags := 4120, nameIndex := 445, descriptorIndex := 117, attributes := #[] }])
  fields := #[{ name := "MIN_ARRAY_SORT_GRAN", type := .int, accessFlags := 26, slot := 0, constantValue := 0 }, { name := "INSERTIONSORT_THRESHOLD", type := .int, accessFlags := 26, slot := 1, constantValue := 0 }, { name := "$assertionsDisabled", type := .boolean, accessFlags := 4120, slot := 2, constantValue := 0 }]
  methods := #[k10m0, k10m1]
  instanceTypes := #[]
  staticTypes := #[.int, .int, .boolean]
  resolved := Array.replicate 1029 none
  statics := none }

def pool11 : Array CpInfo := pool [(1, .class_ 2), (0, u "java/lang/Cloneable"), (0, .class_ 4), (0, u "java/lang/Object")] 2

/-- java/lang/Cloneable -/
def k11 : Class := { plain "java/lang/Cloneable" (some 0) with
  accessFlags := 1537
  interfaces := #[]
  cf := some (fileOf pool11 1 #[] #[] 1537 3 #[] #[])
  fields := #[]
  methods := #[]
  instanceTypes := #[]
  staticTypes := #[]
  resolved := Array.replicate 7 none
  statics := none }

/-- the primitive byte -/
def k12 : Class := { plain "byte" none with kind := .primitive 'B', accessFlags := 0x411 }
/-- [B -/
def k13 : Class := { plain "[B" (some 0) with kind := .array 12 .byte, interfaces := #[11, 4], accessFlags := 1041 }

/-- the primitive int -/
def k14 : Class := { plain "int" none with kind := .primitive 'I', accessFlags := 0x411 }
/-- [I -/
def k15 : Class := { plain "[I" (some 0) with kind := .array 14 .int, interfaces := #[11, 4], accessFlags := 1041 }

/-- [[I -/
def k16 : Class := { plain "[[I" (some 0) with kind := .array 15 (.array .int), interfaces := #[11, 4], accessFlags := 1041 }

def heap : Heap := #[]
def classes : Array Class := #[k0, k1, k2, k3, k4, k5, k6, k7, k8, k9, k10, k11, k12, k13, k14, k15, k16]
def interned : List (Array UInt16 × Addr) := []
def slotsUsed : Nat := 0
def theMethod : MethodId := ⟨1, 2⟩
def args0 : Array Value := #[.int 3, .int 2, .int 1]
def aboutOver (below : List Frame) : State where
  vm := { classes := classes, interned := interned.toArray }
  heap := heap
  slotsUsed := slotsUsed
  threads := #[{ frames := .invoking theMethod args0 :: below }]
def below0 : List Frame := [.native { method := ⟨0, 0⟩, args := #[] }]
def about1 : State := aboutOver below0
def p0 : Program := .bare "" "" ""
def e0 : Env := launch0.env 0 0 0
theorem w_frames : about1.frames = Frame.invoking theMethod args0 :: below0 := rfl
set_option maxRecDepth 65536 in
theorem w_args : argsFit about1.vm theMethod args0 = true := by decide +kernel
set_option maxRecDepth 65536 in
theorem w_heap : heapFits about1 = true := by decide +kernel
set_option maxRecDepth 65536 in
theorem w_runnable : about1.curStatus? = some .runnable := by decide +kernel
set_option maxRecDepth 65536 in
theorem w_alone : about1.alone = true := by decide +kernel
set_option maxRecDepth 65536 in
theorem w_named : about1.methodNamed? x = some theMethod := by decide +kernel
set_option maxRecDepth 65536 in
theorem w_hears : about1.hears theMethod below0 = true := by decide +kernel
set_option maxRecDepth 65536 in
theorem w_ripe : about1.ripe theMethod args0 below0 = true := by decide +kernel
theorem w_running : about1.status = .running := rfl
set_option maxRecDepth 65536 in
theorem w_room : about1.hasRoom e0.platform room_1 = true :=
  launch0.hasRoom_least _ room_1 (by decide +kernel) (by decide +kernel) (by decide +kernel) (by decide +kernel) (by decide +kernel) (by decide +kernel)
theorem allAtoms_all (ts : List Jvm.Cond) (a : Array Jvm.Value) (st : Jvm.State) : (allAtoms ts).before a st = ts.all (fun c => c.before a st) := by
  induction ts with
  | nil => rfl
  | cons c t ih =>
    show (Jvm.Cond.and c (allAtoms t)).before a st = _
    rw [Jvm.Cond.before_and, ih, List.all_cons]
def words1 : List Jvm.Cond := Jvm.Cond.code x code maxLocals ret :: tables_1
/-- a 'code' word, met by the world's own term for the bytes: nothing is compared byte by byte -/
theorem code_word {y : MethodName} {bytes : ByteArray} {mx : Nat} {rt : Option FieldType} {a : Array Value} {s : State} {m : MethodId} {meth : Method} {c : Code} (h1 : s.methodNamed? y = some m) (h2 : s.vm.method? m = some meth) (h3 : meth.code = some c) (h4 : c.code = bytes)
    (h5 : (c.maxLocals == mx && c.exceptionTable.isEmpty && decide (c.maxStack ≤ mostOperands) && decide (meth.sig.returnType = rt) && !meth.locks && decide (parseMethodDescriptor y.desc = some meth.sig)) = true) : (Jvm.Cond.code y bytes mx rt).before a s = true := by
  simp only [Bool.and_eq_true, beq_iff_eq, Bool.not_eq_true', decide_eq_true_eq] at h5
  obtain ⟨⟨⟨⟨⟨g1, g2⟩, g3⟩, g4⟩, g5⟩, g6⟩ := h5
  simp [Cond.before, Cond.holds, Cond.value, h1, h2, h3, h4, g1, g2, g3, g4, g5, g6]
def isCode : Jvm.Cond → Bool
  | .code _ _ _ _ => true
  | _ => false
theorem all_split {L : List Jvm.Cond} {P : Jvm.Cond → Bool} (h1 : L.all (fun c => isCode c || P c) = true) (h2 : ∀ c ∈ L.filter isCode, P c = true) : L.all P = true := by
  refine List.all_eq_true.mpr fun c hc => ?_
  have h := List.all_eq_true.mp h1 c hc
  rcases Bool.eq_false_or_eq_true (isCode c) with hi | hi
  · exact h2 c (List.mem_filter.mpr ⟨hc, hi⟩)
  · simpa [hi] using h
set_option maxRecDepth 65536 in
theorem w_c0 : (Jvm.Cond.code x code maxLocals ret).before args0 about1 = true := code_word (m := ⟨1, 2⟩) (meth := k1m2) (c := k1c2) (by decide +kernel) rfl rfl rfl (by decide +kernel)
set_option maxRecDepth 65536 in
theorem w_c1 : (Jvm.Cond.code ({ cls := "com/example/nimble_calculus/nimblecalculus/equivalence/Splits", name := "<init>", desc := "(I)V" } : Jvm.MethodName) prog_61_method_1_code (3 : Nat) (Option.none : Option Jvm.ClassFile.FieldType)).before args0 about1 = true := code_word (m := ⟨2, 0⟩) (meth := k2m0) (c := k2c0) (by decide +kernel) rfl rfl rfl (by decide +kernel)
set_option maxRecDepth 65536 in
theorem w_c2 : (Jvm.Cond.code ({ cls := "java/lang/Object", name := "<init>", desc := "()V" } : Jvm.MethodName) object_method_1_code (1 : Nat) (Option.none : Option Jvm.ClassFile.FieldType)).before args0 about1 = true := code_word (m := ⟨0, 0⟩) (meth := k0m0) (c := k0c0) (by decide +kernel) rfl rfl rfl (by decide +kernel)
set_option maxRecDepth 65536 in
theorem w_c3 : (Jvm.Cond.code ({ cls := "java/lang/Math", name := "max", desc := "(JJ)J" } : Jvm.MethodName) jdk_29_method_66_code (4 : Nat) (Option.some Jvm.ClassFile.FieldType.long)).before args0 about1 = true := code_word (m := ⟨3, 2⟩) (meth := k3m2) (c := k3c2) (by decide +kernel) rfl rfl rfl (by decide +kernel)
set_option maxRecDepth 65536 in
theorem w_c4 : (Jvm.Cond.code ({ cls := "java/lang/Math", name := "min", desc := "(JJ)J" } : Jvm.MethodName) jdk_29_method_70_code (4 : Nat) (Option.some Jvm.ClassFile.FieldType.long)).before args0 about1 = true := code_word (m := ⟨3, 3⟩) (meth := k3m3) (c := k3c3) (by decide +kernel) rfl rfl rfl (by decide +kernel)
set_option maxRecDepth 65536 in
theorem w_c5 : (Jvm.Cond.code ({ cls := "java/lang/Math", name := "max", desc := "(II)I" } : Jvm.MethodName) jdk_29_method_65_code (2 : Nat) (Option.some Jvm.ClassFile.FieldType.int)).before args0 about1 = true := code_word (m := ⟨3, 1⟩) (meth := k3m1) (c := k3c1) (by decide +kernel) rfl rfl rfl (by decide +kernel)
set_option maxRecDepth 65536 in
theorem w_c6 : (Jvm.Cond.code ({ cls := "com/example/nimble_calculus/nimblecalculus/equivalence/Splits", name := "beginSplit", desc := "(I)V" } : Jvm.MethodName) prog_61_method_2_code (2 : Nat) (Option.none : Option Jvm.ClassFile.FieldType)).before args0 about1 = true := code_word (m := ⟨2, 1⟩) (meth := k2m1) (c := k2c1) (by decide +kernel) rfl rfl rfl (by decide +kernel)
set_option maxRecDepth 65536 in
theorem w_c7 : (Jvm.Cond.code ({ cls := "com/example/nimble_calculus/nimblecalculus/equivalence/Splits", name := "addPart", desc := "(II)V" } : Jvm.MethodName) prog_61_method_3_code (4 : Nat) (Option.none : Option Jvm.ClassFile.FieldType)).before args0 about1 = true := code_word (m := ⟨2, 2⟩) (meth := k2m2) (c := k2c2) (by decide +kernel) rfl rfl rfl (by decide +kernel)
set_option maxRecDepth 65536 in
theorem w_c8 : (Jvm.Cond.code ({ cls := "com/example/nimble_calculus/nimblecalculus/equivalence/Splits", name := "finish", desc := "([I)V" } : Jvm.MethodName) prog_61_method_4_code (8 : Nat) (Option.none : Option Jvm.ClassFile.FieldType)).before args0 about1 = true := code_word (m := ⟨2, 3⟩) (meth := k2m3) (c := k2c3) (by decide +kernel) rfl rfl rfl (by decide +kernel)
set_option maxRecDepth 65536 in
theorem w_c9 : (Jvm.Cond.code ({ cls := "java/lang/Integer", name := "numberOfLeadingZeros", desc := "(I)I" } : Jvm.MethodName) jdk_33_method_47_code (2 : Nat) (Option.some Jvm.ClassFile.FieldType.int)).before args0 about1 = true := code_word (m := ⟨9, 0⟩) (meth := k9m0) (c := k9c0) (by decide +kernel) rfl rfl rfl (by decide +kernel)
set_option maxRecDepth 65536 in
theorem w_c10 : (Jvm.Cond.code ({ cls := "java/util/Arrays", name := "copyOf", desc := "([II)[I" } : Jvm.MethodName) jdk_65_method_123_code (3 : Nat) (Option.some (Jvm.ClassFile.FieldType.array Jvm.ClassFile.FieldType.int))).before args0 about1 = true := code_word (m := ⟨10, 1⟩) (meth := k10m1) (c := k10c1) (by decide +kernel) rfl rfl rfl (by decide +kernel)
set_option maxRecDepth 65536 in
theorem w_c11 : (Jvm.Cond.code ({ cls := "com/example/nimble_calculus/nimblecalculus/equivalence/Splits", name := "blockBefore", desc := "(II)I" } : Jvm.MethodName) prog_61_method_8_code (6 : Nat) (Option.some Jvm.ClassFile.FieldType.int)).before args0 about1 = true := code_word (m := ⟨2, 4⟩) (meth := k2m4) (c := k2c4) (by decide +kernel) rfl rfl rfl (by decide +kernel)
set_option maxRecDepth 65536 in
theorem w_c12 : (Jvm.Cond.code ({ cls := "com/example/nimble_calculus/nimblecalculus/equivalence/SplitsBlockBeforePinLaw", name := "expected", desc := "(ZII)I" } : Jvm.MethodName) method_2_code (3 : Nat) (Option.some Jvm.ClassFile.FieldType.int)).before args0 about1 = true := code_word (m := ⟨1, 1⟩) (meth := k1m1) (c := k1c1) (by decide +kernel) rfl rfl rfl (by decide +kernel)
def codes1 : List Jvm.Cond := [Jvm.Cond.code x code maxLocals ret, Jvm.Cond.code ({ cls := "com/example/nimble_calculus/nimblecalculus/equivalence/Splits", name := "<init>", desc := "(I)V" } : Jvm.MethodName) prog_61_method_1_code (3 : Nat) (Option.none : Option Jvm.ClassFile.FieldType), Jvm.Cond.code ({ cls := "java/lang/Object", name := "<init>", desc := "()V" } : Jvm.MethodName) object_method_1_code (1 : Nat) (Option.none : Option Jvm.ClassFile.FieldType), Jvm.Cond.code ({ cls := "java/lang/Math", name := "max", desc := "(JJ)J" } : Jvm.MethodName) jdk_29_method_66_code (4 : Nat) (Option.some Jvm.ClassFile.FieldType.long), Jvm.Cond.code ({ cls := "java/lang/Math", name := "min", desc := "(JJ)J" } : Jvm.MethodName) jdk_29_method_70_code (4 : Nat) (Option.some Jvm.ClassFile.FieldType.long), Jvm.Cond.code ({ cls := "java/lang/Math", name := "max", desc := "(II)I" } : Jvm.MethodName) jdk_29_method_65_code (2 : Nat) (Option.some Jvm.ClassFile.FieldType.int), Jvm.Cond.code ({ cls := "com/example/nimble_calculus/nimblecalculus/equivalence/Splits", name := "beginSplit", desc := "(I)V" } : Jvm.MethodName) prog_61_method_2_code (2 : Nat) (Option.none : Option Jvm.ClassFile.FieldType), Jvm.Cond.code ({ cls := "com/example/nimble_calculus/nimblecalculus/equivalence/Splits", name := "addPart", desc := "(II)V" } : Jvm.MethodName) prog_61_method_3_code (4 : Nat) (Option.none : Option Jvm.ClassFile.FieldType), Jvm.Cond.code ({ cls := "com/example/nimble_calculus/nimblecalculus/equivalence/Splits", name := "finish", desc := "([I)V" } : Jvm.MethodName) prog_61_method_4_code (8 : Nat) (Option.none : Option Jvm.ClassFile.FieldType), Jvm.Cond.code ({ cls := "java/lang/Integer", name := "numberOfLeadingZeros", desc := "(I)I" } : Jvm.MethodName) jdk_33_method_47_code (2 : Nat) (Option.some Jvm.ClassFile.FieldType.int), Jvm.Cond.code ({ cls := "java/util/Arrays", name := "copyOf", desc := "([II)[I" } : Jvm.MethodName) jdk_65_method_123_code (3 : Nat) (Option.some (Jvm.ClassFile.FieldType.array Jvm.ClassFile.FieldType.int)), Jvm.Cond.code ({ cls := "com/example/nimble_calculus/nimblecalculus/equivalence/Splits", name := "blockBefore", desc := "(II)I" } : Jvm.MethodName) prog_61_method_8_code (6 : Nat) (Option.some Jvm.ClassFile.FieldType.int), Jvm.Cond.code ({ cls := "com/example/nimble_calculus/nimblecalculus/equivalence/SplitsBlockBeforePinLaw", name := "expected", desc := "(ZII)I" } : Jvm.MethodName) method_2_code (3 : Nat) (Option.some Jvm.ClassFile.FieldType.int)]
set_option maxRecDepth 65536 in
theorem codes_eq : words1.filter isCode = codes1 := rfl
theorem w_codes : ∀ c ∈ words1.filter isCode, c.before args0 about1 = true := by
  rw [codes_eq]
  intro c hc
  simp only [codes1, List.mem_cons, List.not_mem_nil, or_false] at hc
  rcases hc with rfl | rfl | rfl | rfl | rfl | rfl | rfl | rfl | rfl | rfl | rfl | rfl | rfl
  · exact w_c0
  · exact w_c1
  · exact w_c2
  · exact w_c3
  · exact w_c4
  · exact w_c5
  · exact w_c6
  · exact w_c7
  · exact w_c8
  · exact w_c9
  · exact w_c10
  · exact w_c11
  · exact w_c12
set_option maxRecDepth 65536 in
theorem w_t1 : (words1.take 24).all (fun c => isCode c || c.before args0 about1) = true := by decide +kernel
set_option maxRecDepth 65536 in
theorem w_t2 : ((words1.drop 24).take 24).all (fun c => isCode c || c.before args0 about1) = true := by decide +kernel
set_option maxRecDepth 65536 in
theorem w_t3 : (((words1.drop 24).drop 24).take 24).all (fun c => isCode c || c.before args0 about1) = true := by decide +kernel
set_option maxRecDepth 65536 in
theorem w_t4 : (((words1.drop 24).drop 24).drop 24).all (fun c => isCode c || c.before args0 about1) = true := by decide +kernel
theorem w_tables : (allAtoms (Jvm.Cond.code x code maxLocals ret :: tables_1)).before args0 about1 = true := by
  rw [allAtoms_all]
  show words1.all (fun c => c.before args0 about1) = true
  refine all_split ?_ w_codes
  rw [← List.take_append_drop 24 words1, List.all_append, w_t1, ← List.take_append_drop 24 (words1.drop 24), List.all_append, w_t2, ← List.take_append_drop 24 ((words1.drop 24).drop 24), List.all_append, w_t3, w_t4]
  rfl
set_option maxRecDepth 65536 in
theorem w_case : (Jvm.Cond.and given_1 narrow_1).before args0 about1 = true := by decide +kernel
theorem w_applies : (headSpec (Jvm.Cond.code x code maxLocals ret :: tables_1) room_1).applies x e0.platform about1 = true :=
  (Spec.applies_iff w_frames).mpr ⟨w_running, w_runnable, w_alone, w_named, w_hears, w_ripe, w_room, w_tables⟩
theorem atStart : AtStart classFile x code maxLocals ret World_1 tables_1 room_1 Calls_1 rest_1 Pre_1 launch0 p0 e0 about1 theMethod args0 below0 :=
  ⟨lists_1, trivial, launch0.admits_env _ _ _, launch0.least_env, fairChoices_fair.cas, fairChoices_fair.clock, w_frames, w_args, w_heap, w_applies, trivial, trivial, w_case⟩
end start1
theorem witness_1 : WitnessClaimed_1 := ⟨start1.p0, start1.e0, start1.about1, start1.theMethod, start1.args0, start1.below0, start1.atStart⟩
end Jvm.Pilot.@@N@@
