import JvmDerived
import JvmDerived.Pilot.@@N@@Statement
import JvmDerived.Pilot.@@N@@Code
set_option linter.unusedVariables false
set_option linter.unusedSimpArgs false
namespace Jvm.RoadKit
open Sem ClassFile Op Lib Jvm.Stand Jvm.Free Jvm.LawKit
section Own
/-- the walk comes to its end from here: it returns, what it returns and the heap are as Q says, nothing old is written -/
def End (Z : State) (p : Program) (e : Env) (below : List Frame) (s : State) (Q : Option Value → Heap → Prop) (kc ks : Nat) (T : State) (g : JFrame) : Prop :=
  ∃ s₂ o, Steps p.tables e below (T.setTop g) s₂ ∧ s₂.status = .running ∧ Ended s₂ below o ∧ ∃ v L, o = .returned v ∧ (Fr Z.heap.size L ∧ Ext Z.heap s₂.heap ∧ Q v s₂.heap) ∧ FrameEnd s o s₂ L kc ks
/-- where the walk stands, with all that is fixed in a body -/
def Sd (l : Launch) (Z : State) (own nm : String) (bytes : ByteArray) (ml : Nat) (ret : Option FieldType) (R : Room) (p : Program) (e : Env) (s : State) (m : MethodId) (args : Array Value) (below : List Frame) (T : State) (h : Heap) (cells slots : Nat) : Prop :=
  ∃ (meth : Method) (c : Code) (locs : List Loc), Stand p l e R s m args below meth c T locs cells slots ∧ Fr Z.heap.size locs ∧ T.heap = h ∧ Ext Z.heap h ∧ p.tables.exec = Jvm.exec ∧ c.code = bytes ∧ c.maxLocals = ml ∧ s.vm.findClass own = some m.cls ∧ meth.name = nm ∧ meth.sig.returnType = ret ∧ meth.locks = false ∧ Z.Warmed39 s.vm
/-- a contract: called with these arguments over the heap h0 the body returns, as Q says -/
def Con (l : Launch) (Z : State) (y : MethodName) (bytes : ByteArray) (ml : Nat) (ret : Option FieldType) (rm : Room) (as : Array Value) (h0 : Heap) (Q : Option Value → Heap → Prop) : Prop :=
  ∀ ws : List Jvm.Cond, MetFree l y (head1 (Jvm.Cond.code y bytes ml ret :: ws) rm) (fun a U => a = as ∧ Z.Warmed39 U.vm ∧ U.heap = h0) (fun _ _ _ _ _ => True) (fun _ U o U' => ∃ v L, o = .returned v ∧ (Fr Z.heap.size L ∧ Ext Z.heap U'.heap ∧ Q v U'.heap) ∧ FrameEnd U o U' L rm.cells rm.slots)
theorem Ext.refl (h : Heap) : Ext h h := ⟨Nat.le_refl _, fun _ _ q => q⟩
theorem Ext.trans {h h' h'' : Heap} (E : Ext h h') (E' : Ext h' h'') : Ext h h'' := ⟨Nat.le_trans E.1 E'.1, fun a c q => E'.2 a c (E.2 a c q)⟩
theorem Ext.keep {h0 h h' : Heap} {ws : List Addr} (E : Ext h0 h) (K : Keep h h' ws) (q : ∀ x ∈ ws, h0.size ≤ x) : Ext h0 h' := ⟨Nat.le_trans E.1 K.1, fun x c r => K.2.1 x c (E.2 x c r) fun z => absurd (Array.getElem?_eq_some_iff.mp r).1 (Nat.not_lt.mpr (q x z))⟩
theorem Ext.wr {h0 h h' : Heap} {a : Addr} {sl : Nat} {v : Value} (E : Ext h0 h) (W : Wr h h' a sl v) (q : h0.size ≤ a) : Ext h0 h' := E.keep (Keep.of_wr W) (allS q all0)
theorem Keep.of_ext {h h' : Heap} (E : Ext h h') (ws : List Addr) : Keep h h' ws := (Keep.refl h ws).ext E
theorem Keep.ext0 {h h' : Heap} (K : Keep h h' []) : Ext h h' := ⟨K.1, fun x c q => K.2.1 x c q nin0⟩
theorem Keep.sub {h h' : Heap} {ws ws' : List Addr} (K : Keep h h' ws) (q : ∀ x ∈ ws, x ∈ ws') : Keep h h' ws' := ⟨K.1, fun x c r n => K.2.1 x c r fun z => n (q x z), K.2.2⟩
theorem Con.of {l : Launch} {Z : State} {y : MethodName} {bytes : ByteArray} {ml : Nat} {ret : Option FieldType} {rm : Room} {as : Array Value} {h0 : Heap} {Q : Option Value → Heap → Prop} (pn : plainFor y = true) (hE : Ext Z.heap h0)
    (body : ∀ (p : Program) (e : Env) (s : State) (m : MethodId) (below : List Frame) (T : State), Sd l Z y.cls y.name bytes ml ret rm p e s m as below T h0 0 0 → End Z p e below s Q rm.cells rm.slots T (entryFrame m as ml)) : Con l Z y bytes ml ret rm as h0 Q := by
  intro ws
  refine MetFree.of_bodySF pn hisR ?_
  intro p e s m args below meth c s₁ Bd hml hP hK
  obtain ⟨rfl, hZ, hh⟩ := hP
  have X : Stand p l e rm s m args below meth c s₁ [] 0 0 := Stand.of_body Bd
  have e0 : s₁.heap = h0 := by rw [← hh, Bd.state]; rfl
  exact body p e s m below s₁ ⟨meth, c, [], X, Fr.nil _, e0, hE, Bd.exec, Bd.bytes, hml, findClass_of_methodNamed Bd.named, (name_of_methodNamed Bd.named Bd.method).1, Bd.returns, Bd.notSynchronized, hZ⟩
variable {l : Launch} {Z : State} {own nm : String} {bytes : ByteArray} {ml : Nat} {ret : Option FieldType} {R : Room} {p : Program} {e : Env} {s : State} {m : MethodId} {args : Array Value} {below : List Frame} {T : State} {h : Heap} {cells slots : Nat} {Q : Option Value → Heap → Prop} {kc ks : Nat} {pc pc' : Nat} {Ls : Array Slot} {st : List Value} {a0 : Array Value}
theorem End.go {T' : State} {g g' : JFrame} (k : End Z p e below s Q kc ks T' g') (stp : ∀ target, Steps p.tables e below (T'.setTop g') target → Steps p.tables e below (T.setTop g) target) : End Z p e below s Q kc ks T g := by
  obtain ⟨s2, o, h1, h2⟩ := k
  exact ⟨s2, o, stp _ h1, h2⟩
theorem End.frame {g g' : JFrame} (q : g = g') (k : End Z p e below s Q kc ks T g') : End Z p e below s Q kc ks T g := q ▸ k
theorem End.of {Q' : Option Value → Heap → Prop} {g : JFrame} (k : End Z p e below s Q kc ks T g) (q : ∀ v h, Q v h → Q' v h) : End Z p e below s Q' kc ks T g := by
  obtain ⟨s2, o, h1, h2, h3, v, L, h4, ⟨h5, h6, h7⟩, h8⟩ := k
  exact ⟨s2, o, h1, h2, h3, v, L, h4, ⟨h5, h6, q _ _ h7⟩, h8⟩
theorem Con.imp {y : MethodName} {rm : Room} {as : Array Value} {h0 : Heap} {Q' : Option Value → Heap → Prop} (C : Con l Z y bytes ml ret rm as h0 Q) (q : ∀ v h, Q v h → Q' v h) : Con l Z y bytes ml ret rm as h0 Q' := by
  intro ws p e ha hc hk s m args below hf happ hP hK
  obtain ⟨n, o, h1, h2, h3, v, L, h4, ⟨h5, h6, h7⟩, h8⟩ := C ws p e ha hc hk s m args below hf happ hP hK
  exact ⟨n, o, h1, h2, h3, v, L, h4, ⟨h5, h6, q _ _ h7⟩, h8⟩
theorem Sd.ext (X : Sd l Z own nm bytes ml ret R p e s m args below T h cells slots) : Ext Z.heap h := by obtain ⟨meth, c, locs, X, N, e0, E, -⟩ := X; exact E
theorem Sd.le (X : Sd l Z own nm bytes ml ret R p e s m args below T h cells slots) : Z.heap.size ≤ h.size := X.ext.1
theorem Sd.more (X : Sd l Z own nm bytes ml ret R p e s m args below T h cells slots) {cells' slots' : Nat} (h1 : cells ≤ cells') (h2 : slots ≤ slots') : Sd l Z own nm bytes ml ret R p e s m args below T h cells' slots' := by
  obtain ⟨meth, c, locs, X, r⟩ := X; exact ⟨meth, c, locs, X.more h1 h2, r⟩
/-! returns -/
theorem E_ret0 (X : Sd l Z own nm bytes ml none R p e s m args below T h cells slots) (hd : decode bytes pc = .ok (.return_, 1)) (h1 : cells ≤ kc) (h2 : slots ≤ ks) (hq : Q none h) : End Z p e below s Q kc ks T (mkF m pc Ls []) := by
  obtain ⟨meth, c, locs, X, N, e0, E, hx, hb, hml, hown, hnm, hret, hlk, hZ⟩ := X
  subst hb
  obtain ⟨fs, hr, hrun, hended, hW, hsame⟩ := X.leave (v := none) (fun _ => rfl)
  exact ⟨_, _, X.returnOut hx hret hd hr, hrun, hended, _, _, rfl, ⟨N, by show Ext Z.heap T.heap; rw [e0]; exact E, by show Q none T.heap; rw [e0]; exact hq⟩, ⟨_, rfl⟩, hW, hsame.mono h1 h2⟩
theorem E_retW {t : FieldType} {w : Value} {i : Instr} (hn : narrow t w = w) (hi : (i = .ireturn ∧ (t = .int ∨ t = .boolean ∨ t = .byte ∨ t = .char ∨ t = .short) ∧ ∃ z, w = .int z) ∨ (i = .lreturn ∧ t = .long ∧ ∃ z, w = .long z) ∨ (i = .dreturn ∧ t = .double ∧ ∃ z, w = .double z) ∨ (i = .freturn ∧ t = .float ∧ ∃ z, w = .float z) ∨ (i = .areturn ∧ t.isReference = true ∧ w.isRef = true))
    (X : Sd l Z own nm bytes ml (some t) R p e s m args below T h cells slots) (hd : decode bytes pc = .ok (i, 1)) (h1 : cells ≤ kc) (h2 : slots ≤ ks) (hq : Q (some w) h) : End Z p e below s Q kc ks T (mkF m pc Ls (w :: st)) := by
  obtain ⟨meth, c, locs, X, N, e0, E, hx, hb, hml, hown, hnm, hret, hlk, hZ⟩ := X
  subst hb
  obtain ⟨fs, hr, hrun, hended, hW, hsame⟩ := X.leave (v := some w) (fun h => by rw [hret] at h; cases h)
  exact ⟨_, _, retOut X hx hret hn hi hd hr, hrun, hended, _, _, rfl, ⟨N, by show Ext Z.heap T.heap; rw [e0]; exact E, by show Q (some w) T.heap; rw [e0]; exact hq⟩, ⟨_, rfl⟩, hW, hsame.mono h1 h2⟩
theorem E_retI {z : Int32} (X : Sd l Z own nm bytes ml (some .int) R p e s m args below T h cells slots) (hd : decode bytes pc = .ok (.ireturn, 1)) (h1 : cells ≤ kc) (h2 : slots ≤ ks) (hq : Q (some (.int z)) h) : End Z p e below s Q kc ks T (mkF m pc Ls (.int z :: st)) :=
  E_retW (t := .int) rfl (Or.inl ⟨rfl, Or.inl rfl, z, rfl⟩) X hd h1 h2 hq
theorem E_retL {z : Int64} (X : Sd l Z own nm bytes ml (some .long) R p e s m args below T h cells slots) (hd : decode bytes pc = .ok (.lreturn, 1)) (h1 : cells ≤ kc) (h2 : slots ≤ ks) (hq : Q (some (.long z)) h) : End Z p e below s Q kc ks T (mkF m pc Ls (.long z :: st)) :=
  E_retW (t := .long) rfl (Or.inr (Or.inl ⟨rfl, rfl, z, rfl⟩)) X hd h1 h2 hq
theorem E_retA {t : FieldType} {w : Value} (X : Sd l Z own nm bytes ml (some t) R p e s m args below T h cells slots) (hd : decode bytes pc = .ok (.areturn, 1)) (ht : t.isReference = true) (hw : w.isRef = true) (h1 : cells ≤ kc) (h2 : slots ≤ ks) (hq : Q (some w) h) : End Z p e below s Q kc ks T (mkF m pc Ls (w :: st)) :=
  E_retW (by rcases ref_cases hw with rfl | ⟨a, rfl⟩ <;> (cases t <;> first | rfl | (simp [FieldType.isReference] at ht))) (Or.inr (Or.inr (Or.inr (Or.inr ⟨rfl, ht, hw⟩)))) X hd h1 h2 hq
theorem E_retZ {z : Int32} (hz : z = 0 ∨ z = 1) (X : Sd l Z own nm bytes ml (some .boolean) R p e s m args below T h cells slots) (hd : decode bytes pc = .ok (.ireturn, 1)) (h1 : cells ≤ kc) (h2 : slots ≤ ks) (hq : Q (some (.int z)) h) : End Z p e below s Q kc ks T (mkF m pc Ls (.int z :: st)) :=
  E_retW (t := .boolean) (by rcases hz with rfl | rfl <;> rfl) (Or.inl ⟨rfl, Or.inr (Or.inl rfl), z, rfl⟩) X hd h1 h2 hq
theorem E_iloadN (X : Sd l Z own nm bytes ml ret R p e s m args below T h cells slots) {i : Fin 4} {v : Int32} (hd : decode bytes pc = .ok (.iload_n i, 1)) (hp : pc + 1 = pc') (hl : Ls[i.val]? = some (.val (.int v))) (k : End Z p e below s Q kc ks T (mkF m pc' Ls (.int v :: st))) : End Z p e below s Q kc ks T (mkF m pc Ls st) := by
  subst hp; obtain ⟨meth, c, locs, X, -, -, -, hx, hb, -⟩ := X; subst hb
  exact k.go fun _ => XS.iloadN X.here hx (g := mkF m pc Ls st) rfl hd hl
theorem E_iload (X : Sd l Z own nm bytes ml ret R p e s m args below T h cells slots) {i : Nat} {v : Int32} (hd : decode bytes pc = .ok (.iload i, 2)) (hp : pc + 2 = pc') (hl : Ls[i]? = some (.val (.int v))) (k : End Z p e below s Q kc ks T (mkF m pc' Ls (.int v :: st))) : End Z p e below s Q kc ks T (mkF m pc Ls st) := by
  subst hp; obtain ⟨meth, c, locs, X, -, -, -, hx, hb, -⟩ := X; subst hb
  exact k.go fun _ => XS.iload X.here hx (g := mkF m pc Ls st) rfl hd hl
theorem E_istoreN (X : Sd l Z own nm bytes ml ret R p e s m args below T h cells slots) {i : Fin 4} {v : Int32} {Ls' : Array Slot} (hd : decode bytes pc = .ok (.istore_n i, 1)) (hp : pc + 1 = pc') (hl : storeLocals Ls i.val (.int v) = some Ls') (k : End Z p e below s Q kc ks T (mkF m pc' Ls' st)) : End Z p e below s Q kc ks T (mkF m pc Ls (.int v :: st)) := by
  subst hp; obtain ⟨meth, c, locs, X, -, -, -, hx, hb, -⟩ := X; subst hb
  exact k.go fun _ => XS.istoreN X.here hx (g := mkF m pc Ls (.int v :: st)) rfl hd rfl hl
theorem E_istore (X : Sd l Z own nm bytes ml ret R p e s m args below T h cells slots) {i : Nat} {v : Int32} {Ls' : Array Slot} (hd : decode bytes pc = .ok (.istore i, 2)) (hp : pc + 2 = pc') (hl : storeLocals Ls i (.int v) = some Ls') (k : End Z p e below s Q kc ks T (mkF m pc' Ls' st)) : End Z p e below s Q kc ks T (mkF m pc Ls (.int v :: st)) := by
  subst hp; obtain ⟨meth, c, locs, X, -, -, -, hx, hb, -⟩ := X; subst hb
  exact k.go fun _ => XS.istore X.here hx (g := mkF m pc Ls (.int v :: st)) rfl hd rfl hl
theorem E_lloadN (X : Sd l Z own nm bytes ml ret R p e s m args below T h cells slots) {i : Fin 4} {v : Int64} (hd : decode bytes pc = .ok (.lload_n i, 1)) (hp : pc + 1 = pc') (hl : Ls[i.val]? = some (.val (.long v))) (k : End Z p e below s Q kc ks T (mkF m pc' Ls (.long v :: st))) : End Z p e below s Q kc ks T (mkF m pc Ls st) := by
  subst hp; obtain ⟨meth, c, locs, X, -, -, -, hx, hb, -⟩ := X; subst hb
  exact k.go fun _ => XS.lloadN X.here hx (g := mkF m pc Ls st) rfl hd hl
theorem E_lload (X : Sd l Z own nm bytes ml ret R p e s m args below T h cells slots) {i : Nat} {v : Int64} (hd : decode bytes pc = .ok (.lload i, 2)) (hp : pc + 2 = pc') (hl : Ls[i]? = some (.val (.long v))) (k : End Z p e below s Q kc ks T (mkF m pc' Ls (.long v :: st))) : End Z p e below s Q kc ks T (mkF m pc Ls st) := by
  subst hp; obtain ⟨meth, c, locs, X, -, -, -, hx, hb, -⟩ := X; subst hb
  exact k.go fun _ => XS.lload X.here hx (g := mkF m pc Ls st) rfl hd hl
theorem E_lstoreN (X : Sd l Z own nm bytes ml ret R p e s m args below T h cells slots) {i : Fin 4} {v : Int64} {Ls' : Array Slot} (hd : decode bytes pc = .ok (.lstore_n i, 1)) (hp : pc + 1 = pc') (hl : storeLocals Ls i.val (.long v) = some Ls') (k : End Z p e below s Q kc ks T (mkF m pc' Ls' st)) : End Z p e below s Q kc ks T (mkF m pc Ls (.long v :: st)) := by
  subst hp; obtain ⟨meth, c, locs, X, -, -, -, hx, hb, -⟩ := X; subst hb
  exact k.go fun _ => XS.lstoreN X.here hx (g := mkF m pc Ls (.long v :: st)) rfl hd rfl hl
theorem E_lstore (X : Sd l Z own nm bytes ml ret R p e s m args below T h cells slots) {i : Nat} {v : Int64} {Ls' : Array Slot} (hd : decode bytes pc = .ok (.lstore i, 2)) (hp : pc + 2 = pc') (hl : storeLocals Ls i (.long v) = some Ls') (k : End Z p e below s Q kc ks T (mkF m pc' Ls' st)) : End Z p e below s Q kc ks T (mkF m pc Ls (.long v :: st)) := by
  subst hp; obtain ⟨meth, c, locs, X, -, -, -, hx, hb, -⟩ := X; subst hb
  exact k.go fun _ => XS.lstore X.here hx (g := mkF m pc Ls (.long v :: st)) rfl hd rfl hl
theorem E_aloadN (X : Sd l Z own nm bytes ml ret R p e s m args below T h cells slots) {i : Fin 4} {v : Value} (hd : decode bytes pc = .ok (.aload_n i, 1)) (hp : pc + 1 = pc') (hl : Ls[i.val]? = some (.val v)) (hv : v.isRef = true) (k : End Z p e below s Q kc ks T (mkF m pc' Ls (v :: st))) : End Z p e below s Q kc ks T (mkF m pc Ls st) := by
  subst hp; obtain ⟨meth, c, locs, X, -, -, -, hx, hb, -⟩ := X; subst hb
  exact k.go fun _ => XS.aloadN X.here hx (g := mkF m pc Ls st) rfl hd hl hv
theorem E_aload (X : Sd l Z own nm bytes ml ret R p e s m args below T h cells slots) {i : Nat} {v : Value} (hd : decode bytes pc = .ok (.aload i, 2)) (hp : pc + 2 = pc') (hl : Ls[i]? = some (.val v)) (hv : v.isRef = true) (k : End Z p e below s Q kc ks T (mkF m pc' Ls (v :: st))) : End Z p e below s Q kc ks T (mkF m pc Ls st) := by
  subst hp; obtain ⟨meth, c, locs, X, -, -, -, hx, hb, -⟩ := X; subst hb
  exact k.go fun _ => XS.aload X.here hx (g := mkF m pc Ls st) rfl hd hl hv
theorem E_astoreN (X : Sd l Z own nm bytes ml ret R p e s m args below T h cells slots) {i : Fin 4} {v : Value} {Ls' : Array Slot} (hd : decode bytes pc = .ok (.astore_n i, 1)) (hp : pc + 1 = pc') (hv : v.isRef = true) (hl : storeLocals Ls i.val v = some Ls') (k : End Z p e below s Q kc ks T (mkF m pc' Ls' st)) : End Z p e below s Q kc ks T (mkF m pc Ls (v :: st)) := by
  subst hp; obtain ⟨meth, c, locs, X, -, -, -, hx, hb, -⟩ := X; subst hb
  exact k.go fun _ => XS.astoreN X.here hx (g := mkF m pc Ls (v :: st)) rfl hd rfl hv hl
theorem E_astore (X : Sd l Z own nm bytes ml ret R p e s m args below T h cells slots) {i : Nat} {v : Value} {Ls' : Array Slot} (hd : decode bytes pc = .ok (.astore i, 2)) (hp : pc + 2 = pc') (hv : v.isRef = true) (hl : storeLocals Ls i v = some Ls') (k : End Z p e below s Q kc ks T (mkF m pc' Ls' st)) : End Z p e below s Q kc ks T (mkF m pc Ls (v :: st)) := by
  subst hp; obtain ⟨meth, c, locs, X, -, -, -, hx, hb, -⟩ := X; subst hb
  exact k.go fun _ => XS.astore X.here hx (g := mkF m pc Ls (v :: st)) rfl hd rfl hv hl
theorem E_iconst (X : Sd l Z own nm bytes ml ret R p e s m args below T h cells slots) {i : Int} {v : Int32} (hd : decode bytes pc = .ok (.iconst i, 1)) (hp : pc + 1 = pc') (hv : Int32.ofInt i = v) (k : End Z p e below s Q kc ks T (mkF m pc' Ls (.int v :: st))) : End Z p e below s Q kc ks T (mkF m pc Ls st) := by
  subst hp; obtain ⟨meth, c, locs, X, -, -, -, hx, hb, -⟩ := X; subst hb
  exact k.go fun _ => by subst hv; exact XS.iconst X.here hx (g := mkF m pc Ls st) rfl hd
theorem E_bipush (X : Sd l Z own nm bytes ml ret R p e s m args below T h cells slots) {i : Int} {v : Int32} (hd : decode bytes pc = .ok (.bipush i, 2)) (hp : pc + 2 = pc') (hv : (Int8.ofInt i).toInt32 = v) (k : End Z p e below s Q kc ks T (mkF m pc' Ls (.int v :: st))) : End Z p e below s Q kc ks T (mkF m pc Ls st) := by
  subst hp; obtain ⟨meth, c, locs, X, -, -, -, hx, hb, -⟩ := X; subst hb
  exact k.go fun _ => by subst hv; exact XS.bipush X.here hx (g := mkF m pc Ls st) rfl hd
theorem E_sipush (X : Sd l Z own nm bytes ml ret R p e s m args below T h cells slots) {i : Int} {v : Int32} (hd : decode bytes pc = .ok (.sipush i, 3)) (hp : pc + 3 = pc') (hv : (Int16.ofInt i).toInt32 = v) (k : End Z p e below s Q kc ks T (mkF m pc' Ls (.int v :: st))) : End Z p e below s Q kc ks T (mkF m pc Ls st) := by
  subst hp; obtain ⟨meth, c, locs, X, -, -, -, hx, hb, -⟩ := X; subst hb
  exact k.go fun _ => by subst hv; exact XS.sipush X.here hx (g := mkF m pc Ls st) rfl hd
theorem E_lconst (X : Sd l Z own nm bytes ml ret R p e s m args below T h cells slots) {i : Fin 2} {v : Int64} (hd : decode bytes pc = .ok (.lconst i, 1)) (hp : pc + 1 = pc') (hv : Int64.ofNat i = v) (k : End Z p e below s Q kc ks T (mkF m pc' Ls (.long v :: st))) : End Z p e below s Q kc ks T (mkF m pc Ls st) := by
  subst hp; obtain ⟨meth, c, locs, X, -, -, -, hx, hb, -⟩ := X; subst hb
  exact k.go fun _ => by subst hv; exact XS.lconst X.here hx (g := mkF m pc Ls st) rfl hd
theorem E_null (X : Sd l Z own nm bytes ml ret R p e s m args below T h cells slots)  (hd : decode bytes pc = .ok (.aconst_null, 1)) (hp : pc + 1 = pc') (k : End Z p e below s Q kc ks T (mkF m pc' Ls (.null :: st))) : End Z p e below s Q kc ks T (mkF m pc Ls st) := by
  subst hp; obtain ⟨meth, c, locs, X, -, -, -, hx, hb, -⟩ := X; subst hb
  exact k.go fun _ => XS.aconstNull X.here hx (g := mkF m pc Ls st) rfl hd
theorem E_iadd (X : Sd l Z own nm bytes ml ret R p e s m args below T h cells slots) {x y : Int32} (hd : decode bytes pc = .ok (.iadd, 1)) (hp : pc + 1 = pc') (k : End Z p e below s Q kc ks T (mkF m pc' Ls (.int (x + y) :: st))) : End Z p e below s Q kc ks T (mkF m pc Ls (.int y :: .int x :: st)) := by
  subst hp; obtain ⟨meth, c, locs, X, -, -, -, hx, hb, -⟩ := X; subst hb
  exact k.go fun _ => XS.iadd X.here hx (g := mkF m pc Ls (.int y :: .int x :: st)) rfl hd rfl
theorem E_isub (X : Sd l Z own nm bytes ml ret R p e s m args below T h cells slots) {x y : Int32} (hd : decode bytes pc = .ok (.isub, 1)) (hp : pc + 1 = pc') (k : End Z p e below s Q kc ks T (mkF m pc' Ls (.int (x - y) :: st))) : End Z p e below s Q kc ks T (mkF m pc Ls (.int y :: .int x :: st)) := by
  subst hp; obtain ⟨meth, c, locs, X, -, -, -, hx, hb, -⟩ := X; subst hb
  exact k.go fun _ => XS.isub X.here hx (g := mkF m pc Ls (.int y :: .int x :: st)) rfl hd rfl
theorem E_imul (X : Sd l Z own nm bytes ml ret R p e s m args below T h cells slots) {x y : Int32} (hd : decode bytes pc = .ok (.imul, 1)) (hp : pc + 1 = pc') (k : End Z p e below s Q kc ks T (mkF m pc' Ls (.int (x * y) :: st))) : End Z p e below s Q kc ks T (mkF m pc Ls (.int y :: .int x :: st)) := by
  subst hp; obtain ⟨meth, c, locs, X, -, -, -, hx, hb, -⟩ := X; subst hb
  exact k.go fun _ => XS.imul X.here hx (g := mkF m pc Ls (.int y :: .int x :: st)) rfl hd rfl
theorem E_iand (X : Sd l Z own nm bytes ml ret R p e s m args below T h cells slots) {x y : Int32} (hd : decode bytes pc = .ok (.iand, 1)) (hp : pc + 1 = pc') (k : End Z p e below s Q kc ks T (mkF m pc' Ls (.int (x &&& y) :: st))) : End Z p e below s Q kc ks T (mkF m pc Ls (.int y :: .int x :: st)) := by
  subst hp; obtain ⟨meth, c, locs, X, -, -, -, hx, hb, -⟩ := X; subst hb
  exact k.go fun _ => XS.iand X.here hx (g := mkF m pc Ls (.int y :: .int x :: st)) rfl hd rfl
theorem E_ior (X : Sd l Z own nm bytes ml ret R p e s m args below T h cells slots) {x y : Int32} (hd : decode bytes pc = .ok (.ior, 1)) (hp : pc + 1 = pc') (k : End Z p e below s Q kc ks T (mkF m pc' Ls (.int (x ||| y) :: st))) : End Z p e below s Q kc ks T (mkF m pc Ls (.int y :: .int x :: st)) := by
  subst hp; obtain ⟨meth, c, locs, X, -, -, -, hx, hb, -⟩ := X; subst hb
  exact k.go fun _ => XS.ior X.here hx (g := mkF m pc Ls (.int y :: .int x :: st)) rfl hd rfl
theorem E_ixor (X : Sd l Z own nm bytes ml ret R p e s m args below T h cells slots) {x y : Int32} (hd : decode bytes pc = .ok (.ixor, 1)) (hp : pc + 1 = pc') (k : End Z p e below s Q kc ks T (mkF m pc' Ls (.int (x ^^^ y) :: st))) : End Z p e below s Q kc ks T (mkF m pc Ls (.int y :: .int x :: st)) := by
  subst hp; obtain ⟨meth, c, locs, X, -, -, -, hx, hb, -⟩ := X; subst hb
  exact k.go fun _ => XS.ixor X.here hx (g := mkF m pc Ls (.int y :: .int x :: st)) rfl hd rfl
theorem E_idiv (X : Sd l Z own nm bytes ml ret R p e s m args below T h cells slots) {x y : Int32} (hd : decode bytes pc = .ok (.idiv, 1)) (hp : pc + 1 = pc') (hy : y ≠ 0) (k : End Z p e below s Q kc ks T (mkF m pc' Ls (.int (x / y) :: st))) : End Z p e below s Q kc ks T (mkF m pc Ls (.int y :: .int x :: st)) := by
  subst hp; obtain ⟨meth, c, locs, X, -, -, -, hx, hb, -⟩ := X; subst hb
  exact k.go fun _ => XS.idiv X.here hx (g := mkF m pc Ls (.int y :: .int x :: st)) rfl hd rfl hy
theorem E_ineg (X : Sd l Z own nm bytes ml ret R p e s m args below T h cells slots) {x : Int32} (hd : decode bytes pc = .ok (.ineg, 1)) (hp : pc + 1 = pc') (k : End Z p e below s Q kc ks T (mkF m pc' Ls (.int (-x) :: st))) : End Z p e below s Q kc ks T (mkF m pc Ls (.int x :: st)) := by
  subst hp; obtain ⟨meth, c, locs, X, -, -, -, hx, hb, -⟩ := X; subst hb
  exact k.go fun _ => XS.ineg X.here hx (g := mkF m pc Ls (.int x :: st)) rfl hd rfl
theorem E_ladd (X : Sd l Z own nm bytes ml ret R p e s m args below T h cells slots) {x y : Int64} (hd : decode bytes pc = .ok (.ladd, 1)) (hp : pc + 1 = pc') (k : End Z p e below s Q kc ks T (mkF m pc' Ls (.long (x + y) :: st))) : End Z p e below s Q kc ks T (mkF m pc Ls (.long y :: .long x :: st)) := by
  subst hp; obtain ⟨meth, c, locs, X, -, -, -, hx, hb, -⟩ := X; subst hb
  exact k.go fun _ => XS.ladd X.here hx (g := mkF m pc Ls (.long y :: .long x :: st)) rfl hd rfl
theorem E_lsub (X : Sd l Z own nm bytes ml ret R p e s m args below T h cells slots) {x y : Int64} (hd : decode bytes pc = .ok (.lsub, 1)) (hp : pc + 1 = pc') (k : End Z p e below s Q kc ks T (mkF m pc' Ls (.long (x - y) :: st))) : End Z p e below s Q kc ks T (mkF m pc Ls (.long y :: .long x :: st)) := by
  subst hp; obtain ⟨meth, c, locs, X, -, -, -, hx, hb, -⟩ := X; subst hb
  exact k.go fun _ => XS.lsub X.here hx (g := mkF m pc Ls (.long y :: .long x :: st)) rfl hd rfl
theorem E_lmul (X : Sd l Z own nm bytes ml ret R p e s m args below T h cells slots) {x y : Int64} (hd : decode bytes pc = .ok (.lmul, 1)) (hp : pc + 1 = pc') (k : End Z p e below s Q kc ks T (mkF m pc' Ls (.long (x * y) :: st))) : End Z p e below s Q kc ks T (mkF m pc Ls (.long y :: .long x :: st)) := by
  subst hp; obtain ⟨meth, c, locs, X, -, -, -, hx, hb, -⟩ := X; subst hb
  exact k.go fun _ => XS.lmul X.here hx (g := mkF m pc Ls (.long y :: .long x :: st)) rfl hd rfl
theorem E_land (X : Sd l Z own nm bytes ml ret R p e s m args below T h cells slots) {x y : Int64} (hd : decode bytes pc = .ok (.land, 1)) (hp : pc + 1 = pc') (k : End Z p e below s Q kc ks T (mkF m pc' Ls (.long (x &&& y) :: st))) : End Z p e below s Q kc ks T (mkF m pc Ls (.long y :: .long x :: st)) := by
  subst hp; obtain ⟨meth, c, locs, X, -, -, -, hx, hb, -⟩ := X; subst hb
  exact k.go fun _ => XS.land X.here hx (g := mkF m pc Ls (.long y :: .long x :: st)) rfl hd rfl
theorem E_lor (X : Sd l Z own nm bytes ml ret R p e s m args below T h cells slots) {x y : Int64} (hd : decode bytes pc = .ok (.lor, 1)) (hp : pc + 1 = pc') (k : End Z p e below s Q kc ks T (mkF m pc' Ls (.long (x ||| y) :: st))) : End Z p e below s Q kc ks T (mkF m pc Ls (.long y :: .long x :: st)) := by
  subst hp; obtain ⟨meth, c, locs, X, -, -, -, hx, hb, -⟩ := X; subst hb
  exact k.go fun _ => XS.lor X.here hx (g := mkF m pc Ls (.long y :: .long x :: st)) rfl hd rfl
theorem E_lxor (X : Sd l Z own nm bytes ml ret R p e s m args below T h cells slots) {x y : Int64} (hd : decode bytes pc = .ok (.lxor, 1)) (hp : pc + 1 = pc') (k : End Z p e below s Q kc ks T (mkF m pc' Ls (.long (x ^^^ y) :: st))) : End Z p e below s Q kc ks T (mkF m pc Ls (.long y :: .long x :: st)) := by
  subst hp; obtain ⟨meth, c, locs, X, -, -, -, hx, hb, -⟩ := X; subst hb
  exact k.go fun _ => XS.lxor X.here hx (g := mkF m pc Ls (.long y :: .long x :: st)) rfl hd rfl
theorem E_ldiv (X : Sd l Z own nm bytes ml ret R p e s m args below T h cells slots) {x y : Int64} (hd : decode bytes pc = .ok (.ldiv, 1)) (hp : pc + 1 = pc') (hy : y ≠ 0) (k : End Z p e below s Q kc ks T (mkF m pc' Ls (.long (x / y) :: st))) : End Z p e below s Q kc ks T (mkF m pc Ls (.long y :: .long x :: st)) := by
  subst hp; obtain ⟨meth, c, locs, X, -, -, -, hx, hb, -⟩ := X; subst hb
  exact k.go fun _ => XS.ldiv X.here hx (g := mkF m pc Ls (.long y :: .long x :: st)) rfl hd rfl hy
theorem E_lneg (X : Sd l Z own nm bytes ml ret R p e s m args below T h cells slots) {x : Int64} (hd : decode bytes pc = .ok (.lneg, 1)) (hp : pc + 1 = pc') (k : End Z p e below s Q kc ks T (mkF m pc' Ls (.long (-x) :: st))) : End Z p e below s Q kc ks T (mkF m pc Ls (.long x :: st)) := by
  subst hp; obtain ⟨meth, c, locs, X, -, -, -, hx, hb, -⟩ := X; subst hb
  exact k.go fun _ => XS.lneg X.here hx (g := mkF m pc Ls (.long x :: st)) rfl hd rfl
theorem E_irem (X : Sd l Z own nm bytes ml ret R p e s m args below T h cells slots) {x y : Int32} (hd : decode bytes pc = .ok (.irem, 1)) (hp : pc + 1 = pc') (hy : y ≠ 0) (k : End Z p e below s Q kc ks T (mkF m pc' Ls (.int (x % y) :: st))) : End Z p e below s Q kc ks T (mkF m pc Ls (.int y :: .int x :: st)) := by
  subst hp; obtain ⟨meth, c, locs, X, -, -, -, hx, hb, -⟩ := X; subst hb
  exact k.go fun _ => iremM X hx (g := mkF m pc Ls (.int y :: .int x :: st)) rfl hd rfl hy
theorem E_lrem (X : Sd l Z own nm bytes ml ret R p e s m args below T h cells slots) {x y : Int64} (hd : decode bytes pc = .ok (.lrem, 1)) (hp : pc + 1 = pc') (hy : y ≠ 0) (k : End Z p e below s Q kc ks T (mkF m pc' Ls (.long (x % y) :: st))) : End Z p e below s Q kc ks T (mkF m pc Ls (.long y :: .long x :: st)) := by
  subst hp; obtain ⟨meth, c, locs, X, -, -, -, hx, hb, -⟩ := X; subst hb
  exact k.go fun _ => fun hr => XS.lrem X.here hx (g := mkF m pc Ls (.long y :: .long x :: st)) rfl hd rfl hy (by rw [lrem_mod x y]; exact hr)
theorem E_ishl (X : Sd l Z own nm bytes ml ret R p e s m args below T h cells slots) {x y : Int32} (hd : decode bytes pc = .ok (.ishl, 1)) (hp : pc + 1 = pc') (k : End Z p e below s Q kc ks T (mkF m pc' Ls (.int (x <<< (y &&& 31)) :: st))) : End Z p e below s Q kc ks T (mkF m pc Ls (.int y :: .int x :: st)) := by
  subst hp; obtain ⟨meth, c, locs, X, -, -, -, hx, hb, -⟩ := X; subst hb
  exact k.go fun _ => XS.ishl X.here hx (g := mkF m pc Ls (.int y :: .int x :: st)) rfl hd rfl
theorem E_ishr (X : Sd l Z own nm bytes ml ret R p e s m args below T h cells slots) {x y : Int32} (hd : decode bytes pc = .ok (.ishr, 1)) (hp : pc + 1 = pc') (k : End Z p e below s Q kc ks T (mkF m pc' Ls (.int (x >>> (y &&& 31)) :: st))) : End Z p e below s Q kc ks T (mkF m pc Ls (.int y :: .int x :: st)) := by
  subst hp; obtain ⟨meth, c, locs, X, -, -, -, hx, hb, -⟩ := X; subst hb
  exact k.go fun _ => XS.ishr X.here hx (g := mkF m pc Ls (.int y :: .int x :: st)) rfl hd rfl
theorem E_iushr (X : Sd l Z own nm bytes ml ret R p e s m args below T h cells slots) {x y : Int32} (hd : decode bytes pc = .ok (.iushr, 1)) (hp : pc + 1 = pc') (k : End Z p e below s Q kc ks T (mkF m pc' Ls (.int ((x.toUInt32 >>> (y &&& 31).toUInt32).toInt32) :: st))) : End Z p e below s Q kc ks T (mkF m pc Ls (.int y :: .int x :: st)) := by
  subst hp; obtain ⟨meth, c, locs, X, -, -, -, hx, hb, -⟩ := X; subst hb
  exact k.go fun _ => XS.iushr X.here hx (g := mkF m pc Ls (.int y :: .int x :: st)) rfl hd rfl
theorem E_lshl (X : Sd l Z own nm bytes ml ret R p e s m args below T h cells slots) {x : Int64} {y : Int32} (hd : decode bytes pc = .ok (.lshl, 1)) (hp : pc + 1 = pc') (k : End Z p e below s Q kc ks T (mkF m pc' Ls (.long (x <<< (y &&& 0x3f).toInt64) :: st))) : End Z p e below s Q kc ks T (mkF m pc Ls (.int y :: .long x :: st)) := by
  subst hp; obtain ⟨meth, c, locs, X, -, -, -, hx, hb, -⟩ := X; subst hb
  exact k.go fun _ => XS.lshl X.here hx (g := mkF m pc Ls (.int y :: .long x :: st)) rfl hd rfl
theorem E_lshr (X : Sd l Z own nm bytes ml ret R p e s m args below T h cells slots) {x : Int64} {y : Int32} (hd : decode bytes pc = .ok (.lshr, 1)) (hp : pc + 1 = pc') (k : End Z p e below s Q kc ks T (mkF m pc' Ls (.long (x >>> (y &&& 0x3f).toInt64) :: st))) : End Z p e below s Q kc ks T (mkF m pc Ls (.int y :: .long x :: st)) := by
  subst hp; obtain ⟨meth, c, locs, X, -, -, -, hx, hb, -⟩ := X; subst hb
  exact k.go fun _ => XS.lshr X.here hx (g := mkF m pc Ls (.int y :: .long x :: st)) rfl hd rfl
theorem E_lushr (X : Sd l Z own nm bytes ml ret R p e s m args below T h cells slots) {x : Int64} {y : Int32} (hd : decode bytes pc = .ok (.lushr, 1)) (hp : pc + 1 = pc') (k : End Z p e below s Q kc ks T (mkF m pc' Ls (.long ((x.toUInt64 >>> (y &&& 0x3f).toInt64.toUInt64).toInt64) :: st))) : End Z p e below s Q kc ks T (mkF m pc Ls (.int y :: .long x :: st)) := by
  subst hp; obtain ⟨meth, c, locs, X, -, -, -, hx, hb, -⟩ := X; subst hb
  exact k.go fun _ => XS.lushr X.here hx (g := mkF m pc Ls (.int y :: .long x :: st)) rfl hd rfl
theorem E_i2l (X : Sd l Z own nm bytes ml ret R p e s m args below T h cells slots) {x : Int32} (hd : decode bytes pc = .ok (.i2l, 1)) (hp : pc + 1 = pc') (k : End Z p e below s Q kc ks T (mkF m pc' Ls (.long (x.toInt64) :: st))) : End Z p e below s Q kc ks T (mkF m pc Ls (.int x :: st)) := by
  subst hp; obtain ⟨meth, c, locs, X, -, -, -, hx, hb, -⟩ := X; subst hb
  exact k.go fun _ => XS.i2l X.here hx (g := mkF m pc Ls (.int x :: st)) rfl hd rfl
theorem E_l2i (X : Sd l Z own nm bytes ml ret R p e s m args below T h cells slots) {x : Int64} (hd : decode bytes pc = .ok (.l2i, 1)) (hp : pc + 1 = pc') (k : End Z p e below s Q kc ks T (mkF m pc' Ls (.int (x.toInt32) :: st))) : End Z p e below s Q kc ks T (mkF m pc Ls (.long x :: st)) := by
  subst hp; obtain ⟨meth, c, locs, X, -, -, -, hx, hb, -⟩ := X; subst hb
  exact k.go fun _ => XS.l2i X.here hx (g := mkF m pc Ls (.long x :: st)) rfl hd rfl
theorem E_i2b (X : Sd l Z own nm bytes ml ret R p e s m args below T h cells slots) {x : Int32} (hd : decode bytes pc = .ok (.i2b, 1)) (hp : pc + 1 = pc') (k : End Z p e below s Q kc ks T (mkF m pc' Ls (.int (x.toInt8.toInt32) :: st))) : End Z p e below s Q kc ks T (mkF m pc Ls (.int x :: st)) := by
  subst hp; obtain ⟨meth, c, locs, X, -, -, -, hx, hb, -⟩ := X; subst hb
  exact k.go fun _ => XS.i2b X.here hx (g := mkF m pc Ls (.int x :: st)) rfl hd rfl
theorem E_i2c (X : Sd l Z own nm bytes ml ret R p e s m args below T h cells slots) {x : Int32} (hd : decode bytes pc = .ok (.i2c, 1)) (hp : pc + 1 = pc') (k : End Z p e below s Q kc ks T (mkF m pc' Ls (.int (x.toUInt32.toUInt16.toUInt32.toInt32) :: st))) : End Z p e below s Q kc ks T (mkF m pc Ls (.int x :: st)) := by
  subst hp; obtain ⟨meth, c, locs, X, -, -, -, hx, hb, -⟩ := X; subst hb
  exact k.go fun _ => XS.i2c X.here hx (g := mkF m pc Ls (.int x :: st)) rfl hd rfl
theorem E_i2s (X : Sd l Z own nm bytes ml ret R p e s m args below T h cells slots) {x : Int32} (hd : decode bytes pc = .ok (.i2s, 1)) (hp : pc + 1 = pc') (k : End Z p e below s Q kc ks T (mkF m pc' Ls (.int (x.toInt16.toInt32) :: st))) : End Z p e below s Q kc ks T (mkF m pc Ls (.int x :: st)) := by
  subst hp; obtain ⟨meth, c, locs, X, -, -, -, hx, hb, -⟩ := X; subst hb
  exact k.go fun _ => XS.i2s X.here hx (g := mkF m pc Ls (.int x :: st)) rfl hd rfl
theorem E_lcmp (X : Sd l Z own nm bytes ml ret R p e s m args below T h cells slots) {x y : Int64} (hd : decode bytes pc = .ok (.lcmp, 1)) (hp : pc + 1 = pc') (k : End Z p e below s Q kc ks T (mkF m pc' Ls (.int (lcmpW x y) :: st))) : End Z p e below s Q kc ks T (mkF m pc Ls (.long y :: .long x :: st)) := by
  subst hp; obtain ⟨meth, c, locs, X, -, -, -, hx, hb, -⟩ := X; subst hb
  exact k.go fun _ => XS.lcmp X.here hx (g := mkF m pc Ls (.long y :: .long x :: st)) rfl hd rfl
theorem E_iinc (X : Sd l Z own nm bytes ml ret R p e s m args below T h cells slots) {i : Nat} {cst : Int} {x z : Int32} {Ls' : Array Slot} (hd : decode bytes pc = .ok (.iinc i cst, 3)) (hp : pc + 3 = pc') (hl : Ls[i]? = some (.val (.int x))) (hz : x + Int32.ofInt cst = z) (hl' : storeLocals Ls i (.int z) = some Ls') (k : End Z p e below s Q kc ks T (mkF m pc' Ls' st)) : End Z p e below s Q kc ks T (mkF m pc Ls st) := by
  subst hp; obtain ⟨meth, c, locs, X, -, -, -, hx, hb, -⟩ := X; subst hb
  exact k.go fun _ => by subst hz; exact XS.iinc X.here hx (g := mkF m pc Ls st) rfl hd hl hl'
theorem E_dup (X : Sd l Z own nm bytes ml ret R p e s m args below T h cells slots) {v : Value} (hd : decode bytes pc = .ok (.dup, 1)) (hp : pc + 1 = pc') (hc : v.category = 1) (k : End Z p e below s Q kc ks T (mkF m pc' Ls (v :: v :: st))) : End Z p e below s Q kc ks T (mkF m pc Ls (v :: st)) := by
  subst hp; obtain ⟨meth, c, locs, X, -, -, -, hx, hb, -⟩ := X; subst hb
  exact k.go fun _ => XS.dup X.here hx (g := mkF m pc Ls (v :: st)) rfl hd rfl hc
theorem E_pop (X : Sd l Z own nm bytes ml ret R p e s m args below T h cells slots) {v : Value} (hd : decode bytes pc = .ok (.pop, 1)) (hp : pc + 1 = pc') (hc : v.category = 1) (k : End Z p e below s Q kc ks T (mkF m pc' Ls st)) : End Z p e below s Q kc ks T (mkF m pc Ls (v :: st)) := by
  subst hp; obtain ⟨meth, c, locs, X, -, -, -, hx, hb, -⟩ := X; subst hb
  exact k.go fun _ => XS.pop X.here hx (g := mkF m pc Ls (v :: st)) rfl hd rfl hc
theorem E_dup_x1 (X : Sd l Z own nm bytes ml ret R p e s m args below T h cells slots) {v w : Value} (hd : decode bytes pc = .ok (.dup_x1, 1)) (hp : pc + 1 = pc') (hc : v.category = 1) (hc' : w.category = 1) (k : End Z p e below s Q kc ks T (mkF m pc' Ls (v :: w :: v :: st))) : End Z p e below s Q kc ks T (mkF m pc Ls (v :: w :: st)) := by
  subst hp; obtain ⟨meth, c, locs, X, -, -, -, hx, hb, -⟩ := X; subst hb
  exact k.go fun _ => XS.dupX1 X.here hx (g := mkF m pc Ls (v :: w :: st)) rfl hd rfl hc hc'
theorem E_dup2 (X : Sd l Z own nm bytes ml ret R p e s m args below T h cells slots) {v w : Value} (hd : decode bytes pc = .ok (.dup2, 1)) (hp : pc + 1 = pc') (hc : v.category = 1) (hc' : w.category = 1) (k : End Z p e below s Q kc ks T (mkF m pc' Ls (v :: w :: v :: w :: st))) : End Z p e below s Q kc ks T (mkF m pc Ls (v :: w :: st)) := by
  subst hp; obtain ⟨meth, c, locs, X, -, -, -, hx, hb, -⟩ := X; subst hb
  exact k.go fun _ => XT.dup2 X.here hx (g := mkF m pc Ls (v :: w :: st)) rfl hd rfl hc hc'
theorem E_dup2L (X : Sd l Z own nm bytes ml ret R p e s m args below T h cells slots) {x : Int64} (hd : decode bytes pc = .ok (.dup2, 1)) (hp : pc + 1 = pc') (k : End Z p e below s Q kc ks T (mkF m pc' Ls (.long x :: .long x :: st))) : End Z p e below s Q kc ks T (mkF m pc Ls (.long x :: st)) := by
  subst hp; obtain ⟨meth, c, locs, X, -, -, -, hx, hb, -⟩ := X; subst hb
  exact k.go fun _ => XT.dup2L X.here hx (g := mkF m pc Ls (.long x :: st)) rfl hd rfl
theorem E_goto (X : Sd l Z own nm bytes ml ret R p e s m args below T h cells slots) {o : Int} (hd : decode bytes pc = .ok (.goto o, 3)) (ho : 0 ≤ (pc : Int) + o) (hp : ((pc : Int) + o).toNat = pc') (k : End Z p e below s Q kc ks T (mkF m pc' Ls st)) : End Z p e below s Q kc ks T (mkF m pc Ls st) := by
  obtain ⟨meth, c, locs, X, -, -, -, hx, hb, -⟩ := X; subst hb
  exact k.go fun _ => XS.goto X.here hx (g := mkF m pc Ls st) rfl rfl hd ho hp
theorem E_if (X : Sd l Z own nm bytes ml ret R p e s m args below T h cells slots) {cd : ClassFile.Cond} {o : Int} {x : Int32} {P : Prop} [Decidable P] (hP : ifCond.holds cd x = decide P) (hd : decode bytes pc = .ok (.ifCond cd o, 3)) {pcY pcN : Nat} (ho : 0 ≤ (pc : Int) + o) (hY : ((pc : Int) + o).toNat = pcY) (hN : pc + 3 = pcN)
    (kY : P → End Z p e below s Q kc ks T (mkF m pcY Ls st)) (kN : ¬ P → End Z p e below s Q kc ks T (mkF m pcN Ls st)) : End Z p e below s Q kc ks T (mkF m pc Ls (.int x :: st)) := by
  obtain ⟨meth, c, locs, X, -, -, -, hx, hb, -⟩ := X; subst hb hN
  by_cases q : P
  · exact (kY q).go fun _ => XS.ifYes X.here hx (g := mkF m pc Ls (.int x :: st)) rfl rfl hd rfl (by rw [hP]; simp [q]) ho hY
  · exact (kN q).go fun _ => XS.ifNo X.here hx (g := mkF m pc Ls (.int x :: st)) rfl hd rfl (by rw [hP]; simp [q])
theorem E_icmp (X : Sd l Z own nm bytes ml ret R p e s m args below T h cells slots) {cd : ClassFile.Cond} {o : Int} {x y : Int32} {P : Prop} [Decidable P] (hP : if_icmp.holds cd x y = decide P) (hd : decode bytes pc = .ok (.if_icmp cd o, 3)) {pcY pcN : Nat} (ho : 0 ≤ (pc : Int) + o) (hY : ((pc : Int) + o).toNat = pcY) (hN : pc + 3 = pcN)
    (kY : P → End Z p e below s Q kc ks T (mkF m pcY Ls st)) (kN : ¬ P → End Z p e below s Q kc ks T (mkF m pcN Ls st)) : End Z p e below s Q kc ks T (mkF m pc Ls (.int y :: .int x :: st)) := by
  obtain ⟨meth, c, locs, X, -, -, -, hx, hb, -⟩ := X; subst hb hN
  by_cases q : P
  · exact (kY q).go fun _ => XS.icmpYes X.here hx (g := mkF m pc Ls (.int y :: .int x :: st)) rfl rfl hd rfl (by rw [hP]; simp [q]) ho hY
  · exact (kN q).go fun _ => XS.icmpNo X.here hx (g := mkF m pc Ls (.int y :: .int x :: st)) rfl hd rfl (by rw [hP]; simp [q])
theorem ic_lt (x y : Int32) : if_icmp.holds .lt x y = decide (x < y) := by
  by_cases q : x < y
  · rw [(tlt q).1]; simp [q]
  · rw [(flt q).1]; simp [q]
theorem ic_ge (x y : Int32) : if_icmp.holds .ge x y = decide (¬ x < y) := by
  by_cases q : x < y
  · rw [(tlt q).2.1]; simp [q]
  · rw [(flt q).2.1]; simp [q]
theorem ic_gt (x y : Int32) : if_icmp.holds .gt x y = decide (y < x) := by
  by_cases q : y < x
  · rw [(tlt q).2.2.1]; simp [q]
  · rw [(flt q).2.2.1]; simp [q]
theorem ic_le (x y : Int32) : if_icmp.holds .le x y = decide (¬ y < x) := by
  by_cases q : y < x
  · rw [(tlt q).2.2.2]; simp [q]
  · rw [(flt q).2.2.2]; simp [q]
theorem ic_eq (x y : Int32) : if_icmp.holds .eq x y = decide (x = y) := by
  by_cases q : x = y
  · rw [(teq q).1]; simp [q]
  · rw [(feq q).1]; simp [q]
theorem ic_ne (x y : Int32) : if_icmp.holds .ne x y = decide (¬ x = y) := by
  by_cases q : x = y
  · rw [(teq q).2]; simp [q]
  · rw [(feq q).2]; simp [q]
theorem i0_lt (x : Int32) : ifCond.holds .lt x = decide (x < 0) := (if0 _ _).trans (ic_lt _ _)
theorem i0_ge (x : Int32) : ifCond.holds .ge x = decide (¬ x < 0) := (if0 _ _).trans (ic_ge _ _)
theorem i0_gt (x : Int32) : ifCond.holds .gt x = decide (0 < x) := (if0 _ _).trans (ic_gt _ _)
theorem i0_le (x : Int32) : ifCond.holds .le x = decide (¬ 0 < x) := (if0 _ _).trans (ic_le _ _)
theorem i0_eq (x : Int32) : ifCond.holds .eq x = decide (x = 0) := (if0 _ _).trans (ic_eq _ _)
theorem i0_ne (x : Int32) : ifCond.holds .ne x = decide (¬ x = 0) := (if0 _ _).trans (ic_ne _ _)
theorem il_lt (x y : Int64) : ifCond.holds .lt (lcmpW x y) = decide (x < y) := (i0_lt _).trans (by simp only [lw_lt])
theorem il_ge (x y : Int64) : ifCond.holds .ge (lcmpW x y) = decide (¬ x < y) := (i0_ge _).trans (by simp only [lw_lt])
theorem il_gt (x y : Int64) : ifCond.holds .gt (lcmpW x y) = decide (y < x) := (i0_gt _).trans (by simp only [lw_gt])
theorem il_le (x y : Int64) : ifCond.holds .le (lcmpW x y) = decide (¬ y < x) := (i0_le _).trans (by simp only [lw_gt])
theorem il_eq (x y : Int64) : ifCond.holds .eq (lcmpW x y) = decide (x = y) := (i0_eq _).trans (by simp only [lw_eq])
theorem il_ne (x y : Int64) : ifCond.holds .ne (lcmpW x y) = decide (¬ x = y) := (i0_ne _).trans (by simp only [lw_eq])
theorem E_acmp (X : Sd l Z own nm bytes ml ret R p e s m args below T h cells slots) {cd : ACond} {o : Int} {x y : Value} {pcE pcU : Nat} (hd : decode bytes pc = .ok (.if_acmp cd o, 3)) (hx1 : x.isRef = true) (hy1 : y.isRef = true) (ho : 0 ≤ (pc : Int) + o) (hE : pcE = if acV cd true = true then ((pc : Int) + o).toNat else pc + 3) (hU : pcU = if acV cd false = true then ((pc : Int) + o).toNat else pc + 3)
    (kE : x = y → End Z p e below s Q kc ks T (mkF m pcE Ls st)) (kU : ¬ x = y → End Z p e below s Q kc ks T (mkF m pcU Ls st)) : End Z p e below s Q kc ks T (mkF m pc Ls (y :: x :: st)) := by
  obtain ⟨meth, c, locs, X, -, -, -, hx, hb, -⟩ := X; subst hb
  by_cases q : x = y
  · exact (kE q).go fun _ => Jvm.RoadKit.acmp (g := mkF m pc Ls (y :: x :: st)) X hx rfl hx1 hy1 (same := true) rfl hd rfl (decide_eq_true q) ho hE
  · exact (kU q).go fun _ => Jvm.RoadKit.acmp (g := mkF m pc Ls (y :: x :: st)) X hx rfl hx1 hy1 (same := false) rfl hd rfl (decide_eq_false q) ho hU
theorem E_ifnullY (X : Sd l Z own nm bytes ml ret R p e s m args below T h cells slots) {o : Int} (hd : decode bytes pc = .ok (.ifnull o, 3)) (ho : 0 ≤ (pc : Int) + o) (hp : ((pc : Int) + o).toNat = pc') (k : End Z p e below s Q kc ks T (mkF m pc' Ls st)) : End Z p e below s Q kc ks T (mkF m pc Ls (.null :: st)) := by
  obtain ⟨meth, c, locs, X, -, -, -, hx, hb, -⟩ := X; subst hb
  exact k.go fun _ => XS.ifnullYes X.here hx (g := mkF m pc Ls (.null :: st)) rfl rfl hd rfl ho hp
theorem E_ifnullN (X : Sd l Z own nm bytes ml ret R p e s m args below T h cells slots) {o : Int} {b : Addr} (hd : decode bytes pc = .ok (.ifnull o, 3)) (hp : pc + 3 = pc') (k : End Z p e below s Q kc ks T (mkF m pc' Ls st)) : End Z p e below s Q kc ks T (mkF m pc Ls (.ref b :: st)) := by
  subst hp; obtain ⟨meth, c, locs, X, -, -, -, hx, hb, -⟩ := X; subst hb
  exact k.go fun _ => XS.ifnullNo X.here hx (g := mkF m pc Ls (.ref b :: st)) rfl hd rfl
theorem E_ifnonnullY (X : Sd l Z own nm bytes ml ret R p e s m args below T h cells slots) {o : Int} {b : Addr} (hd : decode bytes pc = .ok (.ifnonnull o, 3)) (ho : 0 ≤ (pc : Int) + o) (hp : ((pc : Int) + o).toNat = pc') (k : End Z p e below s Q kc ks T (mkF m pc' Ls st)) : End Z p e below s Q kc ks T (mkF m pc Ls (.ref b :: st)) := by
  obtain ⟨meth, c, locs, X, -, -, -, hx, hb, -⟩ := X; subst hb
  exact k.go fun _ => XS.ifnonnullYes X.here hx (g := mkF m pc Ls (.ref b :: st)) rfl rfl hd rfl ho hp
theorem E_ifnonnullN (X : Sd l Z own nm bytes ml ret R p e s m args below T h cells slots) {o : Int} (hd : decode bytes pc = .ok (.ifnonnull o, 3)) (hp : pc + 3 = pc') (k : End Z p e below s Q kc ks T (mkF m pc' Ls st)) : End Z p e below s Q kc ks T (mkF m pc Ls (.null :: st)) := by
  subst hp; obtain ⟨meth, c, locs, X, -, -, -, hx, hb, -⟩ := X; subst hb
  exact k.go fun _ => XS.ifnonnullNo X.here hx (g := mkF m pc Ls (.null :: st)) rfl hd rfl
/-! constants -/
theorem E_ldcI (X : Sd l Z own nm bytes ml ret R p e s m args below T h cells slots) {i : Nat} {v : Int32} (w : (Jvm.Cond.constant own i v).before a0 Z = true) (hd : decode bytes pc = .ok (.ldc i, 2)) (hp : pc + 2 = pc') (k : End Z p e below s Q kc ks T (mkF m pc' Ls (.int v :: st))) : End Z p e below s Q kc ks T (mkF m pc Ls st) := by
  subst hp; obtain ⟨meth, c, locs, X, N, e0, E, hx, hb, hml, hown, hnm, hret, hlk, hZ⟩ := X; subst hb
  exact k.go (X.ldcInt hx hown (mvT hZ w) (g := mkF m pc Ls st) rfl hd)
theorem E_ldcJ (X : Sd l Z own nm bytes ml ret R p e s m args below T h cells slots) {i : Nat} {v : Int64} (w : (Jvm.Cond.constantLong own i v).before a0 Z = true) (hd : decode bytes pc = .ok (.ldc2_w i, 3)) (hp : pc + 3 = pc') (k : End Z p e below s Q kc ks T (mkF m pc' Ls (.long v :: st))) : End Z p e below s Q kc ks T (mkF m pc Ls st) := by
  subst hp; obtain ⟨meth, c, locs, X, N, e0, E, hx, hb, hml, hown, hnm, hret, hlk, hZ⟩ := X; subst hb
  exact k.go (X.ldc2Long hx hown (mvT hZ w) (g := mkF m pc Ls st) rfl hd)
/-! fields, statics -/
theorem E_getF (X : Sd l Z own nm bytes ml ret R p e s m args below T h cells slots) {R0 O n d host : String} {i : Nat} {a : Addr} {v : Value} (w : (Jvm.Cond.fieldLink own i R0 n d).before a0 Z = true ∨ (Jvm.Cond.fieldLinkNest own i R0 n d host).before a0 Z = true) (via : Via Z R0 O n d) (F : Fld Z h a O n d v) (hd : decode bytes pc = .ok (.getfield i, 3)) (hp : pc + 3 = pc')
    (k : ∀ T', Sd l Z own nm bytes ml ret R p e s m args below T' h cells slots → End Z p e below s Q kc ks T' (mkF m pc' Ls (v :: st))) : End Z p e below s Q kc ks T (mkF m pc Ls (.ref a :: st)) := by
  subst hp; obtain ⟨meth, c, locs, X, N, e0, E, hx, hb, hml, hown, r⟩ := X; subst hb
  obtain ⟨T', X', e', stp⟩ := getF X hx r.2.2.2 hown w via e0 F (g := mkF m pc Ls (.ref a :: st)) rfl rfl hd
  exact (k T' ⟨meth, c, locs, X', N, e', E, hx, rfl, hml, hown, r⟩).go stp
theorem E_putF (X : Sd l Z own nm bytes ml ret R p e s m args below T h cells slots) {R0 O n d host C : String} {i kk : Nat} {ty : FieldType} {a : Addr} {v old : Value} (w : (Jvm.Cond.fieldLink own i R0 n d).before a0 Z = true ∨ (Jvm.Cond.fieldLinkNest own i R0 n d host).before a0 Z = true) (via : Via Z R0 O n d) (F : Fld Z h a O n d old) (E1 : Exa Z h a C)
    (L : (Jvm.Cond.lays C O n d).before a0 Z = true ∨ ((Jvm.Cond.laysFinal C O n d).before a0 Z = true ∧ own = O ∧ nm = "<init>")) (wi : (Jvm.Cond.instantiable C kk).before a0 Z = true) (hty : parseFieldDescriptor d = some ty) (hn : narrow ty v = v) (hf : fits ty v = true) (ha : Z.heap.size ≤ a) (hd : decode bytes pc = .ok (.putfield i, 3)) (hp : pc + 3 = pc')
    (k : ∀ T' h', Sd l Z own nm bytes ml ret R p e s m args below T' h' cells slots → Wr h h' a (slotOf Z O n d) v → End Z p e below s Q kc ks T' (mkF m pc' Ls st)) : End Z p e below s Q kc ks T (mkF m pc Ls (v :: .ref a :: st)) := by
  subst hp; obtain ⟨meth, c, locs, X, N, e0, E, hx, hb, hml, hown, hnm, r⟩ := X; subst hb
  obtain ⟨T', h', X', e', W, stp⟩ := putF X hx r.2.2 hown w via e0 F E1 (L.imp id fun q => ⟨q.1, q.2.1, hnm.trans q.2.2⟩) wi hty hn hf (g := mkF m pc Ls (v :: .ref a :: st)) rfl rfl hd
  exact (k T' h' ⟨meth, c, _, X', Fr.snoc X' N ha, e', E.wr W ha, hx, rfl, hml, hown, hnm, r⟩ W).go stp
theorem E_getS (X : Sd l Z own nm bytes ml ret R p e s m args below T h cells slots) {R0 O n d host : String} {i : Nat} {v : Value} (w : (Jvm.Cond.fieldLink own i R0 n d).before a0 Z = true ∨ (Jvm.Cond.fieldLinkNest own i R0 n d host).before a0 Z = true) (via : Via Z R0 O n d) (F : Sta Z Z.heap O n d v) (hd : decode bytes pc = .ok (.getstatic i, 3)) (hp : pc + 3 = pc')
    (k : ∀ T', Sd l Z own nm bytes ml ret R p e s m args below T' h cells slots → End Z p e below s Q kc ks T' (mkF m pc' Ls (v :: st))) : End Z p e below s Q kc ks T (mkF m pc Ls st) := by
  subst hp; obtain ⟨meth, c, locs, X, N, e0, E, hx, hb, hml, hown, r⟩ := X; subst hb
  obtain ⟨T', X', e', stp⟩ := getS2 X hx r.2.2.2 hown w via e0 (F.ext E) (g := mkF m pc Ls st) rfl hd
  exact (k T' ⟨meth, c, locs, X', N, e', E, hx, rfl, hml, hown, r⟩).go stp
/-! new objects -/
theorem E_new (X : Sd l Z own nm bytes ml ret R p e s m args below T h cells slots) {C : String} {i n : Nat} {cells' slots' : Nat} (w : (Jvm.Cond.classLink own i C).before a0 Z = true) (wi : (Jvm.Cond.instantiable C n).before a0 Z = true) (wz : (Jvm.Cond.initialized C).before a0 Z = true) (hd : decode bytes pc = .ok (.new i, 3)) (hp : pc + 3 = pc') (hcc : cells + 1 = cells') (hss : slots + n = slots') (hc : cells' ≤ R.cells) (hl : slots' ≤ R.slots)
    (k : ∀ T' h' a, a = h.size → Sd l Z own nm bytes ml ret R p e s m args below T' h' cells' slots' → Ext h h' → Exa Z h' a C → (∀ {O n d : String} {ty : FieldType}, Laid Z a0 C O n d → parseFieldDescriptor d = some ty → Fld Z h' a O n d (defaultValue ty)) → End Z p e below s Q kc ks T' (mkF m pc' Ls (.ref a :: st))) : End Z p e below s Q kc ks T (mkF m pc Ls st) := by
  subst hp hcc hss; obtain ⟨meth, c, locs, X, N, e0, E, hx, hb, hml, hown, r⟩ := X; subst hb
  obtain ⟨T', h', X', e', E2, A2, D2, -, stp⟩ := newO X hx r.2.2.2 hown w wi wz e0 (g := mkF m pc Ls st) rfl hd hc hl
  exact (k T' h' h.size rfl ⟨meth, c, locs, X', N, e', E.trans E2, hx, rfl, hml, hown, r⟩ E2 A2 (fun q1 q2 => D2 q1 q2)).go stp
theorem E_initO (X : Sd l Z own nm bytes ml ret R p e s m args below T h cells slots) {i : Nat} {a : Addr} (w1 : (Jvm.Cond.methodLink own i Lib.objectInit).before a0 Z = true) (w2 : (Jvm.Cond.instanceMethod Lib.objectInit).before a0 Z = true) (w3 : (Jvm.Cond.code Lib.objectInit ⟨#[0xb1]⟩ 1 none).before a0 Z = true) (hsz : Ls.size = ml) (hd : decode bytes pc = .ok (.invokespecial i, 3)) (hp : pc + 3 = pc') (hf : 1 ≤ R.frames) {W : Nat} (hW : (st.map fun v => v.category).sum ≤ W) (hl : W + 12 ≤ R.locals)
    (k : ∀ T', Sd l Z own nm bytes ml ret R p e s m args below T' h cells slots → End Z p e below s Q kc ks T' (mkF m pc' Ls st)) : End Z p e below s Q kc ks T (mkF m pc Ls (.ref a :: st)) := by
  subst hp; obtain ⟨meth, c, locs, X, N, e0, E, hx, hb, hml, hown, r⟩ := X; subst hb
  obtain ⟨T', X', e', stp⟩ := initO X hx r.2.2.2 hown w1 w2 w3 e0 (g := mkF m pc Ls (.ref a :: st)) rfl (hsz.trans hml.symm) rfl hd hf (W := W) (by show 2 * 0 + _ ≤ _; omega) hl
  exact (k T' ⟨meth, c, locs, X', N, e', E, hx, rfl, hml, hown, r⟩).go stp
/-! calls by a contract -/
theorem E_callS (X : Sd l Z own nm bytes ml ret R p e s m args below T h cells slots) {i : Nat} {y : MethodName} {bytes' : ByteArray} {ml' : Nat} {ret' : Option FieldType} {rm : Room} {Qc : Option Value → Heap → Prop} {as : Array Value} {ps : List FieldType} {rr : Option FieldType} {argsL rest : List Value} {W : Nat} {cells' slots' : Nat} (C : Con l Z y bytes' ml' ret' rm as h Qc)
    (w1 : (Jvm.Cond.methodLink own i y).before a0 Z = true) (w2 : (Jvm.Cond.static y).before a0 Z = true) (w3 : (Jvm.Cond.initialized y.cls).before a0 Z = true) (w4 : (Jvm.Cond.code y bytes' ml' ret').before a0 Z = true) (hy : y.cls ≠ "java/lang/invoke/MethodHandle" ∧ y.cls ≠ "java/lang/invoke/VarHandle") (hsz : Ls.size = ml) (has : argsL.toArray = as) (hpd : parseMethodDescriptor y.desc = some ⟨ps, rr⟩) (hlen : argsL.length = ps.length) (hst : st = argsL.reverse ++ rest)
    (hd : decode bytes pc = .ok (.invokestatic i, 3)) (hp : pc + 3 = pc') (hW : (rest.map fun v => v.category).sum ≤ W) (hf : rm.frames + 1 ≤ R.frames) (hl : W + (ml' + 11) + rm.locals ≤ R.locals) (hcc : cells + rm.cells = cells') (hss : slots + rm.slots = slots') (hc : cells' ≤ R.cells) (hs : slots' ≤ R.slots)
    (k : ∀ v T' h', Sd l Z own nm bytes ml ret R p e s m args below T' h' cells' slots' → Qc v h' → End Z p e below s Q kc ks T' (mkF m pc' Ls (v.toList ++ rest))) : End Z p e below s Q kc ks T (mkF m pc Ls st) := by
  subst hp hst hcc hss; obtain ⟨meth, c, locs, X, N, e0, E, hx, hb, hml, hown, r⟩ := X; subst hb
  obtain ⟨v, _, ⟨T', L', k', n'⟩, -, X', ⟨Lc, hQ, l1, l2, l3⟩, stp⟩ := Jvm.LawKit.callS X hx (y := y) hown (mvT r.2.2.2 w1) (mvT r.2.2.2 w2) (mvT r.2.2.2 w3) (mvT r.2.2.2 w4) hy (backOf (W := W) (Q := fun v h L => Fr Z.heap.size L ∧ Ext Z.heap h ∧ Qc v h) (C []) r.2.2.2 w4 w3 hf hl) (g := mkF m pc Ls (argsL.reverse ++ rest)) rfl (hsz.trans hml.symm) (argsL := argsL) (rest := rest) (lenOf hpd hlen) rfl (by show 2 * 0 + _ ≤ _; omega) hd (fun _ _ => ⟨has, e0, hc, hs⟩)
  dsimp only [Pt.U, Pt.locs, Pt.cells, Pt.slots] at X' l1 l2 l3 stp hQ
  subst l1 l2 l3
  exact (k v T' T'.heap ⟨meth, c, _, X', Fr.app N hQ.1, rfl, hQ.2.1, hx, rfl, hml, hown, r⟩ hQ.2.2).go stp
theorem E_callI (X : Sd l Z own nm bytes ml ret R p e s m args below T h cells slots) {i : Nat} {y : MethodName} {bytes' : ByteArray} {ml' : Nat} {rm : Room} {Qc : Option Value → Heap → Prop} {a : Addr} {as : Array Value} {ps : List FieldType} {rr : Option FieldType} {argsL rest : List Value} {W : Nat} {cells' slots' : Nat} (C : Con l Z y bytes' ml' none rm as h Qc)
    (w1 : (Jvm.Cond.methodLink own i y).before a0 Z = true) (w2 : (Jvm.Cond.instanceMethod y).before a0 Z = true) (w3 : (Jvm.Cond.initialized y.cls).before a0 Z = true) (w4 : (Jvm.Cond.code y bytes' ml' none).before a0 Z = true) (hy1 : y.name = "<init>") (hy : y.cls ≠ "java/lang/invoke/MethodHandle" ∧ y.cls ≠ "java/lang/invoke/VarHandle") (hsz : Ls.size = ml) (has : (.ref a :: argsL).toArray = as) (hpd : parseMethodDescriptor y.desc = some ⟨ps, rr⟩) (hlen : argsL.length = ps.length) (hst : st = argsL.reverse ++ .ref a :: rest)
    (hd : decode bytes pc = .ok (.invokespecial i, 3)) (hp : pc + 3 = pc') (hW : (rest.map fun v => v.category).sum ≤ W) (hf : rm.frames + 1 ≤ R.frames) (hl : W + (ml' + 11) + rm.locals ≤ R.locals) (hcc : cells + rm.cells = cells') (hss : slots + rm.slots = slots') (hc : cells' ≤ R.cells) (hs : slots' ≤ R.slots)
    (k : ∀ v T' h', Sd l Z own nm bytes ml ret R p e s m args below T' h' cells' slots' → Qc v h' → End Z p e below s Q kc ks T' (mkF m pc' Ls (v.toList ++ rest))) : End Z p e below s Q kc ks T (mkF m pc Ls st) := by
  subst hp hst hcc hss; obtain ⟨meth, c, locs, X, N, e0, E, hx, hb, hml, hown, r⟩ := X; subst hb
  obtain ⟨v, _, ⟨T', L', k', n'⟩, -, X', ⟨Lc, hQ, l1, l2, l3⟩, stp⟩ := X.specialBack hx (y := y) hy1 hown (mvT r.2.2.2 w1) (mvT r.2.2.2 w2) (mvT r.2.2.2 w4) hy (backOf (W := W) (Q := fun v h L => Fr Z.heap.size L ∧ Ext Z.heap h ∧ Qc v h) (C []) r.2.2.2 w4 w3 hf hl) (g := mkF m pc Ls (argsL.reverse ++ .ref a :: rest)) rfl (hsz.trans hml.symm) (Steps.refl _) (a := a) (argsL := argsL) (rest := rest) (lenOf hpd hlen) rfl (by show 2 * 0 + _ ≤ _; omega) hd (fun _ _ => ⟨has, e0, hc, hs⟩)
  dsimp only [Pt.U, Pt.locs, Pt.cells, Pt.slots] at X' l1 l2 l3 stp hQ
  subst l1 l2 l3
  exact (k v T' T'.heap ⟨meth, c, _, X', Fr.app N hQ.1, rfl, hQ.2.1, hx, rfl, hml, hown, r⟩ hQ.2.2).go fun _ q => stp.trans q
theorem E_callV (X : Sd l Z own nm bytes ml ret R p e s m args below T h cells slots) {i : Nat} {y : MethodName} {K : String} {bytes' : ByteArray} {ml' : Nat} {ret' : Option FieldType} {rm : Room} {Qc : Option Value → Heap → Prop} {a : Addr} {as : Array Value} {ps : List FieldType} {rr : Option FieldType} {argsL rest : List Value} {W : Nat} {cells' slots' : Nat} (C : Con l Z y bytes' ml' ret' rm as h Qc) (E1 : Exa Z h a K)
    (w1 : (Jvm.Cond.methodLink own i y).before a0 Z = true) (wd : (Jvm.Cond.declares y).before a0 Z = true) (ws : (Jvm.Cond.selects K y y).before a0 Z = true) (w2 : (Jvm.Cond.instanceMethod y).before a0 Z = true) (w3 : (Jvm.Cond.initialized y.cls).before a0 Z = true) (w4 : (Jvm.Cond.code y bytes' ml' ret').before a0 Z = true) (hK : K = y.cls) (hy : y.cls ≠ "java/lang/invoke/MethodHandle" ∧ y.cls ≠ "java/lang/invoke/VarHandle") (hsz : Ls.size = ml) (has : (.ref a :: argsL).toArray = as) (hpd : parseMethodDescriptor y.desc = some ⟨ps, rr⟩) (hlen : argsL.length = ps.length) (hst : st = argsL.reverse ++ .ref a :: rest)
    (hd : decode bytes pc = .ok (.invokevirtual i, 3)) (hp : pc + 3 = pc') (hW : (rest.map fun v => v.category).sum ≤ W) (hf : rm.frames + 1 ≤ R.frames) (hl : W + (ml' + 11) + rm.locals ≤ R.locals) (hcc : cells + rm.cells = cells') (hss : slots + rm.slots = slots') (hc : cells' ≤ R.cells) (hs : slots' ≤ R.slots)
    (k : ∀ v T' h', Sd l Z own nm bytes ml ret R p e s m args below T' h' cells' slots' → Qc v h' → End Z p e below s Q kc ks T' (mkF m pc' Ls (v.toList ++ rest))) : End Z p e below s Q kc ks T (mkF m pc Ls st) := by
  subst hp hst hcc hss; obtain ⟨meth, c, locs, X, N, e0, E, hx, hb, hml, hown, r⟩ := X; subst hb
  subst hK
  obtain ⟨cq, kq, qa, qb, qc⟩ := isOf r.2.2.2 e0 E1
  obtain ⟨v, _, ⟨T', L', k', n'⟩, -, X', ⟨Lc, hQ, l1, l2, l3⟩, stp⟩ := X.virtualBack hx (y := y) (z := y) hown (mvT r.2.2.2 w1) (mvT r.2.2.2 wd) (notFace_of_selects (args := #[]) (mvT r.2.2.2 ws)) (mvT r.2.2.2 ws) (mvT r.2.2.2 w2) hy (backOf (W := W) (Q := fun v h L => Fr Z.heap.size L ∧ Ext Z.heap h ∧ Qc v h) (C []) r.2.2.2 w4 w3 hf hl) qa qc (g := mkF m pc Ls (argsL.reverse ++ .ref a :: rest)) rfl (hsz.trans hml.symm) (Steps.refl _) (argsL := argsL) (rest := rest) (lenOf hpd hlen) rfl (by show 2 * 0 + _ ≤ _; omega) hd (fun _ _ => ⟨has, e0, hc, hs⟩)
  dsimp only [Pt.U, Pt.locs, Pt.cells, Pt.slots] at X' l1 l2 l3 stp hQ
  subst l1 l2 l3
  exact (k v T' T'.heap ⟨meth, c, _, X', Fr.app N hQ.1, rfl, hQ.2.1, hx, rfl, hml, hown, r⟩ hQ.2.2).go fun _ q => stp.trans q
/-! arrays by their list of values -/
def Ar (Z : State) (h : Heap) (a : Addr) (ty : FieldType) (vs : List Value) : Prop := ∃ c : Cell, Arr Z h a c ty ∧ c.slots = vs.toArray
section ArFacts
variable {h' : Heap} {a b : Addr} {ty : FieldType} {vs : List Value} {ws : List Addr} {v : Value} {sl : Nat}
theorem Ar.lt (F : Ar Z h a ty vs) : a < h.size := by obtain ⟨c, A, -⟩ := F; exact A.lt
theorem Ar.ext (F : Ar Z h a ty vs) (E : Ext h h') : Ar Z h' a ty vs := by obtain ⟨c, A, r⟩ := F; exact ⟨c, A.ext E, r⟩
theorem Ar.other (F : Ar Z h b ty vs) (W : Wr h h' a sl v) (q : b ≠ a) : Ar Z h' b ty vs := by obtain ⟨c, A, r⟩ := F; exact ⟨c, A.other W q, r⟩
theorem Ar.keep (F : Ar Z h a ty vs) (K : Keep h h' ws) (q : a ∉ ws) : Ar Z h' a ty vs := by obtain ⟨c, A, r⟩ := F; exact ⟨c, ⟨K.2.1 a c A.1 q, A.2⟩, r⟩
theorem Ar.set (F : Ar Z h a ty vs) (W : Wr h h' a sl v) : Ar Z h' a ty (vs.set sl v) := by
  obtain ⟨c, A, r⟩ := F
  exact ⟨_, A.same W, by simp [Cell.setSlot, r]⟩
theorem Ar.ne_exa {C : String} {k : Nat} (F : Ar Z h b ty vs) (E : Exa Z h a C) (wi : (Jvm.Cond.instantiable C k).before a0 Z = true) : a ≠ b := by obtain ⟨c, A, r⟩ := F; exact ne_arr E wi A
theorem Ar.ne {vs' : List Value} (F : Ar Z h a ty vs) (G : Ar Z h b ty vs') (q : vs ≠ vs') : a ≠ b := fun e => by
  subst e; obtain ⟨c, A, r⟩ := F; obtain ⟨c', A', r'⟩ := G
  cases A.1.symm.trans A'.1
  exact q (by simpa using congrArg Array.toList (r.symm.trans r'))
theorem Ar.at {c : Cell} {j : Int32} (r : c.slots = vs.toArray) (hj : ¬ j < 0) (hv : vs[j.toNatClampNeg]? = some v) : ¬ (j < 0 ∨ c.slots.size ≤ j.toNatClampNeg) ∧ c.slots[j.toNatClampNeg]? = some v := by
  refine ⟨fun q => ?_, by rw [r]; simpa using hv⟩
  rcases q with q | q
  · exact hj q
  · rw [r] at q
    have := (List.getElem?_eq_some_iff.mp hv).1
    simp at q; omega
theorem Ar.inb {c : Cell} {j : Int32} (r : c.slots = vs.toArray) (hj : ¬ j < 0) (hl : j.toNatClampNeg < vs.length) : ¬ (j < 0 ∨ c.slots.size ≤ j.toNatClampNeg) := (Ar.at r hj (List.getElem?_eq_getElem hl)).1
end ArFacts
theorem E_newA (X : Sd l Z own nm bytes ml ret R p e s m args below T h cells slots) {aty : ArrayType} {n : Int32} {cap : Nat} {vs : List Value} {cells' slots' : Nat} (w : (Jvm.Cond.arrayClass (newarray.typeOf aty)).before a0 Z = true) (hd : decode bytes pc = .ok (.newarray aty, 2)) (hp : pc + 2 = pc') (hn : ¬ n < 0) (hcap : n.toNatClampNeg ≤ cap) (hb8 : cap * 8 ≤ 536870912) (hvs : List.replicate n.toNatClampNeg (defaultValue (newarray.typeOf aty)) = vs) (hcc : cells + 1 = cells') (hss : slots + cap = slots') (hc : cells' ≤ R.cells) (hl : slots' ≤ R.slots)
    (k : ∀ T' h' a, a = h.size → Sd l Z own nm bytes ml ret R p e s m args below T' h' cells' slots' → Ext h h' → Ar Z h' a (newarray.typeOf aty) vs → End Z p e below s Q kc ks T' (mkF m pc' Ls (.ref a :: st))) : End Z p e below s Q kc ks T (mkF m pc Ls (.int n :: st)) := by
  subst hp hcc hss hvs; obtain ⟨meth, c, locs, X, N, e0, E, hx, hb, hml, hown, r⟩ := X; subst hb
  obtain ⟨T', h', cA, X', e', E2, A2, stp⟩ := newP X hx r.2.2.2 w e0 (g := mkF m pc Ls (.int n :: st)) rfl hd rfl hn hcap hb8 hc hl
  exact (k T' h' h.size rfl ⟨meth, c, locs, X', N, e', E.trans E2, hx, rfl, hml, hown, r⟩ E2 ⟨_, A2, by simp [newA]⟩).go stp
theorem E_newAE (X : Sd l Z own nm bytes ml ret R p e s m args below T h cells slots) {aty : ArrayType} {n : Int32} {cap : Nat} {vs : List Value} {cells' slots' : Nat} {ad : String} (had : "[" ++ (newarray.typeOf aty).toString = ad) (w : (Jvm.Cond.arrayClass (newarray.typeOf aty)).before a0 Z = true) (hd : decode bytes pc = .ok (.newarray aty, 2)) (hp : pc + 2 = pc') (hn : ¬ n < 0) (hcap : n.toNatClampNeg ≤ cap) (hb8 : cap * 8 ≤ 536870912) (hvs : List.replicate n.toNatClampNeg (defaultValue (newarray.typeOf aty)) = vs) (hcc : cells + 1 = cells') (hss : slots + cap = slots') (hc : cells' ≤ R.cells) (hl : slots' ≤ R.slots)
    (k : ∀ T' h' a, a = h.size → Sd l Z own nm bytes ml ret R p e s m args below T' h' cells' slots' → Ext h h' → Ar Z h' a (newarray.typeOf aty) vs → Exa Z h' a ad → End Z p e below s Q kc ks T' (mkF m pc' Ls (.ref a :: st))) : End Z p e below s Q kc ks T (mkF m pc Ls (.int n :: st)) := by
  subst hp hcc hss hvs; obtain ⟨meth, c, locs, X, N, e0, E, hx, hb, hml, hown, r⟩ := X; subst hb
  obtain ⟨T', h', cA, X', e', E2, A2, A3, stp⟩ := newPE X hx r.2.2.2 w e0 (g := mkF m pc Ls (.int n :: st)) rfl hd rfl hn hcap hb8 hc hl had
  exact (k T' h' h.size rfl ⟨meth, c, locs, X', N, e', E.trans E2, hx, rfl, hml, hown, r⟩ E2 ⟨_, A2, by simp [newA]⟩ A3).go stp
theorem E_alen (X : Sd l Z own nm bytes ml ret R p e s m args below T h cells slots) {a : Addr} {ty : FieldType} {vs : List Value} {n : Int32} (F : Ar Z h a ty vs) (hn : vs.length.toInt32 = n) (hd : decode bytes pc = .ok (.arraylength, 1)) (hp : pc + 1 = pc') (k : End Z p e below s Q kc ks T (mkF m pc' Ls (.int n :: st))) : End Z p e below s Q kc ks T (mkF m pc Ls (.ref a :: st)) := by
  subst hp hn; obtain ⟨meth, c, locs, X, N, e0, E, hx, hb, hml, hown, r⟩ := X; subst hb
  obtain ⟨cl, A, q⟩ := F
  have q2 : cl.slots.size = vs.length := by rw [q]; simp
  rw [← q2] at k
  exact k.go fun t => X.arraylength hx (by rw [e0]; exact A.1) (State.isArrayOf_alike r.2.2.2.alike A.2.1) (g := mkF m pc Ls (.ref a :: st)) rfl rfl hd t
theorem E_iaload (X : Sd l Z own nm bytes ml ret R p e s m args below T h cells slots) {a : Addr} {vs : List Value} {j : Int32} {v : Value} (F : Ar Z h a .int vs) (hj : ¬ j < 0) (hv : vs[j.toNatClampNeg]? = some v) (hd : decode bytes pc = .ok (.iaload, 1)) (hp : pc + 1 = pc') (k : End Z p e below s Q kc ks T (mkF m pc' Ls (v :: st))) : End Z p e below s Q kc ks T (mkF m pc Ls (.int j :: .ref a :: st)) := by
  subst hp; obtain ⟨meth, c, locs, X, N, e0, E, hx, hb, hml, hown, r⟩ := X; subst hb
  obtain ⟨cl, A, q⟩ := F
  obtain ⟨i1, i2⟩ := Ar.at q hj hv
  exact k.go fun t => X.iaload hx (by rw [e0]; exact A.1) (State.isArrayOf_alike r.2.2.2.alike A.2.1) A.2.2 i1 i2 (g := mkF m pc Ls (.int j :: .ref a :: st)) rfl rfl hd t
theorem E_laload (X : Sd l Z own nm bytes ml ret R p e s m args below T h cells slots) {a : Addr} {vs : List Value} {j : Int32} {v : Value} (F : Ar Z h a .long vs) (hj : ¬ j < 0) (hv : vs[j.toNatClampNeg]? = some v) (hd : decode bytes pc = .ok (.laload, 1)) (hp : pc + 1 = pc') (k : End Z p e below s Q kc ks T (mkF m pc' Ls (v :: st))) : End Z p e below s Q kc ks T (mkF m pc Ls (.int j :: .ref a :: st)) := by
  subst hp; obtain ⟨meth, c, locs, X, N, e0, E, hx, hb, hml, hown, r⟩ := X; subst hb
  obtain ⟨cl, A, q⟩ := F
  obtain ⟨i1, i2⟩ := Ar.at q hj hv
  exact k.go fun t => X.laload hx (by rw [e0]; exact A.1) (State.isArrayOf_alike r.2.2.2.alike A.2.1) A.2.2 i1 i2 (g := mkF m pc Ls (.int j :: .ref a :: st)) rfl rfl hd t
theorem E_caload (X : Sd l Z own nm bytes ml ret R p e s m args below T h cells slots) {a : Addr} {vs : List Value} {j : Int32} {v : Value} (F : Ar Z h a .char vs) (hj : ¬ j < 0) (hv : vs[j.toNatClampNeg]? = some v) (hd : decode bytes pc = .ok (.caload, 1)) (hp : pc + 1 = pc') (k : End Z p e below s Q kc ks T (mkF m pc' Ls (v :: st))) : End Z p e below s Q kc ks T (mkF m pc Ls (.int j :: .ref a :: st)) := by
  subst hp; obtain ⟨meth, c, locs, X, N, e0, E, hx, hb, hml, hown, r⟩ := X; subst hb
  obtain ⟨cl, A, q⟩ := F
  obtain ⟨i1, i2⟩ := Ar.at q hj hv
  exact k.go fun t => X.caload hx (by rw [e0]; exact A.1) (State.isArrayOf_alike r.2.2.2.alike A.2.1) A.2.2 i1 i2 (g := mkF m pc Ls (.int j :: .ref a :: st)) rfl rfl hd t
theorem E_baload (X : Sd l Z own nm bytes ml ret R p e s m args below T h cells slots) {a : Addr} {vs : List Value} {j : Int32} {v : Value} (F : Ar Z h a .byte vs) (hj : ¬ j < 0) (hv : vs[j.toNatClampNeg]? = some v) (hd : decode bytes pc = .ok (.baload, 1)) (hp : pc + 1 = pc') (k : End Z p e below s Q kc ks T (mkF m pc' Ls (v :: st))) : End Z p e below s Q kc ks T (mkF m pc Ls (.int j :: .ref a :: st)) := by
  subst hp; obtain ⟨meth, c, locs, X, N, e0, E, hx, hb, hml, hown, r⟩ := X; subst hb
  obtain ⟨cl, A, q⟩ := F
  obtain ⟨i1, i2⟩ := Ar.at q hj hv
  exact k.go fun t => X.baloadBytes hx (by rw [e0]; exact A.1) (State.isArrayOf_alike r.2.2.2.alike A.2.1) A.2.2 i1 i2 (g := mkF m pc Ls (.int j :: .ref a :: st)) rfl rfl hd t
theorem E_baload_Z (X : Sd l Z own nm bytes ml ret R p e s m args below T h cells slots) {a : Addr} {vs : List Value} {j : Int32} {v : Value} (F : Ar Z h a .boolean vs) (hj : ¬ j < 0) (hv : vs[j.toNatClampNeg]? = some v) (hd : decode bytes pc = .ok (.baload, 1)) (hp : pc + 1 = pc') (k : End Z p e below s Q kc ks T (mkF m pc' Ls (v :: st))) : End Z p e below s Q kc ks T (mkF m pc Ls (.int j :: .ref a :: st)) := by
  subst hp; obtain ⟨meth, c, locs, X, N, e0, E, hx, hb, hml, hown, r⟩ := X; subst hb
  obtain ⟨cl, A, q⟩ := F
  obtain ⟨i1, i2⟩ := Ar.at q hj hv
  exact k.go fun t => X.baloadBooleans hx (by rw [e0]; exact A.1) (State.isArrayOf_alike r.2.2.2.alike A.2.1) A.2.2 i1 i2 (g := mkF m pc Ls (.int j :: .ref a :: st)) rfl rfl hd t
theorem E_aaload (X : Sd l Z own nm bytes ml ret R p e s m args below T h cells slots) {a : Addr} {vs : List Value} {j : Int32} {v : Value} {ty : FieldType} (F : Ar Z h a ty vs) (hty : ty.isReference = true) (hj : ¬ j < 0) (hv : vs[j.toNatClampNeg]? = some v) (hd : decode bytes pc = .ok (.aaload, 1)) (hp : pc + 1 = pc') (k : End Z p e below s Q kc ks T (mkF m pc' Ls (v :: st))) : End Z p e below s Q kc ks T (mkF m pc Ls (.int j :: .ref a :: st)) := by
  subst hp; obtain ⟨meth, c, locs, X, N, e0, E, hx, hb, hml, hown, r⟩ := X; subst hb
  obtain ⟨cl, A, q⟩ := F
  obtain ⟨i1, i2⟩ := Ar.at q hj hv
  exact k.go fun t => X.aaload hx (by rw [e0]; exact A.1) (State.isArrayOf_alike r.2.2.2.alike A.2.1) hty A.2.2 i1 i2 (g := mkF m pc Ls (.int j :: .ref a :: st)) rfl rfl hd t
theorem E_iastore (X : Sd l Z own nm bytes ml ret R p e s m args below T h cells slots) {a : Addr} {vs vs' : List Value} {j : Int32} {x : Int32} (F : Ar Z h a .int vs) (hj : ¬ j < 0) (hl : j.toNatClampNeg < vs.length) (hvs : vs.set j.toNatClampNeg (.int x) = vs') (ha : Z.heap.size ≤ a) (hd : decode bytes pc = .ok (.iastore, 1)) (hp : pc + 1 = pc')
    (k : ∀ T' h', Sd l Z own nm bytes ml ret R p e s m args below T' h' cells slots → Wr h h' a j.toNatClampNeg (.int x) → Ar Z h' a .int vs' → End Z p e below s Q kc ks T' (mkF m pc' Ls st)) : End Z p e below s Q kc ks T (mkF m pc Ls (.int x :: .int j :: .ref a :: st)) := by
  subst hp hvs; obtain ⟨meth, c, locs, X, N, e0, E, hx, hb, hml, hown, r⟩ := X; subst hb
  have F0 := F
  obtain ⟨cl, A, q⟩ := F
  obtain ⟨T', h', X', e', W, stp⟩ := stI X hx r.2.2.2 e0 A (Ar.inb q hj hl) (g := mkF m pc Ls (.int x :: .int j :: .ref a :: st)) rfl rfl hd
  exact (k T' h' ⟨meth, c, _, X', Fr.snoc X' N ha, e', E.wr W ha, hx, rfl, hml, hown, r⟩ W (F0.set W)).go stp
theorem E_lastore (X : Sd l Z own nm bytes ml ret R p e s m args below T h cells slots) {a : Addr} {vs vs' : List Value} {j : Int32} {x : Int64} (F : Ar Z h a .long vs) (hj : ¬ j < 0) (hl : j.toNatClampNeg < vs.length) (hvs : vs.set j.toNatClampNeg (.long x) = vs') (ha : Z.heap.size ≤ a) (hd : decode bytes pc = .ok (.lastore, 1)) (hp : pc + 1 = pc')
    (k : ∀ T' h', Sd l Z own nm bytes ml ret R p e s m args below T' h' cells slots → Wr h h' a j.toNatClampNeg (.long x) → Ar Z h' a .long vs' → End Z p e below s Q kc ks T' (mkF m pc' Ls st)) : End Z p e below s Q kc ks T (mkF m pc Ls (.long x :: .int j :: .ref a :: st)) := by
  subst hp hvs; obtain ⟨meth, c, locs, X, N, e0, E, hx, hb, hml, hown, r⟩ := X; subst hb
  have F0 := F
  obtain ⟨cl, A, q⟩ := F
  obtain ⟨T', h', X', e', W, stp⟩ := stJ X hx r.2.2.2 e0 A (Ar.inb q hj hl) (g := mkF m pc Ls (.long x :: .int j :: .ref a :: st)) rfl rfl hd
  exact (k T' h' ⟨meth, c, _, X', Fr.snoc X' N ha, e', E.wr W ha, hx, rfl, hml, hown, r⟩ W (F0.set W)).go stp
theorem E_castore (X : Sd l Z own nm bytes ml ret R p e s m args below T h cells slots) {a : Addr} {vs vs' : List Value} {j : Int32} {x : Int32} (F : Ar Z h a .char vs) (hj : ¬ j < 0) (hl : j.toNatClampNeg < vs.length) (hvs : vs.set j.toNatClampNeg (.int (nar .char x)) = vs') (ha : Z.heap.size ≤ a) (hd : decode bytes pc = .ok (.castore, 1)) (hp : pc + 1 = pc')
    (k : ∀ T' h', Sd l Z own nm bytes ml ret R p e s m args below T' h' cells slots → Wr h h' a j.toNatClampNeg (.int (nar .char x)) → Ar Z h' a .char vs' → End Z p e below s Q kc ks T' (mkF m pc' Ls st)) : End Z p e below s Q kc ks T (mkF m pc Ls (.int x :: .int j :: .ref a :: st)) := by
  subst hp hvs; obtain ⟨meth, c, locs, X, N, e0, E, hx, hb, hml, hown, r⟩ := X; subst hb
  have F0 := F
  obtain ⟨cl, A, q⟩ := F
  obtain ⟨T', h', X', e', W, stp⟩ := stC X hx r.2.2.2 e0 A (Ar.inb q hj hl) (g := mkF m pc Ls (.int x :: .int j :: .ref a :: st)) rfl rfl hd
  exact (k T' h' ⟨meth, c, _, X', Fr.snoc X' N ha, e', E.wr W ha, hx, rfl, hml, hown, r⟩ W (F0.set W)).go stp
theorem E_bastore (X : Sd l Z own nm bytes ml ret R p e s m args below T h cells slots) {a : Addr} {vs vs' : List Value} {j : Int32} {x : Int32} (F : Ar Z h a .byte vs) (hj : ¬ j < 0) (hl : j.toNatClampNeg < vs.length) (hvs : vs.set j.toNatClampNeg (.int (nar .byte x)) = vs') (ha : Z.heap.size ≤ a) (hd : decode bytes pc = .ok (.bastore, 1)) (hp : pc + 1 = pc')
    (k : ∀ T' h', Sd l Z own nm bytes ml ret R p e s m args below T' h' cells slots → Wr h h' a j.toNatClampNeg (.int (nar .byte x)) → Ar Z h' a .byte vs' → End Z p e below s Q kc ks T' (mkF m pc' Ls st)) : End Z p e below s Q kc ks T (mkF m pc Ls (.int x :: .int j :: .ref a :: st)) := by
  subst hp hvs; obtain ⟨meth, c, locs, X, N, e0, E, hx, hb, hml, hown, r⟩ := X; subst hb
  have F0 := F
  obtain ⟨cl, A, q⟩ := F
  obtain ⟨T', h', X', e', W, stp⟩ := stB X hx r.2.2.2 e0 A (Ar.inb q hj hl) (g := mkF m pc Ls (.int x :: .int j :: .ref a :: st)) rfl rfl hd
  exact (k T' h' ⟨meth, c, _, X', Fr.snoc X' N ha, e', E.wr W ha, hx, rfl, hml, hown, r⟩ W (F0.set W)).go stp
theorem E_bastore_Z (X : Sd l Z own nm bytes ml ret R p e s m args below T h cells slots) {a : Addr} {vs vs' : List Value} {j : Int32} {x : Int32} (F : Ar Z h a .boolean vs) (hj : ¬ j < 0) (hl : j.toNatClampNeg < vs.length) (hvs : vs.set j.toNatClampNeg (.int (nar .boolean x)) = vs') (ha : Z.heap.size ≤ a) (hd : decode bytes pc = .ok (.bastore, 1)) (hp : pc + 1 = pc')
    (k : ∀ T' h', Sd l Z own nm bytes ml ret R p e s m args below T' h' cells slots → Wr h h' a j.toNatClampNeg (.int (nar .boolean x)) → Ar Z h' a .boolean vs' → End Z p e below s Q kc ks T' (mkF m pc' Ls st)) : End Z p e below s Q kc ks T (mkF m pc Ls (.int x :: .int j :: .ref a :: st)) := by
  subst hp hvs; obtain ⟨meth, c, locs, X, N, e0, E, hx, hb, hml, hown, r⟩ := X; subst hb
  have F0 := F
  obtain ⟨cl, A, q⟩ := F
  obtain ⟨T', h', X', e', W, stp⟩ := stZ X hx r.2.2.2 e0 A (Ar.inb q hj hl) (g := mkF m pc Ls (.int x :: .int j :: .ref a :: st)) rfl rfl hd
  exact (k T' h' ⟨meth, c, _, X', Fr.snoc X' N ha, e', E.wr W ha, hx, rfl, hml, hown, r⟩ W (F0.set W)).go stp
theorem E_clone (X : Sd l Z own nm bytes ml ret R p e s m args below T h cells slots) {ad : String} {i cap W : Nat} {a : Addr} {ty : FieldType} {vs : List Value} {cells' slots' : Nat} (w1 : (Jvm.Cond.methodLink own i ⟨ad, "clone", "()Ljava/lang/Object;"⟩).before a0 Z = true) (w2 : (Jvm.Cond.sameMethod ad "java/lang/Object" "clone" "()Ljava/lang/Object;").before a0 Z = true) (w3 : (Jvm.Cond.native ⟨"java/lang/Object", "clone", "()Ljava/lang/Object;"⟩).before a0 Z = true)
    (w4 : (Jvm.Cond.instanceMethod ⟨"java/lang/Object", "clone", "()Ljava/lang/Object;"⟩).before a0 Z = true) (w5 : (Jvm.Cond.selects ad ⟨ad, "clone", "()Ljava/lang/Object;"⟩ ⟨"java/lang/Object", "clone", "()Ljava/lang/Object;"⟩).before a0 Z = true) (w6 : (Jvm.Cond.castable ad "java/lang/Cloneable").before a0 Z = true) (F : Ar Z h a ty vs) (E1 : Exa Z h a ad) (hfit : ∀ v ∈ vs, fits ty v = true) (hsz : Ls.size = ml) (hd : decode bytes pc = .ok (.invokevirtual i, 3)) (hp : pc + 3 = pc')
    (hf : 1 ≤ R.frames) (hW : (st.map fun v => v.category).sum ≤ W) (hl : W + 14 ≤ R.locals) (hcap : vs.length ≤ cap) (hcc : cells + 1 = cells') (hss : slots + cap = slots') (hc : cells' ≤ R.cells) (hsl : slots' ≤ R.slots)
    (k : ∀ T' h' b, b = h.size → Sd l Z own nm bytes ml ret R p e s m args below T' h' cells' slots' → Ext h h' → Ar Z h' b ty vs → Exa Z h' b ad → End Z p e below s Q kc ks T' (mkF m pc' Ls (.ref b :: st))) : End Z p e below s Q kc ks T (mkF m pc Ls (.ref a :: st)) := by
  subst hp hcc hss; obtain ⟨meth, c, locs, X, N, e0, E, hx, hb, hml, hown, r⟩ := X; subst hb
  obtain ⟨cl, A, q⟩ := F
  have FC : FitC Z cl := fitC_of A fun i hi v hv => hfit v (by rw [q] at hv; exact List.mem_of_getElem? (by simpa using hv))
  obtain ⟨T', h', X', e', E2, A2, A3, stp⟩ := cloneA X hx r.2.2.2 hown w1 w2 w3 w4 w5 w6 e0 A E1 FC (g := mkF m pc Ls (.ref a :: st)) rfl (hsz.trans hml.symm) rfl hd hf (W := W) (cap := cap) (by show 2 * 0 + _ ≤ _; omega) hl (by rw [q]; simpa using hcap) hc hsl
  exact (k T' h' h.size rfl ⟨meth, c, locs, X', N, e', E.trans E2, hx, rfl, hml, hown, r⟩ E2 ⟨_, A2, q⟩ A3).go stp
theorem E_cast (X : Sd l Z own nm bytes ml ret R p e s m args below T h cells slots) {K : String} {i : Nat} {a : Addr} (w : (Jvm.Cond.classLink own i K).before a0 Z = true) (F : Ins Z h a K true) (hd : decode bytes pc = .ok (.checkcast i, 3)) (hp : pc + 3 = pc')
    (k : ∀ T', Sd l Z own nm bytes ml ret R p e s m args below T' h cells slots → End Z p e below s Q kc ks T' (mkF m pc' Ls (.ref a :: st))) : End Z p e below s Q kc ks T (mkF m pc Ls (.ref a :: st)) := by
  subst hp; obtain ⟨meth, c, locs, X, N, e0, E, hx, hb, hml, hown, r⟩ := X; subst hb
  obtain ⟨T', X', e', stp⟩ := castY X hx r.2.2.2 hown w e0 F (g := mkF m pc Ls (.ref a :: st)) rfl rfl hd
  exact (k T' ⟨meth, c, locs, X', N, e', E, hx, rfl, hml, hown, r⟩).go stp
theorem E_instY (X : Sd l Z own nm bytes ml ret R p e s m args below T h cells slots) {K : String} {i : Nat} {a : Addr} (w : (Jvm.Cond.classLink own i K).before a0 Z = true) (F : Ins Z h a K true) (hd : decode bytes pc = .ok (.instanceof i, 3)) (hp : pc + 3 = pc')
    (k : ∀ T', Sd l Z own nm bytes ml ret R p e s m args below T' h cells slots → End Z p e below s Q kc ks T' (mkF m pc' Ls (.int 1 :: st))) : End Z p e below s Q kc ks T (mkF m pc Ls (.ref a :: st)) := by
  subst hp; obtain ⟨meth, c, locs, X, N, e0, E, hx, hb, hml, hown, r⟩ := X; subst hb
  obtain ⟨T', X', e', stp⟩ := instY X hx r.2.2.2 hown w e0 F (g := mkF m pc Ls (.ref a :: st)) rfl rfl hd
  exact (k T' ⟨meth, c, locs, X', N, e', E, hx, rfl, hml, hown, r⟩).go stp
theorem isref_cat {v : Value} (h : v.isRef = true) : v.category = 1 := by rcases ref_cases h with rfl | ⟨a, rfl⟩ <;> rfl
theorem own_irr (x : Int32) : ¬ x < x := by rw [Int32.lt_iff_toInt_lt]; omega
theorem own_irrL (x : Int64) : ¬ x < x := by rw [Int64.lt_iff_toInt_lt]; omega
theorem E_callP (X : Sd l Z own nm bytes ml ret R p e s m args below T h cells slots) {i : Nat} {y : MethodName} {K : String} {bytes' : ByteArray} {ml' : Nat} {ret' : Option FieldType} {rm : Room} {Qc : Option Value → Heap → Prop} {a : Addr} {as : Array Value} {ps : List FieldType} {rr : Option FieldType} {argsL rest : List Value} {W : Nat} {cells' slots' : Nat} (C : Con l Z y bytes' ml' ret' rm as h Qc) (E1 : Exa Z h a K)
    (w1 : (Jvm.Cond.methodLink own i y).before a0 Z = true) (w2 : (Jvm.Cond.instanceMethod y).before a0 Z = true) (ws : (Jvm.Cond.selects y.cls y y).before a0 Z = true) (wp : (Jvm.Cond.privateMethod y).before a0 Z = true) (w3 : (Jvm.Cond.initialized y.cls).before a0 Z = true) (w4 : (Jvm.Cond.code y bytes' ml' ret').before a0 Z = true) (hy : y.cls ≠ "java/lang/invoke/MethodHandle" ∧ y.cls ≠ "java/lang/invoke/VarHandle") (hsz : Ls.size = ml) (has : (.ref a :: argsL).toArray = as) (hpd : parseMethodDescriptor y.desc = some ⟨ps, rr⟩) (hlen : argsL.length = ps.length) (hst : st = argsL.reverse ++ .ref a :: rest)
    (hd : decode bytes pc = .ok (.invokevirtual i, 3)) (hp : pc + 3 = pc') (hW : (rest.map fun v => v.category).sum ≤ W) (hf : rm.frames + 1 ≤ R.frames) (hl : W + (ml' + 11) + rm.locals ≤ R.locals) (hcc : cells + rm.cells = cells') (hss : slots + rm.slots = slots') (hc : cells' ≤ R.cells) (hs : slots' ≤ R.slots)
    (k : ∀ v T' h', Sd l Z own nm bytes ml ret R p e s m args below T' h' cells' slots' → Qc v h' → End Z p e below s Q kc ks T' (mkF m pc' Ls (v.toList ++ rest))) : End Z p e below s Q kc ks T (mkF m pc Ls st) := by
  subst hp hst hcc hss; obtain ⟨meth, c, locs, X, N, e0, E, hx, hb, hml, hown, r⟩ := X; subst hb
  obtain ⟨cq, q1, q2⟩ := E1.cell
  obtain ⟨v, _, ⟨T', L', k', n'⟩, -, X', ⟨Lc, hQ, l1, l2, l3⟩, stp⟩ := X.privateBack hx (y := y) hown (mvT r.2.2.2 w1) (mvT r.2.2.2 w2) (mvT r.2.2.2 ws) (Cond.privateMethod_at (mvP r.2.2.2 wp (args := #[]))) (mvT r.2.2.2 w4) hy (backOf (W := W) (Q := fun v h L => Fr Z.heap.size L ∧ Ext Z.heap h ∧ Qc v h) (C []) r.2.2.2 w4 w3 hf hl) (g := mkF m pc Ls (argsL.reverse ++ .ref a :: rest)) rfl (hsz.trans hml.symm) (Steps.refl _) (a := a) (by rw [e0]; exact q1) q2 (argsL := argsL) (rest := rest) (lenOf hpd hlen) rfl (by show 2 * 0 + _ ≤ _; omega) hd (fun _ _ => ⟨has, e0, hc, hs⟩)
  dsimp only [Pt.U, Pt.locs, Pt.cells, Pt.slots] at X' l1 l2 l3 stp hQ
  subst l1 l2 l3
  exact (k v T' T'.heap ⟨meth, c, _, X', Fr.app N hQ.1, rfl, hQ.2.1, hx, rfl, hml, hown, r⟩ hQ.2.2).go fun _ q => stp.trans q
theorem E_callU (X : Sd l Z own nm bytes ml ret R p e s m args below T h cells slots) {i : Nat} {x y : MethodName} {K : String} {bytes' : ByteArray} {ml' : Nat} {ret' : Option FieldType} {rm : Room} {Qc : Option Value → Heap → Prop} {a : Addr} {as : Array Value} {ps : List FieldType} {rr : Option FieldType} {argsL rest : List Value} {W : Nat} {cells' slots' : Nat} (C : Con l Z y bytes' ml' ret' rm as h Qc) (E1 : Exa Z h a K)
    (w1 : (Jvm.Cond.methodLink own i x).before a0 Z = true) (wm : (Jvm.Cond.sameMethod x.cls y.cls x.name x.desc).before a0 Z = true) (wd : (Jvm.Cond.declares ⟨y.cls, x.name, x.desc⟩).before a0 Z = true) (ws : (Jvm.Cond.selects K x y).before a0 Z = true) (w2 : (Jvm.Cond.instanceMethod y).before a0 Z = true) (w3 : (Jvm.Cond.initialized y.cls).before a0 Z = true) (w4 : (Jvm.Cond.code y bytes' ml' ret').before a0 Z = true) (hy : y.cls ≠ "java/lang/invoke/MethodHandle" ∧ y.cls ≠ "java/lang/invoke/VarHandle") (hsz : Ls.size = ml) (has : (.ref a :: argsL).toArray = as) (hpd : parseMethodDescriptor x.desc = some ⟨ps, rr⟩) (hlen : argsL.length = ps.length) (hst : st = argsL.reverse ++ .ref a :: rest)
    (hd : decode bytes pc = .ok (.invokevirtual i, 3)) (hp : pc + 3 = pc') (hW : (rest.map fun v => v.category).sum ≤ W) (hf : rm.frames + 1 ≤ R.frames) (hl : W + (ml' + 11) + rm.locals ≤ R.locals) (hcc : cells + rm.cells = cells') (hss : slots + rm.slots = slots') (hc : cells' ≤ R.cells) (hs : slots' ≤ R.slots)
    (k : ∀ v T' h', Sd l Z own nm bytes ml ret R p e s m args below T' h' cells' slots' → Qc v h' → End Z p e below s Q kc ks T' (mkF m pc' Ls (v.toList ++ rest))) : End Z p e below s Q kc ks T (mkF m pc Ls st) := by
  subst hp hst hcc hss; obtain ⟨meth, c, locs, X, N, e0, E, hx, hb, hml, hown, r⟩ := X; subst hb
  obtain ⟨cq, kq, qa, qb, qc⟩ := isOf r.2.2.2 e0 E1
  obtain ⟨v, _, ⟨T', L', k', n'⟩, -, X', ⟨Lc, hQ, l1, l2, l3⟩, stp⟩ := X.virtualBackUp hx (x := x) (y := y) (owner := y.cls) hown (mvT r.2.2.2 w1) (mvT r.2.2.2 wm) (mvT r.2.2.2 wd) hy (mvT r.2.2.2 ws) (mvT r.2.2.2 w2) (backOf (W := W) (Q := fun v h L => Fr Z.heap.size L ∧ Ext Z.heap h ∧ Qc v h) (C []) r.2.2.2 w4 w3 hf hl) qa qc (g := mkF m pc Ls (argsL.reverse ++ .ref a :: rest)) rfl (hsz.trans hml.symm) (Steps.refl _) (argsL := argsL) (rest := rest) (lenOf hpd hlen) rfl (by show 2 * 0 + _ ≤ _; omega) hd (fun _ _ => ⟨has, e0, hc, hs⟩)
  dsimp only [Pt.U, Pt.locs, Pt.cells, Pt.slots] at X' l1 l2 l3 stp hQ
  subst l1 l2 l3
  exact (k v T' T'.heap ⟨meth, c, _, X', Fr.app N hQ.1, rfl, hQ.2.1, hx, rfl, hml, hown, r⟩ hQ.2.2).go fun _ q => stp.trans q
theorem E_eqI {x z : Int32} (q : x = z) (k : End Z p e below s Q kc ks T (mkF m pc Ls (.int z :: st))) : End Z p e below s Q kc ks T (mkF m pc Ls (.int x :: st)) := by subst q; exact k
theorem E_eqJ {x z : Int64} (q : x = z) (k : End Z p e below s Q kc ks T (mkF m pc Ls (.long z :: st))) : End Z p e below s Q kc ks T (mkF m pc Ls (.long x :: st)) := by subst q; exact k
theorem E_eqV {x z : Value} (q : x = z) (k : End Z p e below s Q kc ks T (mkF m pc Ls (z :: st))) : End Z p e below s Q kc ks T (mkF m pc Ls (x :: st)) := by subst q; exact k
/-! from the case's words -/
theorem own_eq {first : State} {o : Option Outcome} {idx : List Nat} {a b : Term} (h : (Jvm.Cond.eq a b).value args first o s idx = some true) : ∃ v, a.eval args first o idx s = some v ∧ b.eval args first o idx s = some v := by
  simp only [Cond.value] at h
  split at h <;> simp_all
theorem own_exa {t : Term} {K : String} (h : (Jvm.Cond.exactly t K).value args s none s [] = some true) : ∃ a, t.eval args s none [] s = some (.ref a) ∧ Exa s s.heap a K := by
  obtain ⟨a, c, cell, k, e1, r⟩ := Cond.exactly_spec (Cond.before_iff.mpr h)
  exact ⟨a, e1, Exa.start e1 h⟩
theorem own_eqi {t u : Term} {v : Value} (h : (Jvm.Cond.eq t u).value args s none s [] = some true) (hu : u.eval args s none [] s = some v) : t.eval args s none [] s = some v := by
  obtain ⟨w, h1, h2⟩ := own_eq h
  rw [h1, ← h2, hu]
theorem own_fld {t : Term} {C n d : String} {v : Value} {a : Addr} (ev : t.eval args s none [] s = some (.ref a)) (h : (Term.field t C n d).eval args s none [] s = some v) : Fld s s.heap a C n d v :=
  Fld.start (by simpa [Term.eval, ev] using h)
theorem own_arr {t : Term} {ty : FieldType} {a : Addr} (ev : t.eval args s none [] s = some (.ref a)) (h : (Jvm.Cond.arrayOf t ty).value args s none s [] = some true) : ∃ c, Arr s s.heap a c ty ∧ s.arrayAt? a = some c := by
  obtain ⟨c, A⟩ := Arr.start ev h
  exact ⟨c, A, A.fin (Vm.Alike.refl _)⟩
theorem own_len {t : Term} {a : Addr} {c : Cell} {n : Int32} (ev : t.eval args s none [] s = some (.ref a)) (hc : s.arrayAt? a = some c) (h : (Term.length t).eval args s none [] s = some (.int n)) : c.slots.size = n.toNatClampNeg := by
  simp only [Term.eval, ev, hc, Option.bind_eq_bind, Option.bind_some] at h
  split at h
  · rename_i q
    have h := Value.int.inj (Option.some.inj h)
    rw [← h]
    have h2 := len_toInt q
    show _ = (Int32.toInt _).toNat
    rw [h2]; rfl
  · cases h
theorem own_el {t : Term} {a : Addr} {c : Cell} {k : Int32} {v : Value} (ev : t.eval args s none [] s = some (.ref a)) (hc : s.arrayAt? a = some c) (h : (Term.elem t (.int k)).eval args s none [] s = some v) : c.slots[k.toNatClampNeg]? = some v := by
  simp only [Term.eval, ev, hc, Option.bind_eq_bind, Option.bind_some] at h
  split at h
  · cases h
  · exact h
theorem own_ar {a : Addr} {c : Cell} {ty : FieldType} {vs : List Value} (A : Arr Z h a c ty) (hs : c.slots.size = vs.length) (H : HasL c 0 vs) : Ar Z h a ty vs := by
  refine ⟨c, A, ?_⟩
  apply Array.ext'
  apply List.ext_getElem?
  intro i
  by_cases hi : i < vs.length
  · have := HasL.at (dv := .null) vs 0 H i hi
    rw [Nat.zero_add] at this
    simp only [List.getElem?_toArray, Array.getElem?_toList] at *
    rw [this, List.getD_eq_getElem?_getD, List.getElem?_eq_getElem hi]; rfl
  · rw [List.getElem?_eq_none (by simpa [hs] using Nat.le_of_not_lt hi), List.getElem?_eq_none (by simpa using Nat.le_of_not_lt hi)]
theorem E_ldcF (X : Sd l Z own nm bytes ml ret R p e s m args below T h cells slots) {i : Nat} {b : UInt32} (w : (Jvm.Cond.constantFloat own i b).before a0 Z = true) (hd : decode bytes pc = .ok (.ldc i, 2)) (hp : pc + 2 = pc') (k : End Z p e below s Q kc ks T (mkF m pc' Ls (.float b :: st))) : End Z p e below s Q kc ks T (mkF m pc Ls st) := by
  subst hp; obtain ⟨meth, c, locs, X, N, e0, E, hx, hb, hml, hown, hnm, hret, hlk, hZ⟩ := X; subst hb
  obtain ⟨kk, cf, hk, hcf, hc⟩ := Cond.constantFloat_spec hown (mvT (args := args) hZ w)
  exact k.go (X.ldcFloat hx hk hcf hc (g := mkF m pc Ls st) rfl hd)
/-! arrays of references, with what they take -/
def ArR (Z : State) (h : Heap) (a : Addr) (ty : FieldType) (C : String) (vs : List Value) : Prop := ∃ c : Cell, Arr Z h a c ty ∧ c.slots = vs.toArray ∧ (Ovr Z c.cls C ∨ ∃ t, OvrA Z c.cls t C)
section ArRFacts
variable {h' : Heap} {a b y : Addr} {ty : FieldType} {C : String} {vs : List Value} {ws : List Addr} {v : Value} {sl : Nat}
theorem ArR.ar (F : ArR Z h a ty C vs) : Ar Z h a ty vs := by obtain ⟨c, A, r, -⟩ := F; exact ⟨c, A, r⟩
theorem ArR.lt (F : ArR Z h a ty C vs) : a < h.size := F.ar.lt
theorem ArR.ext (F : ArR Z h a ty C vs) (E : Ext h h') : ArR Z h' a ty C vs := by obtain ⟨c, A, r⟩ := F; exact ⟨c, A.ext E, r⟩
theorem ArR.other (F : ArR Z h b ty C vs) (W : Wr h h' a sl v) (q : b ≠ a) : ArR Z h' b ty C vs := by obtain ⟨c, A, r⟩ := F; exact ⟨c, A.other W q, r⟩
theorem ArR.keep (F : ArR Z h a ty C vs) (K : Keep h h' ws) (q : a ∉ ws) : ArR Z h' a ty C vs := by obtain ⟨c, A, r⟩ := F; exact ⟨c, ⟨K.2.1 a c A.1 q, A.2⟩, r⟩
theorem ArR.set (F : ArR Z h a ty C vs) (W : Wr h h' a sl v) : ArR Z h' a ty C (vs.set sl v) := by
  obtain ⟨c, A, r, O⟩ := F
  exact ⟨_, A.same W, by simp [Cell.setSlot, r], O⟩
theorem ArR.sto (F : ArR Z h a ty C vs) (I : Ins Z h y C true) : Sto Z h a (.ref y) := by
  obtain ⟨c, A, -, O | ⟨t, O⟩⟩ := F
  · exact Sto.of A O I
  · exact Sto.ofVA A rfl O I
end ArRFacts
theorem E_newRA (X : Sd l Z own nm bytes ml ret R p e s m args below T h cells slots) {C : String} {ty : FieldType} {i cap : Nat} {n : Int32} {vs : List Value} {cells' slots' : Nat} (hC : (FieldType.array ty).toString = C) (w1 : (Jvm.Cond.classLink own i C).before a0 Z = true) (w2 : (Jvm.Cond.arrayOver (.array ty)).before a0 Z = true) (hd : decode bytes pc = .ok (.anewarray i, 3)) (hp : pc + 3 = pc') (hn : ¬ n < 0) (hcap : n.toNatClampNeg ≤ cap) (hb8 : cap * 8 ≤ 536870912) (hvs : List.replicate n.toNatClampNeg Value.null = vs) (hcc : cells + 1 = cells') (hss : slots + cap = slots') (hc : cells' ≤ R.cells) (hl : slots' ≤ R.slots)
    (k : ∀ T' h' a, a = h.size → Sd l Z own nm bytes ml ret R p e s m args below T' h' cells' slots' → Ext h h' → ArR Z h' a (.array ty) C vs → End Z p e below s Q kc ks T' (mkF m pc' Ls (.ref a :: st))) : End Z p e below s Q kc ks T (mkF m pc Ls (.int n :: st)) := by
  subst hp hcc hss hvs; obtain ⟨meth, c, locs, X, N, e0, E, hx, hb, hml, hown, r⟩ := X; subst hb
  obtain ⟨T', h', cA, X', e', E2, A2, -, O2, stp⟩ := newRA X hx r.2.2.2 hown hC w1 w2 e0 (g := mkF m pc Ls (.int n :: st)) rfl hd rfl hn hcap hb8 hc hl rfl
  exact (k T' h' h.size rfl ⟨meth, c, locs, X', N, e', E.trans E2, hx, rfl, hml, hown, r⟩ E2 ⟨_, A2, by simp [newA, defaultValue], Or.inr ⟨_, O2⟩⟩).go stp
theorem E_newR (X : Sd l Z own nm bytes ml ret R p e s m args below T h cells slots) {C : String} {i cap : Nat} {n : Int32} {vs : List Value} {cells' slots' : Nat} (w1 : (Jvm.Cond.classLink own i C).before a0 Z = true) (w2 : (Jvm.Cond.arrayOver (.object C)).before a0 Z = true) (hd : decode bytes pc = .ok (.anewarray i, 3)) (hp : pc + 3 = pc') (hn : ¬ n < 0) (hcap : n.toNatClampNeg ≤ cap) (hb8 : cap * 8 ≤ 536870912) (hvs : List.replicate n.toNatClampNeg Value.null = vs) (hcc : cells + 1 = cells') (hss : slots + cap = slots') (hc : cells' ≤ R.cells) (hl : slots' ≤ R.slots)
    (k : ∀ T' h' a, a = h.size → Sd l Z own nm bytes ml ret R p e s m args below T' h' cells' slots' → Ext h h' → ArR Z h' a (.object C) C vs → End Z p e below s Q kc ks T' (mkF m pc' Ls (.ref a :: st))) : End Z p e below s Q kc ks T (mkF m pc Ls (.int n :: st)) := by
  subst hp hcc hss hvs; obtain ⟨meth, c, locs, X, N, e0, E, hx, hb, hml, hown, r⟩ := X; subst hb
  obtain ⟨T', h', cA, X', e', E2, A2, O2, stp⟩ := newR X hx r.2.2.2 hown w1 w2 e0 (g := mkF m pc Ls (.int n :: st)) rfl hd rfl hn hcap hb8 hc hl
  exact (k T' h' h.size rfl ⟨meth, c, locs, X', N, e', E.trans E2, hx, rfl, hml, hown, r⟩ E2 ⟨_, A2, by simp [newA, defaultValue], Or.inl O2⟩).go stp
theorem E_aastore (X : Sd l Z own nm bytes ml ret R p e s m args below T h cells slots) {a y : Addr} {ty : FieldType} {C : String} {vs vs' : List Value} {j : Int32} (F : ArR Z h a ty C vs) (I : Ins Z h y C true) (hty : ty.isReference = true) (hj : ¬ j < 0) (hl : j.toNatClampNeg < vs.length) (hvs : vs.set j.toNatClampNeg (.ref y) = vs') (ha : Z.heap.size ≤ a) (hd : decode bytes pc = .ok (.aastore, 1)) (hp : pc + 1 = pc')
    (k : ∀ T' h', Sd l Z own nm bytes ml ret R p e s m args below T' h' cells slots → Wr h h' a j.toNatClampNeg (.ref y) → ArR Z h' a ty C vs' → End Z p e below s Q kc ks T' (mkF m pc' Ls st)) : End Z p e below s Q kc ks T (mkF m pc Ls (.ref y :: .int j :: .ref a :: st)) := by
  subst hp hvs; obtain ⟨meth, c, locs, X, N, e0, E, hx, hb, hml, hown, r⟩ := X; subst hb
  have F0 := F
  have S := F.sto I
  obtain ⟨cl, A, q, -⟩ := F
  obtain ⟨T', h', X', e', W, stp⟩ := stR X hx r.2.2.2 e0 A (Ar.inb q hj hl) hty S (g := mkF m pc Ls (.ref y :: .int j :: .ref a :: st)) rfl rfl hd
  exact (k T' h' ⟨meth, c, _, X', Fr.snoc X' N ha, e', E.wr W ha, hx, rfl, hml, hown, r⟩ W (F0.set W)).go stp
theorem E_ldcwI (X : Sd l Z own nm bytes ml ret R p e s m args below T h cells slots) {i : Nat} {v : Int32} (w : (Jvm.Cond.constant own i v).before a0 Z = true) (hd : decode bytes pc = .ok (.ldc_w i, 3)) (hp : pc + 3 = pc') (k : End Z p e below s Q kc ks T (mkF m pc' Ls (.int v :: st))) : End Z p e below s Q kc ks T (mkF m pc Ls st) := by
  subst hp; obtain ⟨meth, c, locs, X, N, e0, E, hx, hb, hml, hown, hnm, hret, hlk, hZ⟩ := X; subst hb
  exact k.go (X.ldcwInt hx hown (mvT hZ w) (g := mkF m pc Ls st) rfl hd)
theorem Ar.arv {a : Addr} {ty : FieldType} {vs : List Value} {z : Int32} (dv : Value) (F : Ar Z h a ty vs) (hf : ∀ v ∈ vs, fits ty v = true) (hn : vs.length = z.toNatClampNeg) (hz : ¬ z < 0) : ∃ k, Arv Z h a k ty z vs dv := by
  obtain ⟨c, A, r⟩ := F
  have hs : c.slots.size = vs.length := by rw [r]; simp
  refine ⟨c.cls, c, A, rfl, by rw [hs]; exact hn, hz, fun i hi => ?_, fun i hi => ?_⟩
  · rw [hs] at hi
    rw [r, List.getD_eq_getElem?_getD]; simp [hi]
  · rw [hs] at hi
    rw [List.getD_eq_getElem?_getD, List.getElem?_eq_getElem hi]
    exact hf _ (List.getElem_mem hi)
theorem Ar.of_arv {a : Addr} {ty : FieldType} {vs : List Value} {z : Int32} {dv : Value} {k : ClassId} (F : Arv Z h a k ty z vs dv) (hn : vs.length = z.toNatClampNeg) : Ar Z h a ty vs := by
  obtain ⟨c, A, -, hs, -, H, -⟩ := F
  refine ⟨c, A, ?_⟩
  apply Array.ext'
  apply List.ext_getElem?
  intro i
  by_cases hi : i < vs.length
  · have := H i (by omega)
    rw [Array.getElem?_toList, this, List.getD_eq_getElem?_getD, List.getElem?_eq_getElem hi]
    simp [hi]
  · rw [List.getElem?_eq_none (by rw [Array.length_toList]; omega), List.getElem?_eq_none (by simpa using Nat.le_of_not_lt hi)]
theorem E_acopy (X : Sd l Z own nm bytes ml ret R p e s m args below T h cells slots) {i W : Nat} {a b : Addr} {ty : FieldType} {vs vd vd2 : List Value} {sp dp nn z z' : Int32} (w1 : (Jvm.Cond.methodLink own i Jvm.Stand.acN).before a0 Z = true) (w2 : (Jvm.Cond.native Jvm.Stand.acN).before a0 Z = true) (w3 : (Jvm.Cond.static Jvm.Stand.acN).before a0 Z = true) (w4 : (Jvm.Cond.initialized "java/lang/System").before a0 Z = true)
    (A : Ar Z h a ty vs) (B : Ar Z h b ty vd) (hty : refKind ty = false) (fa : ∀ v ∈ vs, fits ty v = true) (fb : ∀ v ∈ vd, fits ty v = true) (za : vs.length = z.toNatClampNeg) (hz : ¬ z < 0) (zb : vd.length = z'.toNatClampNeg) (hz' : ¬ z' < 0) (h1 : ¬ sp < 0) (h2 : ¬ dp < 0) (h3 : ¬ nn < 0) (h4 : sp.toNatClampNeg + nn.toNatClampNeg ≤ vs.length) (h5 : dp.toNatClampNeg + nn.toNatClampNeg ≤ vd.length)
    (hvd : vd.take dp.toNatClampNeg ++ ((List.range nn.toNatClampNeg).map fun i => vs.getD (sp.toNatClampNeg + i) .null) ++ vd.drop (dp.toNatClampNeg + nn.toNatClampNeg) = vd2) (hb0 : Z.heap.size ≤ b) (hsz : Ls.size = ml) (hd : decode bytes pc = .ok (.invokestatic i, 3)) (hp : pc + 3 = pc') (hf : 1 ≤ R.frames) (hW : (st.map fun v => v.category).sum ≤ W) (hlo : W + (nativeFrameWords "java/lang/System" "arraycopy" 5 + 11) ≤ R.locals)
    (k : ∀ T' h', Sd l Z own nm bytes ml ret R p e s m args below T' h' cells slots → Keep h h' [b] → Ar Z h' b ty vd2 → End Z p e below s Q kc ks T' (mkF m pc' Ls st)) : End Z p e below s Q kc ks T (mkF m pc Ls (.int nn :: .int dp :: .ref b :: .int sp :: .ref a :: st)) := by
  subst hp hvd; obtain ⟨meth, c, locs, X, N, e0, E, hx, hb, hml, hown, r⟩ := X; subst hb
  obtain ⟨k1, A1⟩ := A.arv .null fa za hz
  obtain ⟨k2, B1⟩ := B.arv .null fb zb hz'
  obtain ⟨T', h', L, X', e', N', K, B2, stp⟩ := cpA X hx r.2.2.2 hown w1 w2 w3 w4 e0 A1 B1 (Or.inl ⟨rfl, hty⟩) h1 h2 h3 (by rw [← za]; exact h4) (by rw [← zb]; exact h5) rfl h5 N hb0 (g := mkF m pc Ls (.int nn :: .int dp :: .ref b :: .int sp :: .ref a :: st)) rfl (hsz.trans hml.symm) rfl hd hf (W := W) (by show 2 * 0 + _ ≤ _; omega) hlo
  refine (k T' h' ⟨meth, c, _, X', N', e', E.keep K (allS hb0 all0), hx, rfl, hml, hown, r⟩ K (Ar.of_arv B2 ?_)).go stp
  simp; omega
end Own
end Jvm.RoadKit
namespace Jvm.Pilot.@@N@@
open Jvm Jvm.ClassFile Sem Op Lib Jvm.Free Jvm.Stand Jvm.LawKit Jvm.RoadKit Bundle Jvm.Pilot.@@N@@.Jvm.D
theorem w_0 {a0 : Array Value} {Z : State} (hw : ∀ d ∈ tables_1, d.before a0 Z = true) : (Jvm.Cond.constant "com/example/nimble_calculus/nimblecalculus/equivalence/SplitsAddPartPinLaw" (7 : Nat) (2147483647 : Int32)).before a0 Z = true := hw _ (List.mem_of_getElem? (i := 0) rfl)
theorem w_1 {a0 : Array Value} {Z : State} (hw : ∀ d ∈ tables_1, d.before a0 Z = true) : (Jvm.Cond.arrayClass Jvm.ClassFile.FieldType.int).before a0 Z = true := hw _ (List.mem_of_getElem? (i := 1) rfl)
theorem w_2 {a0 : Array Value} {Z : State} (hw : ∀ d ∈ tables_1, d.before a0 Z = true) : (Jvm.Cond.classLink "com/example/nimble_calculus/nimblecalculus/equivalence/SplitsAddPartPinLaw" (8 : Nat) "com/example/nimble_calculus/nimblecalculus/equivalence/Splits").before a0 Z = true := hw _ (List.mem_of_getElem? (i := 2) rfl)
theorem w_3 {a0 : Array Value} {Z : State} (hw : ∀ d ∈ tables_1, d.before a0 Z = true) : (Jvm.Cond.instantiable "com/example/nimble_calculus/nimblecalculus/equivalence/Splits" (10 : Nat)).before a0 Z = true := hw _ (List.mem_of_getElem? (i := 3) rfl)
theorem w_4 {a0 : Array Value} {Z : State} (hw : ∀ d ∈ tables_1, d.before a0 Z = true) : (Jvm.Cond.initialized "com/example/nimble_calculus/nimblecalculus/equivalence/Splits").before a0 Z = true := hw _ (List.mem_of_getElem? (i := 4) rfl)
theorem w_5 {a0 : Array Value} {Z : State} (hw : ∀ d ∈ tables_1, d.before a0 Z = true) : (Jvm.Cond.methodLink "com/example/nimble_calculus/nimblecalculus/equivalence/SplitsAddPartPinLaw" (10 : Nat) ({ cls := "com/example/nimble_calculus/nimblecalculus/equivalence/Splits", name := "<init>", desc := "(I)V" } : Jvm.MethodName)).before a0 Z = true := hw _ (List.mem_of_getElem? (i := 5) rfl)
theorem w_6 {a0 : Array Value} {Z : State} (hw : ∀ d ∈ tables_1, d.before a0 Z = true) : (Jvm.Cond.instanceMethod ({ cls := "com/example/nimble_calculus/nimblecalculus/equivalence/Splits", name := "<init>", desc := "(I)V" } : Jvm.MethodName)).before a0 Z = true := hw _ (List.mem_of_getElem? (i := 6) rfl)
theorem w_7 {a0 : Array Value} {Z : State} (hw : ∀ d ∈ tables_1, d.before a0 Z = true) : (Jvm.Cond.code ({ cls := "com/example/nimble_calculus/nimblecalculus/equivalence/Splits", name := "<init>", desc := "(I)V" } : Jvm.MethodName) prog_61_method_1_code (3 : Nat) (Option.none : Option Jvm.ClassFile.FieldType)).before a0 Z = true := hw _ (List.mem_of_getElem? (i := 7) rfl)
theorem w_8 {a0 : Array Value} {Z : State} (hw : ∀ d ∈ tables_1, d.before a0 Z = true) : (Jvm.Cond.methodLink "com/example/nimble_calculus/nimblecalculus/equivalence/Splits" (1 : Nat) ({ cls := "java/lang/Object", name := "<init>", desc := "()V" } : Jvm.MethodName)).before a0 Z = true := hw _ (List.mem_of_getElem? (i := 8) rfl)
theorem w_9 {a0 : Array Value} {Z : State} (hw : ∀ d ∈ tables_1, d.before a0 Z = true) : (Jvm.Cond.instanceMethod ({ cls := "java/lang/Object", name := "<init>", desc := "()V" } : Jvm.MethodName)).before a0 Z = true := hw _ (List.mem_of_getElem? (i := 9) rfl)
theorem w_10 {a0 : Array Value} {Z : State} (hw : ∀ d ∈ tables_1, d.before a0 Z = true) : (Jvm.Cond.code ({ cls := "java/lang/Object", name := "<init>", desc := "()V" } : Jvm.MethodName) object_method_1_code (1 : Nat) (Option.none : Option Jvm.ClassFile.FieldType)).before a0 Z = true := hw _ (List.mem_of_getElem? (i := 10) rfl)
theorem w_11 {a0 : Array Value} {Z : State} (hw : ∀ d ∈ tables_1, d.before a0 Z = true) : (Jvm.Cond.fieldLink "com/example/nimble_calculus/nimblecalculus/equivalence/Splits" (7 : Nat) "com/example/nimble_calculus/nimblecalculus/equivalence/Splits" "nodeCount" "I").before a0 Z = true := hw _ (List.mem_of_getElem? (i := 11) rfl)
theorem w_12 {a0 : Array Value} {Z : State} (hw : ∀ d ∈ tables_1, d.before a0 Z = true) : (Jvm.Cond.lays "com/example/nimble_calculus/nimblecalculus/equivalence/Splits" "com/example/nimble_calculus/nimblecalculus/equivalence/Splits" "nodeCount" "I").before a0 Z = true := hw _ (List.mem_of_getElem? (i := 12) rfl)
theorem w_13 {a0 : Array Value} {Z : State} (hw : ∀ d ∈ tables_1, d.before a0 Z = true) : (Jvm.Cond.constantLong "com/example/nimble_calculus/nimblecalculus/equivalence/Splits" (15 : Nat) (2147483647 : Int64)).before a0 Z = true := hw _ (List.mem_of_getElem? (i := 13) rfl)
theorem w_14 {a0 : Array Value} {Z : State} (hw : ∀ d ∈ tables_1, d.before a0 Z = true) : (Jvm.Cond.constantLong "com/example/nimble_calculus/nimblecalculus/equivalence/Splits" (17 : Nat) (2 : Int64)).before a0 Z = true := hw _ (List.mem_of_getElem? (i := 14) rfl)
theorem w_15 {a0 : Array Value} {Z : State} (hw : ∀ d ∈ tables_1, d.before a0 Z = true) : (Jvm.Cond.methodLink "com/example/nimble_calculus/nimblecalculus/equivalence/Splits" (19 : Nat) ({ cls := "java/lang/Math", name := "max", desc := "(JJ)J" } : Jvm.MethodName)).before a0 Z = true := hw _ (List.mem_of_getElem? (i := 15) rfl)
theorem w_16 {a0 : Array Value} {Z : State} (hw : ∀ d ∈ tables_1, d.before a0 Z = true) : (Jvm.Cond.static ({ cls := "java/lang/Math", name := "max", desc := "(JJ)J" } : Jvm.MethodName)).before a0 Z = true := hw _ (List.mem_of_getElem? (i := 16) rfl)
theorem w_17 {a0 : Array Value} {Z : State} (hw : ∀ d ∈ tables_1, d.before a0 Z = true) : (Jvm.Cond.initialized "java/lang/Math").before a0 Z = true := hw _ (List.mem_of_getElem? (i := 17) rfl)
theorem w_18 {a0 : Array Value} {Z : State} (hw : ∀ d ∈ tables_1, d.before a0 Z = true) : (Jvm.Cond.code ({ cls := "java/lang/Math", name := "max", desc := "(JJ)J" } : Jvm.MethodName) jdk_29_method_66_code (4 : Nat) (Option.some Jvm.ClassFile.FieldType.long)).before a0 Z = true := hw _ (List.mem_of_getElem? (i := 18) rfl)
theorem w_19 {a0 : Array Value} {Z : State} (hw : ∀ d ∈ tables_1, d.before a0 Z = true) : (Jvm.Cond.methodLink "com/example/nimble_calculus/nimblecalculus/equivalence/Splits" (25 : Nat) ({ cls := "java/lang/Math", name := "min", desc := "(JJ)J" } : Jvm.MethodName)).before a0 Z = true := hw _ (List.mem_of_getElem? (i := 19) rfl)
theorem w_20 {a0 : Array Value} {Z : State} (hw : ∀ d ∈ tables_1, d.before a0 Z = true) : (Jvm.Cond.static ({ cls := "java/lang/Math", name := "min", desc := "(JJ)J" } : Jvm.MethodName)).before a0 Z = true := hw _ (List.mem_of_getElem? (i := 20) rfl)
theorem w_21 {a0 : Array Value} {Z : State} (hw : ∀ d ∈ tables_1, d.before a0 Z = true) : (Jvm.Cond.code ({ cls := "java/lang/Math", name := "min", desc := "(JJ)J" } : Jvm.MethodName) jdk_29_method_70_code (4 : Nat) (Option.some Jvm.ClassFile.FieldType.long)).before a0 Z = true := hw _ (List.mem_of_getElem? (i := 21) rfl)
theorem w_22 {a0 : Array Value} {Z : State} (hw : ∀ d ∈ tables_1, d.before a0 Z = true) : (Jvm.Cond.fieldLink "com/example/nimble_calculus/nimblecalculus/equivalence/Splits" (28 : Nat) "com/example/nimble_calculus/nimblecalculus/equivalence/Splits" "parent" "[I").before a0 Z = true := hw _ (List.mem_of_getElem? (i := 22) rfl)
theorem w_23 {a0 : Array Value} {Z : State} (hw : ∀ d ∈ tables_1, d.before a0 Z = true) : (Jvm.Cond.laysFinal "com/example/nimble_calculus/nimblecalculus/equivalence/Splits" "com/example/nimble_calculus/nimblecalculus/equivalence/Splits" "parent" "[I").before a0 Z = true := hw _ (List.mem_of_getElem? (i := 23) rfl)
theorem w_24 {a0 : Array Value} {Z : State} (hw : ∀ d ∈ tables_1, d.before a0 Z = true) : (Jvm.Cond.fieldLink "com/example/nimble_calculus/nimblecalculus/equivalence/Splits" (32 : Nat) "com/example/nimble_calculus/nimblecalculus/equivalence/Splits" "born" "[I").before a0 Z = true := hw _ (List.mem_of_getElem? (i := 24) rfl)
theorem w_25 {a0 : Array Value} {Z : State} (hw : ∀ d ∈ tables_1, d.before a0 Z = true) : (Jvm.Cond.laysFinal "com/example/nimble_calculus/nimblecalculus/equivalence/Splits" "com/example/nimble_calculus/nimblecalculus/equivalence/Splits" "born" "[I").before a0 Z = true := hw _ (List.mem_of_getElem? (i := 25) rfl)
theorem w_26 {a0 : Array Value} {Z : State} (hw : ∀ d ∈ tables_1, d.before a0 Z = true) : (Jvm.Cond.fieldLink "com/example/nimble_calculus/nimblecalculus/equivalence/Splits" (35 : Nat) "com/example/nimble_calculus/nimblecalculus/equivalence/Splits" "representative" "[I").before a0 Z = true := hw _ (List.mem_of_getElem? (i := 26) rfl)
theorem w_27 {a0 : Array Value} {Z : State} (hw : ∀ d ∈ tables_1, d.before a0 Z = true) : (Jvm.Cond.laysFinal "com/example/nimble_calculus/nimblecalculus/equivalence/Splits" "com/example/nimble_calculus/nimblecalculus/equivalence/Splits" "representative" "[I").before a0 Z = true := hw _ (List.mem_of_getElem? (i := 27) rfl)
theorem w_28 {a0 : Array Value} {Z : State} (hw : ∀ d ∈ tables_1, d.before a0 Z = true) : (Jvm.Cond.methodLink "com/example/nimble_calculus/nimblecalculus/equivalence/Splits" (38 : Nat) ({ cls := "java/lang/Math", name := "max", desc := "(II)I" } : Jvm.MethodName)).before a0 Z = true := hw _ (List.mem_of_getElem? (i := 28) rfl)
theorem w_29 {a0 : Array Value} {Z : State} (hw : ∀ d ∈ tables_1, d.before a0 Z = true) : (Jvm.Cond.static ({ cls := "java/lang/Math", name := "max", desc := "(II)I" } : Jvm.MethodName)).before a0 Z = true := hw _ (List.mem_of_getElem? (i := 29) rfl)
theorem w_30 {a0 : Array Value} {Z : State} (hw : ∀ d ∈ tables_1, d.before a0 Z = true) : (Jvm.Cond.code ({ cls := "java/lang/Math", name := "max", desc := "(II)I" } : Jvm.MethodName) jdk_29_method_65_code (2 : Nat) (Option.some Jvm.ClassFile.FieldType.int)).before a0 Z = true := hw _ (List.mem_of_getElem? (i := 30) rfl)
theorem w_31 {a0 : Array Value} {Z : State} (hw : ∀ d ∈ tables_1, d.before a0 Z = true) : (Jvm.Cond.fieldLink "com/example/nimble_calculus/nimblecalculus/equivalence/Splits" (41 : Nat) "com/example/nimble_calculus/nimblecalculus/equivalence/Splits" "nodeOfBlock" "[I").before a0 Z = true := hw _ (List.mem_of_getElem? (i := 31) rfl)
theorem w_32 {a0 : Array Value} {Z : State} (hw : ∀ d ∈ tables_1, d.before a0 Z = true) : (Jvm.Cond.laysFinal "com/example/nimble_calculus/nimblecalculus/equivalence/Splits" "com/example/nimble_calculus/nimblecalculus/equivalence/Splits" "nodeOfBlock" "[I").before a0 Z = true := hw _ (List.mem_of_getElem? (i := 32) rfl)
theorem w_33 {a0 : Array Value} {Z : State} (hw : ∀ d ∈ tables_1, d.before a0 Z = true) : (Jvm.Cond.methodLink "com/example/nimble_calculus/nimblecalculus/equivalence/SplitsAddPartPinLaw" (13 : Nat) ({ cls := "com/example/nimble_calculus/nimblecalculus/equivalence/Splits", name := "beginSplit", desc := "(I)V" } : Jvm.MethodName)).before a0 Z = true := hw _ (List.mem_of_getElem? (i := 33) rfl)
theorem w_34 {a0 : Array Value} {Z : State} (hw : ∀ d ∈ tables_1, d.before a0 Z = true) : (Jvm.Cond.declares ({ cls := "com/example/nimble_calculus/nimblecalculus/equivalence/Splits", name := "beginSplit", desc := "(I)V" } : Jvm.MethodName)).before a0 Z = true := hw _ (List.mem_of_getElem? (i := 34) rfl)
theorem w_35 {a0 : Array Value} {Z : State} (hw : ∀ d ∈ tables_1, d.before a0 Z = true) : (Jvm.Cond.instanceMethod ({ cls := "com/example/nimble_calculus/nimblecalculus/equivalence/Splits", name := "beginSplit", desc := "(I)V" } : Jvm.MethodName)).before a0 Z = true := hw _ (List.mem_of_getElem? (i := 35) rfl)
theorem w_36 {a0 : Array Value} {Z : State} (hw : ∀ d ∈ tables_1, d.before a0 Z = true) : (Jvm.Cond.selects "com/example/nimble_calculus/nimblecalculus/equivalence/Splits" ({ cls := "com/example/nimble_calculus/nimblecalculus/equivalence/Splits", name := "beginSplit", desc := "(I)V" } : Jvm.MethodName) ({ cls := "com/example/nimble_calculus/nimblecalculus/equivalence/Splits", name := "beginSplit", desc := "(I)V" } : Jvm.MethodName)).before a0 Z = true := hw _ (List.mem_of_getElem? (i := 36) rfl)
theorem w_37 {a0 : Array Value} {Z : State} (hw : ∀ d ∈ tables_1, d.before a0 Z = true) : (Jvm.Cond.code ({ cls := "com/example/nimble_calculus/nimblecalculus/equivalence/Splits", name := "beginSplit", desc := "(I)V" } : Jvm.MethodName) prog_61_method_2_code (2 : Nat) (Option.none : Option Jvm.ClassFile.FieldType)).before a0 Z = true := hw _ (List.mem_of_getElem? (i := 37) rfl)
theorem w_38 {a0 : Array Value} {Z : State} (hw : ∀ d ∈ tables_1, d.before a0 Z = true) : (Jvm.Cond.fieldLink "com/example/nimble_calculus/nimblecalculus/equivalence/Splits" (44 : Nat) "com/example/nimble_calculus/nimblecalculus/equivalence/Splits" "splitCount" "I").before a0 Z = true := hw _ (List.mem_of_getElem? (i := 38) rfl)
theorem w_39 {a0 : Array Value} {Z : State} (hw : ∀ d ∈ tables_1, d.before a0 Z = true) : (Jvm.Cond.lays "com/example/nimble_calculus/nimblecalculus/equivalence/Splits" "com/example/nimble_calculus/nimblecalculus/equivalence/Splits" "splitCount" "I").before a0 Z = true := hw _ (List.mem_of_getElem? (i := 39) rfl)
theorem w_40 {a0 : Array Value} {Z : State} (hw : ∀ d ∈ tables_1, d.before a0 Z = true) : (Jvm.Cond.fieldLink "com/example/nimble_calculus/nimblecalculus/equivalence/Splits" (47 : Nat) "com/example/nimble_calculus/nimblecalculus/equivalence/Splits" "splitting" "I").before a0 Z = true := hw _ (List.mem_of_getElem? (i := 40) rfl)
theorem w_41 {a0 : Array Value} {Z : State} (hw : ∀ d ∈ tables_1, d.before a0 Z = true) : (Jvm.Cond.lays "com/example/nimble_calculus/nimblecalculus/equivalence/Splits" "com/example/nimble_calculus/nimblecalculus/equivalence/Splits" "splitting" "I").before a0 Z = true := hw _ (List.mem_of_getElem? (i := 41) rfl)
theorem w_42 {a0 : Array Value} {Z : State} (hw : ∀ d ∈ tables_1, d.before a0 Z = true) : (Jvm.Cond.methodLink "com/example/nimble_calculus/nimblecalculus/equivalence/SplitsAddPartPinLaw" (16 : Nat) ({ cls := "com/example/nimble_calculus/nimblecalculus/equivalence/Splits", name := "addPart", desc := "(II)V" } : Jvm.MethodName)).before a0 Z = true := hw _ (List.mem_of_getElem? (i := 42) rfl)
theorem w_43 {a0 : Array Value} {Z : State} (hw : ∀ d ∈ tables_1, d.before a0 Z = true) : (Jvm.Cond.declares ({ cls := "com/example/nimble_calculus/nimblecalculus/equivalence/Splits", name := "addPart", desc := "(II)V" } : Jvm.MethodName)).before a0 Z = true := hw _ (List.mem_of_getElem? (i := 43) rfl)
theorem w_44 {a0 : Array Value} {Z : State} (hw : ∀ d ∈ tables_1, d.before a0 Z = true) : (Jvm.Cond.instanceMethod ({ cls := "com/example/nimble_calculus/nimblecalculus/equivalence/Splits", name := "addPart", desc := "(II)V" } : Jvm.MethodName)).before a0 Z = true := hw _ (List.mem_of_getElem? (i := 44) rfl)
theorem w_45 {a0 : Array Value} {Z : State} (hw : ∀ d ∈ tables_1, d.before a0 Z = true) : (Jvm.Cond.selects "com/example/nimble_calculus/nimblecalculus/equivalence/Splits" ({ cls := "com/example/nimble_calculus/nimblecalculus/equivalence/Splits", name := "addPart", desc := "(II)V" } : Jvm.MethodName) ({ cls := "com/example/nimble_calculus/nimblecalculus/equivalence/Splits", name := "addPart", desc := "(II)V" } : Jvm.MethodName)).before a0 Z = true := hw _ (List.mem_of_getElem? (i := 45) rfl)
theorem w_46 {a0 : Array Value} {Z : State} (hw : ∀ d ∈ tables_1, d.before a0 Z = true) : (Jvm.Cond.code ({ cls := "com/example/nimble_calculus/nimblecalculus/equivalence/Splits", name := "addPart", desc := "(II)V" } : Jvm.MethodName) prog_61_method_3_code (4 : Nat) (Option.none : Option Jvm.ClassFile.FieldType)).before a0 Z = true := hw _ (List.mem_of_getElem? (i := 46) rfl)
theorem w_47 {a0 : Array Value} {Z : State} (hw : ∀ d ∈ tables_1, d.before a0 Z = true) : (Jvm.Cond.methodLink "com/example/nimble_calculus/nimblecalculus/equivalence/SplitsAddPartPinLaw" (20 : Nat) ({ cls := "com/example/nimble_calculus/nimblecalculus/equivalence/Splits", name := "finish", desc := "([I)V" } : Jvm.MethodName)).before a0 Z = true := hw _ (List.mem_of_getElem? (i := 47) rfl)
theorem w_48 {a0 : Array Value} {Z : State} (hw : ∀ d ∈ tables_1, d.before a0 Z = true) : (Jvm.Cond.declares ({ cls := "com/example/nimble_calculus/nimblecalculus/equivalence/Splits", name := "finish", desc := "([I)V" } : Jvm.MethodName)).before a0 Z = true := hw _ (List.mem_of_getElem? (i := 48) rfl)
theorem w_49 {a0 : Array Value} {Z : State} (hw : ∀ d ∈ tables_1, d.before a0 Z = true) : (Jvm.Cond.instanceMethod ({ cls := "com/example/nimble_calculus/nimblecalculus/equivalence/Splits", name := "finish", desc := "([I)V" } : Jvm.MethodName)).before a0 Z = true := hw _ (List.mem_of_getElem? (i := 49) rfl)
theorem w_50 {a0 : Array Value} {Z : State} (hw : ∀ d ∈ tables_1, d.before a0 Z = true) : (Jvm.Cond.selects "com/example/nimble_calculus/nimblecalculus/equivalence/Splits" ({ cls := "com/example/nimble_calculus/nimblecalculus/equivalence/Splits", name := "finish", desc := "([I)V" } : Jvm.MethodName) ({ cls := "com/example/nimble_calculus/nimblecalculus/equivalence/Splits", name := "finish", desc := "([I)V" } : Jvm.MethodName)).before a0 Z = true := hw _ (List.mem_of_getElem? (i := 50) rfl)
theorem w_51 {a0 : Array Value} {Z : State} (hw : ∀ d ∈ tables_1, d.before a0 Z = true) : (Jvm.Cond.code ({ cls := "com/example/nimble_calculus/nimblecalculus/equivalence/Splits", name := "finish", desc := "([I)V" } : Jvm.MethodName) prog_61_method_4_code (8 : Nat) (Option.none : Option Jvm.ClassFile.FieldType)).before a0 Z = true := hw _ (List.mem_of_getElem? (i := 51) rfl)
theorem w_52 {a0 : Array Value} {Z : State} (hw : ∀ d ∈ tables_1, d.before a0 Z = true) : (Jvm.Cond.fieldLink "com/example/nimble_calculus/nimblecalculus/equivalence/Splits" (50 : Nat) "com/example/nimble_calculus/nimblecalculus/equivalence/Splits" "leaf" "[I").before a0 Z = true := hw _ (List.mem_of_getElem? (i := 52) rfl)
theorem w_53 {a0 : Array Value} {Z : State} (hw : ∀ d ∈ tables_1, d.before a0 Z = true) : (Jvm.Cond.lays "com/example/nimble_calculus/nimblecalculus/equivalence/Splits" "com/example/nimble_calculus/nimblecalculus/equivalence/Splits" "leaf" "[I").before a0 Z = true := hw _ (List.mem_of_getElem? (i := 53) rfl)
theorem w_54 {a0 : Array Value} {Z : State} (hw : ∀ d ∈ tables_1, d.before a0 Z = true) : (Jvm.Cond.fieldLink "com/example/nimble_calculus/nimblecalculus/equivalence/Splits" (53 : Nat) "com/example/nimble_calculus/nimblecalculus/equivalence/Splits" "height" "[I").before a0 Z = true := hw _ (List.mem_of_getElem? (i := 54) rfl)
theorem w_55 {a0 : Array Value} {Z : State} (hw : ∀ d ∈ tables_1, d.before a0 Z = true) : (Jvm.Cond.lays "com/example/nimble_calculus/nimblecalculus/equivalence/Splits" "com/example/nimble_calculus/nimblecalculus/equivalence/Splits" "height" "[I").before a0 Z = true := hw _ (List.mem_of_getElem? (i := 55) rfl)
theorem w_56 {a0 : Array Value} {Z : State} (hw : ∀ d ∈ tables_1, d.before a0 Z = true) : (Jvm.Cond.methodLink "com/example/nimble_calculus/nimblecalculus/equivalence/Splits" (56 : Nat) ({ cls := "java/lang/Integer", name := "numberOfLeadingZeros", desc := "(I)I" } : Jvm.MethodName)).before a0 Z = true := hw _ (List.mem_of_getElem? (i := 56) rfl)
theorem w_57 {a0 : Array Value} {Z : State} (hw : ∀ d ∈ tables_1, d.before a0 Z = true) : (Jvm.Cond.static ({ cls := "java/lang/Integer", name := "numberOfLeadingZeros", desc := "(I)I" } : Jvm.MethodName)).before a0 Z = true := hw _ (List.mem_of_getElem? (i := 57) rfl)
theorem w_58 {a0 : Array Value} {Z : State} (hw : ∀ d ∈ tables_1, d.before a0 Z = true) : (Jvm.Cond.initialized "java/lang/Integer").before a0 Z = true := hw _ (List.mem_of_getElem? (i := 58) rfl)
theorem w_59 {a0 : Array Value} {Z : State} (hw : ∀ d ∈ tables_1, d.before a0 Z = true) : (Jvm.Cond.code ({ cls := "java/lang/Integer", name := "numberOfLeadingZeros", desc := "(I)I" } : Jvm.MethodName) jdk_33_method_47_code (2 : Nat) (Option.some Jvm.ClassFile.FieldType.int)).before a0 Z = true := hw _ (List.mem_of_getElem? (i := 59) rfl)
theorem w_60 {a0 : Array Value} {Z : State} (hw : ∀ d ∈ tables_1, d.before a0 Z = true) : (Jvm.Cond.constant "java/lang/Integer" (264 : Nat) (65536 : Int32)).before a0 Z = true := hw _ (List.mem_of_getElem? (i := 60) rfl)
theorem w_61 {a0 : Array Value} {Z : State} (hw : ∀ d ∈ tables_1, d.before a0 Z = true) : (Jvm.Cond.classLink "com/example/nimble_calculus/nimblecalculus/equivalence/Splits" (60 : Nat) "[I").before a0 Z = true := hw _ (List.mem_of_getElem? (i := 61) rfl)
theorem w_62 {a0 : Array Value} {Z : State} (hw : ∀ d ∈ tables_1, d.before a0 Z = true) : (Jvm.Cond.arrayOver (Jvm.ClassFile.FieldType.array Jvm.ClassFile.FieldType.int)).before a0 Z = true := hw _ (List.mem_of_getElem? (i := 62) rfl)
theorem w_63 {a0 : Array Value} {Z : State} (hw : ∀ d ∈ tables_1, d.before a0 Z = true) : (Jvm.Cond.fieldLink "com/example/nimble_calculus/nimblecalculus/equivalence/Splits" (61 : Nat) "com/example/nimble_calculus/nimblecalculus/equivalence/Splits" "jumps" "[[I").before a0 Z = true := hw _ (List.mem_of_getElem? (i := 63) rfl)
theorem w_64 {a0 : Array Value} {Z : State} (hw : ∀ d ∈ tables_1, d.before a0 Z = true) : (Jvm.Cond.lays "com/example/nimble_calculus/nimblecalculus/equivalence/Splits" "com/example/nimble_calculus/nimblecalculus/equivalence/Splits" "jumps" "[[I").before a0 Z = true := hw _ (List.mem_of_getElem? (i := 64) rfl)
theorem w_65 {a0 : Array Value} {Z : State} (hw : ∀ d ∈ tables_1, d.before a0 Z = true) : (Jvm.Cond.methodLink "com/example/nimble_calculus/nimblecalculus/equivalence/Splits" (65 : Nat) ({ cls := "java/util/Arrays", name := "copyOf", desc := "([II)[I" } : Jvm.MethodName)).before a0 Z = true := hw _ (List.mem_of_getElem? (i := 65) rfl)
theorem w_66 {a0 : Array Value} {Z : State} (hw : ∀ d ∈ tables_1, d.before a0 Z = true) : (Jvm.Cond.static ({ cls := "java/util/Arrays", name := "copyOf", desc := "([II)[I" } : Jvm.MethodName)).before a0 Z = true := hw _ (List.mem_of_getElem? (i := 66) rfl)
theorem w_67 {a0 : Array Value} {Z : State} (hw : ∀ d ∈ tables_1, d.before a0 Z = true) : (Jvm.Cond.initialized "java/util/Arrays").before a0 Z = true := hw _ (List.mem_of_getElem? (i := 67) rfl)
theorem w_68 {a0 : Array Value} {Z : State} (hw : ∀ d ∈ tables_1, d.before a0 Z = true) : (Jvm.Cond.code ({ cls := "java/util/Arrays", name := "copyOf", desc := "([II)[I" } : Jvm.MethodName) jdk_65_method_123_code (3 : Nat) (Option.some (Jvm.ClassFile.FieldType.array Jvm.ClassFile.FieldType.int))).before a0 Z = true := hw _ (List.mem_of_getElem? (i := 68) rfl)
theorem w_69 {a0 : Array Value} {Z : State} (hw : ∀ d ∈ tables_1, d.before a0 Z = true) : (Jvm.Cond.methodLink "java/util/Arrays" (304 : Nat) ({ cls := "java/lang/Math", name := "min", desc := "(II)I" } : Jvm.MethodName)).before a0 Z = true := hw _ (List.mem_of_getElem? (i := 69) rfl)
theorem w_70 {a0 : Array Value} {Z : State} (hw : ∀ d ∈ tables_1, d.before a0 Z = true) : (Jvm.Cond.static ({ cls := "java/lang/Math", name := "min", desc := "(II)I" } : Jvm.MethodName)).before a0 Z = true := hw _ (List.mem_of_getElem? (i := 70) rfl)
theorem w_71 {a0 : Array Value} {Z : State} (hw : ∀ d ∈ tables_1, d.before a0 Z = true) : (Jvm.Cond.code ({ cls := "java/lang/Math", name := "min", desc := "(II)I" } : Jvm.MethodName) jdk_29_method_69_code (2 : Nat) (Option.some Jvm.ClassFile.FieldType.int)).before a0 Z = true := hw _ (List.mem_of_getElem? (i := 71) rfl)
theorem w_72 {a0 : Array Value} {Z : State} (hw : ∀ d ∈ tables_1, d.before a0 Z = true) : (Jvm.Cond.methodLink "java/util/Arrays" (150 : Nat) ({ cls := "java/lang/System", name := "arraycopy", desc := "(Ljava/lang/Object;ILjava/lang/Object;II)V" } : Jvm.MethodName)).before a0 Z = true := hw _ (List.mem_of_getElem? (i := 72) rfl)
theorem w_73 {a0 : Array Value} {Z : State} (hw : ∀ d ∈ tables_1, d.before a0 Z = true) : (Jvm.Cond.static ({ cls := "java/lang/System", name := "arraycopy", desc := "(Ljava/lang/Object;ILjava/lang/Object;II)V" } : Jvm.MethodName)).before a0 Z = true := hw _ (List.mem_of_getElem? (i := 73) rfl)
theorem w_74 {a0 : Array Value} {Z : State} (hw : ∀ d ∈ tables_1, d.before a0 Z = true) : (Jvm.Cond.initialized "java/lang/System").before a0 Z = true := hw _ (List.mem_of_getElem? (i := 74) rfl)
theorem w_75 {a0 : Array Value} {Z : State} (hw : ∀ d ∈ tables_1, d.before a0 Z = true) : (Jvm.Cond.native ({ cls := "java/lang/System", name := "arraycopy", desc := "(Ljava/lang/Object;ILjava/lang/Object;II)V" } : Jvm.MethodName)).before a0 Z = true := hw _ (List.mem_of_getElem? (i := 75) rfl)
theorem w_77 {a0 : Array Value} {Z : State} (hw : ∀ d ∈ tables_1, d.before a0 Z = true) : (Jvm.Cond.methodLink "com/example/nimble_calculus/nimblecalculus/equivalence/SplitsAddPartPinLaw" (24 : Nat) ({ cls := "com/example/nimble_calculus/nimblecalculus/equivalence/Splits", name := "leaf", desc := "(I)I" } : Jvm.MethodName)).before a0 Z = true := hw _ (List.mem_of_getElem? (i := 77) rfl)
theorem w_78 {a0 : Array Value} {Z : State} (hw : ∀ d ∈ tables_1, d.before a0 Z = true) : (Jvm.Cond.declares ({ cls := "com/example/nimble_calculus/nimblecalculus/equivalence/Splits", name := "leaf", desc := "(I)I" } : Jvm.MethodName)).before a0 Z = true := hw _ (List.mem_of_getElem? (i := 78) rfl)
theorem w_79 {a0 : Array Value} {Z : State} (hw : ∀ d ∈ tables_1, d.before a0 Z = true) : (Jvm.Cond.instanceMethod ({ cls := "com/example/nimble_calculus/nimblecalculus/equivalence/Splits", name := "leaf", desc := "(I)I" } : Jvm.MethodName)).before a0 Z = true := hw _ (List.mem_of_getElem? (i := 79) rfl)
theorem w_80 {a0 : Array Value} {Z : State} (hw : ∀ d ∈ tables_1, d.before a0 Z = true) : (Jvm.Cond.selects "com/example/nimble_calculus/nimblecalculus/equivalence/Splits" ({ cls := "com/example/nimble_calculus/nimblecalculus/equivalence/Splits", name := "leaf", desc := "(I)I" } : Jvm.MethodName) ({ cls := "com/example/nimble_calculus/nimblecalculus/equivalence/Splits", name := "leaf", desc := "(I)I" } : Jvm.MethodName)).before a0 Z = true := hw _ (List.mem_of_getElem? (i := 80) rfl)
theorem w_81 {a0 : Array Value} {Z : State} (hw : ∀ d ∈ tables_1, d.before a0 Z = true) : (Jvm.Cond.code ({ cls := "com/example/nimble_calculus/nimblecalculus/equivalence/Splits", name := "leaf", desc := "(I)I" } : Jvm.MethodName) prog_61_method_5_code (2 : Nat) (Option.some Jvm.ClassFile.FieldType.int)).before a0 Z = true := hw _ (List.mem_of_getElem? (i := 81) rfl)
theorem w_82 {a0 : Array Value} {Z : State} (hw : ∀ d ∈ tables_1, d.before a0 Z = true) : (Jvm.Cond.methodLink "com/example/nimble_calculus/nimblecalculus/equivalence/SplitsAddPartPinLaw" (28 : Nat) ({ cls := "com/example/nimble_calculus/nimblecalculus/equivalence/Splits", name := "born", desc := "(I)I" } : Jvm.MethodName)).before a0 Z = true := hw _ (List.mem_of_getElem? (i := 82) rfl)
theorem w_83 {a0 : Array Value} {Z : State} (hw : ∀ d ∈ tables_1, d.before a0 Z = true) : (Jvm.Cond.declares ({ cls := "com/example/nimble_calculus/nimblecalculus/equivalence/Splits", name := "born", desc := "(I)I" } : Jvm.MethodName)).before a0 Z = true := hw _ (List.mem_of_getElem? (i := 83) rfl)
theorem w_84 {a0 : Array Value} {Z : State} (hw : ∀ d ∈ tables_1, d.before a0 Z = true) : (Jvm.Cond.instanceMethod ({ cls := "com/example/nimble_calculus/nimblecalculus/equivalence/Splits", name := "born", desc := "(I)I" } : Jvm.MethodName)).before a0 Z = true := hw _ (List.mem_of_getElem? (i := 84) rfl)
theorem w_85 {a0 : Array Value} {Z : State} (hw : ∀ d ∈ tables_1, d.before a0 Z = true) : (Jvm.Cond.selects "com/example/nimble_calculus/nimblecalculus/equivalence/Splits" ({ cls := "com/example/nimble_calculus/nimblecalculus/equivalence/Splits", name := "born", desc := "(I)I" } : Jvm.MethodName) ({ cls := "com/example/nimble_calculus/nimblecalculus/equivalence/Splits", name := "born", desc := "(I)I" } : Jvm.MethodName)).before a0 Z = true := hw _ (List.mem_of_getElem? (i := 85) rfl)
theorem w_86 {a0 : Array Value} {Z : State} (hw : ∀ d ∈ tables_1, d.before a0 Z = true) : (Jvm.Cond.code ({ cls := "com/example/nimble_calculus/nimblecalculus/equivalence/Splits", name := "born", desc := "(I)I" } : Jvm.MethodName) prog_61_method_6_code (2 : Nat) (Option.some Jvm.ClassFile.FieldType.int)).before a0 Z = true := hw _ (List.mem_of_getElem? (i := 86) rfl)
theorem w_87 {a0 : Array Value} {Z : State} (hw : ∀ d ∈ tables_1, d.before a0 Z = true) : (Jvm.Cond.methodLink "com/example/nimble_calculus/nimblecalculus/equivalence/SplitsAddPartPinLaw" (31 : Nat) ({ cls := "com/example/nimble_calculus/nimblecalculus/equivalence/Splits", name := "representative", desc := "(I)I" } : Jvm.MethodName)).before a0 Z = true := hw _ (List.mem_of_getElem? (i := 87) rfl)
theorem w_88 {a0 : Array Value} {Z : State} (hw : ∀ d ∈ tables_1, d.before a0 Z = true) : (Jvm.Cond.declares ({ cls := "com/example/nimble_calculus/nimblecalculus/equivalence/Splits", name := "representative", desc := "(I)I" } : Jvm.MethodName)).before a0 Z = true := hw _ (List.mem_of_getElem? (i := 88) rfl)
theorem w_89 {a0 : Array Value} {Z : State} (hw : ∀ d ∈ tables_1, d.before a0 Z = true) : (Jvm.Cond.instanceMethod ({ cls := "com/example/nimble_calculus/nimblecalculus/equivalence/Splits", name := "representative", desc := "(I)I" } : Jvm.MethodName)).before a0 Z = true := hw _ (List.mem_of_getElem? (i := 89) rfl)
theorem w_90 {a0 : Array Value} {Z : State} (hw : ∀ d ∈ tables_1, d.before a0 Z = true) : (Jvm.Cond.selects "com/example/nimble_calculus/nimblecalculus/equivalence/Splits" ({ cls := "com/example/nimble_calculus/nimblecalculus/equivalence/Splits", name := "representative", desc := "(I)I" } : Jvm.MethodName) ({ cls := "com/example/nimble_calculus/nimblecalculus/equivalence/Splits", name := "representative", desc := "(I)I" } : Jvm.MethodName)).before a0 Z = true := hw _ (List.mem_of_getElem? (i := 90) rfl)
theorem w_91 {a0 : Array Value} {Z : State} (hw : ∀ d ∈ tables_1, d.before a0 Z = true) : (Jvm.Cond.code ({ cls := "com/example/nimble_calculus/nimblecalculus/equivalence/Splits", name := "representative", desc := "(I)I" } : Jvm.MethodName) prog_61_method_7_code (2 : Nat) (Option.some Jvm.ClassFile.FieldType.int)).before a0 Z = true := hw _ (List.mem_of_getElem? (i := 91) rfl)
theorem w_92 {a0 : Array Value} {Z : State} (hw : ∀ d ∈ tables_1, d.before a0 Z = true) : (Jvm.Cond.methodLink "com/example/nimble_calculus/nimblecalculus/equivalence/SplitsAddPartPinLaw" (34 : Nat) ({ cls := "com/example/nimble_calculus/nimblecalculus/equivalence/Splits", name := "blockBefore", desc := "(II)I" } : Jvm.MethodName)).before a0 Z = true := hw _ (List.mem_of_getElem? (i := 92) rfl)
theorem w_93 {a0 : Array Value} {Z : State} (hw : ∀ d ∈ tables_1, d.before a0 Z = true) : (Jvm.Cond.declares ({ cls := "com/example/nimble_calculus/nimblecalculus/equivalence/Splits", name := "blockBefore", desc := "(II)I" } : Jvm.MethodName)).before a0 Z = true := hw _ (List.mem_of_getElem? (i := 93) rfl)
theorem w_94 {a0 : Array Value} {Z : State} (hw : ∀ d ∈ tables_1, d.before a0 Z = true) : (Jvm.Cond.instanceMethod ({ cls := "com/example/nimble_calculus/nimblecalculus/equivalence/Splits", name := "blockBefore", desc := "(II)I" } : Jvm.MethodName)).before a0 Z = true := hw _ (List.mem_of_getElem? (i := 94) rfl)
theorem w_95 {a0 : Array Value} {Z : State} (hw : ∀ d ∈ tables_1, d.before a0 Z = true) : (Jvm.Cond.selects "com/example/nimble_calculus/nimblecalculus/equivalence/Splits" ({ cls := "com/example/nimble_calculus/nimblecalculus/equivalence/Splits", name := "blockBefore", desc := "(II)I" } : Jvm.MethodName) ({ cls := "com/example/nimble_calculus/nimblecalculus/equivalence/Splits", name := "blockBefore", desc := "(II)I" } : Jvm.MethodName)).before a0 Z = true := hw _ (List.mem_of_getElem? (i := 95) rfl)
theorem w_96 {a0 : Array Value} {Z : State} (hw : ∀ d ∈ tables_1, d.before a0 Z = true) : (Jvm.Cond.code ({ cls := "com/example/nimble_calculus/nimblecalculus/equivalence/Splits", name := "blockBefore", desc := "(II)I" } : Jvm.MethodName) prog_61_method_8_code (6 : Nat) (Option.some Jvm.ClassFile.FieldType.int)).before a0 Z = true := hw _ (List.mem_of_getElem? (i := 96) rfl)
theorem w_97 {a0 : Array Value} {Z : State} (hw : ∀ d ∈ tables_1, d.before a0 Z = true) : (Jvm.Cond.methodLink "com/example/nimble_calculus/nimblecalculus/equivalence/SplitsAddPartPinLaw" (38 : Nat) ({ cls := "com/example/nimble_calculus/nimblecalculus/equivalence/Splits", name := "childrenApart", desc := "(II)J" } : Jvm.MethodName)).before a0 Z = true := hw _ (List.mem_of_getElem? (i := 97) rfl)
theorem w_98 {a0 : Array Value} {Z : State} (hw : ∀ d ∈ tables_1, d.before a0 Z = true) : (Jvm.Cond.declares ({ cls := "com/example/nimble_calculus/nimblecalculus/equivalence/Splits", name := "childrenApart", desc := "(II)J" } : Jvm.MethodName)).before a0 Z = true := hw _ (List.mem_of_getElem? (i := 98) rfl)
theorem w_99 {a0 : Array Value} {Z : State} (hw : ∀ d ∈ tables_1, d.before a0 Z = true) : (Jvm.Cond.instanceMethod ({ cls := "com/example/nimble_calculus/nimblecalculus/equivalence/Splits", name := "childrenApart", desc := "(II)J" } : Jvm.MethodName)).before a0 Z = true := hw _ (List.mem_of_getElem? (i := 99) rfl)
theorem w_100 {a0 : Array Value} {Z : State} (hw : ∀ d ∈ tables_1, d.before a0 Z = true) : (Jvm.Cond.selects "com/example/nimble_calculus/nimblecalculus/equivalence/Splits" ({ cls := "com/example/nimble_calculus/nimblecalculus/equivalence/Splits", name := "childrenApart", desc := "(II)J" } : Jvm.MethodName) ({ cls := "com/example/nimble_calculus/nimblecalculus/equivalence/Splits", name := "childrenApart", desc := "(II)J" } : Jvm.MethodName)).before a0 Z = true := hw _ (List.mem_of_getElem? (i := 100) rfl)
theorem w_101 {a0 : Array Value} {Z : State} (hw : ∀ d ∈ tables_1, d.before a0 Z = true) : (Jvm.Cond.code ({ cls := "com/example/nimble_calculus/nimblecalculus/equivalence/Splits", name := "childrenApart", desc := "(II)J" } : Jvm.MethodName) prog_61_method_9_code (6 : Nat) (Option.some Jvm.ClassFile.FieldType.long)).before a0 Z = true := hw _ (List.mem_of_getElem? (i := 101) rfl)
theorem w_102 {a0 : Array Value} {Z : State} (hw : ∀ d ∈ tables_1, d.before a0 Z = true) : (Jvm.Cond.methodLink "com/example/nimble_calculus/nimblecalculus/equivalence/Splits" (80 : Nat) ({ cls := "com/example/nimble_calculus/nimblecalculus/equivalence/Splits", name := "pair", desc := "(II)J" } : Jvm.MethodName)).before a0 Z = true := hw _ (List.mem_of_getElem? (i := 102) rfl)
theorem w_103 {a0 : Array Value} {Z : State} (hw : ∀ d ∈ tables_1, d.before a0 Z = true) : (Jvm.Cond.static ({ cls := "com/example/nimble_calculus/nimblecalculus/equivalence/Splits", name := "pair", desc := "(II)J" } : Jvm.MethodName)).before a0 Z = true := hw _ (List.mem_of_getElem? (i := 103) rfl)
theorem w_104 {a0 : Array Value} {Z : State} (hw : ∀ d ∈ tables_1, d.before a0 Z = true) : (Jvm.Cond.code ({ cls := "com/example/nimble_calculus/nimblecalculus/equivalence/Splits", name := "pair", desc := "(II)J" } : Jvm.MethodName) prog_61_method_10_code (2 : Nat) (Option.some Jvm.ClassFile.FieldType.long)).before a0 Z = true := hw _ (List.mem_of_getElem? (i := 104) rfl)
theorem w_105 {a0 : Array Value} {Z : State} (hw : ∀ d ∈ tables_1, d.before a0 Z = true) : (Jvm.Cond.constantLong "com/example/nimble_calculus/nimblecalculus/equivalence/SplitsAddPartPinLaw" (42 : Nat) (4294967298 : Int64)).before a0 Z = true := hw _ (List.mem_of_getElem? (i := 105) rfl)
theorem own_rem3 (x : Int32) : (x &&& (2147483647 : Int32)) % (3 : Int32) = (0 : Int32) ∨ (x &&& (2147483647 : Int32)) % (3 : Int32) = (1 : Int32) ∨ (x &&& (2147483647 : Int32)) % (3 : Int32) = (2 : Int32) := by
  have h := (c_and x 2147483647 (by decide)).1
  have h2 := (c_irem (x &&& (2147483647 : Int32)) (3 : Int32) 3 rfl).1 h
  generalize (x &&& (2147483647 : Int32)) % (3 : Int32) = z at h2 ⊢
  generalize (x &&& (2147483647 : Int32)).toInt = y at h2
  simp only [← Int32.toInt_inj]
  have q0 : (0 : Int32).toInt = 0 := rfl
  have q1 : (1 : Int32).toInt = 1 := rfl
  have q2 : (2 : Int32).toInt = 2 := rfl
  omega
theorem own_b (x : Int32) : (1 : Int32) + (x &&& (2147483647 : Int32)) % (3 : Int32) = (1 : Int32) ∨ (1 : Int32) + (x &&& (2147483647 : Int32)) % (3 : Int32) = (2 : Int32) ∨ (1 : Int32) + (x &&& (2147483647 : Int32)) % (3 : Int32) = (3 : Int32) := by
  rcases own_rem3 x with h | h | h <;> rw [h] <;> decide
theorem d5_0 : decode jdk_29_method_65_code 0 = .ok (.iload_n 0, 1) := by decide +kernel
theorem d5_1 : decode jdk_29_method_65_code 1 = .ok (.iload_n 1, 1) := by decide +kernel
theorem d5_2 : decode jdk_29_method_65_code 2 = .ok (.if_icmp .lt 7, 3) := by decide +kernel
theorem d5_5 : decode jdk_29_method_65_code 5 = .ok (.iload_n 0, 1) := by decide +kernel
theorem d5_6 : decode jdk_29_method_65_code 6 = .ok (.goto 4, 3) := by decide +kernel
theorem d5_9 : decode jdk_29_method_65_code 9 = .ok (.iload_n 1, 1) := by decide +kernel
theorem d5_10 : decode jdk_29_method_65_code 10 = .ok (.ireturn, 1) := by decide +kernel
theorem ef_rm5 (m : MethodId) (x0 : Int32) (x1 : Int32) : entryFrame m #[(.int x0), (.int x1)] 2 = mkF m 0 #[.val (.int x0), .val (.int x1)] [] := by first | (simp [entryFrame, mkF, argsToLocals, Value.category]; done) | (simp [entryFrame, mkF, argsToLocals, *]; done) | rfl
set_option maxRecDepth 65536 in
set_option maxHeartbeats 2000000 in
theorem rm5 (l : Launch) (Z : State) (a0 : Array Value) (hw : ∀ d ∈ tables_1, d.before a0 Z = true) (x : Int32) (y : Int32) (r : Int32) (h0 : Heap) (hE : Ext Z.heap h0) (hr : (if x < y then y else x) = r) :
    Con l Z (⟨"java/lang/Math", "max", "(II)I"⟩ : MethodName) jdk_29_method_65_code 2 (some .int) ({ frames := 0, cells := 0, slots := 0, locals := 0 } : Room) #[(.int x), (.int y)] h0 (fun vv hh => vv = some (.int r) ∧ h0 = hh) := by
  refine Con.of (by decide +kernel) hE ?_
  intro p e s m below T (X : Sd l Z "java/lang/Math" "max" jdk_29_method_65_code 2 (some .int) ({ frames := 0, cells := 0, slots := 0, locals := 0 } : Room) p e s m #[(.int x), (.int y)] below T h0 0 0)
  refine End.frame (ef_rm5 m x y) ?_
  show End Z p e below s _ _ _ _ (mkF m 0 #[.val (.int x), .val (.int y)] [])
  refine E_iloadN (pc' := 1) X d5_0 rfl rfl ?_
  refine E_iloadN (pc' := 2) X d5_1 rfl rfl ?_
  refine E_icmp (pcY := 9) (pcN := 5) X (ic_lt _ _) d5_2 (by decide) rfl rfl (fun hc2_0 => ?_) (fun hc2_0 => ?_)
  · skip
    refine E_iloadN (pc' := 10) X d5_9 rfl rfl ?_
    exact E_retI X d5_10 (by decide) (by decide) ⟨(by rw [← hr, if_pos hc2_0]), rfl⟩
  · skip
    refine E_iloadN (pc' := 6) X d5_5 rfl rfl ?_
    refine E_goto (pc' := 10) X d5_6 (by decide) rfl ?_
    exact E_retI X d5_10 (by decide) (by decide) ⟨(by rw [← hr, if_neg hc2_0]), rfl⟩
theorem d3_0 : decode jdk_29_method_66_code 0 = .ok (.lload_n 0, 1) := by decide +kernel
theorem d3_1 : decode jdk_29_method_66_code 1 = .ok (.lload_n 2, 1) := by decide +kernel
theorem d3_2 : decode jdk_29_method_66_code 2 = .ok (.lcmp, 1) := by decide +kernel
theorem d3_3 : decode jdk_29_method_66_code 3 = .ok (.ifCond .lt 7, 3) := by decide +kernel
theorem d3_6 : decode jdk_29_method_66_code 6 = .ok (.lload_n 0, 1) := by decide +kernel
theorem d3_7 : decode jdk_29_method_66_code 7 = .ok (.goto 4, 3) := by decide +kernel
theorem d3_10 : decode jdk_29_method_66_code 10 = .ok (.lload_n 2, 1) := by decide +kernel
theorem d3_11 : decode jdk_29_method_66_code 11 = .ok (.lreturn, 1) := by decide +kernel
theorem ef_rm3 (m : MethodId) (x0 : Int64) (x1 : Int64) : entryFrame m #[(.long x0), (.long x1)] 4 = mkF m 0 #[.val (.long x0), .second, .val (.long x1), .second] [] := by first | (simp [entryFrame, mkF, argsToLocals, Value.category]; done) | (simp [entryFrame, mkF, argsToLocals, *]; done) | rfl
set_option maxRecDepth 65536 in
set_option maxHeartbeats 2000000 in
theorem rm3 (l : Launch) (Z : State) (a0 : Array Value) (hw : ∀ d ∈ tables_1, d.before a0 Z = true) (x : Int64) (y : Int64) (r : Int64) (h0 : Heap) (hE : Ext Z.heap h0) (hr : (if x < y then y else x) = r) :
    Con l Z (⟨"java/lang/Math", "max", "(JJ)J"⟩ : MethodName) jdk_29_method_66_code 4 (some .long) ({ frames := 0, cells := 0, slots := 0, locals := 0 } : Room) #[(.long x), (.long y)] h0 (fun vv hh => vv = some (.long r) ∧ h0 = hh) := by
  refine Con.of (by decide +kernel) hE ?_
  intro p e s m below T (X : Sd l Z "java/lang/Math" "max" jdk_29_method_66_code 4 (some .long) ({ frames := 0, cells := 0, slots := 0, locals := 0 } : Room) p e s m #[(.long x), (.long y)] below T h0 0 0)
  refine End.frame (ef_rm3 m x y) ?_
  show End Z p e below s _ _ _ _ (mkF m 0 #[.val (.long x), .second, .val (.long y), .second] [])
  refine E_lloadN (pc' := 1) X d3_0 rfl rfl ?_
  refine E_lloadN (pc' := 2) X d3_1 rfl rfl ?_
  refine E_lcmp (pc' := 3) X d3_2 rfl ?_
  refine E_if (pcY := 10) (pcN := 6) X (il_lt _ _) d3_3 (by decide) rfl rfl (fun hc3_0 => ?_) (fun hc3_0 => ?_)
  · skip
    refine E_lloadN (pc' := 11) X d3_10 rfl rfl ?_
    exact E_retL X d3_11 (by decide) (by decide) ⟨(by rw [← hr, if_pos hc3_0]), rfl⟩
  · skip
    refine E_lloadN (pc' := 7) X d3_6 rfl rfl ?_
    refine E_goto (pc' := 11) X d3_7 (by decide) rfl ?_
    exact E_retL X d3_11 (by decide) (by decide) ⟨(by rw [← hr, if_neg hc3_0]), rfl⟩
theorem d4_0 : decode jdk_29_method_70_code 0 = .ok (.lload_n 0, 1) := by decide +kernel
theorem d4_1 : decode jdk_29_method_70_code 1 = .ok (.lload_n 2, 1) := by decide +kernel
theorem d4_2 : decode jdk_29_method_70_code 2 = .ok (.lcmp, 1) := by decide +kernel
theorem d4_3 : decode jdk_29_method_70_code 3 = .ok (.ifCond .gt 7, 3) := by decide +kernel
theorem d4_6 : decode jdk_29_method_70_code 6 = .ok (.lload_n 0, 1) := by decide +kernel
theorem d4_7 : decode jdk_29_method_70_code 7 = .ok (.goto 4, 3) := by decide +kernel
theorem d4_10 : decode jdk_29_method_70_code 10 = .ok (.lload_n 2, 1) := by decide +kernel
theorem d4_11 : decode jdk_29_method_70_code 11 = .ok (.lreturn, 1) := by decide +kernel
theorem ef_rm4 (m : MethodId) (x0 : Int64) (x1 : Int64) : entryFrame m #[(.long x0), (.long x1)] 4 = mkF m 0 #[.val (.long x0), .second, .val (.long x1), .second] [] := by first | (simp [entryFrame, mkF, argsToLocals, Value.category]; done) | (simp [entryFrame, mkF, argsToLocals, *]; done) | rfl
set_option maxRecDepth 65536 in
set_option maxHeartbeats 2000000 in
theorem rm4 (l : Launch) (Z : State) (a0 : Array Value) (hw : ∀ d ∈ tables_1, d.before a0 Z = true) (x : Int64) (y : Int64) (r : Int64) (h0 : Heap) (hE : Ext Z.heap h0) (hr : (if y < x then y else x) = r) :
    Con l Z (⟨"java/lang/Math", "min", "(JJ)J"⟩ : MethodName) jdk_29_method_70_code 4 (some .long) ({ frames := 0, cells := 0, slots := 0, locals := 0 } : Room) #[(.long x), (.long y)] h0 (fun vv hh => vv = some (.long r) ∧ h0 = hh) := by
  refine Con.of (by decide +kernel) hE ?_
  intro p e s m below T (X : Sd l Z "java/lang/Math" "min" jdk_29_method_70_code 4 (some .long) ({ frames := 0, cells := 0, slots := 0, locals := 0 } : Room) p e s m #[(.long x), (.long y)] below T h0 0 0)
  refine End.frame (ef_rm4 m x y) ?_
  show End Z p e below s _ _ _ _ (mkF m 0 #[.val (.long x), .second, .val (.long y), .second] [])
  refine E_lloadN (pc' := 1) X d4_0 rfl rfl ?_
  refine E_lloadN (pc' := 2) X d4_1 rfl rfl ?_
  refine E_lcmp (pc' := 3) X d4_2 rfl ?_
  refine E_if (pcY := 10) (pcN := 6) X (il_gt _ _) d4_3 (by decide) rfl rfl (fun hc3_0 => ?_) (fun hc3_0 => ?_)
  · skip
    refine E_lloadN (pc' := 11) X d4_10 rfl rfl ?_
    exact E_retL X d4_11 (by decide) (by decide) ⟨(by rw [← hr, if_pos hc3_0]), rfl⟩
  · skip
    refine E_lloadN (pc' := 7) X d4_6 rfl rfl ?_
    refine E_goto (pc' := 11) X d4_7 (by decide) rfl ?_
    exact E_retL X d4_11 (by decide) (by decide) ⟨(by rw [← hr, if_neg hc3_0]), rfl⟩
theorem d1_0 : decode prog_61_method_1_code 0 = .ok (.aload_n 0, 1) := by decide +kernel
theorem d1_1 : decode prog_61_method_1_code 1 = .ok (.invokespecial 1, 3) := by decide +kernel
theorem d1_4 : decode prog_61_method_1_code 4 = .ok (.aload_n 0, 1) := by decide +kernel
theorem d1_5 : decode prog_61_method_1_code 5 = .ok (.iconst 1, 1) := by decide +kernel
theorem d1_6 : decode prog_61_method_1_code 6 = .ok (.putfield 7, 3) := by decide +kernel
theorem d1_9 : decode prog_61_method_1_code 9 = .ok (.ldc2_w 15, 3) := by decide +kernel
theorem d1_12 : decode prog_61_method_1_code 12 = .ok (.lconst 1, 1) := by decide +kernel
theorem d1_13 : decode prog_61_method_1_code 13 = .ok (.ldc2_w 17, 3) := by decide +kernel
theorem d1_16 : decode prog_61_method_1_code 16 = .ok (.iload_n 1, 1) := by decide +kernel
theorem d1_17 : decode prog_61_method_1_code 17 = .ok (.i2l, 1) := by decide +kernel
theorem d1_18 : decode prog_61_method_1_code 18 = .ok (.lmul, 1) := by decide +kernel
theorem d1_19 : decode prog_61_method_1_code 19 = .ok (.lconst 1, 1) := by decide +kernel
theorem d1_20 : decode prog_61_method_1_code 20 = .ok (.lsub, 1) := by decide +kernel
theorem d1_21 : decode prog_61_method_1_code 21 = .ok (.invokestatic 19, 3) := by decide +kernel
theorem d1_24 : decode prog_61_method_1_code 24 = .ok (.invokestatic 25, 3) := by decide +kernel
theorem d1_27 : decode prog_61_method_1_code 27 = .ok (.l2i, 1) := by decide +kernel
theorem d1_28 : decode prog_61_method_1_code 28 = .ok (.istore_n 2, 1) := by decide +kernel
theorem d1_29 : decode prog_61_method_1_code 29 = .ok (.aload_n 0, 1) := by decide +kernel
theorem d1_30 : decode prog_61_method_1_code 30 = .ok (.iload_n 2, 1) := by decide +kernel
theorem d1_31 : decode prog_61_method_1_code 31 = .ok (.newarray .int, 2) := by decide +kernel
theorem d1_33 : decode prog_61_method_1_code 33 = .ok (.putfield 28, 3) := by decide +kernel
theorem d1_36 : decode prog_61_method_1_code 36 = .ok (.aload_n 0, 1) := by decide +kernel
theorem d1_37 : decode prog_61_method_1_code 37 = .ok (.iload_n 2, 1) := by decide +kernel
theorem d1_38 : decode prog_61_method_1_code 38 = .ok (.newarray .int, 2) := by decide +kernel
theorem d1_40 : decode prog_61_method_1_code 40 = .ok (.putfield 32, 3) := by decide +kernel
theorem d1_43 : decode prog_61_method_1_code 43 = .ok (.aload_n 0, 1) := by decide +kernel
theorem d1_44 : decode prog_61_method_1_code 44 = .ok (.iload_n 2, 1) := by decide +kernel
theorem d1_45 : decode prog_61_method_1_code 45 = .ok (.newarray .int, 2) := by decide +kernel
theorem d1_47 : decode prog_61_method_1_code 47 = .ok (.putfield 35, 3) := by decide +kernel
theorem d1_50 : decode prog_61_method_1_code 50 = .ok (.aload_n 0, 1) := by decide +kernel
theorem d1_51 : decode prog_61_method_1_code 51 = .ok (.iconst 1, 1) := by decide +kernel
theorem d1_52 : decode prog_61_method_1_code 52 = .ok (.iload_n 1, 1) := by decide +kernel
theorem d1_53 : decode prog_61_method_1_code 53 = .ok (.invokestatic 38, 3) := by decide +kernel
theorem d1_56 : decode prog_61_method_1_code 56 = .ok (.newarray .int, 2) := by decide +kernel
theorem d1_58 : decode prog_61_method_1_code 58 = .ok (.putfield 41, 3) := by decide +kernel
theorem d1_61 : decode prog_61_method_1_code 61 = .ok (.return_, 1) := by decide +kernel
theorem pd_0 : parseMethodDescriptor "(JJ)J" = some ⟨[.long, .long], some .long⟩ := by decide +kernel
theorem pd_1 : parseMethodDescriptor "(II)I" = some ⟨[.int, .int], some .int⟩ := by decide +kernel
theorem ef_rm1 (m : MethodId) (x0 : Addr) (x1 : Int32) : entryFrame m #[(.ref x0), (.int x1)] 3 = mkF m 0 #[.val (.ref x0), .val (.int x1), .unset] [] := by first | (simp [entryFrame, mkF, argsToLocals, Value.category]; done) | (simp [entryFrame, mkF, argsToLocals, *]; done) | rfl
set_option maxRecDepth 65536 in
set_option maxHeartbeats 2000000 in
theorem rm1 (l : Launch) (Z : State) (a0 : Array Value) (hw : ∀ d ∈ tables_1, d.before a0 Z = true) (a : Addr) (h0 : Heap) (hE : Ext Z.heap h0) (hE0 : Exa Z h0 a "com/example/nimble_calculus/nimblecalculus/equivalence/Splits") (hF1 : Fld Z h0 a "com/example/nimble_calculus/nimblecalculus/equivalence/Splits" "nodeCount" "I" (.int (0 : Int32))) (hF2 : Fld Z h0 a "com/example/nimble_calculus/nimblecalculus/equivalence/Splits" "splitCount" "I" (.int (0 : Int32))) (hF3 : Fld Z h0 a "com/example/nimble_calculus/nimblecalculus/equivalence/Splits" "splitting" "I" (.int (0 : Int32))) (hF4 : Fld Z h0 a "com/example/nimble_calculus/nimblecalculus/equivalence/Splits" "parent" "[I" .null) (hF5 : Fld Z h0 a "com/example/nimble_calculus/nimblecalculus/equivalence/Splits" "born" "[I" .null) (hF6 : Fld Z h0 a "com/example/nimble_calculus/nimblecalculus/equivalence/Splits" "representative" "[I" .null) (hF7 : Fld Z h0 a "com/example/nimble_calculus/nimblecalculus/equivalence/Splits" "nodeOfBlock" "[I" .null) (hF8 : Fld Z h0 a "com/example/nimble_calculus/nimblecalculus/equivalence/Splits" "leaf" "[I" .null) (hF9 : Fld Z h0 a "com/example/nimble_calculus/nimblecalculus/equivalence/Splits" "height" "[I" .null) (hF10 : Fld Z h0 a "com/example/nimble_calculus/nimblecalculus/equivalence/Splits" "jumps" "[[I" .null) (hfr11 : Z.heap.size ≤ a) :
    Con l Z (⟨"com/example/nimble_calculus/nimblecalculus/equivalence/Splits", "<init>", "(I)V"⟩ : MethodName) prog_61_method_1_code 3 none ({ frames := 1, cells := 4, slots := 25, locals := 17 } : Room) #[(.ref a), (.int (4 : Int32))] h0 (fun vv hh => ∃ P : Addr, ∃ B : Addr, ∃ RR : Addr, ∃ NB : Addr, vv = none ∧ Keep h0 hh [a] ∧ h0.size ≤ P ∧ h0.size ≤ B ∧ h0.size ≤ RR ∧ h0.size ≤ NB ∧ Exa Z hh a "com/example/nimble_calculus/nimblecalculus/equivalence/Splits" ∧ Fld Z hh a "com/example/nimble_calculus/nimblecalculus/equivalence/Splits" "nodeCount" "I" (.int (1 : Int32)) ∧ Fld Z hh a "com/example/nimble_calculus/nimblecalculus/equivalence/Splits" "splitCount" "I" (.int (0 : Int32)) ∧ Fld Z hh a "com/example/nimble_calculus/nimblecalculus/equivalence/Splits" "splitting" "I" (.int (0 : Int32)) ∧ Fld Z hh a "com/example/nimble_calculus/nimblecalculus/equivalence/Splits" "parent" "[I" (.ref P) ∧ Fld Z hh a "com/example/nimble_calculus/nimblecalculus/equivalence/Splits" "born" "[I" (.ref B) ∧ Fld Z hh a "com/example/nimble_calculus/nimblecalculus/equivalence/Splits" "representative" "[I" (.ref RR) ∧ Fld Z hh a "com/example/nimble_calculus/nimblecalculus/equivalence/Splits" "nodeOfBlock" "[I" (.ref NB) ∧ Fld Z hh a "com/example/nimble_calculus/nimblecalculus/equivalence/Splits" "leaf" "[I" .null ∧ Fld Z hh a "com/example/nimble_calculus/nimblecalculus/equivalence/Splits" "height" "[I" .null ∧ Fld Z hh a "com/example/nimble_calculus/nimblecalculus/equivalence/Splits" "jumps" "[[I" .null ∧ Ar Z hh P .int [(.int (0 : Int32)), (.int (0 : Int32)), (.int (0 : Int32)), (.int (0 : Int32)), (.int (0 : Int32)), (.int (0 : Int32)), (.int (0 : Int32))] ∧ Ar Z hh B .int [(.int (0 : Int32)), (.int (0 : Int32)), (.int (0 : Int32)), (.int (0 : Int32)), (.int (0 : Int32)), (.int (0 : Int32)), (.int (0 : Int32))] ∧ Ar Z hh RR .int [(.int (0 : Int32)), (.int (0 : Int32)), (.int (0 : Int32)), (.int (0 : Int32)), (.int (0 : Int32)), (.int (0 : Int32)), (.int (0 : Int32))] ∧ Ar Z hh NB .int [(.int (0 : Int32)), (.int (0 : Int32)), (.int (0 : Int32)), (.int (0 : Int32))] ∧ Exa Z hh P "[I" ∧ P ≠ B ∧ P ≠ RR ∧ P ≠ NB ∧ B ≠ RR ∧ B ≠ NB ∧ RR ≠ NB) := by
  refine Con.of (plainFor_of_name (by first | (simp [plainName, overriddenIn]; done) | decide +kernel)) hE ?_
  intro p e s m below T (X : Sd l Z "com/example/nimble_calculus/nimblecalculus/equivalence/Splits" "<init>" prog_61_method_1_code 3 none ({ frames := 1, cells := 4, slots := 25, locals := 17 } : Room) p e s m #[(.ref a), (.int (4 : Int32))] below T h0 0 0)
  refine End.frame (ef_rm1 m a (4 : Int32)) ?_
  have K_0 : Keep h0 h0 [a] := Keep.refl _ _
  show End Z p e below s _ _ _ _ (mkF m 0 #[.val (.ref a), .val (.int (4 : Int32)), .unset] [])
  refine E_aloadN (v := (.ref a)) (pc' := 1) X d1_0 rfl rfl rfl ?_
  refine E_initO (pc' := 4) X (w_8 hw) (w_9 hw) (w_10 hw) rfl d1_1 rfl (by decide) (W := 0) (Nat.le_refl _) (by decide) (fun T X => ?_)
  refine E_aloadN (v := (.ref a)) (pc' := 5) X d1_4 rfl rfl rfl ?_
  refine E_iconst (v := (1 : Int32)) (pc' := 6) X d1_5 rfl rfl ?_
  refine E_putF (pc' := 9) X (host := "") (Or.inl (w_11 hw)) Via.refl hF1 hE0 (Or.inl (w_12 hw)) (w_3 hw) (ty := .int) (by decide) rfl rfl hfr11 d1_6 rfl (fun T h_2 X W_1 => ?_)
  have K_3 : Keep h0 h_2 [a] := K_0.wr W_1 (Or.inl (List.mem_of_getElem? (i := 0) rfl))
  refine E_ldcJ (v := (2147483647 : Int64)) (pc' := 12) X (w_13 hw) d1_9 rfl ?_
  refine E_lconst (v := (1 : Int64)) (pc' := 13) X d1_12 rfl rfl ?_
  refine E_ldcJ (v := (2 : Int64)) (pc' := 16) X (w_14 hw) d1_13 rfl ?_
  refine E_iloadN (pc' := 17) X d1_16 rfl rfl ?_
  refine E_i2l (pc' := 18) X d1_17 rfl ?_
  refine E_eqJ (z := (4 : Int64)) (by decide) ?_
  refine E_lmul (pc' := 19) X d1_18 rfl ?_
  refine E_eqJ (z := (8 : Int64)) (by decide) ?_
  refine E_lconst (v := (1 : Int64)) (pc' := 20) X d1_19 rfl rfl ?_
  refine E_lsub (pc' := 21) X d1_20 rfl ?_
  refine E_eqJ (z := (7 : Int64)) (by decide) ?_
  refine E_callS (pc' := 24) (W := 2) (cells' := 0) (slots' := 0) (argsL := [(.long (1 : Int64)), (.long (7 : Int64))]) (rest := [(.long (2147483647 : Int64))]) X (rm3 l Z a0 hw (1 : Int64) (7 : Int64) (7 : Int64) h_2 X.ext (by decide)) (w_15 hw) (w_16 hw) (w_17 hw) (w_18 hw) (by decide) rfl rfl pd_0 rfl rfl d1_21 rfl (Nat.le_refl _) (by decide) (by decide) rfl rfl (by decide) (by decide) (fun v4 T h_5 X hQ6 => ?_)
  obtain ⟨rfl, rfl⟩ := hQ6
  show End Z p e below s _ _ _ _ (mkF m 24 #[.val (.ref a), .val (.int (4 : Int32)), .unset] [(.long (7 : Int64)), (.long (2147483647 : Int64))])
  refine E_callS (pc' := 27) (W := 0) (cells' := 0) (slots' := 0) (argsL := [(.long (2147483647 : Int64)), (.long (7 : Int64))]) (rest := []) X (rm4 l Z a0 hw (2147483647 : Int64) (7 : Int64) (7 : Int64) h_2 X.ext (by decide)) (w_19 hw) (w_20 hw) (w_17 hw) (w_21 hw) (by decide) rfl rfl pd_0 rfl rfl d1_24 rfl (Nat.le_refl _) (by decide) (by decide) rfl rfl (by decide) (by decide) (fun v8 T h_9 X hQ10 => ?_)
  obtain ⟨rfl, rfl⟩ := hQ10
  show End Z p e below s _ _ _ _ (mkF m 27 #[.val (.ref a), .val (.int (4 : Int32)), .unset] [(.long (7 : Int64))])
  refine E_l2i (pc' := 28) X d1_27 rfl ?_
  refine E_eqI (z := (7 : Int32)) (by decide) ?_
  refine E_istoreN (Ls' := #[.val (.ref a), .val (.int (4 : Int32)), .val (.int (7 : Int32))]) (pc' := 29) X d1_28 rfl rfl ?_
  refine E_aloadN (v := (.ref a)) (pc' := 30) X d1_29 rfl rfl rfl ?_
  refine E_iloadN (pc' := 31) X d1_30 rfl rfl ?_
  have E_17 : Exa Z h_2 a "com/example/nimble_calculus/nimblecalculus/equivalence/Splits" := (hE0.wr W_1)
  have le_o12 := X.le
  refine E_newAE (pc' := 33) X (aty := .int) (n := (7 : Int32)) (cap := 7) (vs := [(.int (0 : Int32)), (.int (0 : Int32)), (.int (0 : Int32)), (.int (0 : Int32)), (.int (0 : Int32)), (.int (0 : Int32)), (.int (0 : Int32))]) (cells' := 1) (slots' := 7) (ad := "[I") (by decide) (w_1 hw) d1_31 rfl (by decide) (by decide) (by decide) rfl rfl rfl (by decide) (by decide) (fun T h_13 o12 g_16 X Ex_14 Aa_15 EaAa_15 => ?_)
  have b_18 : h0.size ≤ o12 := by rw [g_16]; exact K_3.1
  have K_19 : Keep h0 h_13 [a] := K_3.ext Ex_14
  have fr_20 : Z.heap.size ≤ o12 := by rw [g_16]; exact le_o12
  have ne_21 : a ≠ o12 := Nat.ne_of_lt (by rw [g_16]; exact E_17.lt)
  have F_22 : Fld Z h_13 a "com/example/nimble_calculus/nimblecalculus/equivalence/Splits" "parent" "[I" .null := ((hF4.other W_1 (Or.inr (slot_ne (Or.inr (w_23 hw)) (Or.inl (w_12 hw)) (by decide) (t := (.array .int)) (t' := .int) (by decide) (by decide)))).ext Ex_14)
  have E_23 : Exa Z h_13 a "com/example/nimble_calculus/nimblecalculus/equivalence/Splits" := (E_17.ext Ex_14)
  refine E_putF (pc' := 36) X (host := "") (Or.inl (w_22 hw)) Via.refl F_22 E_23 (Or.inr ⟨(w_23 hw), rfl, rfl⟩) (w_3 hw) (ty := (.array .int)) (by decide) rfl rfl hfr11 d1_33 rfl (fun T h_25 X W_24 => ?_)
  have K_26 : Keep h0 h_25 [a] := K_19.wr W_24 (Or.inl (List.mem_of_getElem? (i := 0) rfl))
  refine E_aloadN (v := (.ref a)) (pc' := 37) X d1_36 rfl rfl rfl ?_
  refine E_iloadN (pc' := 38) X d1_37 rfl rfl ?_
  have E_32 : Exa Z h_25 a "com/example/nimble_calculus/nimblecalculus/equivalence/Splits" := (E_23.wr W_24)
  have E_33 : Exa Z h_25 o12 "[I" := (EaAa_15.wr W_24)
  have le_o27 := X.le
  refine E_newA (pc' := 40) X (aty := .int) (n := (7 : Int32)) (cap := 7) (vs := [(.int (0 : Int32)), (.int (0 : Int32)), (.int (0 : Int32)), (.int (0 : Int32)), (.int (0 : Int32)), (.int (0 : Int32)), (.int (0 : Int32))]) (cells' := 2) (slots' := 14) (w_1 hw) d1_38 rfl (by decide) (by decide) (by decide) rfl rfl rfl (by decide) (by decide) (fun T h_28 o27 g_31 X Ex_29 Aa_30 => ?_)
  have b_34 : h0.size ≤ o27 := by rw [g_31]; exact K_26.1
  have K_35 : Keep h0 h_28 [a] := K_26.ext Ex_29
  have fr_36 : Z.heap.size ≤ o27 := by rw [g_31]; exact le_o27
  have ne_37 : a ≠ o27 := Nat.ne_of_lt (by rw [g_31]; exact E_32.lt)
  have ne_38 : o12 ≠ o27 := Nat.ne_of_lt (by rw [g_31]; exact E_33.lt)
  have F_39 : Fld Z h_28 a "com/example/nimble_calculus/nimblecalculus/equivalence/Splits" "born" "[I" .null := ((((hF5.other W_1 (Or.inr (slot_ne (Or.inr (w_25 hw)) (Or.inl (w_12 hw)) (by decide) (t := (.array .int)) (t' := .int) (by decide) (by decide)))).ext Ex_14).other W_24 (Or.inr (slot_ne (Or.inr (w_25 hw)) (Or.inr (w_23 hw)) (by decide) (t := (.array .int)) (t' := (.array .int)) (by decide) (by decide)))).ext Ex_29)
  have E_40 : Exa Z h_28 a "com/example/nimble_calculus/nimblecalculus/equivalence/Splits" := (E_32.ext Ex_29)
  refine E_putF (pc' := 43) X (host := "") (Or.inl (w_24 hw)) Via.refl F_39 E_40 (Or.inr ⟨(w_25 hw), rfl, rfl⟩) (w_3 hw) (ty := (.array .int)) (by decide) rfl rfl hfr11 d1_40 rfl (fun T h_42 X W_41 => ?_)
  have K_43 : Keep h0 h_42 [a] := K_35.wr W_41 (Or.inl (List.mem_of_getElem? (i := 0) rfl))
  refine E_aloadN (v := (.ref a)) (pc' := 44) X d1_43 rfl rfl rfl ?_
  refine E_iloadN (pc' := 45) X d1_44 rfl rfl ?_
  have E_49 : Exa Z h_42 a "com/example/nimble_calculus/nimblecalculus/equivalence/Splits" := (E_40.wr W_41)
  have E_50 : Exa Z h_42 o12 "[I" := ((E_33.ext Ex_29).wr W_41)
  have A_51 : Ar Z h_42 o27 .int [(.int (0 : Int32)), (.int (0 : Int32)), (.int (0 : Int32)), (.int (0 : Int32)), (.int (0 : Int32)), (.int (0 : Int32)), (.int (0 : Int32))] := (Aa_30.other W_41 (Ne.symm ne_37))
  have le_o44 := X.le
  refine E_newA (pc' := 47) X (aty := .int) (n := (7 : Int32)) (cap := 7) (vs := [(.int (0 : Int32)), (.int (0 : Int32)), (.int (0 : Int32)), (.int (0 : Int32)), (.int (0 : Int32)), (.int (0 : Int32)), (.int (0 : Int32))]) (cells' := 3) (slots' := 21) (w_1 hw) d1_45 rfl (by decide) (by decide) (by decide) rfl rfl rfl (by decide) (by decide) (fun T h_45 o44 g_48 X Ex_46 Aa_47 => ?_)
  have b_52 : h0.size ≤ o44 := by rw [g_48]; exact K_43.1
  have K_53 : Keep h0 h_45 [a] := K_43.ext Ex_46
  have fr_54 : Z.heap.size ≤ o44 := by rw [g_48]; exact le_o44
  have ne_55 : a ≠ o44 := Nat.ne_of_lt (by rw [g_48]; exact E_49.lt)
  have ne_56 : o12 ≠ o44 := Nat.ne_of_lt (by rw [g_48]; exact E_50.lt)
  have ne_57 : o27 ≠ o44 := Nat.ne_of_lt (by rw [g_48]; exact A_51.lt)
  have F_58 : Fld Z h_45 a "com/example/nimble_calculus/nimblecalculus/equivalence/Splits" "representative" "[I" .null := ((((((hF6.other W_1 (Or.inr (slot_ne (Or.inr (w_27 hw)) (Or.inl (w_12 hw)) (by decide) (t := (.array .int)) (t' := .int) (by decide) (by decide)))).ext Ex_14).other W_24 (Or.inr (slot_ne (Or.inr (w_27 hw)) (Or.inr (w_23 hw)) (by decide) (t := (.array .int)) (t' := (.array .int)) (by decide) (by decide)))).ext Ex_29).other W_41 (Or.inr (slot_ne (Or.inr (w_27 hw)) (Or.inr (w_25 hw)) (by decide) (t := (.array .int)) (t' := (.array .int)) (by decide) (by decide)))).ext Ex_46)
  have E_59 : Exa Z h_45 a "com/example/nimble_calculus/nimblecalculus/equivalence/Splits" := (E_49.ext Ex_46)
  refine E_putF (pc' := 50) X (host := "") (Or.inl (w_26 hw)) Via.refl F_58 E_59 (Or.inr ⟨(w_27 hw), rfl, rfl⟩) (w_3 hw) (ty := (.array .int)) (by decide) rfl rfl hfr11 d1_47 rfl (fun T h_61 X W_60 => ?_)
  have K_62 : Keep h0 h_61 [a] := K_53.wr W_60 (Or.inl (List.mem_of_getElem? (i := 0) rfl))
  refine E_aloadN (v := (.ref a)) (pc' := 51) X d1_50 rfl rfl rfl ?_
  refine E_iconst (v := (1 : Int32)) (pc' := 52) X d1_51 rfl rfl ?_
  refine E_iloadN (pc' := 53) X d1_52 rfl rfl ?_
  refine E_callS (pc' := 56) (W := 1) (cells' := 3) (slots' := 21) (argsL := [(.int (1 : Int32)), (.int (4 : Int32))]) (rest := [(.ref a)]) X (rm5 l Z a0 hw (1 : Int32) (4 : Int32) (4 : Int32) h_61 X.ext (by decide)) (w_28 hw) (w_29 hw) (w_17 hw) (w_30 hw) (by decide) rfl rfl pd_1 rfl rfl d1_53 rfl (Nat.le_refl _) (by decide) (by decide) rfl rfl (by decide) (by decide) (fun v63 T h_64 X hQ65 => ?_)
  obtain ⟨rfl, rfl⟩ := hQ65
  show End Z p e below s _ _ _ _ (mkF m 56 #[.val (.ref a), .val (.int (4 : Int32)), .val (.int (7 : Int32))] [(.int (4 : Int32)), (.ref a)])
  have E_72 : Exa Z h_61 a "com/example/nimble_calculus/nimblecalculus/equivalence/Splits" := (E_59.wr W_60)
  have E_73 : Exa Z h_61 o12 "[I" := ((E_50.ext Ex_46).wr W_60)
  have A_74 : Ar Z h_61 o27 .int [(.int (0 : Int32)), (.int (0 : Int32)), (.int (0 : Int32)), (.int (0 : Int32)), (.int (0 : Int32)), (.int (0 : Int32)), (.int (0 : Int32))] := ((A_51.ext Ex_46).other W_60 (Ne.symm ne_37))
  have A_75 : Ar Z h_61 o44 .int [(.int (0 : Int32)), (.int (0 : Int32)), (.int (0 : Int32)), (.int (0 : Int32)), (.int (0 : Int32)), (.int (0 : Int32)), (.int (0 : Int32))] := (Aa_47.other W_60 (Ne.symm ne_55))
  have le_o67 := X.le
  refine E_newA (pc' := 58) X (aty := .int) (n := (4 : Int32)) (cap := 4) (vs := [(.int (0 : Int32)), (.int (0 : Int32)), (.int (0 : Int32)), (.int (0 : Int32))]) (cells' := 4) (slots' := 25) (w_1 hw) d1_56 rfl (by decide) (by decide) (by decide) rfl rfl rfl (by decide) (by decide) (fun T h_68 o67 g_71 X Ex_69 Aa_70 => ?_)
  have b_76 : h0.size ≤ o67 := by rw [g_71]; exact K_62.1
  have K_77 : Keep h0 h_68 [a] := K_62.ext Ex_69
  have fr_78 : Z.heap.size ≤ o67 := by rw [g_71]; exact le_o67
  have ne_79 : a ≠ o67 := Nat.ne_of_lt (by rw [g_71]; exact E_72.lt)
  have ne_80 : o12 ≠ o67 := Nat.ne_of_lt (by rw [g_71]; exact E_73.lt)
  have ne_81 : o27 ≠ o67 := Nat.ne_of_lt (by rw [g_71]; exact A_74.lt)
  have ne_82 : o44 ≠ o67 := Nat.ne_of_lt (by rw [g_71]; exact A_75.lt)
  have F_83 : Fld Z h_68 a "com/example/nimble_calculus/nimblecalculus/equivalence/Splits" "nodeOfBlock" "[I" .null := ((((((((hF7.other W_1 (Or.inr (slot_ne (Or.inr (w_32 hw)) (Or.inl (w_12 hw)) (by decide) (t := (.array .int)) (t' := .int) (by decide) (by decide)))).ext Ex_14).other W_24 (Or.inr (slot_ne (Or.inr (w_32 hw)) (Or.inr (w_23 hw)) (by decide) (t := (.array .int)) (t' := (.array .int)) (by decide) (by decide)))).ext Ex_29).other W_41 (Or.inr (slot_ne (Or.inr (w_32 hw)) (Or.inr (w_25 hw)) (by decide) (t := (.array .int)) (t' := (.array .int)) (by decide) (by decide)))).ext Ex_46).other W_60 (Or.inr (slot_ne (Or.inr (w_32 hw)) (Or.inr (w_27 hw)) (by decide) (t := (.array .int)) (t' := (.array .int)) (by decide) (by decide)))).ext Ex_69)
  have E_84 : Exa Z h_68 a "com/example/nimble_calculus/nimblecalculus/equivalence/Splits" := (E_72.ext Ex_69)
  refine E_putF (pc' := 61) X (host := "") (Or.inl (w_31 hw)) Via.refl F_83 E_84 (Or.inr ⟨(w_32 hw), rfl, rfl⟩) (w_3 hw) (ty := (.array .int)) (by decide) rfl rfl hfr11 d1_58 rfl (fun T h_86 X W_85 => ?_)
  have K_87 : Keep h0 h_86 [a] := K_77.wr W_85 (Or.inl (List.mem_of_getElem? (i := 0) rfl))
  have E_88 : Exa Z h_86 a "com/example/nimble_calculus/nimblecalculus/equivalence/Splits" := (E_84.wr W_85)
  have F_89 : Fld Z h_86 a "com/example/nimble_calculus/nimblecalculus/equivalence/Splits" "nodeCount" "I" (.int (1 : Int32)) := (((((((((hF1.same W_1).ext Ex_14).other W_24 (Or.inr (slot_ne (Or.inl (w_12 hw)) (Or.inr (w_23 hw)) (by decide) (t := .int) (t' := (.array .int)) (by decide) (by decide)))).ext Ex_29).other W_41 (Or.inr (slot_ne (Or.inl (w_12 hw)) (Or.inr (w_25 hw)) (by decide) (t := .int) (t' := (.array .int)) (by decide) (by decide)))).ext Ex_46).other W_60 (Or.inr (slot_ne (Or.inl (w_12 hw)) (Or.inr (w_27 hw)) (by decide) (t := .int) (t' := (.array .int)) (by decide) (by decide)))).ext Ex_69).other W_85 (Or.inr (slot_ne (Or.inl (w_12 hw)) (Or.inr (w_32 hw)) (by decide) (t := .int) (t' := (.array .int)) (by decide) (by decide))))
  have F_90 : Fld Z h_86 a "com/example/nimble_calculus/nimblecalculus/equivalence/Splits" "splitCount" "I" (.int (0 : Int32)) := (((((((((hF2.other W_1 (Or.inr (slot_ne (Or.inl (w_39 hw)) (Or.inl (w_12 hw)) (by decide) (t := .int) (t' := .int) (by decide) (by decide)))).ext Ex_14).other W_24 (Or.inr (slot_ne (Or.inl (w_39 hw)) (Or.inr (w_23 hw)) (by decide) (t := .int) (t' := (.array .int)) (by decide) (by decide)))).ext Ex_29).other W_41 (Or.inr (slot_ne (Or.inl (w_39 hw)) (Or.inr (w_25 hw)) (by decide) (t := .int) (t' := (.array .int)) (by decide) (by decide)))).ext Ex_46).other W_60 (Or.inr (slot_ne (Or.inl (w_39 hw)) (Or.inr (w_27 hw)) (by decide) (t := .int) (t' := (.array .int)) (by decide) (by decide)))).ext Ex_69).other W_85 (Or.inr (slot_ne (Or.inl (w_39 hw)) (Or.inr (w_32 hw)) (by decide) (t := .int) (t' := (.array .int)) (by decide) (by decide))))
  have F_91 : Fld Z h_86 a "com/example/nimble_calculus/nimblecalculus/equivalence/Splits" "splitting" "I" (.int (0 : Int32)) := (((((((((hF3.other W_1 (Or.inr (slot_ne (Or.inl (w_41 hw)) (Or.inl (w_12 hw)) (by decide) (t := .int) (t' := .int) (by decide) (by decide)))).ext Ex_14).other W_24 (Or.inr (slot_ne (Or.inl (w_41 hw)) (Or.inr (w_23 hw)) (by decide) (t := .int) (t' := (.array .int)) (by decide) (by decide)))).ext Ex_29).other W_41 (Or.inr (slot_ne (Or.inl (w_41 hw)) (Or.inr (w_25 hw)) (by decide) (t := .int) (t' := (.array .int)) (by decide) (by decide)))).ext Ex_46).other W_60 (Or.inr (slot_ne (Or.inl (w_41 hw)) (Or.inr (w_27 hw)) (by decide) (t := .int) (t' := (.array .int)) (by decide) (by decide)))).ext Ex_69).other W_85 (Or.inr (slot_ne (Or.inl (w_41 hw)) (Or.inr (w_32 hw)) (by decide) (t := .int) (t' := (.array .int)) (by decide) (by decide))))
  have F_92 : Fld Z h_86 a "com/example/nimble_calculus/nimblecalculus/equivalence/Splits" "parent" "[I" (.ref o12) := (((((((F_22.same W_24).ext Ex_29).other W_41 (Or.inr (slot_ne (Or.inr (w_23 hw)) (Or.inr (w_25 hw)) (by decide) (t := (.array .int)) (t' := (.array .int)) (by decide) (by decide)))).ext Ex_46).other W_60 (Or.inr (slot_ne (Or.inr (w_23 hw)) (Or.inr (w_27 hw)) (by decide) (t := (.array .int)) (t' := (.array .int)) (by decide) (by decide)))).ext Ex_69).other W_85 (Or.inr (slot_ne (Or.inr (w_23 hw)) (Or.inr (w_32 hw)) (by decide) (t := (.array .int)) (t' := (.array .int)) (by decide) (by decide))))
  have F_93 : Fld Z h_86 a "com/example/nimble_calculus/nimblecalculus/equivalence/Splits" "born" "[I" (.ref o27) := (((((F_39.same W_41).ext Ex_46).other W_60 (Or.inr (slot_ne (Or.inr (w_25 hw)) (Or.inr (w_27 hw)) (by decide) (t := (.array .int)) (t' := (.array .int)) (by decide) (by decide)))).ext Ex_69).other W_85 (Or.inr (slot_ne (Or.inr (w_25 hw)) (Or.inr (w_32 hw)) (by decide) (t := (.array .int)) (t' := (.array .int)) (by decide) (by decide))))
  have F_94 : Fld Z h_86 a "com/example/nimble_calculus/nimblecalculus/equivalence/Splits" "representative" "[I" (.ref o44) := (((F_58.same W_60).ext Ex_69).other W_85 (Or.inr (slot_ne (Or.inr (w_27 hw)) (Or.inr (w_32 hw)) (by decide) (t := (.array .int)) (t' := (.array .int)) (by decide) (by decide))))
  have F_95 : Fld Z h_86 a "com/example/nimble_calculus/nimblecalculus/equivalence/Splits" "nodeOfBlock" "[I" (.ref o67) := (F_83.same W_85)
  have F_96 : Fld Z h_86 a "com/example/nimble_calculus/nimblecalculus/equivalence/Splits" "leaf" "[I" .null := (((((((((hF8.other W_1 (Or.inr (slot_ne (Or.inl (w_53 hw)) (Or.inl (w_12 hw)) (by decide) (t := (.array .int)) (t' := .int) (by decide) (by decide)))).ext Ex_14).other W_24 (Or.inr (slot_ne (Or.inl (w_53 hw)) (Or.inr (w_23 hw)) (by decide) (t := (.array .int)) (t' := (.array .int)) (by decide) (by decide)))).ext Ex_29).other W_41 (Or.inr (slot_ne (Or.inl (w_53 hw)) (Or.inr (w_25 hw)) (by decide) (t := (.array .int)) (t' := (.array .int)) (by decide) (by decide)))).ext Ex_46).other W_60 (Or.inr (slot_ne (Or.inl (w_53 hw)) (Or.inr (w_27 hw)) (by decide) (t := (.array .int)) (t' := (.array .int)) (by decide) (by decide)))).ext Ex_69).other W_85 (Or.inr (slot_ne (Or.inl (w_53 hw)) (Or.inr (w_32 hw)) (by decide) (t := (.array .int)) (t' := (.array .int)) (by decide) (by decide))))
  have F_97 : Fld Z h_86 a "com/example/nimble_calculus/nimblecalculus/equivalence/Splits" "height" "[I" .null := (((((((((hF9.other W_1 (Or.inr (slot_ne (Or.inl (w_55 hw)) (Or.inl (w_12 hw)) (by decide) (t := (.array .int)) (t' := .int) (by decide) (by decide)))).ext Ex_14).other W_24 (Or.inr (slot_ne (Or.inl (w_55 hw)) (Or.inr (w_23 hw)) (by decide) (t := (.array .int)) (t' := (.array .int)) (by decide) (by decide)))).ext Ex_29).other W_41 (Or.inr (slot_ne (Or.inl (w_55 hw)) (Or.inr (w_25 hw)) (by decide) (t := (.array .int)) (t' := (.array .int)) (by decide) (by decide)))).ext Ex_46).other W_60 (Or.inr (slot_ne (Or.inl (w_55 hw)) (Or.inr (w_27 hw)) (by decide) (t := (.array .int)) (t' := (.array .int)) (by decide) (by decide)))).ext Ex_69).other W_85 (Or.inr (slot_ne (Or.inl (w_55 hw)) (Or.inr (w_32 hw)) (by decide) (t := (.array .int)) (t' := (.array .int)) (by decide) (by decide))))
  have F_98 : Fld Z h_86 a "com/example/nimble_calculus/nimblecalculus/equivalence/Splits" "jumps" "[[I" .null := (((((((((hF10.other W_1 (Or.inr (slot_ne (Or.inl (w_64 hw)) (Or.inl (w_12 hw)) (by decide) (t := (.array (.array .int))) (t' := .int) (by decide) (by decide)))).ext Ex_14).other W_24 (Or.inr (slot_ne (Or.inl (w_64 hw)) (Or.inr (w_23 hw)) (by decide) (t := (.array (.array .int))) (t' := (.array .int)) (by decide) (by decide)))).ext Ex_29).other W_41 (Or.inr (slot_ne (Or.inl (w_64 hw)) (Or.inr (w_25 hw)) (by decide) (t := (.array (.array .int))) (t' := (.array .int)) (by decide) (by decide)))).ext Ex_46).other W_60 (Or.inr (slot_ne (Or.inl (w_64 hw)) (Or.inr (w_27 hw)) (by decide) (t := (.array (.array .int))) (t' := (.array .int)) (by decide) (by decide)))).ext Ex_69).other W_85 (Or.inr (slot_ne (Or.inl (w_64 hw)) (Or.inr (w_32 hw)) (by decide) (t := (.array (.array .int))) (t' := (.array .int)) (by decide) (by decide))))
  have A_99 : Ar Z h_86 o12 .int [(.int (0 : Int32)), (.int (0 : Int32)), (.int (0 : Int32)), (.int (0 : Int32)), (.int (0 : Int32)), (.int (0 : Int32)), (.int (0 : Int32))] := (((((((Aa_15.other W_24 (Ne.symm ne_21)).ext Ex_29).other W_41 (Ne.symm ne_21)).ext Ex_46).other W_60 (Ne.symm ne_21)).ext Ex_69).other W_85 (Ne.symm ne_21))
  have A_100 : Ar Z h_86 o27 .int [(.int (0 : Int32)), (.int (0 : Int32)), (.int (0 : Int32)), (.int (0 : Int32)), (.int (0 : Int32)), (.int (0 : Int32)), (.int (0 : Int32))] := ((A_74.ext Ex_69).other W_85 (Ne.symm ne_37))
  have A_101 : Ar Z h_86 o44 .int [(.int (0 : Int32)), (.int (0 : Int32)), (.int (0 : Int32)), (.int (0 : Int32)), (.int (0 : Int32)), (.int (0 : Int32)), (.int (0 : Int32))] := ((A_75.ext Ex_69).other W_85 (Ne.symm ne_55))
  have A_102 : Ar Z h_86 o67 .int [(.int (0 : Int32)), (.int (0 : Int32)), (.int (0 : Int32)), (.int (0 : Int32))] := (Aa_70.other W_85 (Ne.symm ne_79))
  have E_103 : Exa Z h_86 o12 "[I" := ((E_73.ext Ex_69).wr W_85)
  exact E_ret0 X d1_61 (by decide) (by decide) ⟨o12, o27, o44, o67, rfl, K_87, b_18, b_34, b_52, b_76, E_88, F_89, F_90, F_91, F_92, F_93, F_94, F_95, F_96, F_97, F_98, A_99, A_100, A_101, A_102, E_103, ne_38, ne_56, ne_80, ne_57, ne_81, ne_82⟩
theorem d6_0 : decode prog_61_method_2_code 0 = .ok (.aload_n 0, 1) := by decide +kernel
theorem d6_1 : decode prog_61_method_2_code 1 = .ok (.dup, 1) := by decide +kernel
theorem d6_2 : decode prog_61_method_2_code 2 = .ok (.getfield 44, 3) := by decide +kernel
theorem d6_5 : decode prog_61_method_2_code 5 = .ok (.iconst 1, 1) := by decide +kernel
theorem d6_6 : decode prog_61_method_2_code 6 = .ok (.iadd, 1) := by decide +kernel
theorem d6_7 : decode prog_61_method_2_code 7 = .ok (.putfield 44, 3) := by decide +kernel
theorem d6_10 : decode prog_61_method_2_code 10 = .ok (.aload_n 0, 1) := by decide +kernel
theorem d6_11 : decode prog_61_method_2_code 11 = .ok (.aload_n 0, 1) := by decide +kernel
theorem d6_12 : decode prog_61_method_2_code 12 = .ok (.getfield 41, 3) := by decide +kernel
theorem d6_15 : decode prog_61_method_2_code 15 = .ok (.iload_n 1, 1) := by decide +kernel
theorem d6_16 : decode prog_61_method_2_code 16 = .ok (.iaload, 1) := by decide +kernel
theorem d6_17 : decode prog_61_method_2_code 17 = .ok (.putfield 47, 3) := by decide +kernel
theorem d6_20 : decode prog_61_method_2_code 20 = .ok (.return_, 1) := by decide +kernel
theorem ef_rm6 (m : MethodId) (x0 : Addr) (x1 : Int32) : entryFrame m #[(.ref x0), (.int x1)] 2 = mkF m 0 #[.val (.ref x0), .val (.int x1)] [] := by first | (simp [entryFrame, mkF, argsToLocals, Value.category]; done) | (simp [entryFrame, mkF, argsToLocals, *]; done) | rfl
set_option maxRecDepth 65536 in
set_option maxHeartbeats 2000000 in
theorem rm6 (l : Launch) (Z : State) (a0 : Array Value) (hw : ∀ d ∈ tables_1, d.before a0 Z = true) (a : Addr) (b : Int32) (nc : Int32) (sc : Int32) (sp : Int32) (P : Addr) (B : Addr) (RR : Addr) (NB : Addr) (nv : List Value) (sc2 : Int32) (sp2 : Int32) (h0 : Heap) (hE : Ext Z.heap h0) (hE0 : Exa Z h0 a "com/example/nimble_calculus/nimblecalculus/equivalence/Splits") (hF1 : Fld Z h0 a "com/example/nimble_calculus/nimblecalculus/equivalence/Splits" "nodeCount" "I" (.int nc)) (hF2 : Fld Z h0 a "com/example/nimble_calculus/nimblecalculus/equivalence/Splits" "splitCount" "I" (.int sc)) (hF3 : Fld Z h0 a "com/example/nimble_calculus/nimblecalculus/equivalence/Splits" "splitting" "I" (.int sp)) (hF4 : Fld Z h0 a "com/example/nimble_calculus/nimblecalculus/equivalence/Splits" "parent" "[I" (.ref P)) (hF5 : Fld Z h0 a "com/example/nimble_calculus/nimblecalculus/equivalence/Splits" "born" "[I" (.ref B)) (hF6 : Fld Z h0 a "com/example/nimble_calculus/nimblecalculus/equivalence/Splits" "representative" "[I" (.ref RR)) (hF7 : Fld Z h0 a "com/example/nimble_calculus/nimblecalculus/equivalence/Splits" "nodeOfBlock" "[I" (.ref NB)) (hF8 : Fld Z h0 a "com/example/nimble_calculus/nimblecalculus/equivalence/Splits" "leaf" "[I" .null) (hF9 : Fld Z h0 a "com/example/nimble_calculus/nimblecalculus/equivalence/Splits" "height" "[I" .null) (hF10 : Fld Z h0 a "com/example/nimble_calculus/nimblecalculus/equivalence/Splits" "jumps" "[[I" .null) (hA11 : Ar Z h0 NB .int nv) (hfr12 : Z.heap.size ≤ a) (hb : ¬ b < 0) (hv : nv[b.toNatClampNeg]? = some (.int sp2)) (hs : sc + 1 = sc2) :
    Con l Z (⟨"com/example/nimble_calculus/nimblecalculus/equivalence/Splits", "beginSplit", "(I)V"⟩ : MethodName) prog_61_method_2_code 2 none ({ frames := 0, cells := 0, slots := 0, locals := 0 } : Room) #[(.ref a), (.int b)] h0 (fun vv hh => vv = none ∧ Keep h0 hh [a] ∧ Exa Z hh a "com/example/nimble_calculus/nimblecalculus/equivalence/Splits" ∧ Fld Z hh a "com/example/nimble_calculus/nimblecalculus/equivalence/Splits" "nodeCount" "I" (.int nc) ∧ Fld Z hh a "com/example/nimble_calculus/nimblecalculus/equivalence/Splits" "splitCount" "I" (.int sc2) ∧ Fld Z hh a "com/example/nimble_calculus/nimblecalculus/equivalence/Splits" "splitting" "I" (.int sp2) ∧ Fld Z hh a "com/example/nimble_calculus/nimblecalculus/equivalence/Splits" "parent" "[I" (.ref P) ∧ Fld Z hh a "com/example/nimble_calculus/nimblecalculus/equivalence/Splits" "born" "[I" (.ref B) ∧ Fld Z hh a "com/example/nimble_calculus/nimblecalculus/equivalence/Splits" "representative" "[I" (.ref RR) ∧ Fld Z hh a "com/example/nimble_calculus/nimblecalculus/equivalence/Splits" "nodeOfBlock" "[I" (.ref NB) ∧ Fld Z hh a "com/example/nimble_calculus/nimblecalculus/equivalence/Splits" "leaf" "[I" .null ∧ Fld Z hh a "com/example/nimble_calculus/nimblecalculus/equivalence/Splits" "height" "[I" .null ∧ Fld Z hh a "com/example/nimble_calculus/nimblecalculus/equivalence/Splits" "jumps" "[[I" .null) := by
  refine Con.of (plainFor_of_name (by first | (simp [plainName, overriddenIn]; done) | decide +kernel)) hE ?_
  intro p e s m below T (X : Sd l Z "com/example/nimble_calculus/nimblecalculus/equivalence/Splits" "beginSplit" prog_61_method_2_code 2 none ({ frames := 0, cells := 0, slots := 0, locals := 0 } : Room) p e s m #[(.ref a), (.int b)] below T h0 0 0)
  refine End.frame (ef_rm6 m a b) ?_
  have K_0 : Keep h0 h0 [a] := Keep.refl _ _
  have ne_1 : NB ≠ a := Ne.symm (Ar.ne_exa hA11 hE0 (w_3 hw))
  show End Z p e below s _ _ _ _ (mkF m 0 #[.val (.ref a), .val (.int b)] [])
  refine E_aloadN (v := (.ref a)) (pc' := 1) X d6_0 rfl rfl rfl ?_
  refine E_dup (pc' := 2) X d6_1 rfl rfl ?_
  refine E_getF (pc' := 5) X (host := "") (Or.inl (w_38 hw)) Via.refl hF2 d6_2 rfl (fun T X => ?_)
  refine E_iconst (v := (1 : Int32)) (pc' := 6) X d6_5 rfl rfl ?_
  refine E_iadd (pc' := 7) X d6_6 rfl ?_
  refine E_eqI (z := sc2) hs ?_
  refine E_putF (pc' := 10) X (host := "") (Or.inl (w_38 hw)) Via.refl hF2 hE0 (Or.inl (w_39 hw)) (w_3 hw) (ty := .int) (by decide) rfl rfl hfr12 d6_7 rfl (fun T h_3 X W_2 => ?_)
  have K_4 : Keep h0 h_3 [a] := K_0.wr W_2 (Or.inl (List.mem_of_getElem? (i := 0) rfl))
  refine E_aloadN (v := (.ref a)) (pc' := 11) X d6_10 rfl rfl rfl ?_
  refine E_aloadN (v := (.ref a)) (pc' := 12) X d6_11 rfl rfl rfl ?_
  have F_5 : Fld Z h_3 a "com/example/nimble_calculus/nimblecalculus/equivalence/Splits" "nodeOfBlock" "[I" (.ref NB) := (hF7.other W_2 (Or.inr (slot_ne (Or.inr (w_32 hw)) (Or.inl (w_39 hw)) (by decide) (t := (.array .int)) (t' := .int) (by decide) (by decide))))
  refine E_getF (pc' := 15) X (host := "") (Or.inl (w_31 hw)) Via.refl F_5 d6_12 rfl (fun T X => ?_)
  refine E_iloadN (pc' := 16) X d6_15 rfl rfl ?_
  have A_6 : Ar Z h_3 NB .int nv := (hA11.other W_2 ne_1)
  refine E_iaload (v := (.int sp2)) (pc' := 17) X A_6 hb hv d6_16 rfl ?_
  have F_7 : Fld Z h_3 a "com/example/nimble_calculus/nimblecalculus/equivalence/Splits" "splitting" "I" (.int sp) := (hF3.other W_2 (Or.inr (slot_ne (Or.inl (w_41 hw)) (Or.inl (w_39 hw)) (by decide) (t := .int) (t' := .int) (by decide) (by decide))))
  have E_8 : Exa Z h_3 a "com/example/nimble_calculus/nimblecalculus/equivalence/Splits" := (hE0.wr W_2)
  refine E_putF (pc' := 20) X (host := "") (Or.inl (w_40 hw)) Via.refl F_7 E_8 (Or.inl (w_41 hw)) (w_3 hw) (ty := .int) (by decide) rfl rfl hfr12 d6_17 rfl (fun T h_10 X W_9 => ?_)
  have K_11 : Keep h0 h_10 [a] := K_4.wr W_9 (Or.inl (List.mem_of_getElem? (i := 0) rfl))
  have E_12 : Exa Z h_10 a "com/example/nimble_calculus/nimblecalculus/equivalence/Splits" := (E_8.wr W_9)
  have F_13 : Fld Z h_10 a "com/example/nimble_calculus/nimblecalculus/equivalence/Splits" "nodeCount" "I" (.int nc) := ((hF1.other W_2 (Or.inr (slot_ne (Or.inl (w_12 hw)) (Or.inl (w_39 hw)) (by decide) (t := .int) (t' := .int) (by decide) (by decide)))).other W_9 (Or.inr (slot_ne (Or.inl (w_12 hw)) (Or.inl (w_41 hw)) (by decide) (t := .int) (t' := .int) (by decide) (by decide))))
  have F_14 : Fld Z h_10 a "com/example/nimble_calculus/nimblecalculus/equivalence/Splits" "splitCount" "I" (.int sc2) := ((hF2.same W_2).other W_9 (Or.inr (slot_ne (Or.inl (w_39 hw)) (Or.inl (w_41 hw)) (by decide) (t := .int) (t' := .int) (by decide) (by decide))))
  have F_15 : Fld Z h_10 a "com/example/nimble_calculus/nimblecalculus/equivalence/Splits" "splitting" "I" (.int sp2) := (F_7.same W_9)
  have F_16 : Fld Z h_10 a "com/example/nimble_calculus/nimblecalculus/equivalence/Splits" "parent" "[I" (.ref P) := ((hF4.other W_2 (Or.inr (slot_ne (Or.inr (w_23 hw)) (Or.inl (w_39 hw)) (by decide) (t := (.array .int)) (t' := .int) (by decide) (by decide)))).other W_9 (Or.inr (slot_ne (Or.inr (w_23 hw)) (Or.inl (w_41 hw)) (by decide) (t := (.array .int)) (t' := .int) (by decide) (by decide))))
  have F_17 : Fld Z h_10 a "com/example/nimble_calculus/nimblecalculus/equivalence/Splits" "born" "[I" (.ref B) := ((hF5.other W_2 (Or.inr (slot_ne (Or.inr (w_25 hw)) (Or.inl (w_39 hw)) (by decide) (t := (.array .int)) (t' := .int) (by decide) (by decide)))).other W_9 (Or.inr (slot_ne (Or.inr (w_25 hw)) (Or.inl (w_41 hw)) (by decide) (t := (.array .int)) (t' := .int) (by decide) (by decide))))
  have F_18 : Fld Z h_10 a "com/example/nimble_calculus/nimblecalculus/equivalence/Splits" "representative" "[I" (.ref RR) := ((hF6.other W_2 (Or.inr (slot_ne (Or.inr (w_27 hw)) (Or.inl (w_39 hw)) (by decide) (t := (.array .int)) (t' := .int) (by decide) (by decide)))).other W_9 (Or.inr (slot_ne (Or.inr (w_27 hw)) (Or.inl (w_41 hw)) (by decide) (t := (.array .int)) (t' := .int) (by decide) (by decide))))
  have F_19 : Fld Z h_10 a "com/example/nimble_calculus/nimblecalculus/equivalence/Splits" "nodeOfBlock" "[I" (.ref NB) := (F_5.other W_9 (Or.inr (slot_ne (Or.inr (w_32 hw)) (Or.inl (w_41 hw)) (by decide) (t := (.array .int)) (t' := .int) (by decide) (by decide))))
  have F_20 : Fld Z h_10 a "com/example/nimble_calculus/nimblecalculus/equivalence/Splits" "leaf" "[I" .null := ((hF8.other W_2 (Or.inr (slot_ne (Or.inl (w_53 hw)) (Or.inl (w_39 hw)) (by decide) (t := (.array .int)) (t' := .int) (by decide) (by decide)))).other W_9 (Or.inr (slot_ne (Or.inl (w_53 hw)) (Or.inl (w_41 hw)) (by decide) (t := (.array .int)) (t' := .int) (by decide) (by decide))))
  have F_21 : Fld Z h_10 a "com/example/nimble_calculus/nimblecalculus/equivalence/Splits" "height" "[I" .null := ((hF9.other W_2 (Or.inr (slot_ne (Or.inl (w_55 hw)) (Or.inl (w_39 hw)) (by decide) (t := (.array .int)) (t' := .int) (by decide) (by decide)))).other W_9 (Or.inr (slot_ne (Or.inl (w_55 hw)) (Or.inl (w_41 hw)) (by decide) (t := (.array .int)) (t' := .int) (by decide) (by decide))))
  have F_22 : Fld Z h_10 a "com/example/nimble_calculus/nimblecalculus/equivalence/Splits" "jumps" "[[I" .null := ((hF10.other W_2 (Or.inr (slot_ne (Or.inl (w_64 hw)) (Or.inl (w_39 hw)) (by decide) (t := (.array (.array .int))) (t' := .int) (by decide) (by decide)))).other W_9 (Or.inr (slot_ne (Or.inl (w_64 hw)) (Or.inl (w_41 hw)) (by decide) (t := (.array (.array .int))) (t' := .int) (by decide) (by decide))))
  exact E_ret0 X d6_20 (by decide) (by decide) ⟨rfl, K_11, E_12, F_13, F_14, F_15, F_16, F_17, F_18, F_19, F_20, F_21, F_22⟩
theorem d7_0 : decode prog_61_method_3_code 0 = .ok (.aload_n 0, 1) := by decide +kernel
theorem d7_1 : decode prog_61_method_3_code 1 = .ok (.dup, 1) := by decide +kernel
theorem d7_2 : decode prog_61_method_3_code 2 = .ok (.getfield 7, 3) := by decide +kernel
theorem d7_5 : decode prog_61_method_3_code 5 = .ok (.dup_x1, 1) := by decide +kernel
theorem d7_6 : decode prog_61_method_3_code 6 = .ok (.iconst 1, 1) := by decide +kernel
theorem d7_7 : decode prog_61_method_3_code 7 = .ok (.iadd, 1) := by decide +kernel
theorem d7_8 : decode prog_61_method_3_code 8 = .ok (.putfield 7, 3) := by decide +kernel
theorem d7_11 : decode prog_61_method_3_code 11 = .ok (.istore_n 3, 1) := by decide +kernel
theorem d7_12 : decode prog_61_method_3_code 12 = .ok (.aload_n 0, 1) := by decide +kernel
theorem d7_13 : decode prog_61_method_3_code 13 = .ok (.getfield 28, 3) := by decide +kernel
theorem d7_16 : decode prog_61_method_3_code 16 = .ok (.iload_n 3, 1) := by decide +kernel
theorem d7_17 : decode prog_61_method_3_code 17 = .ok (.aload_n 0, 1) := by decide +kernel
theorem d7_18 : decode prog_61_method_3_code 18 = .ok (.getfield 47, 3) := by decide +kernel
theorem d7_21 : decode prog_61_method_3_code 21 = .ok (.iastore, 1) := by decide +kernel
theorem d7_22 : decode prog_61_method_3_code 22 = .ok (.aload_n 0, 1) := by decide +kernel
theorem d7_23 : decode prog_61_method_3_code 23 = .ok (.getfield 32, 3) := by decide +kernel
theorem d7_26 : decode prog_61_method_3_code 26 = .ok (.iload_n 3, 1) := by decide +kernel
theorem d7_27 : decode prog_61_method_3_code 27 = .ok (.aload_n 0, 1) := by decide +kernel
theorem d7_28 : decode prog_61_method_3_code 28 = .ok (.getfield 44, 3) := by decide +kernel
theorem d7_31 : decode prog_61_method_3_code 31 = .ok (.iastore, 1) := by decide +kernel
theorem d7_32 : decode prog_61_method_3_code 32 = .ok (.aload_n 0, 1) := by decide +kernel
theorem d7_33 : decode prog_61_method_3_code 33 = .ok (.getfield 35, 3) := by decide +kernel
theorem d7_36 : decode prog_61_method_3_code 36 = .ok (.iload_n 3, 1) := by decide +kernel
theorem d7_37 : decode prog_61_method_3_code 37 = .ok (.iload_n 2, 1) := by decide +kernel
theorem d7_38 : decode prog_61_method_3_code 38 = .ok (.iastore, 1) := by decide +kernel
theorem d7_39 : decode prog_61_method_3_code 39 = .ok (.aload_n 0, 1) := by decide +kernel
theorem d7_40 : decode prog_61_method_3_code 40 = .ok (.getfield 41, 3) := by decide +kernel
theorem d7_43 : decode prog_61_method_3_code 43 = .ok (.iload_n 1, 1) := by decide +kernel
theorem d7_44 : decode prog_61_method_3_code 44 = .ok (.iload_n 3, 1) := by decide +kernel
theorem d7_45 : decode prog_61_method_3_code 45 = .ok (.iastore, 1) := by decide +kernel
theorem d7_46 : decode prog_61_method_3_code 46 = .ok (.return_, 1) := by decide +kernel
theorem ef_rm7 (m : MethodId) (x0 : Addr) (x1 : Int32) (x2 : Int32) : entryFrame m #[(.ref x0), (.int x1), (.int x2)] 4 = mkF m 0 #[.val (.ref x0), .val (.int x1), .val (.int x2), .unset] [] := by first | (simp [entryFrame, mkF, argsToLocals, Value.category]; done) | (simp [entryFrame, mkF, argsToLocals, *]; done) | rfl
set_option maxRecDepth 65536 in
set_option maxHeartbeats 2000000 in
theorem rm7 (l : Launch) (Z : State) (a0 : Array Value) (hw : ∀ d ∈ tables_1, d.before a0 Z = true) (a : Addr) (b : Int32) (r : Int32) (nc : Int32) (sc : Int32) (sp : Int32) (P : Addr) (B : Addr) (RR : Addr) (NB : Addr) (pv : List Value) (bv : List Value) (rv : List Value) (nv : List Value) (pv2 : List Value) (bv2 : List Value) (rv2 : List Value) (nv2 : List Value) (nc2 : Int32) (h0 : Heap) (hE : Ext Z.heap h0) (hE0 : Exa Z h0 a "com/example/nimble_calculus/nimblecalculus/equivalence/Splits") (hF1 : Fld Z h0 a "com/example/nimble_calculus/nimblecalculus/equivalence/Splits" "nodeCount" "I" (.int nc)) (hF2 : Fld Z h0 a "com/example/nimble_calculus/nimblecalculus/equivalence/Splits" "splitCount" "I" (.int sc)) (hF3 : Fld Z h0 a "com/example/nimble_calculus/nimblecalculus/equivalence/Splits" "splitting" "I" (.int sp)) (hF4 : Fld Z h0 a "com/example/nimble_calculus/nimblecalculus/equivalence/Splits" "parent" "[I" (.ref P)) (hF5 : Fld Z h0 a "com/example/nimble_calculus/nimblecalculus/equivalence/Splits" "born" "[I" (.ref B)) (hF6 : Fld Z h0 a "com/example/nimble_calculus/nimblecalculus/equivalence/Splits" "representative" "[I" (.ref RR)) (hF7 : Fld Z h0 a "com/example/nimble_calculus/nimblecalculus/equivalence/Splits" "nodeOfBlock" "[I" (.ref NB)) (hF8 : Fld Z h0 a "com/example/nimble_calculus/nimblecalculus/equivalence/Splits" "leaf" "[I" .null) (hF9 : Fld Z h0 a "com/example/nimble_calculus/nimblecalculus/equivalence/Splits" "height" "[I" .null) (hF10 : Fld Z h0 a "com/example/nimble_calculus/nimblecalculus/equivalence/Splits" "jumps" "[[I" .null) (hA11 : Ar Z h0 P .int pv) (hA12 : Ar Z h0 B .int bv) (hA13 : Ar Z h0 RR .int rv) (hA14 : Ar Z h0 NB .int nv) (hfr15 : Z.heap.size ≤ a) (hfr16 : Z.heap.size ≤ P) (hfr17 : Z.heap.size ≤ B) (hfr18 : Z.heap.size ≤ RR) (hfr19 : Z.heap.size ≤ NB) (hne20 : P ≠ B) (hne21 : P ≠ RR) (hne22 : P ≠ NB) (hne23 : B ≠ RR) (hne24 : B ≠ NB) (hne25 : RR ≠ NB) (hb : ¬ b < 0) (hn : ¬ nc < 0) (l1 : nc.toNatClampNeg < pv.length) (l2 : nc.toNatClampNeg < bv.length) (l3 : nc.toNatClampNeg < rv.length) (l4 : b.toNatClampNeg < nv.length) (s1 : pv.set nc.toNatClampNeg (.int sp) = pv2) (s2 : bv.set nc.toNatClampNeg (.int sc) = bv2) (s3 : rv.set nc.toNatClampNeg (.int r) = rv2) (s4 : nv.set b.toNatClampNeg (.int nc) = nv2) (hc : nc + 1 = nc2) :
    Con l Z (⟨"com/example/nimble_calculus/nimblecalculus/equivalence/Splits", "addPart", "(II)V"⟩ : MethodName) prog_61_method_3_code 4 none ({ frames := 0, cells := 0, slots := 0, locals := 0 } : Room) #[(.ref a), (.int b), (.int r)] h0 (fun vv hh => vv = none ∧ Keep h0 hh [a, P, B, RR, NB] ∧ Exa Z hh a "com/example/nimble_calculus/nimblecalculus/equivalence/Splits" ∧ Fld Z hh a "com/example/nimble_calculus/nimblecalculus/equivalence/Splits" "nodeCount" "I" (.int nc2) ∧ Fld Z hh a "com/example/nimble_calculus/nimblecalculus/equivalence/Splits" "splitCount" "I" (.int sc) ∧ Fld Z hh a "com/example/nimble_calculus/nimblecalculus/equivalence/Splits" "splitting" "I" (.int sp) ∧ Fld Z hh a "com/example/nimble_calculus/nimblecalculus/equivalence/Splits" "parent" "[I" (.ref P) ∧ Fld Z hh a "com/example/nimble_calculus/nimblecalculus/equivalence/Splits" "born" "[I" (.ref B) ∧ Fld Z hh a "com/example/nimble_calculus/nimblecalculus/equivalence/Splits" "representative" "[I" (.ref RR) ∧ Fld Z hh a "com/example/nimble_calculus/nimblecalculus/equivalence/Splits" "nodeOfBlock" "[I" (.ref NB) ∧ Fld Z hh a "com/example/nimble_calculus/nimblecalculus/equivalence/Splits" "leaf" "[I" .null ∧ Fld Z hh a "com/example/nimble_calculus/nimblecalculus/equivalence/Splits" "height" "[I" .null ∧ Fld Z hh a "com/example/nimble_calculus/nimblecalculus/equivalence/Splits" "jumps" "[[I" .null ∧ Ar Z hh P .int pv2 ∧ Ar Z hh B .int bv2 ∧ Ar Z hh RR .int rv2 ∧ Ar Z hh NB .int nv2) := by
  refine Con.of (plainFor_of_name (by first | (simp [plainName, overriddenIn]; done) | decide +kernel)) hE ?_
  intro p e s m below T (X : Sd l Z "com/example/nimble_calculus/nimblecalculus/equivalence/Splits" "addPart" prog_61_method_3_code 4 none ({ frames := 0, cells := 0, slots := 0, locals := 0 } : Room) p e s m #[(.ref a), (.int b), (.int r)] below T h0 0 0)
  refine End.frame (ef_rm7 m a b r) ?_
  have K_0 : Keep h0 h0 [a, P, B, RR, NB] := Keep.refl _ _
  have ne_1 : B ≠ a := Ne.symm (Ar.ne_exa hA12 hE0 (w_3 hw))
  have ne_2 : NB ≠ a := Ne.symm (Ar.ne_exa hA14 hE0 (w_3 hw))
  have ne_3 : P ≠ a := Ne.symm (Ar.ne_exa hA11 hE0 (w_3 hw))
  have ne_4 : RR ≠ a := Ne.symm (Ar.ne_exa hA13 hE0 (w_3 hw))
  show End Z p e below s _ _ _ _ (mkF m 0 #[.val (.ref a), .val (.int b), .val (.int r), .unset] [])
  refine E_aloadN (v := (.ref a)) (pc' := 1) X d7_0 rfl rfl rfl ?_
  refine E_dup (pc' := 2) X d7_1 rfl rfl ?_
  refine E_getF (pc' := 5) X (host := "") (Or.inl (w_11 hw)) Via.refl hF1 d7_2 rfl (fun T X => ?_)
  refine E_dup_x1 (pc' := 6) X d7_5 rfl rfl rfl ?_
  refine E_iconst (v := (1 : Int32)) (pc' := 7) X d7_6 rfl rfl ?_
  refine E_iadd (pc' := 8) X d7_7 rfl ?_
  refine E_eqI (z := nc2) hc ?_
  refine E_putF (pc' := 11) X (host := "") (Or.inl (w_11 hw)) Via.refl hF1 hE0 (Or.inl (w_12 hw)) (w_3 hw) (ty := .int) (by decide) rfl rfl hfr15 d7_8 rfl (fun T h_6 X W_5 => ?_)
  have K_7 : Keep h0 h_6 [a, P, B, RR, NB] := K_0.wr W_5 (Or.inl (List.mem_of_getElem? (i := 0) rfl))
  refine E_istoreN (Ls' := #[.val (.ref a), .val (.int b), .val (.int r), .val (.int nc)]) (pc' := 12) X d7_11 rfl rfl ?_
  refine E_aloadN (v := (.ref a)) (pc' := 13) X d7_12 rfl rfl rfl ?_
  have F_8 : Fld Z h_6 a "com/example/nimble_calculus/nimblecalculus/equivalence/Splits" "parent" "[I" (.ref P) := (hF4.other W_5 (Or.inr (slot_ne (Or.inr (w_23 hw)) (Or.inl (w_12 hw)) (by decide) (t := (.array .int)) (t' := .int) (by decide) (by decide))))
  refine E_getF (pc' := 16) X (host := "") (Or.inl (w_22 hw)) Via.refl F_8 d7_13 rfl (fun T X => ?_)
  refine E_iloadN (pc' := 17) X d7_16 rfl rfl ?_
  refine E_aloadN (v := (.ref a)) (pc' := 18) X d7_17 rfl rfl rfl ?_
  have F_9 : Fld Z h_6 a "com/example/nimble_calculus/nimblecalculus/equivalence/Splits" "splitting" "I" (.int sp) := (hF3.other W_5 (Or.inr (slot_ne (Or.inl (w_41 hw)) (Or.inl (w_12 hw)) (by decide) (t := .int) (t' := .int) (by decide) (by decide))))
  refine E_getF (pc' := 21) X (host := "") (Or.inl (w_40 hw)) Via.refl F_9 d7_18 rfl (fun T X => ?_)
  have A_10 : Ar Z h_6 P .int pv := (hA11.other W_5 ne_3)
  refine E_iastore (vs' := pv2) (pc' := 22) X A_10 hn l1 s1 hfr16 d7_21 rfl (fun T h_12 X W_11 Aa_13 => ?_)
  have K_14 : Keep h0 h_12 [a, P, B, RR, NB] := K_7.wr W_11 (Or.inl (List.mem_of_getElem? (i := 1) rfl))
  refine E_aloadN (v := (.ref a)) (pc' := 23) X d7_22 rfl rfl rfl ?_
  have F_15 : Fld Z h_12 a "com/example/nimble_calculus/nimblecalculus/equivalence/Splits" "born" "[I" (.ref B) := ((hF5.other W_5 (Or.inr (slot_ne (Or.inr (w_25 hw)) (Or.inl (w_12 hw)) (by decide) (t := (.array .int)) (t' := .int) (by decide) (by decide)))).other W_11 (Or.inl (Ne.symm ne_3)))
  refine E_getF (pc' := 26) X (host := "") (Or.inl (w_24 hw)) Via.refl F_15 d7_23 rfl (fun T X => ?_)
  refine E_iloadN (pc' := 27) X d7_26 rfl rfl ?_
  refine E_aloadN (v := (.ref a)) (pc' := 28) X d7_27 rfl rfl rfl ?_
  have F_16 : Fld Z h_12 a "com/example/nimble_calculus/nimblecalculus/equivalence/Splits" "splitCount" "I" (.int sc) := ((hF2.other W_5 (Or.inr (slot_ne (Or.inl (w_39 hw)) (Or.inl (w_12 hw)) (by decide) (t := .int) (t' := .int) (by decide) (by decide)))).other W_11 (Or.inl (Ne.symm ne_3)))
  refine E_getF (pc' := 31) X (host := "") (Or.inl (w_38 hw)) Via.refl F_16 d7_28 rfl (fun T X => ?_)
  have A_17 : Ar Z h_12 B .int bv := ((hA12.other W_5 ne_1).other W_11 (Ne.symm hne20))
  refine E_iastore (vs' := bv2) (pc' := 32) X A_17 hn l2 s2 hfr17 d7_31 rfl (fun T h_19 X W_18 Aa_20 => ?_)
  have K_21 : Keep h0 h_19 [a, P, B, RR, NB] := K_14.wr W_18 (Or.inl (List.mem_of_getElem? (i := 2) rfl))
  refine E_aloadN (v := (.ref a)) (pc' := 33) X d7_32 rfl rfl rfl ?_
  have F_22 : Fld Z h_19 a "com/example/nimble_calculus/nimblecalculus/equivalence/Splits" "representative" "[I" (.ref RR) := (((hF6.other W_5 (Or.inr (slot_ne (Or.inr (w_27 hw)) (Or.inl (w_12 hw)) (by decide) (t := (.array .int)) (t' := .int) (by decide) (by decide)))).other W_11 (Or.inl (Ne.symm ne_3))).other W_18 (Or.inl (Ne.symm ne_1)))
  refine E_getF (pc' := 36) X (host := "") (Or.inl (w_26 hw)) Via.refl F_22 d7_33 rfl (fun T X => ?_)
  refine E_iloadN (pc' := 37) X d7_36 rfl rfl ?_
  refine E_iloadN (pc' := 38) X d7_37 rfl rfl ?_
  have A_23 : Ar Z h_19 RR .int rv := (((hA13.other W_5 ne_4).other W_11 (Ne.symm hne21)).other W_18 (Ne.symm hne23))
  refine E_iastore (vs' := rv2) (pc' := 39) X A_23 hn l3 s3 hfr18 d7_38 rfl (fun T h_25 X W_24 Aa_26 => ?_)
  have K_27 : Keep h0 h_25 [a, P, B, RR, NB] := K_21.wr W_24 (Or.inl (List.mem_of_getElem? (i := 3) rfl))
  refine E_aloadN (v := (.ref a)) (pc' := 40) X d7_39 rfl rfl rfl ?_
  have F_28 : Fld Z h_25 a "com/example/nimble_calculus/nimblecalculus/equivalence/Splits" "nodeOfBlock" "[I" (.ref NB) := ((((hF7.other W_5 (Or.inr (slot_ne (Or.inr (w_32 hw)) (Or.inl (w_12 hw)) (by decide) (t := (.array .int)) (t' := .int) (by decide) (by decide)))).other W_11 (Or.inl (Ne.symm ne_3))).other W_18 (Or.inl (Ne.symm ne_1))).other W_24 (Or.inl (Ne.symm ne_4)))
  refine E_getF (pc' := 43) X (host := "") (Or.inl (w_31 hw)) Via.refl F_28 d7_40 rfl (fun T X => ?_)
  refine E_iloadN (pc' := 44) X d7_43 rfl rfl ?_
  refine E_iloadN (pc' := 45) X d7_44 rfl rfl ?_
  have A_29 : Ar Z h_25 NB .int nv := ((((hA14.other W_5 ne_2).other W_11 (Ne.symm hne22)).other W_18 (Ne.symm hne24)).other W_24 (Ne.symm hne25))
  refine E_iastore (vs' := nv2) (pc' := 46) X A_29 hb l4 s4 hfr19 d7_45 rfl (fun T h_31 X W_30 Aa_32 => ?_)
  have K_33 : Keep h0 h_31 [a, P, B, RR, NB] := K_27.wr W_30 (Or.inl (List.mem_of_getElem? (i := 4) rfl))
  have E_34 : Exa Z h_31 a "com/example/nimble_calculus/nimblecalculus/equivalence/Splits" := (((((hE0.wr W_5).wr W_11).wr W_18).wr W_24).wr W_30)
  have F_35 : Fld Z h_31 a "com/example/nimble_calculus/nimblecalculus/equivalence/Splits" "nodeCount" "I" (.int nc2) := (((((hF1.same W_5).other W_11 (Or.inl (Ne.symm ne_3))).other W_18 (Or.inl (Ne.symm ne_1))).other W_24 (Or.inl (Ne.symm ne_4))).other W_30 (Or.inl (Ne.symm ne_2)))
  have F_36 : Fld Z h_31 a "com/example/nimble_calculus/nimblecalculus/equivalence/Splits" "splitCount" "I" (.int sc) := (((F_16.other W_18 (Or.inl (Ne.symm ne_1))).other W_24 (Or.inl (Ne.symm ne_4))).other W_30 (Or.inl (Ne.symm ne_2)))
  have F_37 : Fld Z h_31 a "com/example/nimble_calculus/nimblecalculus/equivalence/Splits" "splitting" "I" (.int sp) := ((((F_9.other W_11 (Or.inl (Ne.symm ne_3))).other W_18 (Or.inl (Ne.symm ne_1))).other W_24 (Or.inl (Ne.symm ne_4))).other W_30 (Or.inl (Ne.symm ne_2)))
  have F_38 : Fld Z h_31 a "com/example/nimble_calculus/nimblecalculus/equivalence/Splits" "parent" "[I" (.ref P) := ((((F_8.other W_11 (Or.inl (Ne.symm ne_3))).other W_18 (Or.inl (Ne.symm ne_1))).other W_24 (Or.inl (Ne.symm ne_4))).other W_30 (Or.inl (Ne.symm ne_2)))
  have F_39 : Fld Z h_31 a "com/example/nimble_calculus/nimblecalculus/equivalence/Splits" "born" "[I" (.ref B) := (((F_15.other W_18 (Or.inl (Ne.symm ne_1))).other W_24 (Or.inl (Ne.symm ne_4))).other W_30 (Or.inl (Ne.symm ne_2)))
  have F_40 : Fld Z h_31 a "com/example/nimble_calculus/nimblecalculus/equivalence/Splits" "representative" "[I" (.ref RR) := ((F_22.other W_24 (Or.inl (Ne.symm ne_4))).other W_30 (Or.inl (Ne.symm ne_2)))
  have F_41 : Fld Z h_31 a "com/example/nimble_calculus/nimblecalculus/equivalence/Splits" "nodeOfBlock" "[I" (.ref NB) := (F_28.other W_30 (Or.inl (Ne.symm ne_2)))
  have F_42 : Fld Z h_31 a "com/example/nimble_calculus/nimblecalculus/equivalence/Splits" "leaf" "[I" .null := (((((hF8.other W_5 (Or.inr (slot_ne (Or.inl (w_53 hw)) (Or.inl (w_12 hw)) (by decide) (t := (.array .int)) (t' := .int) (by decide) (by decide)))).other W_11 (Or.inl (Ne.symm ne_3))).other W_18 (Or.inl (Ne.symm ne_1))).other W_24 (Or.inl (Ne.symm ne_4))).other W_30 (Or.inl (Ne.symm ne_2)))
  have F_43 : Fld Z h_31 a "com/example/nimble_calculus/nimblecalculus/equivalence/Splits" "height" "[I" .null := (((((hF9.other W_5 (Or.inr (slot_ne (Or.inl (w_55 hw)) (Or.inl (w_12 hw)) (by decide) (t := (.array .int)) (t' := .int) (by decide) (by decide)))).other W_11 (Or.inl (Ne.symm ne_3))).other W_18 (Or.inl (Ne.symm ne_1))).other W_24 (Or.inl (Ne.symm ne_4))).other W_30 (Or.inl (Ne.symm ne_2)))
  have F_44 : Fld Z h_31 a "com/example/nimble_calculus/nimblecalculus/equivalence/Splits" "jumps" "[[I" .null := (((((hF10.other W_5 (Or.inr (slot_ne (Or.inl (w_64 hw)) (Or.inl (w_12 hw)) (by decide) (t := (.array (.array .int))) (t' := .int) (by decide) (by decide)))).other W_11 (Or.inl (Ne.symm ne_3))).other W_18 (Or.inl (Ne.symm ne_1))).other W_24 (Or.inl (Ne.symm ne_4))).other W_30 (Or.inl (Ne.symm ne_2)))
  have A_45 : Ar Z h_31 P .int pv2 := (((Aa_13.other W_18 hne20).other W_24 hne21).other W_30 hne22)
  have A_46 : Ar Z h_31 B .int bv2 := ((Aa_20.other W_24 hne23).other W_30 hne24)
  have A_47 : Ar Z h_31 RR .int rv2 := (Aa_26.other W_30 hne25)
  exact E_ret0 X d7_46 (by decide) (by decide) ⟨rfl, K_33, E_34, F_35, F_36, F_37, F_38, F_39, F_40, F_41, F_42, F_43, F_44, A_45, A_46, A_47, Aa_32⟩
theorem d9_0 : decode jdk_33_method_47_code 0 = .ok (.iload_n 0, 1) := by decide +kernel
theorem d9_1 : decode jdk_33_method_47_code 1 = .ok (.ifCond .gt 14, 3) := by decide +kernel
theorem d9_15 : decode jdk_33_method_47_code 15 = .ok (.bipush 31, 2) := by decide +kernel
theorem d9_17 : decode jdk_33_method_47_code 17 = .ok (.istore_n 1, 1) := by decide +kernel
theorem d9_18 : decode jdk_33_method_47_code 18 = .ok (.iload_n 0, 1) := by decide +kernel
theorem d9_19 : decode jdk_33_method_47_code 19 = .ok (.ldc_w 264, 3) := by decide +kernel
theorem d9_22 : decode jdk_33_method_47_code 22 = .ok (.if_icmp .lt 11, 3) := by decide +kernel
theorem d9_33 : decode jdk_33_method_47_code 33 = .ok (.iload_n 0, 1) := by decide +kernel
theorem d9_34 : decode jdk_33_method_47_code 34 = .ok (.sipush 256, 3) := by decide +kernel
theorem d9_37 : decode jdk_33_method_47_code 37 = .ok (.if_icmp .lt 11, 3) := by decide +kernel
theorem d9_48 : decode jdk_33_method_47_code 48 = .ok (.iload_n 0, 1) := by decide +kernel
theorem d9_49 : decode jdk_33_method_47_code 49 = .ok (.bipush 16, 2) := by decide +kernel
theorem d9_51 : decode jdk_33_method_47_code 51 = .ok (.if_icmp .lt 10, 3) := by decide +kernel
theorem d9_61 : decode jdk_33_method_47_code 61 = .ok (.iload_n 0, 1) := by decide +kernel
theorem d9_62 : decode jdk_33_method_47_code 62 = .ok (.iconst 4, 1) := by decide +kernel
theorem d9_63 : decode jdk_33_method_47_code 63 = .ok (.if_icmp .lt 10, 3) := by decide +kernel
theorem d9_73 : decode jdk_33_method_47_code 73 = .ok (.iload_n 1, 1) := by decide +kernel
theorem d9_74 : decode jdk_33_method_47_code 74 = .ok (.iload_n 0, 1) := by decide +kernel
theorem d9_75 : decode jdk_33_method_47_code 75 = .ok (.iconst 1, 1) := by decide +kernel
theorem d9_76 : decode jdk_33_method_47_code 76 = .ok (.iushr, 1) := by decide +kernel
theorem d9_77 : decode jdk_33_method_47_code 77 = .ok (.isub, 1) := by decide +kernel
theorem d9_78 : decode jdk_33_method_47_code 78 = .ok (.ireturn, 1) := by decide +kernel
theorem ef_rm_nlz2 (m : MethodId) (x0 : Int32) : entryFrame m #[(.int x0)] 2 = mkF m 0 #[.val (.int x0), .unset] [] := by first | (simp [entryFrame, mkF, argsToLocals, Value.category]; done) | (simp [entryFrame, mkF, argsToLocals, *]; done) | rfl
set_option maxRecDepth 65536 in
set_option maxHeartbeats 2000000 in
theorem rm_nlz2 (l : Launch) (Z : State) (a0 : Array Value) (hw : ∀ d ∈ tables_1, d.before a0 Z = true) (h0 : Heap) (hE : Ext Z.heap h0) :
    Con l Z (⟨"java/lang/Integer", "numberOfLeadingZeros", "(I)I"⟩ : MethodName) jdk_33_method_47_code 2 (some .int) ({ frames := 0, cells := 0, slots := 0, locals := 0 } : Room) #[(.int (2 : Int32))] h0 (fun vv hh => vv = some (.int (30 : Int32)) ∧ h0 = hh) := by
  refine Con.of (plainFor_of_name (by first | (simp [plainName, overriddenIn]; done) | decide +kernel)) hE ?_
  intro p e s m below T (X : Sd l Z "java/lang/Integer" "numberOfLeadingZeros" jdk_33_method_47_code 2 (some .int) ({ frames := 0, cells := 0, slots := 0, locals := 0 } : Room) p e s m #[(.int (2 : Int32))] below T h0 0 0)
  refine End.frame (ef_rm_nlz2 m (2 : Int32)) ?_
  show End Z p e below s _ _ _ _ (mkF m 0 #[.val (.int (2 : Int32)), .unset] [])
  refine E_iloadN (pc' := 1) X d9_0 rfl rfl ?_
  refine E_if (pcY := 15) (pcN := 4) X (i0_gt _) d9_1 (by decide) rfl rfl (fun hc1_0 => ?_) (fun hc1_0 => absurd (by decide) hc1_0)
  refine E_bipush (v := (31 : Int32)) (pc' := 17) X d9_15 rfl rfl ?_
  refine E_istoreN (Ls' := #[.val (.int (2 : Int32)), .val (.int (31 : Int32))]) (pc' := 18) X d9_17 rfl rfl ?_
  refine E_iloadN (pc' := 19) X d9_18 rfl rfl ?_
  refine E_ldcwI (v := (65536 : Int32)) (pc' := 22) X (w_60 hw) d9_19 rfl ?_
  refine E_icmp (pcY := 33) (pcN := 25) X (ic_lt _ _) d9_22 (by decide) rfl rfl (fun hc22_0 => ?_) (fun hc22_0 => absurd (by decide) hc22_0)
  refine E_iloadN (pc' := 34) X d9_33 rfl rfl ?_
  refine E_sipush (v := (256 : Int32)) (pc' := 37) X d9_34 rfl rfl ?_
  refine E_icmp (pcY := 48) (pcN := 40) X (ic_lt _ _) d9_37 (by decide) rfl rfl (fun hc37_0 => ?_) (fun hc37_0 => absurd (by decide) hc37_0)
  refine E_iloadN (pc' := 49) X d9_48 rfl rfl ?_
  refine E_bipush (v := (16 : Int32)) (pc' := 51) X d9_49 rfl rfl ?_
  refine E_icmp (pcY := 61) (pcN := 54) X (ic_lt _ _) d9_51 (by decide) rfl rfl (fun hc51_0 => ?_) (fun hc51_0 => absurd (by decide) hc51_0)
  refine E_iloadN (pc' := 62) X d9_61 rfl rfl ?_
  refine E_iconst (v := (4 : Int32)) (pc' := 63) X d9_62 rfl rfl ?_
  refine E_icmp (pcY := 73) (pcN := 66) X (ic_lt _ _) d9_63 (by decide) rfl rfl (fun hc63_0 => ?_) (fun hc63_0 => absurd (by decide) hc63_0)
  refine E_iloadN (pc' := 74) X d9_73 rfl rfl ?_
  refine E_iloadN (pc' := 75) X d9_74 rfl rfl ?_
  refine E_iconst (v := (1 : Int32)) (pc' := 76) X d9_75 rfl rfl ?_
  refine E_iushr (pc' := 77) X d9_76 rfl ?_
  refine E_eqI (z := (1 : Int32)) (by decide) ?_
  refine E_isub (pc' := 78) X d9_77 rfl ?_
  refine E_eqI (z := (30 : Int32)) (by decide) ?_
  exact E_retI X d9_78 (by decide) (by decide) ⟨rfl, rfl⟩
theorem d11_0 : decode jdk_29_method_69_code 0 = .ok (.iload_n 0, 1) := by decide +kernel
theorem d11_1 : decode jdk_29_method_69_code 1 = .ok (.iload_n 1, 1) := by decide +kernel
theorem d11_2 : decode jdk_29_method_69_code 2 = .ok (.if_icmp .gt 7, 3) := by decide +kernel
theorem d11_9 : decode jdk_29_method_69_code 9 = .ok (.iload_n 1, 1) := by decide +kernel
theorem d11_10 : decode jdk_29_method_69_code 10 = .ok (.ireturn, 1) := by decide +kernel
theorem ef_rm11 (m : MethodId) (x0 : Int32) (x1 : Int32) : entryFrame m #[(.int x0), (.int x1)] 2 = mkF m 0 #[.val (.int x0), .val (.int x1)] [] := by first | (simp [entryFrame, mkF, argsToLocals, Value.category]; done) | (simp [entryFrame, mkF, argsToLocals, *]; done) | rfl
set_option maxRecDepth 65536 in
set_option maxHeartbeats 2000000 in
theorem rm11 (l : Launch) (Z : State) (a0 : Array Value) (hw : ∀ d ∈ tables_1, d.before a0 Z = true) (h0 : Heap) (hE : Ext Z.heap h0) :
    Con l Z (⟨"java/lang/Math", "min", "(II)I"⟩ : MethodName) jdk_29_method_69_code 2 (some .int) ({ frames := 0, cells := 0, slots := 0, locals := 0 } : Room) #[(.int (7 : Int32)), (.int (4 : Int32))] h0 (fun vv hh => vv = some (.int (4 : Int32)) ∧ h0 = hh) := by
  refine Con.of (by decide +kernel) hE ?_
  intro p e s m below T (X : Sd l Z "java/lang/Math" "min" jdk_29_method_69_code 2 (some .int) ({ frames := 0, cells := 0, slots := 0, locals := 0 } : Room) p e s m #[(.int (7 : Int32)), (.int (4 : Int32))] below T h0 0 0)
  refine End.frame (ef_rm11 m (7 : Int32) (4 : Int32)) ?_
  show End Z p e below s _ _ _ _ (mkF m 0 #[.val (.int (7 : Int32)), .val (.int (4 : Int32))] [])
  refine E_iloadN (pc' := 1) X d11_0 rfl rfl ?_
  refine E_iloadN (pc' := 2) X d11_1 rfl rfl ?_
  refine E_icmp (pcY := 9) (pcN := 5) X (ic_gt _ _) d11_2 (by decide) rfl rfl (fun hc2_0 => ?_) (fun hc2_0 => absurd (by decide) hc2_0)
  refine E_iloadN (pc' := 10) X d11_9 rfl rfl ?_
  exact E_retI X d11_10 (by decide) (by decide) ⟨rfl, rfl⟩
theorem d10_0 : decode jdk_65_method_123_code 0 = .ok (.iload_n 1, 1) := by decide +kernel
theorem d10_1 : decode jdk_65_method_123_code 1 = .ok (.aload_n 0, 1) := by decide +kernel
theorem d10_2 : decode jdk_65_method_123_code 2 = .ok (.arraylength, 1) := by decide +kernel
theorem d10_3 : decode jdk_65_method_123_code 3 = .ok (.if_icmp .ne 11, 3) := by decide +kernel
theorem d10_14 : decode jdk_65_method_123_code 14 = .ok (.iload_n 1, 1) := by decide +kernel
theorem d10_15 : decode jdk_65_method_123_code 15 = .ok (.newarray .int, 2) := by decide +kernel
theorem d10_17 : decode jdk_65_method_123_code 17 = .ok (.astore_n 2, 1) := by decide +kernel
theorem d10_18 : decode jdk_65_method_123_code 18 = .ok (.aload_n 0, 1) := by decide +kernel
theorem d10_19 : decode jdk_65_method_123_code 19 = .ok (.iconst 0, 1) := by decide +kernel
theorem d10_20 : decode jdk_65_method_123_code 20 = .ok (.aload_n 2, 1) := by decide +kernel
theorem d10_21 : decode jdk_65_method_123_code 21 = .ok (.iconst 0, 1) := by decide +kernel
theorem d10_22 : decode jdk_65_method_123_code 22 = .ok (.aload_n 0, 1) := by decide +kernel
theorem d10_23 : decode jdk_65_method_123_code 23 = .ok (.arraylength, 1) := by decide +kernel
theorem d10_24 : decode jdk_65_method_123_code 24 = .ok (.iload_n 1, 1) := by decide +kernel
theorem d10_25 : decode jdk_65_method_123_code 25 = .ok (.invokestatic 304, 3) := by decide +kernel
theorem d10_28 : decode jdk_65_method_123_code 28 = .ok (.invokestatic 150, 3) := by decide +kernel
theorem d10_31 : decode jdk_65_method_123_code 31 = .ok (.aload_n 2, 1) := by decide +kernel
theorem d10_32 : decode jdk_65_method_123_code 32 = .ok (.areturn, 1) := by decide +kernel
theorem ef_rm10 (m : MethodId) (x0 : Addr) (x1 : Int32) : entryFrame m #[(.ref x0), (.int x1)] 3 = mkF m 0 #[.val (.ref x0), .val (.int x1), .unset] [] := by first | (simp [entryFrame, mkF, argsToLocals, Value.category]; done) | (simp [entryFrame, mkF, argsToLocals, *]; done) | rfl
set_option maxRecDepth 65536 in
set_option maxHeartbeats 2000000 in
theorem rm10 (l : Launch) (Z : State) (a0 : Array Value) (hw : ∀ d ∈ tables_1, d.before a0 Z = true) (t : Addr) (p0 : Int32) (p1 : Int32) (p2 : Int32) (p3 : Int32) (p4 : Int32) (p5 : Int32) (p6 : Int32) (h0 : Heap) (hE : Ext Z.heap h0) (hA0 : Ar Z h0 t .int [(.int p0), (.int p1), (.int p2), (.int p3), (.int p4), (.int p5), (.int p6)]) :
    Con l Z (⟨"java/util/Arrays", "copyOf", "([II)[I"⟩ : MethodName) jdk_65_method_123_code 3 (some (.array .int)) ({ frames := 1, cells := 1, slots := 4, locals := 18 } : Room) #[(.ref t), (.int (4 : Int32))] h0 (fun vv hh => ∃ r : Addr, vv = some (.ref r) ∧ Keep h0 hh [] ∧ h0.size ≤ r ∧ Ar Z hh r .int [(.int p0), (.int p1), (.int p2), (.int p3)] ∧ Exa Z hh r "[I") := by
  refine Con.of (plainFor_of_name (by first | (simp [plainName, overriddenIn]; done) | decide +kernel)) hE ?_
  intro p e s m below T (X : Sd l Z "java/util/Arrays" "copyOf" jdk_65_method_123_code 3 (some (.array .int)) ({ frames := 1, cells := 1, slots := 4, locals := 18 } : Room) p e s m #[(.ref t), (.int (4 : Int32))] below T h0 0 0)
  refine End.frame (ef_rm10 m t (4 : Int32)) ?_
  have K_0 : Keep h0 h0 [] := Keep.refl _ _
  show End Z p e below s _ _ _ _ (mkF m 0 #[.val (.ref t), .val (.int (4 : Int32)), .unset] [])
  refine E_iloadN (pc' := 1) X d10_0 rfl rfl ?_
  refine E_aloadN (v := (.ref t)) (pc' := 2) X d10_1 rfl rfl rfl ?_
  refine E_alen (n := (7 : Int32)) (pc' := 3) X hA0 rfl d10_2 rfl ?_
  refine E_icmp (pcY := 14) (pcN := 6) X (ic_ne _ _) d10_3 (by decide) rfl rfl (fun hc3_0 => ?_) (fun hc3_0 => absurd (by decide) hc3_0)
  refine E_iloadN (pc' := 15) X d10_14 rfl rfl ?_
  have le_o1 := X.le
  refine E_newAE (pc' := 17) X (aty := .int) (n := (4 : Int32)) (cap := 4) (vs := [(.int (0 : Int32)), (.int (0 : Int32)), (.int (0 : Int32)), (.int (0 : Int32))]) (cells' := 1) (slots' := 4) (ad := "[I") (by decide) (w_1 hw) d10_15 rfl (by decide) (by decide) (by decide) rfl rfl rfl (by decide) (by decide) (fun T h_2 o1 g_5 X Ex_3 Aa_4 EaAa_4 => ?_)
  have b_6 : h0.size ≤ o1 := by rw [g_5]; exact K_0.1
  have K_7 : Keep h0 h_2 [] := K_0.ext Ex_3
  have fr_8 : Z.heap.size ≤ o1 := by rw [g_5]; exact le_o1
  have ne_9 : t ≠ o1 := Nat.ne_of_lt (by rw [g_5]; exact hA0.lt)
  refine E_astoreN (Ls' := #[.val (.ref t), .val (.int (4 : Int32)), .val (.ref o1)]) (pc' := 18) X d10_17 rfl rfl rfl ?_
  refine E_aloadN (v := (.ref t)) (pc' := 19) X d10_18 rfl rfl rfl ?_
  refine E_iconst (v := (0 : Int32)) (pc' := 20) X d10_19 rfl rfl ?_
  refine E_aloadN (v := (.ref o1)) (pc' := 21) X d10_20 rfl rfl rfl ?_
  refine E_iconst (v := (0 : Int32)) (pc' := 22) X d10_21 rfl rfl ?_
  refine E_aloadN (v := (.ref t)) (pc' := 23) X d10_22 rfl rfl rfl ?_
  have A_10 : Ar Z h_2 t .int [(.int p0), (.int p1), (.int p2), (.int p3), (.int p4), (.int p5), (.int p6)] := (hA0.ext Ex_3)
  refine E_alen (n := (7 : Int32)) (pc' := 24) X A_10 rfl d10_23 rfl ?_
  refine E_iloadN (pc' := 25) X d10_24 rfl rfl ?_
  refine E_callS (pc' := 28) (W := 4) (cells' := 1) (slots' := 4) (argsL := [(.int (7 : Int32)), (.int (4 : Int32))]) (rest := [(.int (0 : Int32)), (.ref o1), (.int (0 : Int32)), (.ref t)]) X (rm11 l Z a0 hw h_2 X.ext) (w_69 hw) (w_70 hw) (w_17 hw) (w_71 hw) (by decide) rfl rfl pd_1 rfl rfl d10_25 rfl (Nat.le_refl _) (by decide) (by decide) rfl rfl (by decide) (by decide) (fun v11 T h_12 X hQ13 => ?_)
  obtain ⟨rfl, rfl⟩ := hQ13
  show End Z p e below s _ _ _ _ (mkF m 28 #[.val (.ref t), .val (.int (4 : Int32)), .val (.ref o1)] [(.int (4 : Int32)), (.int (0 : Int32)), (.ref o1), (.int (0 : Int32)), (.ref t)])
  refine E_acopy (pc' := 31) X (W := 0) (vd2 := [(.int p0), (.int p1), (.int p2), (.int p3)]) (z := (7 : Int32)) (z' := (4 : Int32)) (w_72 hw) (w_75 hw) (w_73 hw) (w_74 hw) A_10 Aa_4 rfl (by simp [fits]) (by simp [fits]) rfl (by decide) rfl (by decide) (by decide) (by decide) (by decide) (Nat.le_of_ble_eq_true rfl) (Nat.le_of_ble_eq_true rfl) rfl fr_8 rfl d10_28 rfl (by decide) (Nat.le_refl _) (by decide) (fun T h_15 X Kc_16 Aa_17 => ?_)
  have K_18 : Keep h0 h_15 [] := K_7.trans Kc_16 (allS (Or.inr b_6) all0)
  refine E_aloadN (v := (.ref o1)) (pc' := 32) X d10_31 rfl rfl rfl ?_
  have E_19 : Exa Z h_15 o1 "[I" := (EaAa_4.keep Kc_16)
  exact E_retA X d10_32 rfl rfl (by decide) (by decide) ⟨o1, rfl, K_18, b_6, Aa_17, E_19⟩
theorem d17_0 : decode prog_61_method_10_code 0 = .ok (.iload_n 0, 1) := by decide +kernel
theorem d17_1 : decode prog_61_method_10_code 1 = .ok (.i2l, 1) := by decide +kernel
theorem d17_2 : decode prog_61_method_10_code 2 = .ok (.bipush 32, 2) := by decide +kernel
theorem d17_4 : decode prog_61_method_10_code 4 = .ok (.lshl, 1) := by decide +kernel
theorem d17_5 : decode prog_61_method_10_code 5 = .ok (.iload_n 1, 1) := by decide +kernel
theorem d17_6 : decode prog_61_method_10_code 6 = .ok (.i2l, 1) := by decide +kernel
theorem d17_7 : decode prog_61_method_10_code 7 = .ok (.lor, 1) := by decide +kernel
theorem d17_8 : decode prog_61_method_10_code 8 = .ok (.lreturn, 1) := by decide +kernel
theorem ef_rm17 (m : MethodId) (x0 : Int32) (x1 : Int32) : entryFrame m #[(.int x0), (.int x1)] 2 = mkF m 0 #[.val (.int x0), .val (.int x1)] [] := by first | (simp [entryFrame, mkF, argsToLocals, Value.category]; done) | (simp [entryFrame, mkF, argsToLocals, *]; done) | rfl
set_option maxRecDepth 65536 in
set_option maxHeartbeats 2000000 in
theorem rm17 (l : Launch) (Z : State) (a0 : Array Value) (hw : ∀ d ∈ tables_1, d.before a0 Z = true) (h0 : Heap) (hE : Ext Z.heap h0) :
    Con l Z (⟨"com/example/nimble_calculus/nimblecalculus/equivalence/Splits", "pair", "(II)J"⟩ : MethodName) prog_61_method_10_code 2 (some .long) ({ frames := 0, cells := 0, slots := 0, locals := 0 } : Room) #[(.int (1 : Int32)), (.int (2 : Int32))] h0 (fun vv hh => vv = some (.long (4294967298 : Int64)) ∧ h0 = hh) := by
  refine Con.of (plainFor_of_name (by first | (simp [plainName, overriddenIn]; done) | decide +kernel)) hE ?_
  intro p e s m below T (X : Sd l Z "com/example/nimble_calculus/nimblecalculus/equivalence/Splits" "pair" prog_61_method_10_code 2 (some .long) ({ frames := 0, cells := 0, slots := 0, locals := 0 } : Room) p e s m #[(.int (1 : Int32)), (.int (2 : Int32))] below T h0 0 0)
  refine End.frame (ef_rm17 m (1 : Int32) (2 : Int32)) ?_
  show End Z p e below s _ _ _ _ (mkF m 0 #[.val (.int (1 : Int32)), .val (.int (2 : Int32))] [])
  refine E_iloadN (pc' := 1) X d17_0 rfl rfl ?_
  refine E_i2l (pc' := 2) X d17_1 rfl ?_
  refine E_eqJ (z := (1 : Int64)) (by decide) ?_
  refine E_bipush (v := (32 : Int32)) (pc' := 4) X d17_2 rfl rfl ?_
  refine E_lshl (pc' := 5) X d17_4 rfl ?_
  refine E_eqJ (z := (4294967296 : Int64)) (by decide) ?_
  refine E_iloadN (pc' := 6) X d17_5 rfl rfl ?_
  refine E_i2l (pc' := 7) X d17_6 rfl ?_
  refine E_eqJ (z := (2 : Int64)) (by decide) ?_
  refine E_lor (pc' := 8) X d17_7 rfl ?_
  refine E_eqJ (z := (4294967298 : Int64)) (by decide) ?_
  exact E_retL X d17_8 (by decide) (by decide) ⟨rfl, rfl⟩
theorem d8_0 : decode prog_61_method_4_code 0 = .ok (.aload_n 0, 1) := by decide +kernel
theorem d8_1 : decode prog_61_method_4_code 1 = .ok (.aload_n 1, 1) := by decide +kernel
theorem d8_2 : decode prog_61_method_4_code 2 = .ok (.arraylength, 1) := by decide +kernel
theorem d8_3 : decode prog_61_method_4_code 3 = .ok (.newarray .int, 2) := by decide +kernel
theorem d8_5 : decode prog_61_method_4_code 5 = .ok (.putfield 50, 3) := by decide +kernel
theorem d8_8 : decode prog_61_method_4_code 8 = .ok (.iconst 0, 1) := by decide +kernel
theorem d8_9 : decode prog_61_method_4_code 9 = .ok (.istore_n 2, 1) := by decide +kernel
theorem d8_10 : decode prog_61_method_4_code 10 = .ok (.iload_n 2, 1) := by decide +kernel
theorem d8_11 : decode prog_61_method_4_code 11 = .ok (.aload_n 1, 1) := by decide +kernel
theorem d8_12 : decode prog_61_method_4_code 12 = .ok (.arraylength, 1) := by decide +kernel
theorem d8_13 : decode prog_61_method_4_code 13 = .ok (.if_icmp .ge 23, 3) := by decide +kernel
theorem d8_16 : decode prog_61_method_4_code 16 = .ok (.aload_n 0, 1) := by decide +kernel
theorem d8_17 : decode prog_61_method_4_code 17 = .ok (.getfield 50, 3) := by decide +kernel
theorem d8_20 : decode prog_61_method_4_code 20 = .ok (.iload_n 2, 1) := by decide +kernel
theorem d8_21 : decode prog_61_method_4_code 21 = .ok (.aload_n 0, 1) := by decide +kernel
theorem d8_22 : decode prog_61_method_4_code 22 = .ok (.getfield 41, 3) := by decide +kernel
theorem d8_25 : decode prog_61_method_4_code 25 = .ok (.aload_n 1, 1) := by decide +kernel
theorem d8_26 : decode prog_61_method_4_code 26 = .ok (.iload_n 2, 1) := by decide +kernel
theorem d8_27 : decode prog_61_method_4_code 27 = .ok (.iaload, 1) := by decide +kernel
theorem d8_28 : decode prog_61_method_4_code 28 = .ok (.iaload, 1) := by decide +kernel
theorem d8_29 : decode prog_61_method_4_code 29 = .ok (.iastore, 1) := by decide +kernel
theorem d8_30 : decode prog_61_method_4_code 30 = .ok (.iinc 2 1, 3) := by decide +kernel
theorem d8_33 : decode prog_61_method_4_code 33 = .ok (.goto (-23), 3) := by decide +kernel
theorem d8_36 : decode prog_61_method_4_code 36 = .ok (.aload_n 0, 1) := by decide +kernel
theorem d8_37 : decode prog_61_method_4_code 37 = .ok (.aload_n 0, 1) := by decide +kernel
theorem d8_38 : decode prog_61_method_4_code 38 = .ok (.getfield 7, 3) := by decide +kernel
theorem d8_41 : decode prog_61_method_4_code 41 = .ok (.newarray .int, 2) := by decide +kernel
theorem d8_43 : decode prog_61_method_4_code 43 = .ok (.putfield 53, 3) := by decide +kernel
theorem d8_46 : decode prog_61_method_4_code 46 = .ok (.iconst 0, 1) := by decide +kernel
theorem d8_47 : decode prog_61_method_4_code 47 = .ok (.istore_n 2, 1) := by decide +kernel
theorem d8_48 : decode prog_61_method_4_code 48 = .ok (.iconst 1, 1) := by decide +kernel
theorem d8_49 : decode prog_61_method_4_code 49 = .ok (.istore_n 3, 1) := by decide +kernel
theorem d8_50 : decode prog_61_method_4_code 50 = .ok (.iload_n 3, 1) := by decide +kernel
theorem d8_51 : decode prog_61_method_4_code 51 = .ok (.aload_n 0, 1) := by decide +kernel
theorem d8_52 : decode prog_61_method_4_code 52 = .ok (.getfield 7, 3) := by decide +kernel
theorem d8_55 : decode prog_61_method_4_code 55 = .ok (.if_icmp .ge 39, 3) := by decide +kernel
theorem d8_58 : decode prog_61_method_4_code 58 = .ok (.aload_n 0, 1) := by decide +kernel
theorem d8_59 : decode prog_61_method_4_code 59 = .ok (.getfield 53, 3) := by decide +kernel
theorem d8_62 : decode prog_61_method_4_code 62 = .ok (.iload_n 3, 1) := by decide +kernel
theorem d8_63 : decode prog_61_method_4_code 63 = .ok (.aload_n 0, 1) := by decide +kernel
theorem d8_64 : decode prog_61_method_4_code 64 = .ok (.getfield 53, 3) := by decide +kernel
theorem d8_67 : decode prog_61_method_4_code 67 = .ok (.aload_n 0, 1) := by decide +kernel
theorem d8_68 : decode prog_61_method_4_code 68 = .ok (.getfield 28, 3) := by decide +kernel
theorem d8_71 : decode prog_61_method_4_code 71 = .ok (.iload_n 3, 1) := by decide +kernel
theorem d8_72 : decode prog_61_method_4_code 72 = .ok (.iaload, 1) := by decide +kernel
theorem d8_73 : decode prog_61_method_4_code 73 = .ok (.iaload, 1) := by decide +kernel
theorem d8_74 : decode prog_61_method_4_code 74 = .ok (.iconst 1, 1) := by decide +kernel
theorem d8_75 : decode prog_61_method_4_code 75 = .ok (.iadd, 1) := by decide +kernel
theorem d8_76 : decode prog_61_method_4_code 76 = .ok (.iastore, 1) := by decide +kernel
theorem d8_77 : decode prog_61_method_4_code 77 = .ok (.iload_n 2, 1) := by decide +kernel
theorem d8_78 : decode prog_61_method_4_code 78 = .ok (.aload_n 0, 1) := by decide +kernel
theorem d8_79 : decode prog_61_method_4_code 79 = .ok (.getfield 53, 3) := by decide +kernel
theorem d8_82 : decode prog_61_method_4_code 82 = .ok (.iload_n 3, 1) := by decide +kernel
theorem d8_83 : decode prog_61_method_4_code 83 = .ok (.iaload, 1) := by decide +kernel
theorem d8_84 : decode prog_61_method_4_code 84 = .ok (.invokestatic 38, 3) := by decide +kernel
theorem d8_87 : decode prog_61_method_4_code 87 = .ok (.istore_n 2, 1) := by decide +kernel
theorem d8_88 : decode prog_61_method_4_code 88 = .ok (.iinc 3 1, 3) := by decide +kernel
theorem d8_91 : decode prog_61_method_4_code 91 = .ok (.goto (-41), 3) := by decide +kernel
theorem d8_94 : decode prog_61_method_4_code 94 = .ok (.bipush 32, 2) := by decide +kernel
theorem d8_96 : decode prog_61_method_4_code 96 = .ok (.iconst 1, 1) := by decide +kernel
theorem d8_97 : decode prog_61_method_4_code 97 = .ok (.iload_n 2, 1) := by decide +kernel
theorem d8_98 : decode prog_61_method_4_code 98 = .ok (.invokestatic 38, 3) := by decide +kernel
theorem d8_101 : decode prog_61_method_4_code 101 = .ok (.invokestatic 56, 3) := by decide +kernel
theorem d8_104 : decode prog_61_method_4_code 104 = .ok (.isub, 1) := by decide +kernel
theorem d8_105 : decode prog_61_method_4_code 105 = .ok (.istore_n 3, 1) := by decide +kernel
theorem d8_106 : decode prog_61_method_4_code 106 = .ok (.aload_n 0, 1) := by decide +kernel
theorem d8_107 : decode prog_61_method_4_code 107 = .ok (.iload_n 3, 1) := by decide +kernel
theorem d8_108 : decode prog_61_method_4_code 108 = .ok (.anewarray 60, 3) := by decide +kernel
theorem d8_111 : decode prog_61_method_4_code 111 = .ok (.putfield 61, 3) := by decide +kernel
theorem d8_114 : decode prog_61_method_4_code 114 = .ok (.aload_n 0, 1) := by decide +kernel
theorem d8_115 : decode prog_61_method_4_code 115 = .ok (.getfield 61, 3) := by decide +kernel
theorem d8_118 : decode prog_61_method_4_code 118 = .ok (.iconst 0, 1) := by decide +kernel
theorem d8_119 : decode prog_61_method_4_code 119 = .ok (.aload_n 0, 1) := by decide +kernel
theorem d8_120 : decode prog_61_method_4_code 120 = .ok (.getfield 28, 3) := by decide +kernel
theorem d8_123 : decode prog_61_method_4_code 123 = .ok (.aload_n 0, 1) := by decide +kernel
theorem d8_124 : decode prog_61_method_4_code 124 = .ok (.getfield 7, 3) := by decide +kernel
theorem d8_127 : decode prog_61_method_4_code 127 = .ok (.invokestatic 65, 3) := by decide +kernel
theorem d8_130 : decode prog_61_method_4_code 130 = .ok (.aastore, 1) := by decide +kernel
theorem d8_131 : decode prog_61_method_4_code 131 = .ok (.iconst 1, 1) := by decide +kernel
theorem d8_132 : decode prog_61_method_4_code 132 = .ok (.istore 4, 2) := by decide +kernel
theorem d8_134 : decode prog_61_method_4_code 134 = .ok (.iload 4, 2) := by decide +kernel
theorem d8_136 : decode prog_61_method_4_code 136 = .ok (.iload_n 3, 1) := by decide +kernel
theorem d8_137 : decode prog_61_method_4_code 137 = .ok (.if_icmp .ge 68, 3) := by decide +kernel
theorem d8_140 : decode prog_61_method_4_code 140 = .ok (.aload_n 0, 1) := by decide +kernel
theorem d8_141 : decode prog_61_method_4_code 141 = .ok (.getfield 61, 3) := by decide +kernel
theorem d8_144 : decode prog_61_method_4_code 144 = .ok (.iload 4, 2) := by decide +kernel
theorem d8_146 : decode prog_61_method_4_code 146 = .ok (.iconst 1, 1) := by decide +kernel
theorem d8_147 : decode prog_61_method_4_code 147 = .ok (.isub, 1) := by decide +kernel
theorem d8_148 : decode prog_61_method_4_code 148 = .ok (.aaload, 1) := by decide +kernel
theorem d8_149 : decode prog_61_method_4_code 149 = .ok (.astore 5, 2) := by decide +kernel
theorem d8_151 : decode prog_61_method_4_code 151 = .ok (.aload_n 0, 1) := by decide +kernel
theorem d8_152 : decode prog_61_method_4_code 152 = .ok (.getfield 7, 3) := by decide +kernel
theorem d8_155 : decode prog_61_method_4_code 155 = .ok (.newarray .int, 2) := by decide +kernel
theorem d8_157 : decode prog_61_method_4_code 157 = .ok (.astore 6, 2) := by decide +kernel
theorem d8_159 : decode prog_61_method_4_code 159 = .ok (.iconst 0, 1) := by decide +kernel
theorem d8_160 : decode prog_61_method_4_code 160 = .ok (.istore 7, 2) := by decide +kernel
theorem d8_162 : decode prog_61_method_4_code 162 = .ok (.iload 7, 2) := by decide +kernel
theorem d8_164 : decode prog_61_method_4_code 164 = .ok (.aload_n 0, 1) := by decide +kernel
theorem d8_165 : decode prog_61_method_4_code 165 = .ok (.getfield 7, 3) := by decide +kernel
theorem d8_168 : decode prog_61_method_4_code 168 = .ok (.if_icmp .ge 22, 3) := by decide +kernel
theorem d8_171 : decode prog_61_method_4_code 171 = .ok (.aload 6, 2) := by decide +kernel
theorem d8_173 : decode prog_61_method_4_code 173 = .ok (.iload 7, 2) := by decide +kernel
theorem d8_175 : decode prog_61_method_4_code 175 = .ok (.aload 5, 2) := by decide +kernel
theorem d8_177 : decode prog_61_method_4_code 177 = .ok (.aload 5, 2) := by decide +kernel
theorem d8_179 : decode prog_61_method_4_code 179 = .ok (.iload 7, 2) := by decide +kernel
theorem d8_181 : decode prog_61_method_4_code 181 = .ok (.iaload, 1) := by decide +kernel
theorem d8_182 : decode prog_61_method_4_code 182 = .ok (.iaload, 1) := by decide +kernel
theorem d8_183 : decode prog_61_method_4_code 183 = .ok (.iastore, 1) := by decide +kernel
theorem d8_184 : decode prog_61_method_4_code 184 = .ok (.iinc 7 1, 3) := by decide +kernel
theorem d8_187 : decode prog_61_method_4_code 187 = .ok (.goto (-25), 3) := by decide +kernel
theorem d8_190 : decode prog_61_method_4_code 190 = .ok (.aload_n 0, 1) := by decide +kernel
theorem d8_191 : decode prog_61_method_4_code 191 = .ok (.getfield 61, 3) := by decide +kernel
theorem d8_194 : decode prog_61_method_4_code 194 = .ok (.iload 4, 2) := by decide +kernel
theorem d8_196 : decode prog_61_method_4_code 196 = .ok (.aload 6, 2) := by decide +kernel
theorem d8_198 : decode prog_61_method_4_code 198 = .ok (.aastore, 1) := by decide +kernel
theorem d8_199 : decode prog_61_method_4_code 199 = .ok (.iinc 4 1, 3) := by decide +kernel
theorem d8_202 : decode prog_61_method_4_code 202 = .ok (.goto (-68), 3) := by decide +kernel
theorem d8_205 : decode prog_61_method_4_code 205 = .ok (.return_, 1) := by decide +kernel
theorem pd_2 : parseMethodDescriptor "(I)I" = some ⟨[.int], some .int⟩ := by decide +kernel
theorem pd_3 : parseMethodDescriptor "([II)[I" = some ⟨[(.array .int), .int], some (.array .int)⟩ := by decide +kernel
theorem ef_rm_fin01 (m : MethodId) (x0 : Addr) (x1 : Addr) : entryFrame m #[(.ref x0), (.ref x1)] 8 = mkF m 0 #[.val (.ref x0), .val (.ref x1), .unset, .unset, .unset, .unset, .unset, .unset] [] := by first | (simp [entryFrame, mkF, argsToLocals, Value.category]; done) | (simp [entryFrame, mkF, argsToLocals, *]; done) | rfl
set_option maxRecDepth 65536 in
set_option maxHeartbeats 2000000 in
theorem rm_fin01 (l : Launch) (Z : State) (a0 : Array Value) (hw : ∀ d ∈ tables_1, d.before a0 Z = true) (a : Addr) (t : Addr) (P : Addr) (B : Addr) (RR : Addr) (NB : Addr) (h0 : Heap) (hE : Ext Z.heap h0) (hE0 : Exa Z h0 a "com/example/nimble_calculus/nimblecalculus/equivalence/Splits") (hF1 : Fld Z h0 a "com/example/nimble_calculus/nimblecalculus/equivalence/Splits" "nodeCount" "I" (.int (4 : Int32))) (hF2 : Fld Z h0 a "com/example/nimble_calculus/nimblecalculus/equivalence/Splits" "splitCount" "I" (.int (2 : Int32))) (hF3 : Fld Z h0 a "com/example/nimble_calculus/nimblecalculus/equivalence/Splits" "splitting" "I" (.int (2 : Int32))) (hF4 : Fld Z h0 a "com/example/nimble_calculus/nimblecalculus/equivalence/Splits" "parent" "[I" (.ref P)) (hF5 : Fld Z h0 a "com/example/nimble_calculus/nimblecalculus/equivalence/Splits" "born" "[I" (.ref B)) (hF6 : Fld Z h0 a "com/example/nimble_calculus/nimblecalculus/equivalence/Splits" "representative" "[I" (.ref RR)) (hF7 : Fld Z h0 a "com/example/nimble_calculus/nimblecalculus/equivalence/Splits" "nodeOfBlock" "[I" (.ref NB)) (hF8 : Fld Z h0 a "com/example/nimble_calculus/nimblecalculus/equivalence/Splits" "leaf" "[I" .null) (hF9 : Fld Z h0 a "com/example/nimble_calculus/nimblecalculus/equivalence/Splits" "height" "[I" .null) (hF10 : Fld Z h0 a "com/example/nimble_calculus/nimblecalculus/equivalence/Splits" "jumps" "[[I" .null) (hA11 : Ar Z h0 P .int [(.int (0 : Int32)), (.int (0 : Int32)), (.int (0 : Int32)), (.int (2 : Int32)), (.int (0 : Int32)), (.int (0 : Int32)), (.int (0 : Int32))]) (hA12 : Ar Z h0 NB .int [(.int (1 : Int32)), (.int (3 : Int32)), (.int (0 : Int32)), (.int (0 : Int32))]) (hA13 : Ar Z h0 t .int [(.int (0 : Int32)), (.int (1 : Int32))]) (hfr14 : Z.heap.size ≤ a) :
    Con l Z (⟨"com/example/nimble_calculus/nimblecalculus/equivalence/Splits", "finish", "([I)V"⟩ : MethodName) prog_61_method_4_code 8 none ({ frames := 2, cells := 5, slots := 16, locals := 34 } : Room) #[(.ref a), (.ref t)] h0 (fun vv hh => ∃ lf : Addr, ∃ jp : Addr, ∃ hg : Addr, ∃ j0 : Addr, ∃ j1 : Addr, vv = none ∧ Keep h0 hh [a] ∧ h0.size ≤ lf ∧ h0.size ≤ jp ∧ h0.size ≤ hg ∧ h0.size ≤ j0 ∧ h0.size ≤ j1 ∧ Exa Z hh a "com/example/nimble_calculus/nimblecalculus/equivalence/Splits" ∧ Fld Z hh a "com/example/nimble_calculus/nimblecalculus/equivalence/Splits" "leaf" "[I" (.ref lf) ∧ Fld Z hh a "com/example/nimble_calculus/nimblecalculus/equivalence/Splits" "height" "[I" (.ref hg) ∧ Fld Z hh a "com/example/nimble_calculus/nimblecalculus/equivalence/Splits" "jumps" "[[I" (.ref jp) ∧ Fld Z hh a "com/example/nimble_calculus/nimblecalculus/equivalence/Splits" "parent" "[I" (.ref P) ∧ Fld Z hh a "com/example/nimble_calculus/nimblecalculus/equivalence/Splits" "born" "[I" (.ref B) ∧ Fld Z hh a "com/example/nimble_calculus/nimblecalculus/equivalence/Splits" "representative" "[I" (.ref RR) ∧ Ar Z hh lf .int [(.int (1 : Int32)), (.int (3 : Int32))] ∧ Ar Z hh hg .int [(.int (0 : Int32)), (.int (1 : Int32)), (.int (1 : Int32)), (.int (2 : Int32))] ∧ Ar Z hh jp (.array .int) [(.ref j0), (.ref j1)] ∧ Ar Z hh j0 .int [(.int (0 : Int32)), (.int (0 : Int32)), (.int (0 : Int32)), (.int (2 : Int32))] ∧ Ar Z hh j1 .int [(.int (0 : Int32)), (.int (0 : Int32)), (.int (0 : Int32)), (.int (0 : Int32))]) := by
  refine Con.of (plainFor_of_name (by first | (simp [plainName, overriddenIn]; done) | decide +kernel)) hE ?_
  intro p e s m below T (X : Sd l Z "com/example/nimble_calculus/nimblecalculus/equivalence/Splits" "finish" prog_61_method_4_code 8 none ({ frames := 2, cells := 5, slots := 16, locals := 34 } : Room) p e s m #[(.ref a), (.ref t)] below T h0 0 0)
  refine End.frame (ef_rm_fin01 m a t) ?_
  have K_0 : Keep h0 h0 [a] := Keep.refl _ _
  have ne_1 : NB ≠ a := Ne.symm (Ar.ne_exa hA12 hE0 (w_3 hw))
  have ne_2 : P ≠ a := Ne.symm (Ar.ne_exa hA11 hE0 (w_3 hw))
  have ne_3 : a ≠ t := Ar.ne_exa hA13 hE0 (w_3 hw)
  show End Z p e below s _ _ _ _ (mkF m 0 #[.val (.ref a), .val (.ref t), .unset, .unset, .unset, .unset, .unset, .unset] [])
  refine E_aloadN (v := (.ref a)) (pc' := 1) X d8_0 rfl rfl rfl ?_
  refine E_aloadN (v := (.ref t)) (pc' := 2) X d8_1 rfl rfl rfl ?_
  refine E_alen (n := (2 : Int32)) (pc' := 3) X hA13 rfl d8_2 rfl ?_
  have le_o4 := X.le
  refine E_newA (pc' := 5) X (aty := .int) (n := (2 : Int32)) (cap := 2) (vs := [(.int (0 : Int32)), (.int (0 : Int32))]) (cells' := 1) (slots' := 2) (w_1 hw) d8_3 rfl (by decide) (by decide) (by decide) rfl rfl rfl (by decide) (by decide) (fun T h_5 o4 g_8 X Ex_6 Aa_7 => ?_)
  have b_9 : h0.size ≤ o4 := by rw [g_8]; exact K_0.1
  have K_10 : Keep h0 h_5 [a] := K_0.ext Ex_6
  have fr_11 : Z.heap.size ≤ o4 := by rw [g_8]; exact le_o4
  have ne_12 : NB ≠ o4 := Nat.ne_of_lt (by rw [g_8]; exact hA12.lt)
  have ne_13 : P ≠ o4 := Nat.ne_of_lt (by rw [g_8]; exact hA11.lt)
  have ne_14 : a ≠ o4 := Nat.ne_of_lt (by rw [g_8]; exact hE0.lt)
  have ne_15 : t ≠ o4 := Nat.ne_of_lt (by rw [g_8]; exact hA13.lt)
  have F_16 : Fld Z h_5 a "com/example/nimble_calculus/nimblecalculus/equivalence/Splits" "leaf" "[I" .null := (hF8.ext Ex_6)
  have E_17 : Exa Z h_5 a "com/example/nimble_calculus/nimblecalculus/equivalence/Splits" := (hE0.ext Ex_6)
  refine E_putF (pc' := 8) X (host := "") (Or.inl (w_52 hw)) Via.refl F_16 E_17 (Or.inl (w_53 hw)) (w_3 hw) (ty := (.array .int)) (by decide) rfl rfl hfr14 d8_5 rfl (fun T h_19 X W_18 => ?_)
  have K_20 : Keep h0 h_19 [a] := K_10.wr W_18 (Or.inl (List.mem_of_getElem? (i := 0) rfl))
  refine E_iconst (v := (0 : Int32)) (pc' := 9) X d8_8 rfl rfl ?_
  refine E_istoreN (Ls' := #[.val (.ref a), .val (.ref t), .val (.int (0 : Int32)), .unset, .unset, .unset, .unset, .unset]) (pc' := 10) X d8_9 rfl rfl ?_
  refine E_iloadN (pc' := 11) X d8_10 rfl rfl ?_
  refine E_aloadN (v := (.ref t)) (pc' := 12) X d8_11 rfl rfl rfl ?_
  have A_21 : Ar Z h_19 t .int [(.int (0 : Int32)), (.int (1 : Int32))] := ((hA13.ext Ex_6).other W_18 (Ne.symm ne_3))
  refine E_alen (n := (2 : Int32)) (pc' := 13) X A_21 rfl d8_12 rfl ?_
  refine E_icmp (pcY := 36) (pcN := 16) X (ic_ge _ _) d8_13 (by decide) rfl rfl (fun hc13_0 => absurd hc13_0 (by decide)) (fun hc13_0 => ?_)
  refine E_aloadN (v := (.ref a)) (pc' := 17) X d8_16 rfl rfl rfl ?_
  have F_22 : Fld Z h_19 a "com/example/nimble_calculus/nimblecalculus/equivalence/Splits" "leaf" "[I" (.ref o4) := (F_16.same W_18)
  refine E_getF (pc' := 20) X (host := "") (Or.inl (w_52 hw)) Via.refl F_22 d8_17 rfl (fun T X => ?_)
  refine E_iloadN (pc' := 21) X d8_20 rfl rfl ?_
  refine E_aloadN (v := (.ref a)) (pc' := 22) X d8_21 rfl rfl rfl ?_
  have F_23 : Fld Z h_19 a "com/example/nimble_calculus/nimblecalculus/equivalence/Splits" "nodeOfBlock" "[I" (.ref NB) := ((hF7.ext Ex_6).other W_18 (Or.inr (slot_ne (Or.inr (w_32 hw)) (Or.inl (w_53 hw)) (by decide) (t := (.array .int)) (t' := (.array .int)) (by decide) (by decide))))
  refine E_getF (pc' := 25) X (host := "") (Or.inl (w_31 hw)) Via.refl F_23 d8_22 rfl (fun T X => ?_)
  refine E_aloadN (v := (.ref t)) (pc' := 26) X d8_25 rfl rfl rfl ?_
  refine E_iloadN (pc' := 27) X d8_26 rfl rfl ?_
  refine E_iaload (v := (.int (0 : Int32))) (pc' := 28) X A_21 (by decide) rfl d8_27 rfl ?_
  have A_24 : Ar Z h_19 NB .int [(.int (1 : Int32)), (.int (3 : Int32)), (.int (0 : Int32)), (.int (0 : Int32))] := ((hA12.ext Ex_6).other W_18 ne_1)
  refine E_iaload (v := (.int (1 : Int32))) (pc' := 29) X A_24 (by decide) rfl d8_28 rfl ?_
  have A_25 : Ar Z h_19 o4 .int [(.int (0 : Int32)), (.int (0 : Int32))] := (Aa_7.other W_18 (Ne.symm ne_14))
  refine E_iastore (vs' := [(.int (1 : Int32)), (.int (0 : Int32))]) (pc' := 30) X A_25 (by decide) (Nat.le_of_ble_eq_true rfl) rfl fr_11 d8_29 rfl (fun T h_27 X W_26 Aa_28 => ?_)
  have K_29 : Keep h0 h_27 [a] := K_20.wr W_26 (Or.inr b_9)
  refine E_iinc (x := (0 : Int32)) (z := (1 : Int32)) (Ls' := #[.val (.ref a), .val (.ref t), .val (.int (1 : Int32)), .unset, .unset, .unset, .unset, .unset]) (pc' := 33) X d8_30 rfl rfl rfl rfl ?_
  refine E_goto (pc' := 10) X d8_33 (by decide) rfl ?_
  refine E_iloadN (pc' := 11) X d8_10 rfl rfl ?_
  refine E_aloadN (v := (.ref t)) (pc' := 12) X d8_11 rfl rfl rfl ?_
  have A_30 : Ar Z h_27 t .int [(.int (0 : Int32)), (.int (1 : Int32))] := (A_21.other W_26 ne_15)
  refine E_alen (n := (2 : Int32)) (pc' := 13) X A_30 rfl d8_12 rfl ?_
  refine E_icmp (pcY := 36) (pcN := 16) X (ic_ge _ _) d8_13 (by decide) rfl rfl (fun hc13_1 => absurd hc13_1 (by decide)) (fun hc13_1 => ?_)
  refine E_aloadN (v := (.ref a)) (pc' := 17) X d8_16 rfl rfl rfl ?_
  have F_31 : Fld Z h_27 a "com/example/nimble_calculus/nimblecalculus/equivalence/Splits" "leaf" "[I" (.ref o4) := (F_22.other W_26 (Or.inl ne_14))
  refine E_getF (pc' := 20) X (host := "") (Or.inl (w_52 hw)) Via.refl F_31 d8_17 rfl (fun T X => ?_)
  refine E_iloadN (pc' := 21) X d8_20 rfl rfl ?_
  refine E_aloadN (v := (.ref a)) (pc' := 22) X d8_21 rfl rfl rfl ?_
  have F_32 : Fld Z h_27 a "com/example/nimble_calculus/nimblecalculus/equivalence/Splits" "nodeOfBlock" "[I" (.ref NB) := (F_23.other W_26 (Or.inl ne_14))
  refine E_getF (pc' := 25) X (host := "") (Or.inl (w_31 hw)) Via.refl F_32 d8_22 rfl (fun T X => ?_)
  refine E_aloadN (v := (.ref t)) (pc' := 26) X d8_25 rfl rfl rfl ?_
  refine E_iloadN (pc' := 27) X d8_26 rfl rfl ?_
  refine E_iaload (v := (.int (1 : Int32))) (pc' := 28) X A_30 (by decide) rfl d8_27 rfl ?_
  have A_33 : Ar Z h_27 NB .int [(.int (1 : Int32)), (.int (3 : Int32)), (.int (0 : Int32)), (.int (0 : Int32))] := (A_24.other W_26 ne_12)
  refine E_iaload (v := (.int (3 : Int32))) (pc' := 29) X A_33 (by decide) rfl d8_28 rfl ?_
  refine E_iastore (vs' := [(.int (1 : Int32)), (.int (3 : Int32))]) (pc' := 30) X Aa_28 (by decide) (Nat.le_of_ble_eq_true rfl) rfl fr_11 d8_29 rfl (fun T h_35 X W_34 Aa_36 => ?_)
  have K_37 : Keep h0 h_35 [a] := K_29.wr W_34 (Or.inr b_9)
  refine E_iinc (x := (1 : Int32)) (z := (2 : Int32)) (Ls' := #[.val (.ref a), .val (.ref t), .val (.int (2 : Int32)), .unset, .unset, .unset, .unset, .unset]) (pc' := 33) X d8_30 rfl rfl rfl rfl ?_
  refine E_goto (pc' := 10) X d8_33 (by decide) rfl ?_
  refine E_iloadN (pc' := 11) X d8_10 rfl rfl ?_
  refine E_aloadN (v := (.ref t)) (pc' := 12) X d8_11 rfl rfl rfl ?_
  have A_38 : Ar Z h_35 t .int [(.int (0 : Int32)), (.int (1 : Int32))] := (A_30.other W_34 ne_15)
  refine E_alen (n := (2 : Int32)) (pc' := 13) X A_38 rfl d8_12 rfl ?_
  refine E_icmp (pcY := 36) (pcN := 16) X (ic_ge _ _) d8_13 (by decide) rfl rfl (fun hc13_2 => ?_) (fun hc13_2 => absurd (by decide) hc13_2)
  refine E_aloadN (v := (.ref a)) (pc' := 37) X d8_36 rfl rfl rfl ?_
  refine E_aloadN (v := (.ref a)) (pc' := 38) X d8_37 rfl rfl rfl ?_
  have F_39 : Fld Z h_35 a "com/example/nimble_calculus/nimblecalculus/equivalence/Splits" "nodeCount" "I" (.int (4 : Int32)) := ((((hF1.ext Ex_6).other W_18 (Or.inr (slot_ne (Or.inl (w_12 hw)) (Or.inl (w_53 hw)) (by decide) (t := .int) (t' := (.array .int)) (by decide) (by decide)))).other W_26 (Or.inl ne_14)).other W_34 (Or.inl ne_14))
  refine E_getF (pc' := 41) X (host := "") (Or.inl (w_11 hw)) Via.refl F_39 d8_38 rfl (fun T X => ?_)
  have A_45 : Ar Z h_35 NB .int [(.int (1 : Int32)), (.int (3 : Int32)), (.int (0 : Int32)), (.int (0 : Int32))] := (A_33.other W_34 ne_12)
  have A_46 : Ar Z h_35 P .int [(.int (0 : Int32)), (.int (0 : Int32)), (.int (0 : Int32)), (.int (2 : Int32)), (.int (0 : Int32)), (.int (0 : Int32)), (.int (0 : Int32))] := ((((hA11.ext Ex_6).other W_18 ne_2).other W_26 ne_13).other W_34 ne_13)
  have E_47 : Exa Z h_35 a "com/example/nimble_calculus/nimblecalculus/equivalence/Splits" := (((E_17.wr W_18).wr W_26).wr W_34)
  have le_o40 := X.le
  refine E_newA (pc' := 43) X (aty := .int) (n := (4 : Int32)) (cap := 4) (vs := [(.int (0 : Int32)), (.int (0 : Int32)), (.int (0 : Int32)), (.int (0 : Int32))]) (cells' := 2) (slots' := 6) (w_1 hw) d8_41 rfl (by decide) (by decide) (by decide) rfl rfl rfl (by decide) (by decide) (fun T h_41 o40 g_44 X Ex_42 Aa_43 => ?_)
  have b_48 : h0.size ≤ o40 := by rw [g_44]; exact K_37.1
  have K_49 : Keep h0 h_41 [a] := K_37.ext Ex_42
  have fr_50 : Z.heap.size ≤ o40 := by rw [g_44]; exact le_o40
  have ne_51 : NB ≠ o40 := Nat.ne_of_lt (by rw [g_44]; exact A_45.lt)
  have ne_52 : P ≠ o40 := Nat.ne_of_lt (by rw [g_44]; exact A_46.lt)
  have ne_53 : a ≠ o40 := Nat.ne_of_lt (by rw [g_44]; exact E_47.lt)
  have ne_54 : o4 ≠ o40 := Nat.ne_of_lt (by rw [g_44]; exact Aa_36.lt)
  have ne_55 : t ≠ o40 := Nat.ne_of_lt (by rw [g_44]; exact A_38.lt)
  have F_56 : Fld Z h_41 a "com/example/nimble_calculus/nimblecalculus/equivalence/Splits" "height" "[I" .null := (((((hF9.ext Ex_6).other W_18 (Or.inr (slot_ne (Or.inl (w_55 hw)) (Or.inl (w_53 hw)) (by decide) (t := (.array .int)) (t' := (.array .int)) (by decide) (by decide)))).other W_26 (Or.inl ne_14)).other W_34 (Or.inl ne_14)).ext Ex_42)
  have E_57 : Exa Z h_41 a "com/example/nimble_calculus/nimblecalculus/equivalence/Splits" := (E_47.ext Ex_42)
  refine E_putF (pc' := 46) X (host := "") (Or.inl (w_54 hw)) Via.refl F_56 E_57 (Or.inl (w_55 hw)) (w_3 hw) (ty := (.array .int)) (by decide) rfl rfl hfr14 d8_43 rfl (fun T h_59 X W_58 => ?_)
  have K_60 : Keep h0 h_59 [a] := K_49.wr W_58 (Or.inl (List.mem_of_getElem? (i := 0) rfl))
  refine E_iconst (v := (0 : Int32)) (pc' := 47) X d8_46 rfl rfl ?_
  refine E_istoreN (Ls' := #[.val (.ref a), .val (.ref t), .val (.int (0 : Int32)), .unset, .unset, .unset, .unset, .unset]) (pc' := 48) X d8_47 rfl rfl ?_
  refine E_iconst (v := (1 : Int32)) (pc' := 49) X d8_48 rfl rfl ?_
  refine E_istoreN (Ls' := #[.val (.ref a), .val (.ref t), .val (.int (0 : Int32)), .val (.int (1 : Int32)), .unset, .unset, .unset, .unset]) (pc' := 50) X d8_49 rfl rfl ?_
  refine E_iloadN (pc' := 51) X d8_50 rfl rfl ?_
  refine E_aloadN (v := (.ref a)) (pc' := 52) X d8_51 rfl rfl rfl ?_
  have F_61 : Fld Z h_59 a "com/example/nimble_calculus/nimblecalculus/equivalence/Splits" "nodeCount" "I" (.int (4 : Int32)) := ((F_39.ext Ex_42).other W_58 (Or.inr (slot_ne (Or.inl (w_12 hw)) (Or.inl (w_55 hw)) (by decide) (t := .int) (t' := (.array .int)) (by decide) (by decide))))
  refine E_getF (pc' := 55) X (host := "") (Or.inl (w_11 hw)) Via.refl F_61 d8_52 rfl (fun T X => ?_)
  refine E_icmp (pcY := 94) (pcN := 58) X (ic_ge _ _) d8_55 (by decide) rfl rfl (fun hc55_0 => absurd hc55_0 (by decide)) (fun hc55_0 => ?_)
  refine E_aloadN (v := (.ref a)) (pc' := 59) X d8_58 rfl rfl rfl ?_
  have F_62 : Fld Z h_59 a "com/example/nimble_calculus/nimblecalculus/equivalence/Splits" "height" "[I" (.ref o40) := (F_56.same W_58)
  refine E_getF (pc' := 62) X (host := "") (Or.inl (w_54 hw)) Via.refl F_62 d8_59 rfl (fun T X => ?_)
  refine E_iloadN (pc' := 63) X d8_62 rfl rfl ?_
  refine E_aloadN (v := (.ref a)) (pc' := 64) X d8_63 rfl rfl rfl ?_
  refine E_getF (pc' := 67) X (host := "") (Or.inl (w_54 hw)) Via.refl F_62 d8_64 rfl (fun T X => ?_)
  refine E_aloadN (v := (.ref a)) (pc' := 68) X d8_67 rfl rfl rfl ?_
  have F_63 : Fld Z h_59 a "com/example/nimble_calculus/nimblecalculus/equivalence/Splits" "parent" "[I" (.ref P) := ((((((hF4.ext Ex_6).other W_18 (Or.inr (slot_ne (Or.inr (w_23 hw)) (Or.inl (w_53 hw)) (by decide) (t := (.array .int)) (t' := (.array .int)) (by decide) (by decide)))).other W_26 (Or.inl ne_14)).other W_34 (Or.inl ne_14)).ext Ex_42).other W_58 (Or.inr (slot_ne (Or.inr (w_23 hw)) (Or.inl (w_55 hw)) (by decide) (t := (.array .int)) (t' := (.array .int)) (by decide) (by decide))))
  refine E_getF (pc' := 71) X (host := "") (Or.inl (w_22 hw)) Via.refl F_63 d8_68 rfl (fun T X => ?_)
  refine E_iloadN (pc' := 72) X d8_71 rfl rfl ?_
  have A_64 : Ar Z h_59 P .int [(.int (0 : Int32)), (.int (0 : Int32)), (.int (0 : Int32)), (.int (2 : Int32)), (.int (0 : Int32)), (.int (0 : Int32)), (.int (0 : Int32))] := ((A_46.ext Ex_42).other W_58 ne_2)
  refine E_iaload (v := (.int (0 : Int32))) (pc' := 73) X A_64 (by decide) rfl d8_72 rfl ?_
  have A_65 : Ar Z h_59 o40 .int [(.int (0 : Int32)), (.int (0 : Int32)), (.int (0 : Int32)), (.int (0 : Int32))] := (Aa_43.other W_58 (Ne.symm ne_53))
  refine E_iaload (v := (.int (0 : Int32))) (pc' := 74) X A_65 (by decide) rfl d8_73 rfl ?_
  refine E_iconst (v := (1 : Int32)) (pc' := 75) X d8_74 rfl rfl ?_
  refine E_iadd (pc' := 76) X d8_75 rfl ?_
  refine E_eqI (z := (1 : Int32)) (by decide) ?_
  refine E_iastore (vs' := [(.int (0 : Int32)), (.int (1 : Int32)), (.int (0 : Int32)), (.int (0 : Int32))]) (pc' := 77) X A_65 (by decide) (Nat.le_of_ble_eq_true rfl) rfl fr_50 d8_76 rfl (fun T h_67 X W_66 Aa_68 => ?_)
  have K_69 : Keep h0 h_67 [a] := K_60.wr W_66 (Or.inr b_48)
  refine E_iloadN (pc' := 78) X d8_77 rfl rfl ?_
  refine E_aloadN (v := (.ref a)) (pc' := 79) X d8_78 rfl rfl rfl ?_
  have F_70 : Fld Z h_67 a "com/example/nimble_calculus/nimblecalculus/equivalence/Splits" "height" "[I" (.ref o40) := (F_62.other W_66 (Or.inl ne_53))
  refine E_getF (pc' := 82) X (host := "") (Or.inl (w_54 hw)) Via.refl F_70 d8_79 rfl (fun T X => ?_)
  refine E_iloadN (pc' := 83) X d8_82 rfl rfl ?_
  refine E_iaload (v := (.int (1 : Int32))) (pc' := 84) X Aa_68 (by decide) rfl d8_83 rfl ?_
  refine E_callS (pc' := 87) (W := 0) (cells' := 2) (slots' := 6) (argsL := [(.int (0 : Int32)), (.int (1 : Int32))]) (rest := []) X (rm5 l Z a0 hw (0 : Int32) (1 : Int32) (1 : Int32) h_67 X.ext (by decide)) (w_28 hw) (w_29 hw) (w_17 hw) (w_30 hw) (by decide) rfl rfl pd_1 rfl rfl d8_84 rfl (Nat.le_refl _) (by decide) (by decide) rfl rfl (by decide) (by decide) (fun v71 T h_72 X hQ73 => ?_)
  obtain ⟨rfl, rfl⟩ := hQ73
  show End Z p e below s _ _ _ _ (mkF m 87 #[.val (.ref a), .val (.ref t), .val (.int (0 : Int32)), .val (.int (1 : Int32)), .unset, .unset, .unset, .unset] [(.int (1 : Int32))])
  refine E_istoreN (Ls' := #[.val (.ref a), .val (.ref t), .val (.int (1 : Int32)), .val (.int (1 : Int32)), .unset, .unset, .unset, .unset]) (pc' := 88) X d8_87 rfl rfl ?_
  refine E_iinc (x := (1 : Int32)) (z := (2 : Int32)) (Ls' := #[.val (.ref a), .val (.ref t), .val (.int (1 : Int32)), .val (.int (2 : Int32)), .unset, .unset, .unset, .unset]) (pc' := 91) X d8_88 rfl rfl rfl rfl ?_
  refine E_goto (pc' := 50) X d8_91 (by decide) rfl ?_
  refine E_iloadN (pc' := 51) X d8_50 rfl rfl ?_
  refine E_aloadN (v := (.ref a)) (pc' := 52) X d8_51 rfl rfl rfl ?_
  have F_75 : Fld Z h_67 a "com/example/nimble_calculus/nimblecalculus/equivalence/Splits" "nodeCount" "I" (.int (4 : Int32)) := (F_61.other W_66 (Or.inl ne_53))
  refine E_getF (pc' := 55) X (host := "") (Or.inl (w_11 hw)) Via.refl F_75 d8_52 rfl (fun T X => ?_)
  refine E_icmp (pcY := 94) (pcN := 58) X (ic_ge _ _) d8_55 (by decide) rfl rfl (fun hc55_1 => absurd hc55_1 (by decide)) (fun hc55_1 => ?_)
  refine E_aloadN (v := (.ref a)) (pc' := 59) X d8_58 rfl rfl rfl ?_
  refine E_getF (pc' := 62) X (host := "") (Or.inl (w_54 hw)) Via.refl F_70 d8_59 rfl (fun T X => ?_)
  refine E_iloadN (pc' := 63) X d8_62 rfl rfl ?_
  refine E_aloadN (v := (.ref a)) (pc' := 64) X d8_63 rfl rfl rfl ?_
  refine E_getF (pc' := 67) X (host := "") (Or.inl (w_54 hw)) Via.refl F_70 d8_64 rfl (fun T X => ?_)
  refine E_aloadN (v := (.ref a)) (pc' := 68) X d8_67 rfl rfl rfl ?_
  have F_76 : Fld Z h_67 a "com/example/nimble_calculus/nimblecalculus/equivalence/Splits" "parent" "[I" (.ref P) := (F_63.other W_66 (Or.inl ne_53))
  refine E_getF (pc' := 71) X (host := "") (Or.inl (w_22 hw)) Via.refl F_76 d8_68 rfl (fun T X => ?_)
  refine E_iloadN (pc' := 72) X d8_71 rfl rfl ?_
  have A_77 : Ar Z h_67 P .int [(.int (0 : Int32)), (.int (0 : Int32)), (.int (0 : Int32)), (.int (2 : Int32)), (.int (0 : Int32)), (.int (0 : Int32)), (.int (0 : Int32))] := (A_64.other W_66 ne_52)
  refine E_iaload (v := (.int (0 : Int32))) (pc' := 73) X A_77 (by decide) rfl d8_72 rfl ?_
  refine E_iaload (v := (.int (0 : Int32))) (pc' := 74) X Aa_68 (by decide) rfl d8_73 rfl ?_
  refine E_iconst (v := (1 : Int32)) (pc' := 75) X d8_74 rfl rfl ?_
  refine E_iadd (pc' := 76) X d8_75 rfl ?_
  refine E_eqI (z := (1 : Int32)) (by decide) ?_
  refine E_iastore (vs' := [(.int (0 : Int32)), (.int (1 : Int32)), (.int (1 : Int32)), (.int (0 : Int32))]) (pc' := 77) X Aa_68 (by decide) (Nat.le_of_ble_eq_true rfl) rfl fr_50 d8_76 rfl (fun T h_79 X W_78 Aa_80 => ?_)
  have K_81 : Keep h0 h_79 [a] := K_69.wr W_78 (Or.inr b_48)
  refine E_iloadN (pc' := 78) X d8_77 rfl rfl ?_
  refine E_aloadN (v := (.ref a)) (pc' := 79) X d8_78 rfl rfl rfl ?_
  have F_82 : Fld Z h_79 a "com/example/nimble_calculus/nimblecalculus/equivalence/Splits" "height" "[I" (.ref o40) := (F_70.other W_78 (Or.inl ne_53))
  refine E_getF (pc' := 82) X (host := "") (Or.inl (w_54 hw)) Via.refl F_82 d8_79 rfl (fun T X => ?_)
  refine E_iloadN (pc' := 83) X d8_82 rfl rfl ?_
  refine E_iaload (v := (.int (1 : Int32))) (pc' := 84) X Aa_80 (by decide) rfl d8_83 rfl ?_
  refine E_callS (pc' := 87) (W := 0) (cells' := 2) (slots' := 6) (argsL := [(.int (1 : Int32)), (.int (1 : Int32))]) (rest := []) X (rm5 l Z a0 hw (1 : Int32) (1 : Int32) (1 : Int32) h_79 X.ext (by decide)) (w_28 hw) (w_29 hw) (w_17 hw) (w_30 hw) (by decide) rfl rfl pd_1 rfl rfl d8_84 rfl (Nat.le_refl _) (by decide) (by decide) rfl rfl (by decide) (by decide) (fun v83 T h_84 X hQ85 => ?_)
  obtain ⟨rfl, rfl⟩ := hQ85
  show End Z p e below s _ _ _ _ (mkF m 87 #[.val (.ref a), .val (.ref t), .val (.int (1 : Int32)), .val (.int (2 : Int32)), .unset, .unset, .unset, .unset] [(.int (1 : Int32))])
  refine E_istoreN (Ls' := #[.val (.ref a), .val (.ref t), .val (.int (1 : Int32)), .val (.int (2 : Int32)), .unset, .unset, .unset, .unset]) (pc' := 88) X d8_87 rfl rfl ?_
  refine E_iinc (x := (2 : Int32)) (z := (3 : Int32)) (Ls' := #[.val (.ref a), .val (.ref t), .val (.int (1 : Int32)), .val (.int (3 : Int32)), .unset, .unset, .unset, .unset]) (pc' := 91) X d8_88 rfl rfl rfl rfl ?_
  refine E_goto (pc' := 50) X d8_91 (by decide) rfl ?_
  refine E_iloadN (pc' := 51) X d8_50 rfl rfl ?_
  refine E_aloadN (v := (.ref a)) (pc' := 52) X d8_51 rfl rfl rfl ?_
  have F_87 : Fld Z h_79 a "com/example/nimble_calculus/nimblecalculus/equivalence/Splits" "nodeCount" "I" (.int (4 : Int32)) := (F_75.other W_78 (Or.inl ne_53))
  refine E_getF (pc' := 55) X (host := "") (Or.inl (w_11 hw)) Via.refl F_87 d8_52 rfl (fun T X => ?_)
  refine E_icmp (pcY := 94) (pcN := 58) X (ic_ge _ _) d8_55 (by decide) rfl rfl (fun hc55_2 => absurd hc55_2 (by decide)) (fun hc55_2 => ?_)
  refine E_aloadN (v := (.ref a)) (pc' := 59) X d8_58 rfl rfl rfl ?_
  refine E_getF (pc' := 62) X (host := "") (Or.inl (w_54 hw)) Via.refl F_82 d8_59 rfl (fun T X => ?_)
  refine E_iloadN (pc' := 63) X d8_62 rfl rfl ?_
  refine E_aloadN (v := (.ref a)) (pc' := 64) X d8_63 rfl rfl rfl ?_
  refine E_getF (pc' := 67) X (host := "") (Or.inl (w_54 hw)) Via.refl F_82 d8_64 rfl (fun T X => ?_)
  refine E_aloadN (v := (.ref a)) (pc' := 68) X d8_67 rfl rfl rfl ?_
  have F_88 : Fld Z h_79 a "com/example/nimble_calculus/nimblecalculus/equivalence/Splits" "parent" "[I" (.ref P) := (F_76.other W_78 (Or.inl ne_53))
  refine E_getF (pc' := 71) X (host := "") (Or.inl (w_22 hw)) Via.refl F_88 d8_68 rfl (fun T X => ?_)
  refine E_iloadN (pc' := 72) X d8_71 rfl rfl ?_
  have A_89 : Ar Z h_79 P .int [(.int (0 : Int32)), (.int (0 : Int32)), (.int (0 : Int32)), (.int (2 : Int32)), (.int (0 : Int32)), (.int (0 : Int32)), (.int (0 : Int32))] := (A_77.other W_78 ne_52)
  refine E_iaload (v := (.int (2 : Int32))) (pc' := 73) X A_89 (by decide) rfl d8_72 rfl ?_
  refine E_iaload (v := (.int (1 : Int32))) (pc' := 74) X Aa_80 (by decide) rfl d8_73 rfl ?_
  refine E_iconst (v := (1 : Int32)) (pc' := 75) X d8_74 rfl rfl ?_
  refine E_iadd (pc' := 76) X d8_75 rfl ?_
  refine E_eqI (z := (2 : Int32)) (by decide) ?_
  refine E_iastore (vs' := [(.int (0 : Int32)), (.int (1 : Int32)), (.int (1 : Int32)), (.int (2 : Int32))]) (pc' := 77) X Aa_80 (by decide) (Nat.le_of_ble_eq_true rfl) rfl fr_50 d8_76 rfl (fun T h_91 X W_90 Aa_92 => ?_)
  have K_93 : Keep h0 h_91 [a] := K_81.wr W_90 (Or.inr b_48)
  refine E_iloadN (pc' := 78) X d8_77 rfl rfl ?_
  refine E_aloadN (v := (.ref a)) (pc' := 79) X d8_78 rfl rfl rfl ?_
  have F_94 : Fld Z h_91 a "com/example/nimble_calculus/nimblecalculus/equivalence/Splits" "height" "[I" (.ref o40) := (F_82.other W_90 (Or.inl ne_53))
  refine E_getF (pc' := 82) X (host := "") (Or.inl (w_54 hw)) Via.refl F_94 d8_79 rfl (fun T X => ?_)
  refine E_iloadN (pc' := 83) X d8_82 rfl rfl ?_
  refine E_iaload (v := (.int (2 : Int32))) (pc' := 84) X Aa_92 (by decide) rfl d8_83 rfl ?_
  refine E_callS (pc' := 87) (W := 0) (cells' := 2) (slots' := 6) (argsL := [(.int (1 : Int32)), (.int (2 : Int32))]) (rest := []) X (rm5 l Z a0 hw (1 : Int32) (2 : Int32) (2 : Int32) h_91 X.ext (by decide)) (w_28 hw) (w_29 hw) (w_17 hw) (w_30 hw) (by decide) rfl rfl pd_1 rfl rfl d8_84 rfl (Nat.le_refl _) (by decide) (by decide) rfl rfl (by decide) (by decide) (fun v95 T h_96 X hQ97 => ?_)
  obtain ⟨rfl, rfl⟩ := hQ97
  show End Z p e below s _ _ _ _ (mkF m 87 #[.val (.ref a), .val (.ref t), .val (.int (1 : Int32)), .val (.int (3 : Int32)), .unset, .unset, .unset, .unset] [(.int (2 : Int32))])
  refine E_istoreN (Ls' := #[.val (.ref a), .val (.ref t), .val (.int (2 : Int32)), .val (.int (3 : Int32)), .unset, .unset, .unset, .unset]) (pc' := 88) X d8_87 rfl rfl ?_
  refine E_iinc (x := (3 : Int32)) (z := (4 : Int32)) (Ls' := #[.val (.ref a), .val (.ref t), .val (.int (2 : Int32)), .val (.int (4 : Int32)), .unset, .unset, .unset, .unset]) (pc' := 91) X d8_88 rfl rfl rfl rfl ?_
  refine E_goto (pc' := 50) X d8_91 (by decide) rfl ?_
  refine E_iloadN (pc' := 51) X d8_50 rfl rfl ?_
  refine E_aloadN (v := (.ref a)) (pc' := 52) X d8_51 rfl rfl rfl ?_
  have F_99 : Fld Z h_91 a "com/example/nimble_calculus/nimblecalculus/equivalence/Splits" "nodeCount" "I" (.int (4 : Int32)) := (F_87.other W_90 (Or.inl ne_53))
  refine E_getF (pc' := 55) X (host := "") (Or.inl (w_11 hw)) Via.refl F_99 d8_52 rfl (fun T X => ?_)
  refine E_icmp (pcY := 94) (pcN := 58) X (ic_ge _ _) d8_55 (by decide) rfl rfl (fun hc55_3 => ?_) (fun hc55_3 => absurd (by decide) hc55_3)
  refine E_bipush (v := (32 : Int32)) (pc' := 96) X d8_94 rfl rfl ?_
  refine E_iconst (v := (1 : Int32)) (pc' := 97) X d8_96 rfl rfl ?_
  refine E_iloadN (pc' := 98) X d8_97 rfl rfl ?_
  refine E_callS (pc' := 101) (W := 1) (cells' := 2) (slots' := 6) (argsL := [(.int (1 : Int32)), (.int (2 : Int32))]) (rest := [(.int (32 : Int32))]) X (rm5 l Z a0 hw (1 : Int32) (2 : Int32) (2 : Int32) h_91 X.ext (by decide)) (w_28 hw) (w_29 hw) (w_17 hw) (w_30 hw) (by decide) rfl rfl pd_1 rfl rfl d8_98 rfl (Nat.le_refl _) (by decide) (by decide) rfl rfl (by decide) (by decide) (fun v100 T h_101 X hQ102 => ?_)
  obtain ⟨rfl, rfl⟩ := hQ102
  show End Z p e below s _ _ _ _ (mkF m 101 #[.val (.ref a), .val (.ref t), .val (.int (2 : Int32)), .val (.int (4 : Int32)), .unset, .unset, .unset, .unset] [(.int (2 : Int32)), (.int (32 : Int32))])
  refine E_callS (pc' := 104) (W := 1) (cells' := 2) (slots' := 6) (argsL := [(.int (2 : Int32))]) (rest := [(.int (32 : Int32))]) X (rm_nlz2 l Z a0 hw h_91 X.ext) (w_56 hw) (w_57 hw) (w_58 hw) (w_59 hw) (by decide) rfl rfl pd_2 rfl rfl d8_101 rfl (Nat.le_refl _) (by decide) (by decide) rfl rfl (by decide) (by decide) (fun v104 T h_105 X hQ106 => ?_)
  obtain ⟨rfl, rfl⟩ := hQ106
  show End Z p e below s _ _ _ _ (mkF m 104 #[.val (.ref a), .val (.ref t), .val (.int (2 : Int32)), .val (.int (4 : Int32)), .unset, .unset, .unset, .unset] [(.int (30 : Int32)), (.int (32 : Int32))])
  refine E_isub (pc' := 105) X d8_104 rfl ?_
  refine E_eqI (z := (2 : Int32)) (by decide) ?_
  refine E_istoreN (Ls' := #[.val (.ref a), .val (.ref t), .val (.int (2 : Int32)), .val (.int (2 : Int32)), .unset, .unset, .unset, .unset]) (pc' := 106) X d8_105 rfl rfl ?_
  refine E_aloadN (v := (.ref a)) (pc' := 107) X d8_106 rfl rfl rfl ?_
  refine E_iloadN (pc' := 108) X d8_107 rfl rfl ?_
  have A_113 : Ar Z h_91 NB .int [(.int (1 : Int32)), (.int (3 : Int32)), (.int (0 : Int32)), (.int (0 : Int32))] := (((((A_45.ext Ex_42).other W_58 ne_1).other W_66 ne_51).other W_78 ne_51).other W_90 ne_51)
  have A_114 : Ar Z h_91 P .int [(.int (0 : Int32)), (.int (0 : Int32)), (.int (0 : Int32)), (.int (2 : Int32)), (.int (0 : Int32)), (.int (0 : Int32)), (.int (0 : Int32))] := (A_89.other W_90 ne_52)
  have E_115 : Exa Z h_91 a "com/example/nimble_calculus/nimblecalculus/equivalence/Splits" := ((((E_57.wr W_58).wr W_66).wr W_78).wr W_90)
  have A_116 : Ar Z h_91 o4 .int [(.int (1 : Int32)), (.int (3 : Int32))] := (((((Aa_36.ext Ex_42).other W_58 (Ne.symm ne_14)).other W_66 ne_54).other W_78 ne_54).other W_90 ne_54)
  have A_117 : Ar Z h_91 t .int [(.int (0 : Int32)), (.int (1 : Int32))] := (((((A_38.ext Ex_42).other W_58 (Ne.symm ne_3)).other W_66 ne_55).other W_78 ne_55).other W_90 ne_55)
  have le_o108 := X.le
  refine E_newRA (pc' := 111) X (n := (2 : Int32)) (cap := 2) (vs := [.null, .null]) (cells' := 3) (slots' := 8) (by decide) (w_61 hw) (w_62 hw) d8_108 rfl (by decide) (by decide) (by decide) rfl rfl rfl (by decide) (by decide) (fun T h_109 o108 g_112 X Ex_110 Aa_111 => ?_)
  have b_118 : h0.size ≤ o108 := by rw [g_112]; exact K_93.1
  have K_119 : Keep h0 h_109 [a] := K_93.ext Ex_110
  have fr_120 : Z.heap.size ≤ o108 := by rw [g_112]; exact le_o108
  have ne_121 : NB ≠ o108 := Nat.ne_of_lt (by rw [g_112]; exact A_113.lt)
  have ne_122 : P ≠ o108 := Nat.ne_of_lt (by rw [g_112]; exact A_114.lt)
  have ne_123 : a ≠ o108 := Nat.ne_of_lt (by rw [g_112]; exact E_115.lt)
  have ne_124 : o4 ≠ o108 := Nat.ne_of_lt (by rw [g_112]; exact A_116.lt)
  have ne_125 : o40 ≠ o108 := Nat.ne_of_lt (by rw [g_112]; exact Aa_92.lt)
  have ne_126 : t ≠ o108 := Nat.ne_of_lt (by rw [g_112]; exact A_117.lt)
  have F_127 : Fld Z h_109 a "com/example/nimble_calculus/nimblecalculus/equivalence/Splits" "jumps" "[[I" .null := ((((((((((hF10.ext Ex_6).other W_18 (Or.inr (slot_ne (Or.inl (w_64 hw)) (Or.inl (w_53 hw)) (by decide) (t := (.array (.array .int))) (t' := (.array .int)) (by decide) (by decide)))).other W_26 (Or.inl ne_14)).other W_34 (Or.inl ne_14)).ext Ex_42).other W_58 (Or.inr (slot_ne (Or.inl (w_64 hw)) (Or.inl (w_55 hw)) (by decide) (t := (.array (.array .int))) (t' := (.array .int)) (by decide) (by decide)))).other W_66 (Or.inl ne_53)).other W_78 (Or.inl ne_53)).other W_90 (Or.inl ne_53)).ext Ex_110)
  have E_128 : Exa Z h_109 a "com/example/nimble_calculus/nimblecalculus/equivalence/Splits" := (E_115.ext Ex_110)
  refine E_putF (pc' := 114) X (host := "") (Or.inl (w_63 hw)) Via.refl F_127 E_128 (Or.inl (w_64 hw)) (w_3 hw) (ty := (.array (.array .int))) (by decide) rfl rfl hfr14 d8_111 rfl (fun T h_130 X W_129 => ?_)
  have K_131 : Keep h0 h_130 [a] := K_119.wr W_129 (Or.inl (List.mem_of_getElem? (i := 0) rfl))
  refine E_aloadN (v := (.ref a)) (pc' := 115) X d8_114 rfl rfl rfl ?_
  have F_132 : Fld Z h_130 a "com/example/nimble_calculus/nimblecalculus/equivalence/Splits" "jumps" "[[I" (.ref o108) := (F_127.same W_129)
  refine E_getF (pc' := 118) X (host := "") (Or.inl (w_63 hw)) Via.refl F_132 d8_115 rfl (fun T X => ?_)
  refine E_iconst (v := (0 : Int32)) (pc' := 119) X d8_118 rfl rfl ?_
  refine E_aloadN (v := (.ref a)) (pc' := 120) X d8_119 rfl rfl rfl ?_
  have F_133 : Fld Z h_130 a "com/example/nimble_calculus/nimblecalculus/equivalence/Splits" "parent" "[I" (.ref P) := (((F_88.other W_90 (Or.inl ne_53)).ext Ex_110).other W_129 (Or.inr (slot_ne (Or.inr (w_23 hw)) (Or.inl (w_64 hw)) (by decide) (t := (.array .int)) (t' := (.array (.array .int))) (by decide) (by decide))))
  refine E_getF (pc' := 123) X (host := "") (Or.inl (w_22 hw)) Via.refl F_133 d8_120 rfl (fun T X => ?_)
  refine E_aloadN (v := (.ref a)) (pc' := 124) X d8_123 rfl rfl rfl ?_
  have F_134 : Fld Z h_130 a "com/example/nimble_calculus/nimblecalculus/equivalence/Splits" "nodeCount" "I" (.int (4 : Int32)) := ((F_99.ext Ex_110).other W_129 (Or.inr (slot_ne (Or.inl (w_12 hw)) (Or.inl (w_64 hw)) (by decide) (t := .int) (t' := (.array (.array .int))) (by decide) (by decide))))
  refine E_getF (pc' := 127) X (host := "") (Or.inl (w_11 hw)) Via.refl F_134 d8_124 rfl (fun T X => ?_)
  have A_135 : Ar Z h_130 P .int [(.int (0 : Int32)), (.int (0 : Int32)), (.int (0 : Int32)), (.int (2 : Int32)), (.int (0 : Int32)), (.int (0 : Int32)), (.int (0 : Int32))] := ((A_114.ext Ex_110).other W_129 ne_2)
  have A_139 : Ar Z h_130 NB .int [(.int (1 : Int32)), (.int (3 : Int32)), (.int (0 : Int32)), (.int (0 : Int32))] := ((A_113.ext Ex_110).other W_129 ne_1)
  have E_140 : Exa Z h_130 a "com/example/nimble_calculus/nimblecalculus/equivalence/Splits" := (E_128.wr W_129)
  have A_141 : ArR Z h_130 o108 (.array .int) "[I" [.null, .null] := (Aa_111.other W_129 (Ne.symm ne_123))
  have A_142 : Ar Z h_130 o4 .int [(.int (1 : Int32)), (.int (3 : Int32))] := ((A_116.ext Ex_110).other W_129 (Ne.symm ne_14))
  have A_143 : Ar Z h_130 o40 .int [(.int (0 : Int32)), (.int (1 : Int32)), (.int (1 : Int32)), (.int (2 : Int32))] := ((Aa_92.ext Ex_110).other W_129 (Ne.symm ne_53))
  have A_144 : Ar Z h_130 t .int [(.int (0 : Int32)), (.int (1 : Int32))] := ((A_117.ext Ex_110).other W_129 (Ne.symm ne_3))
  have le_145 := X.le
  refine E_callS (pc' := 130) (W := 2) (cells' := 4) (slots' := 12) (argsL := [(.ref P), (.int (4 : Int32))]) (rest := [(.int (0 : Int32)), (.ref o108)]) X (rm10 l Z a0 hw P (0 : Int32) (0 : Int32) (0 : Int32) (2 : Int32) (0 : Int32) (0 : Int32) (0 : Int32) h_130 X.ext A_135) (w_65 hw) (w_66 hw) (w_67 hw) (w_68 hw) (by decide) rfl rfl pd_3 rfl rfl d8_127 rfl (Nat.le_refl _) (by decide) (by decide) rfl rfl (by decide) (by decide) (fun v136 T h_137 X hQ138 => ?_)
  obtain ⟨r_146, rfl, Kc_147, nw_148, A_149, E_150⟩ := hQ138
  have K_151 : Keep h0 h_137 [a] := K_131.trans Kc_147 all0
  have ne_152 : NB ≠ r_146 := Nat.ne_of_lt (Nat.lt_of_lt_of_le A_139.lt nw_148)
  have ne_153 : P ≠ r_146 := Nat.ne_of_lt (Nat.lt_of_lt_of_le A_135.lt nw_148)
  have ne_154 : a ≠ r_146 := Nat.ne_of_lt (Nat.lt_of_lt_of_le E_140.lt nw_148)
  have ne_155 : o108 ≠ r_146 := Nat.ne_of_lt (Nat.lt_of_lt_of_le A_141.lt nw_148)
  have ne_156 : o4 ≠ r_146 := Nat.ne_of_lt (Nat.lt_of_lt_of_le A_142.lt nw_148)
  have ne_157 : o40 ≠ r_146 := Nat.ne_of_lt (Nat.lt_of_lt_of_le A_143.lt nw_148)
  have ne_158 : t ≠ r_146 := Nat.ne_of_lt (Nat.lt_of_lt_of_le A_144.lt nw_148)
  have fr_159 : Z.heap.size ≤ r_146 := Nat.le_trans le_145 nw_148
  show End Z p e below s _ _ _ _ (mkF m 130 #[.val (.ref a), .val (.ref t), .val (.int (2 : Int32)), .val (.int (2 : Int32)), .unset, .unset, .unset, .unset] [(.ref r_146), (.int (0 : Int32)), (.ref o108)])
  have A_160 : ArR Z h_137 o108 (.array .int) "[I" [.null, .null] := (A_141.keep Kc_147 nin0)
  refine E_aastore (vs' := [(.ref r_146), .null]) (pc' := 131) X A_160 (Ins.self E_150) rfl (by decide) (Nat.le_of_ble_eq_true rfl) rfl fr_120 d8_130 rfl (fun T h_162 X W_161 Aa_163 => ?_)
  have K_164 : Keep h0 h_162 [a] := K_151.wr W_161 (Or.inr b_118)
  refine E_iconst (v := (1 : Int32)) (pc' := 132) X d8_131 rfl rfl ?_
  refine E_istore (Ls' := #[.val (.ref a), .val (.ref t), .val (.int (2 : Int32)), .val (.int (2 : Int32)), .val (.int (1 : Int32)), .unset, .unset, .unset]) (pc' := 134) X d8_132 rfl rfl ?_
  refine E_iload (pc' := 136) X d8_134 rfl rfl ?_
  refine E_iloadN (pc' := 137) X d8_136 rfl rfl ?_
  refine E_icmp (pcY := 205) (pcN := 140) X (ic_ge _ _) d8_137 (by decide) rfl rfl (fun hc137_0 => absurd hc137_0 (by decide)) (fun hc137_0 => ?_)
  refine E_aloadN (v := (.ref a)) (pc' := 141) X d8_140 rfl rfl rfl ?_
  have F_165 : Fld Z h_162 a "com/example/nimble_calculus/nimblecalculus/equivalence/Splits" "jumps" "[[I" (.ref o108) := ((F_132.keep Kc_147 nin0).other W_161 (Or.inl ne_123))
  refine E_getF (pc' := 144) X (host := "") (Or.inl (w_63 hw)) Via.refl F_165 d8_141 rfl (fun T X => ?_)
  refine E_iload (pc' := 146) X d8_144 rfl rfl ?_
  refine E_iconst (v := (1 : Int32)) (pc' := 147) X d8_146 rfl rfl ?_
  refine E_isub (pc' := 148) X d8_147 rfl ?_
  refine E_eqI (z := (0 : Int32)) (by decide) ?_
  refine E_aaload (v := (.ref r_146)) (pc' := 149) X Aa_163.ar rfl (by decide) rfl d8_148 rfl ?_
  refine E_astore (Ls' := #[.val (.ref a), .val (.ref t), .val (.int (2 : Int32)), .val (.int (2 : Int32)), .val (.int (1 : Int32)), .val (.ref r_146), .unset, .unset]) (pc' := 151) X d8_149 rfl rfl rfl ?_
  refine E_aloadN (v := (.ref a)) (pc' := 152) X d8_151 rfl rfl rfl ?_
  have F_166 : Fld Z h_162 a "com/example/nimble_calculus/nimblecalculus/equivalence/Splits" "nodeCount" "I" (.int (4 : Int32)) := ((F_134.keep Kc_147 nin0).other W_161 (Or.inl ne_123))
  refine E_getF (pc' := 155) X (host := "") (Or.inl (w_11 hw)) Via.refl F_166 d8_152 rfl (fun T X => ?_)
  have A_172 : Ar Z h_162 NB .int [(.int (1 : Int32)), (.int (3 : Int32)), (.int (0 : Int32)), (.int (0 : Int32))] := ((A_139.keep Kc_147 nin0).other W_161 ne_121)
  have A_173 : Ar Z h_162 P .int [(.int (0 : Int32)), (.int (0 : Int32)), (.int (0 : Int32)), (.int (2 : Int32)), (.int (0 : Int32)), (.int (0 : Int32)), (.int (0 : Int32))] := ((A_135.keep Kc_147 nin0).other W_161 ne_122)
  have E_174 : Exa Z h_162 a "com/example/nimble_calculus/nimblecalculus/equivalence/Splits" := ((E_140.keep Kc_147).wr W_161)
  have A_175 : Ar Z h_162 o4 .int [(.int (1 : Int32)), (.int (3 : Int32))] := ((A_142.keep Kc_147 nin0).other W_161 ne_124)
  have A_176 : Ar Z h_162 o40 .int [(.int (0 : Int32)), (.int (1 : Int32)), (.int (1 : Int32)), (.int (2 : Int32))] := ((A_143.keep Kc_147 nin0).other W_161 ne_125)
  have E_177 : Exa Z h_162 r_146 "[I" := (E_150.wr W_161)
  have A_178 : Ar Z h_162 t .int [(.int (0 : Int32)), (.int (1 : Int32))] := ((A_144.keep Kc_147 nin0).other W_161 ne_126)
  have le_o167 := X.le
  refine E_newAE (pc' := 157) X (aty := .int) (n := (4 : Int32)) (cap := 4) (vs := [(.int (0 : Int32)), (.int (0 : Int32)), (.int (0 : Int32)), (.int (0 : Int32))]) (cells' := 5) (slots' := 16) (ad := "[I") (by decide) (w_1 hw) d8_155 rfl (by decide) (by decide) (by decide) rfl rfl rfl (by decide) (by decide) (fun T h_168 o167 g_171 X Ex_169 Aa_170 EaAa_170 => ?_)
  have b_179 : h0.size ≤ o167 := by rw [g_171]; exact K_164.1
  have K_180 : Keep h0 h_168 [a] := K_164.ext Ex_169
  have fr_181 : Z.heap.size ≤ o167 := by rw [g_171]; exact le_o167
  have ne_182 : NB ≠ o167 := Nat.ne_of_lt (by rw [g_171]; exact A_172.lt)
  have ne_183 : P ≠ o167 := Nat.ne_of_lt (by rw [g_171]; exact A_173.lt)
  have ne_184 : a ≠ o167 := Nat.ne_of_lt (by rw [g_171]; exact E_174.lt)
  have ne_185 : o108 ≠ o167 := Nat.ne_of_lt (by rw [g_171]; exact Aa_163.lt)
  have ne_186 : o4 ≠ o167 := Nat.ne_of_lt (by rw [g_171]; exact A_175.lt)
  have ne_187 : o40 ≠ o167 := Nat.ne_of_lt (by rw [g_171]; exact A_176.lt)
  have ne_188 : r_146 ≠ o167 := Nat.ne_of_lt (by rw [g_171]; exact E_177.lt)
  have ne_189 : t ≠ o167 := Nat.ne_of_lt (by rw [g_171]; exact A_178.lt)
  refine E_astore (Ls' := #[.val (.ref a), .val (.ref t), .val (.int (2 : Int32)), .val (.int (2 : Int32)), .val (.int (1 : Int32)), .val (.ref r_146), .val (.ref o167), .unset]) (pc' := 159) X d8_157 rfl rfl rfl ?_
  refine E_iconst (v := (0 : Int32)) (pc' := 160) X d8_159 rfl rfl ?_
  refine E_istore (Ls' := #[.val (.ref a), .val (.ref t), .val (.int (2 : Int32)), .val (.int (2 : Int32)), .val (.int (1 : Int32)), .val (.ref r_146), .val (.ref o167), .val (.int (0 : Int32))]) (pc' := 162) X d8_160 rfl rfl ?_
  refine E_iload (pc' := 164) X d8_162 rfl rfl ?_
  refine E_aloadN (v := (.ref a)) (pc' := 165) X d8_164 rfl rfl rfl ?_
  have F_190 : Fld Z h_168 a "com/example/nimble_calculus/nimblecalculus/equivalence/Splits" "nodeCount" "I" (.int (4 : Int32)) := (F_166.ext Ex_169)
  refine E_getF (pc' := 168) X (host := "") (Or.inl (w_11 hw)) Via.refl F_190 d8_165 rfl (fun T X => ?_)
  refine E_icmp (pcY := 190) (pcN := 171) X (ic_ge _ _) d8_168 (by decide) rfl rfl (fun hc168_0 => absurd hc168_0 (by decide)) (fun hc168_0 => ?_)
  refine E_aload (v := (.ref o167)) (pc' := 173) X d8_171 rfl rfl rfl ?_
  refine E_iload (pc' := 175) X d8_173 rfl rfl ?_
  refine E_aload (v := (.ref r_146)) (pc' := 177) X d8_175 rfl rfl rfl ?_
  refine E_aload (v := (.ref r_146)) (pc' := 179) X d8_177 rfl rfl rfl ?_
  refine E_iload (pc' := 181) X d8_179 rfl rfl ?_
  have A_191 : Ar Z h_168 r_146 .int [(.int (0 : Int32)), (.int (0 : Int32)), (.int (0 : Int32)), (.int (2 : Int32))] := ((A_149.other W_161 (Ne.symm ne_155)).ext Ex_169)
  refine E_iaload (v := (.int (0 : Int32))) (pc' := 182) X A_191 (by decide) rfl d8_181 rfl ?_
  refine E_iaload (v := (.int (0 : Int32))) (pc' := 183) X A_191 (by decide) rfl d8_182 rfl ?_
  refine E_iastore (vs' := [(.int (0 : Int32)), (.int (0 : Int32)), (.int (0 : Int32)), (.int (0 : Int32))]) (pc' := 184) X Aa_170 (by decide) (Nat.le_of_ble_eq_true rfl) rfl fr_181 d8_183 rfl (fun T h_193 X W_192 Aa_194 => ?_)
  have K_195 : Keep h0 h_193 [a] := K_180.wr W_192 (Or.inr b_179)
  refine E_iinc (x := (0 : Int32)) (z := (1 : Int32)) (Ls' := #[.val (.ref a), .val (.ref t), .val (.int (2 : Int32)), .val (.int (2 : Int32)), .val (.int (1 : Int32)), .val (.ref r_146), .val (.ref o167), .val (.int (1 : Int32))]) (pc' := 187) X d8_184 rfl rfl rfl rfl ?_
  refine E_goto (pc' := 162) X d8_187 (by decide) rfl ?_
  refine E_iload (pc' := 164) X d8_162 rfl rfl ?_
  refine E_aloadN (v := (.ref a)) (pc' := 165) X d8_164 rfl rfl rfl ?_
  have F_196 : Fld Z h_193 a "com/example/nimble_calculus/nimblecalculus/equivalence/Splits" "nodeCount" "I" (.int (4 : Int32)) := (F_190.other W_192 (Or.inl ne_184))
  refine E_getF (pc' := 168) X (host := "") (Or.inl (w_11 hw)) Via.refl F_196 d8_165 rfl (fun T X => ?_)
  refine E_icmp (pcY := 190) (pcN := 171) X (ic_ge _ _) d8_168 (by decide) rfl rfl (fun hc168_1 => absurd hc168_1 (by decide)) (fun hc168_1 => ?_)
  refine E_aload (v := (.ref o167)) (pc' := 173) X d8_171 rfl rfl rfl ?_
  refine E_iload (pc' := 175) X d8_173 rfl rfl ?_
  refine E_aload (v := (.ref r_146)) (pc' := 177) X d8_175 rfl rfl rfl ?_
  refine E_aload (v := (.ref r_146)) (pc' := 179) X d8_177 rfl rfl rfl ?_
  refine E_iload (pc' := 181) X d8_179 rfl rfl ?_
  have A_197 : Ar Z h_193 r_146 .int [(.int (0 : Int32)), (.int (0 : Int32)), (.int (0 : Int32)), (.int (2 : Int32))] := (A_191.other W_192 ne_188)
  refine E_iaload (v := (.int (0 : Int32))) (pc' := 182) X A_197 (by decide) rfl d8_181 rfl ?_
  refine E_iaload (v := (.int (0 : Int32))) (pc' := 183) X A_197 (by decide) rfl d8_182 rfl ?_
  refine E_iastore (vs' := [(.int (0 : Int32)), (.int (0 : Int32)), (.int (0 : Int32)), (.int (0 : Int32))]) (pc' := 184) X Aa_194 (by decide) (Nat.le_of_ble_eq_true rfl) rfl fr_181 d8_183 rfl (fun T h_199 X W_198 Aa_200 => ?_)
  have K_201 : Keep h0 h_199 [a] := K_195.wr W_198 (Or.inr b_179)
  refine E_iinc (x := (1 : Int32)) (z := (2 : Int32)) (Ls' := #[.val (.ref a), .val (.ref t), .val (.int (2 : Int32)), .val (.int (2 : Int32)), .val (.int (1 : Int32)), .val (.ref r_146), .val (.ref o167), .val (.int (2 : Int32))]) (pc' := 187) X d8_184 rfl rfl rfl rfl ?_
  refine E_goto (pc' := 162) X d8_187 (by decide) rfl ?_
  refine E_iload (pc' := 164) X d8_162 rfl rfl ?_
  refine E_aloadN (v := (.ref a)) (pc' := 165) X d8_164 rfl rfl rfl ?_
  have F_202 : Fld Z h_199 a "com/example/nimble_calculus/nimblecalculus/equivalence/Splits" "nodeCount" "I" (.int (4 : Int32)) := (F_196.other W_198 (Or.inl ne_184))
  refine E_getF (pc' := 168) X (host := "") (Or.inl (w_11 hw)) Via.refl F_202 d8_165 rfl (fun T X => ?_)
  refine E_icmp (pcY := 190) (pcN := 171) X (ic_ge _ _) d8_168 (by decide) rfl rfl (fun hc168_2 => absurd hc168_2 (by decide)) (fun hc168_2 => ?_)
  refine E_aload (v := (.ref o167)) (pc' := 173) X d8_171 rfl rfl rfl ?_
  refine E_iload (pc' := 175) X d8_173 rfl rfl ?_
  refine E_aload (v := (.ref r_146)) (pc' := 177) X d8_175 rfl rfl rfl ?_
  refine E_aload (v := (.ref r_146)) (pc' := 179) X d8_177 rfl rfl rfl ?_
  refine E_iload (pc' := 181) X d8_179 rfl rfl ?_
  have A_203 : Ar Z h_199 r_146 .int [(.int (0 : Int32)), (.int (0 : Int32)), (.int (0 : Int32)), (.int (2 : Int32))] := (A_197.other W_198 ne_188)
  refine E_iaload (v := (.int (0 : Int32))) (pc' := 182) X A_203 (by decide) rfl d8_181 rfl ?_
  refine E_iaload (v := (.int (0 : Int32))) (pc' := 183) X A_203 (by decide) rfl d8_182 rfl ?_
  refine E_iastore (vs' := [(.int (0 : Int32)), (.int (0 : Int32)), (.int (0 : Int32)), (.int (0 : Int32))]) (pc' := 184) X Aa_200 (by decide) (Nat.le_of_ble_eq_true rfl) rfl fr_181 d8_183 rfl (fun T h_205 X W_204 Aa_206 => ?_)
  have K_207 : Keep h0 h_205 [a] := K_201.wr W_204 (Or.inr b_179)
  refine E_iinc (x := (2 : Int32)) (z := (3 : Int32)) (Ls' := #[.val (.ref a), .val (.ref t), .val (.int (2 : Int32)), .val (.int (2 : Int32)), .val (.int (1 : Int32)), .val (.ref r_146), .val (.ref o167), .val (.int (3 : Int32))]) (pc' := 187) X d8_184 rfl rfl rfl rfl ?_
  refine E_goto (pc' := 162) X d8_187 (by decide) rfl ?_
  refine E_iload (pc' := 164) X d8_162 rfl rfl ?_
  refine E_aloadN (v := (.ref a)) (pc' := 165) X d8_164 rfl rfl rfl ?_
  have F_208 : Fld Z h_205 a "com/example/nimble_calculus/nimblecalculus/equivalence/Splits" "nodeCount" "I" (.int (4 : Int32)) := (F_202.other W_204 (Or.inl ne_184))
  refine E_getF (pc' := 168) X (host := "") (Or.inl (w_11 hw)) Via.refl F_208 d8_165 rfl (fun T X => ?_)
  refine E_icmp (pcY := 190) (pcN := 171) X (ic_ge _ _) d8_168 (by decide) rfl rfl (fun hc168_3 => absurd hc168_3 (by decide)) (fun hc168_3 => ?_)
  refine E_aload (v := (.ref o167)) (pc' := 173) X d8_171 rfl rfl rfl ?_
  refine E_iload (pc' := 175) X d8_173 rfl rfl ?_
  refine E_aload (v := (.ref r_146)) (pc' := 177) X d8_175 rfl rfl rfl ?_
  refine E_aload (v := (.ref r_146)) (pc' := 179) X d8_177 rfl rfl rfl ?_
  refine E_iload (pc' := 181) X d8_179 rfl rfl ?_
  have A_209 : Ar Z h_205 r_146 .int [(.int (0 : Int32)), (.int (0 : Int32)), (.int (0 : Int32)), (.int (2 : Int32))] := (A_203.other W_204 ne_188)
  refine E_iaload (v := (.int (2 : Int32))) (pc' := 182) X A_209 (by decide) rfl d8_181 rfl ?_
  refine E_iaload (v := (.int (0 : Int32))) (pc' := 183) X A_209 (by decide) rfl d8_182 rfl ?_
  refine E_iastore (vs' := [(.int (0 : Int32)), (.int (0 : Int32)), (.int (0 : Int32)), (.int (0 : Int32))]) (pc' := 184) X Aa_206 (by decide) (Nat.le_of_ble_eq_true rfl) rfl fr_181 d8_183 rfl (fun T h_211 X W_210 Aa_212 => ?_)
  have K_213 : Keep h0 h_211 [a] := K_207.wr W_210 (Or.inr b_179)
  refine E_iinc (x := (3 : Int32)) (z := (4 : Int32)) (Ls' := #[.val (.ref a), .val (.ref t), .val (.int (2 : Int32)), .val (.int (2 : Int32)), .val (.int (1 : Int32)), .val (.ref r_146), .val (.ref o167), .val (.int (4 : Int32))]) (pc' := 187) X d8_184 rfl rfl rfl rfl ?_
  refine E_goto (pc' := 162) X d8_187 (by decide) rfl ?_
  refine E_iload (pc' := 164) X d8_162 rfl rfl ?_
  refine E_aloadN (v := (.ref a)) (pc' := 165) X d8_164 rfl rfl rfl ?_
  have F_214 : Fld Z h_211 a "com/example/nimble_calculus/nimblecalculus/equivalence/Splits" "nodeCount" "I" (.int (4 : Int32)) := (F_208.other W_210 (Or.inl ne_184))
  refine E_getF (pc' := 168) X (host := "") (Or.inl (w_11 hw)) Via.refl F_214 d8_165 rfl (fun T X => ?_)
  refine E_icmp (pcY := 190) (pcN := 171) X (ic_ge _ _) d8_168 (by decide) rfl rfl (fun hc168_4 => ?_) (fun hc168_4 => absurd (by decide) hc168_4)
  refine E_aloadN (v := (.ref a)) (pc' := 191) X d8_190 rfl rfl rfl ?_
  have F_215 : Fld Z h_211 a "com/example/nimble_calculus/nimblecalculus/equivalence/Splits" "jumps" "[[I" (.ref o108) := (((((F_165.ext Ex_169).other W_192 (Or.inl ne_184)).other W_198 (Or.inl ne_184)).other W_204 (Or.inl ne_184)).other W_210 (Or.inl ne_184))
  refine E_getF (pc' := 194) X (host := "") (Or.inl (w_63 hw)) Via.refl F_215 d8_191 rfl (fun T X => ?_)
  refine E_iload (pc' := 196) X d8_194 rfl rfl ?_
  refine E_aload (v := (.ref o167)) (pc' := 198) X d8_196 rfl rfl rfl ?_
  have A_216 : ArR Z h_211 o108 (.array .int) "[I" [(.ref r_146), .null] := (((((Aa_163.ext Ex_169).other W_192 ne_185).other W_198 ne_185).other W_204 ne_185).other W_210 ne_185)
  have E_217 : Exa Z h_211 o167 "[I" := ((((EaAa_170.wr W_192).wr W_198).wr W_204).wr W_210)
  refine E_aastore (vs' := [(.ref r_146), (.ref o167)]) (pc' := 199) X A_216 (Ins.self E_217) rfl (by decide) (Nat.le_of_ble_eq_true rfl) rfl fr_120 d8_198 rfl (fun T h_219 X W_218 Aa_220 => ?_)
  have K_221 : Keep h0 h_219 [a] := K_213.wr W_218 (Or.inr b_118)
  refine E_iinc (x := (1 : Int32)) (z := (2 : Int32)) (Ls' := #[.val (.ref a), .val (.ref t), .val (.int (2 : Int32)), .val (.int (2 : Int32)), .val (.int (2 : Int32)), .val (.ref r_146), .val (.ref o167), .val (.int (4 : Int32))]) (pc' := 202) X d8_199 rfl rfl rfl rfl ?_
  refine E_goto (pc' := 134) X d8_202 (by decide) rfl ?_
  refine E_iload (pc' := 136) X d8_134 rfl rfl ?_
  refine E_iloadN (pc' := 137) X d8_136 rfl rfl ?_
  refine E_icmp (pcY := 205) (pcN := 140) X (ic_ge _ _) d8_137 (by decide) rfl rfl (fun hc137_1 => ?_) (fun hc137_1 => absurd (by decide) hc137_1)
  have E_222 : Exa Z h_219 a "com/example/nimble_calculus/nimblecalculus/equivalence/Splits" := ((((((E_174.ext Ex_169).wr W_192).wr W_198).wr W_204).wr W_210).wr W_218)
  have F_223 : Fld Z h_219 a "com/example/nimble_calculus/nimblecalculus/equivalence/Splits" "leaf" "[I" (.ref o4) := ((((((((((((((((F_31.other W_34 (Or.inl ne_14)).ext Ex_42).other W_58 (Or.inr (slot_ne (Or.inl (w_53 hw)) (Or.inl (w_55 hw)) (by decide) (t := (.array .int)) (t' := (.array .int)) (by decide) (by decide)))).other W_66 (Or.inl ne_53)).other W_78 (Or.inl ne_53)).other W_90 (Or.inl ne_53)).ext Ex_110).other W_129 (Or.inr (slot_ne (Or.inl (w_53 hw)) (Or.inl (w_64 hw)) (by decide) (t := (.array .int)) (t' := (.array (.array .int))) (by decide) (by decide)))).keep Kc_147 nin0).other W_161 (Or.inl ne_123)).ext Ex_169).other W_192 (Or.inl ne_184)).other W_198 (Or.inl ne_184)).other W_204 (Or.inl ne_184)).other W_210 (Or.inl ne_184)).other W_218 (Or.inl ne_123))
  have F_224 : Fld Z h_219 a "com/example/nimble_calculus/nimblecalculus/equivalence/Splits" "height" "[I" (.ref o40) := ((((((((((F_94.ext Ex_110).other W_129 (Or.inr (slot_ne (Or.inl (w_55 hw)) (Or.inl (w_64 hw)) (by decide) (t := (.array .int)) (t' := (.array (.array .int))) (by decide) (by decide)))).keep Kc_147 nin0).other W_161 (Or.inl ne_123)).ext Ex_169).other W_192 (Or.inl ne_184)).other W_198 (Or.inl ne_184)).other W_204 (Or.inl ne_184)).other W_210 (Or.inl ne_184)).other W_218 (Or.inl ne_123))
  have F_225 : Fld Z h_219 a "com/example/nimble_calculus/nimblecalculus/equivalence/Splits" "jumps" "[[I" (.ref o108) := (F_215.other W_218 (Or.inl ne_123))
  have F_226 : Fld Z h_219 a "com/example/nimble_calculus/nimblecalculus/equivalence/Splits" "parent" "[I" (.ref P) := ((((((((F_133.keep Kc_147 nin0).other W_161 (Or.inl ne_123)).ext Ex_169).other W_192 (Or.inl ne_184)).other W_198 (Or.inl ne_184)).other W_204 (Or.inl ne_184)).other W_210 (Or.inl ne_184)).other W_218 (Or.inl ne_123))
  have F_227 : Fld Z h_219 a "com/example/nimble_calculus/nimblecalculus/equivalence/Splits" "born" "[I" (.ref B) := (((((((((((((((((((hF5.ext Ex_6).other W_18 (Or.inr (slot_ne (Or.inr (w_25 hw)) (Or.inl (w_53 hw)) (by decide) (t := (.array .int)) (t' := (.array .int)) (by decide) (by decide)))).other W_26 (Or.inl ne_14)).other W_34 (Or.inl ne_14)).ext Ex_42).other W_58 (Or.inr (slot_ne (Or.inr (w_25 hw)) (Or.inl (w_55 hw)) (by decide) (t := (.array .int)) (t' := (.array .int)) (by decide) (by decide)))).other W_66 (Or.inl ne_53)).other W_78 (Or.inl ne_53)).other W_90 (Or.inl ne_53)).ext Ex_110).other W_129 (Or.inr (slot_ne (Or.inr (w_25 hw)) (Or.inl (w_64 hw)) (by decide) (t := (.array .int)) (t' := (.array (.array .int))) (by decide) (by decide)))).keep Kc_147 nin0).other W_161 (Or.inl ne_123)).ext Ex_169).other W_192 (Or.inl ne_184)).other W_198 (Or.inl ne_184)).other W_204 (Or.inl ne_184)).other W_210 (Or.inl ne_184)).other W_218 (Or.inl ne_123))
  have F_228 : Fld Z h_219 a "com/example/nimble_calculus/nimblecalculus/equivalence/Splits" "representative" "[I" (.ref RR) := (((((((((((((((((((hF6.ext Ex_6).other W_18 (Or.inr (slot_ne (Or.inr (w_27 hw)) (Or.inl (w_53 hw)) (by decide) (t := (.array .int)) (t' := (.array .int)) (by decide) (by decide)))).other W_26 (Or.inl ne_14)).other W_34 (Or.inl ne_14)).ext Ex_42).other W_58 (Or.inr (slot_ne (Or.inr (w_27 hw)) (Or.inl (w_55 hw)) (by decide) (t := (.array .int)) (t' := (.array .int)) (by decide) (by decide)))).other W_66 (Or.inl ne_53)).other W_78 (Or.inl ne_53)).other W_90 (Or.inl ne_53)).ext Ex_110).other W_129 (Or.inr (slot_ne (Or.inr (w_27 hw)) (Or.inl (w_64 hw)) (by decide) (t := (.array .int)) (t' := (.array (.array .int))) (by decide) (by decide)))).keep Kc_147 nin0).other W_161 (Or.inl ne_123)).ext Ex_169).other W_192 (Or.inl ne_184)).other W_198 (Or.inl ne_184)).other W_204 (Or.inl ne_184)).other W_210 (Or.inl ne_184)).other W_218 (Or.inl ne_123))
  have A_229 : Ar Z h_219 o4 .int [(.int (1 : Int32)), (.int (3 : Int32))] := ((((((A_175.ext Ex_169).other W_192 ne_186).other W_198 ne_186).other W_204 ne_186).other W_210 ne_186).other W_218 ne_124)
  have A_230 : Ar Z h_219 o40 .int [(.int (0 : Int32)), (.int (1 : Int32)), (.int (1 : Int32)), (.int (2 : Int32))] := ((((((A_176.ext Ex_169).other W_192 ne_187).other W_198 ne_187).other W_204 ne_187).other W_210 ne_187).other W_218 ne_125)
  have A_231 : Ar Z h_219 r_146 .int [(.int (0 : Int32)), (.int (0 : Int32)), (.int (0 : Int32)), (.int (2 : Int32))] := ((A_209.other W_210 ne_188).other W_218 (Ne.symm ne_155))
  have A_232 : Ar Z h_219 o167 .int [(.int (0 : Int32)), (.int (0 : Int32)), (.int (0 : Int32)), (.int (0 : Int32))] := (Aa_212.other W_218 (Ne.symm ne_185))
  exact E_ret0 X d8_205 (by decide) (by decide) ⟨o4, o108, o40, r_146, o167, rfl, K_221, b_9, b_118, b_48, (Nat.le_trans K_131.1 nw_148), b_179, E_222, F_223, F_224, F_225, F_226, F_227, F_228, A_229, A_230, Aa_220.ar, A_231, A_232⟩
theorem ef_rm_fin02 (m : MethodId) (x0 : Addr) (x1 : Addr) : entryFrame m #[(.ref x0), (.ref x1)] 8 = mkF m 0 #[.val (.ref x0), .val (.ref x1), .unset, .unset, .unset, .unset, .unset, .unset] [] := by first | (simp [entryFrame, mkF, argsToLocals, Value.category]; done) | (simp [entryFrame, mkF, argsToLocals, *]; done) | rfl
set_option maxRecDepth 65536 in
set_option maxHeartbeats 2000000 in
theorem rm_fin02 (l : Launch) (Z : State) (a0 : Array Value) (hw : ∀ d ∈ tables_1, d.before a0 Z = true) (a : Addr) (t : Addr) (P : Addr) (B : Addr) (RR : Addr) (NB : Addr) (h0 : Heap) (hE : Ext Z.heap h0) (hE0 : Exa Z h0 a "com/example/nimble_calculus/nimblecalculus/equivalence/Splits") (hF1 : Fld Z h0 a "com/example/nimble_calculus/nimblecalculus/equivalence/Splits" "nodeCount" "I" (.int (4 : Int32))) (hF2 : Fld Z h0 a "com/example/nimble_calculus/nimblecalculus/equivalence/Splits" "splitCount" "I" (.int (2 : Int32))) (hF3 : Fld Z h0 a "com/example/nimble_calculus/nimblecalculus/equivalence/Splits" "splitting" "I" (.int (2 : Int32))) (hF4 : Fld Z h0 a "com/example/nimble_calculus/nimblecalculus/equivalence/Splits" "parent" "[I" (.ref P)) (hF5 : Fld Z h0 a "com/example/nimble_calculus/nimblecalculus/equivalence/Splits" "born" "[I" (.ref B)) (hF6 : Fld Z h0 a "com/example/nimble_calculus/nimblecalculus/equivalence/Splits" "representative" "[I" (.ref RR)) (hF7 : Fld Z h0 a "com/example/nimble_calculus/nimblecalculus/equivalence/Splits" "nodeOfBlock" "[I" (.ref NB)) (hF8 : Fld Z h0 a "com/example/nimble_calculus/nimblecalculus/equivalence/Splits" "leaf" "[I" .null) (hF9 : Fld Z h0 a "com/example/nimble_calculus/nimblecalculus/equivalence/Splits" "height" "[I" .null) (hF10 : Fld Z h0 a "com/example/nimble_calculus/nimblecalculus/equivalence/Splits" "jumps" "[[I" .null) (hA11 : Ar Z h0 P .int [(.int (0 : Int32)), (.int (0 : Int32)), (.int (0 : Int32)), (.int (2 : Int32)), (.int (0 : Int32)), (.int (0 : Int32)), (.int (0 : Int32))]) (hA12 : Ar Z h0 NB .int [(.int (1 : Int32)), (.int (0 : Int32)), (.int (3 : Int32)), (.int (0 : Int32))]) (hA13 : Ar Z h0 t .int [(.int (0 : Int32)), (.int (2 : Int32))]) (hfr14 : Z.heap.size ≤ a) :
    Con l Z (⟨"com/example/nimble_calculus/nimblecalculus/equivalence/Splits", "finish", "([I)V"⟩ : MethodName) prog_61_method_4_code 8 none ({ frames := 2, cells := 5, slots := 16, locals := 34 } : Room) #[(.ref a), (.ref t)] h0 (fun vv hh => ∃ lf : Addr, ∃ jp : Addr, ∃ hg : Addr, ∃ j0 : Addr, ∃ j1 : Addr, vv = none ∧ Keep h0 hh [a] ∧ h0.size ≤ lf ∧ h0.size ≤ jp ∧ h0.size ≤ hg ∧ h0.size ≤ j0 ∧ h0.size ≤ j1 ∧ Exa Z hh a "com/example/nimble_calculus/nimblecalculus/equivalence/Splits" ∧ Fld Z hh a "com/example/nimble_calculus/nimblecalculus/equivalence/Splits" "leaf" "[I" (.ref lf) ∧ Fld Z hh a "com/example/nimble_calculus/nimblecalculus/equivalence/Splits" "height" "[I" (.ref hg) ∧ Fld Z hh a "com/example/nimble_calculus/nimblecalculus/equivalence/Splits" "jumps" "[[I" (.ref jp) ∧ Fld Z hh a "com/example/nimble_calculus/nimblecalculus/equivalence/Splits" "parent" "[I" (.ref P) ∧ Fld Z hh a "com/example/nimble_calculus/nimblecalculus/equivalence/Splits" "born" "[I" (.ref B) ∧ Fld Z hh a "com/example/nimble_calculus/nimblecalculus/equivalence/Splits" "representative" "[I" (.ref RR) ∧ Ar Z hh lf .int [(.int (1 : Int32)), (.int (3 : Int32))] ∧ Ar Z hh hg .int [(.int (0 : Int32)), (.int (1 : Int32)), (.int (1 : Int32)), (.int (2 : Int32))] ∧ Ar Z hh jp (.array .int) [(.ref j0), (.ref j1)] ∧ Ar Z hh j0 .int [(.int (0 : Int32)), (.int (0 : Int32)), (.int (0 : Int32)), (.int (2 : Int32))] ∧ Ar Z hh j1 .int [(.int (0 : Int32)), (.int (0 : Int32)), (.int (0 : Int32)), (.int (0 : Int32))]) := by
  refine Con.of (plainFor_of_name (by first | (simp [plainName, overriddenIn]; done) | decide +kernel)) hE ?_
  intro p e s m below T (X : Sd l Z "com/example/nimble_calculus/nimblecalculus/equivalence/Splits" "finish" prog_61_method_4_code 8 none ({ frames := 2, cells := 5, slots := 16, locals := 34 } : Room) p e s m #[(.ref a), (.ref t)] below T h0 0 0)
  refine End.frame (ef_rm_fin02 m a t) ?_
  have K_0 : Keep h0 h0 [a] := Keep.refl _ _
  have ne_1 : NB ≠ a := Ne.symm (Ar.ne_exa hA12 hE0 (w_3 hw))
  have ne_2 : P ≠ a := Ne.symm (Ar.ne_exa hA11 hE0 (w_3 hw))
  have ne_3 : a ≠ t := Ar.ne_exa hA13 hE0 (w_3 hw)
  show End Z p e below s _ _ _ _ (mkF m 0 #[.val (.ref a), .val (.ref t), .unset, .unset, .unset, .unset, .unset, .unset] [])
  refine E_aloadN (v := (.ref a)) (pc' := 1) X d8_0 rfl rfl rfl ?_
  refine E_aloadN (v := (.ref t)) (pc' := 2) X d8_1 rfl rfl rfl ?_
  refine E_alen (n := (2 : Int32)) (pc' := 3) X hA13 rfl d8_2 rfl ?_
  have le_o4 := X.le
  refine E_newA (pc' := 5) X (aty := .int) (n := (2 : Int32)) (cap := 2) (vs := [(.int (0 : Int32)), (.int (0 : Int32))]) (cells' := 1) (slots' := 2) (w_1 hw) d8_3 rfl (by decide) (by decide) (by decide) rfl rfl rfl (by decide) (by decide) (fun T h_5 o4 g_8 X Ex_6 Aa_7 => ?_)
  have b_9 : h0.size ≤ o4 := by rw [g_8]; exact K_0.1
  have K_10 : Keep h0 h_5 [a] := K_0.ext Ex_6
  have fr_11 : Z.heap.size ≤ o4 := by rw [g_8]; exact le_o4
  have ne_12 : NB ≠ o4 := Nat.ne_of_lt (by rw [g_8]; exact hA12.lt)
  have ne_13 : P ≠ o4 := Nat.ne_of_lt (by rw [g_8]; exact hA11.lt)
  have ne_14 : a ≠ o4 := Nat.ne_of_lt (by rw [g_8]; exact hE0.lt)
  have ne_15 : t ≠ o4 := Nat.ne_of_lt (by rw [g_8]; exact hA13.lt)
  have F_16 : Fld Z h_5 a "com/example/nimble_calculus/nimblecalculus/equivalence/Splits" "leaf" "[I" .null := (hF8.ext Ex_6)
  have E_17 : Exa Z h_5 a "com/example/nimble_calculus/nimblecalculus/equivalence/Splits" := (hE0.ext Ex_6)
  refine E_putF (pc' := 8) X (host := "") (Or.inl (w_52 hw)) Via.refl F_16 E_17 (Or.inl (w_53 hw)) (w_3 hw) (ty := (.array .int)) (by decide) rfl rfl hfr14 d8_5 rfl (fun T h_19 X W_18 => ?_)
  have K_20 : Keep h0 h_19 [a] := K_10.wr W_18 (Or.inl (List.mem_of_getElem? (i := 0) rfl))
  refine E_iconst (v := (0 : Int32)) (pc' := 9) X d8_8 rfl rfl ?_
  refine E_istoreN (Ls' := #[.val (.ref a), .val (.ref t), .val (.int (0 : Int32)), .unset, .unset, .unset, .unset, .unset]) (pc' := 10) X d8_9 rfl rfl ?_
  refine E_iloadN (pc' := 11) X d8_10 rfl rfl ?_
  refine E_aloadN (v := (.ref t)) (pc' := 12) X d8_11 rfl rfl rfl ?_
  have A_21 : Ar Z h_19 t .int [(.int (0 : Int32)), (.int (2 : Int32))] := ((hA13.ext Ex_6).other W_18 (Ne.symm ne_3))
  refine E_alen (n := (2 : Int32)) (pc' := 13) X A_21 rfl d8_12 rfl ?_
  refine E_icmp (pcY := 36) (pcN := 16) X (ic_ge _ _) d8_13 (by decide) rfl rfl (fun hc13_0 => absurd hc13_0 (by decide)) (fun hc13_0 => ?_)
  refine E_aloadN (v := (.ref a)) (pc' := 17) X d8_16 rfl rfl rfl ?_
  have F_22 : Fld Z h_19 a "com/example/nimble_calculus/nimblecalculus/equivalence/Splits" "leaf" "[I" (.ref o4) := (F_16.same W_18)
  refine E_getF (pc' := 20) X (host := "") (Or.inl (w_52 hw)) Via.refl F_22 d8_17 rfl (fun T X => ?_)
  refine E_iloadN (pc' := 21) X d8_20 rfl rfl ?_
  refine E_aloadN (v := (.ref a)) (pc' := 22) X d8_21 rfl rfl rfl ?_
  have F_23 : Fld Z h_19 a "com/example/nimble_calculus/nimblecalculus/equivalence/Splits" "nodeOfBlock" "[I" (.ref NB) := ((hF7.ext Ex_6).other W_18 (Or.inr (slot_ne (Or.inr (w_32 hw)) (Or.inl (w_53 hw)) (by decide) (t := (.array .int)) (t' := (.array .int)) (by decide) (by decide))))
  refine E_getF (pc' := 25) X (host := "") (Or.inl (w_31 hw)) Via.refl F_23 d8_22 rfl (fun T X => ?_)
  refine E_aloadN (v := (.ref t)) (pc' := 26) X d8_25 rfl rfl rfl ?_
  refine E_iloadN (pc' := 27) X d8_26 rfl rfl ?_
  refine E_iaload (v := (.int (0 : Int32))) (pc' := 28) X A_21 (by decide) rfl d8_27 rfl ?_
  have A_24 : Ar Z h_19 NB .int [(.int (1 : Int32)), (.int (0 : Int32)), (.int (3 : Int32)), (.int (0 : Int32))] := ((hA12.ext Ex_6).other W_18 ne_1)
  refine E_iaload (v := (.int (1 : Int32))) (pc' := 29) X A_24 (by decide) rfl d8_28 rfl ?_
  have A_25 : Ar Z h_19 o4 .int [(.int (0 : Int32)), (.int (0 : Int32))] := (Aa_7.other W_18 (Ne.symm ne_14))
  refine E_iastore (vs' := [(.int (1 : Int32)), (.int (0 : Int32))]) (pc' := 30) X A_25 (by decide) (Nat.le_of_ble_eq_true rfl) rfl fr_11 d8_29 rfl (fun T h_27 X W_26 Aa_28 => ?_)
  have K_29 : Keep h0 h_27 [a] := K_20.wr W_26 (Or.inr b_9)
  refine E_iinc (x := (0 : Int32)) (z := (1 : Int32)) (Ls' := #[.val (.ref a), .val (.ref t), .val (.int (1 : Int32)), .unset, .unset, .unset, .unset, .unset]) (pc' := 33) X d8_30 rfl rfl rfl rfl ?_
  refine E_goto (pc' := 10) X d8_33 (by decide) rfl ?_
  refine E_iloadN (pc' := 11) X d8_10 rfl rfl ?_
  refine E_aloadN (v := (.ref t)) (pc' := 12) X d8_11 rfl rfl rfl ?_
  have A_30 : Ar Z h_27 t .int [(.int (0 : Int32)), (.int (2 : Int32))] := (A_21.other W_26 ne_15)
  refine E_alen (n := (2 : Int32)) (pc' := 13) X A_30 rfl d8_12 rfl ?_
  refine E_icmp (pcY := 36) (pcN := 16) X (ic_ge _ _) d8_13 (by decide) rfl rfl (fun hc13_1 => absurd hc13_1 (by decide)) (fun hc13_1 => ?_)
  refine E_aloadN (v := (.ref a)) (pc' := 17) X d8_16 rfl rfl rfl ?_
  have F_31 : Fld Z h_27 a "com/example/nimble_calculus/nimblecalculus/equivalence/Splits" "leaf" "[I" (.ref o4) := (F_22.other W_26 (Or.inl ne_14))
  refine E_getF (pc' := 20) X (host := "") (Or.inl (w_52 hw)) Via.refl F_31 d8_17 rfl (fun T X => ?_)
  refine E_iloadN (pc' := 21) X d8_20 rfl rfl ?_
  refine E_aloadN (v := (.ref a)) (pc' := 22) X d8_21 rfl rfl rfl ?_
  have F_32 : Fld Z h_27 a "com/example/nimble_calculus/nimblecalculus/equivalence/Splits" "nodeOfBlock" "[I" (.ref NB) := (F_23.other W_26 (Or.inl ne_14))
  refine E_getF (pc' := 25) X (host := "") (Or.inl (w_31 hw)) Via.refl F_32 d8_22 rfl (fun T X => ?_)
  refine E_aloadN (v := (.ref t)) (pc' := 26) X d8_25 rfl rfl rfl ?_
  refine E_iloadN (pc' := 27) X d8_26 rfl rfl ?_
  refine E_iaload (v := (.int (2 : Int32))) (pc' := 28) X A_30 (by decide) rfl d8_27 rfl ?_
  have A_33 : Ar Z h_27 NB .int [(.int (1 : Int32)), (.int (0 : Int32)), (.int (3 : Int32)), (.int (0 : Int32))] := (A_24.other W_26 ne_12)
  refine E_iaload (v := (.int (3 : Int32))) (pc' := 29) X A_33 (by decide) rfl d8_28 rfl ?_
  refine E_iastore (vs' := [(.int (1 : Int32)), (.int (3 : Int32))]) (pc' := 30) X Aa_28 (by decide) (Nat.le_of_ble_eq_true rfl) rfl fr_11 d8_29 rfl (fun T h_35 X W_34 Aa_36 => ?_)
  have K_37 : Keep h0 h_35 [a] := K_29.wr W_34 (Or.inr b_9)
  refine E_iinc (x := (1 : Int32)) (z := (2 : Int32)) (Ls' := #[.val (.ref a), .val (.ref t), .val (.int (2 : Int32)), .unset, .unset, .unset, .unset, .unset]) (pc' := 33) X d8_30 rfl rfl rfl rfl ?_
  refine E_goto (pc' := 10) X d8_33 (by decide) rfl ?_
  refine E_iloadN (pc' := 11) X d8_10 rfl rfl ?_
  refine E_aloadN (v := (.ref t)) (pc' := 12) X d8_11 rfl rfl rfl ?_
  have A_38 : Ar Z h_35 t .int [(.int (0 : Int32)), (.int (2 : Int32))] := (A_30.other W_34 ne_15)
  refine E_alen (n := (2 : Int32)) (pc' := 13) X A_38 rfl d8_12 rfl ?_
  refine E_icmp (pcY := 36) (pcN := 16) X (ic_ge _ _) d8_13 (by decide) rfl rfl (fun hc13_2 => ?_) (fun hc13_2 => absurd (by decide) hc13_2)
  refine E_aloadN (v := (.ref a)) (pc' := 37) X d8_36 rfl rfl rfl ?_
  refine E_aloadN (v := (.ref a)) (pc' := 38) X d8_37 rfl rfl rfl ?_
  have F_39 : Fld Z h_35 a "com/example/nimble_calculus/nimblecalculus/equivalence/Splits" "nodeCount" "I" (.int (4 : Int32)) := ((((hF1.ext Ex_6).other W_18 (Or.inr (slot_ne (Or.inl (w_12 hw)) (Or.inl (w_53 hw)) (by decide) (t := .int) (t' := (.array .int)) (by decide) (by decide)))).other W_26 (Or.inl ne_14)).other W_34 (Or.inl ne_14))
  refine E_getF (pc' := 41) X (host := "") (Or.inl (w_11 hw)) Via.refl F_39 d8_38 rfl (fun T X => ?_)
  have A_45 : Ar Z h_35 NB .int [(.int (1 : Int32)), (.int (0 : Int32)), (.int (3 : Int32)), (.int (0 : Int32))] := (A_33.other W_34 ne_12)
  have A_46 : Ar Z h_35 P .int [(.int (0 : Int32)), (.int (0 : Int32)), (.int (0 : Int32)), (.int (2 : Int32)), (.int (0 : Int32)), (.int (0 : Int32)), (.int (0 : Int32))] := ((((hA11.ext Ex_6).other W_18 ne_2).other W_26 ne_13).other W_34 ne_13)
  have E_47 : Exa Z h_35 a "com/example/nimble_calculus/nimblecalculus/equivalence/Splits" := (((E_17.wr W_18).wr W_26).wr W_34)
  have le_o40 := X.le
  refine E_newA (pc' := 43) X (aty := .int) (n := (4 : Int32)) (cap := 4) (vs := [(.int (0 : Int32)), (.int (0 : Int32)), (.int (0 : Int32)), (.int (0 : Int32))]) (cells' := 2) (slots' := 6) (w_1 hw) d8_41 rfl (by decide) (by decide) (by decide) rfl rfl rfl (by decide) (by decide) (fun T h_41 o40 g_44 X Ex_42 Aa_43 => ?_)
  have b_48 : h0.size ≤ o40 := by rw [g_44]; exact K_37.1
  have K_49 : Keep h0 h_41 [a] := K_37.ext Ex_42
  have fr_50 : Z.heap.size ≤ o40 := by rw [g_44]; exact le_o40
  have ne_51 : NB ≠ o40 := Nat.ne_of_lt (by rw [g_44]; exact A_45.lt)
  have ne_52 : P ≠ o40 := Nat.ne_of_lt (by rw [g_44]; exact A_46.lt)
  have ne_53 : a ≠ o40 := Nat.ne_of_lt (by rw [g_44]; exact E_47.lt)
  have ne_54 : o4 ≠ o40 := Nat.ne_of_lt (by rw [g_44]; exact Aa_36.lt)
  have ne_55 : t ≠ o40 := Nat.ne_of_lt (by rw [g_44]; exact A_38.lt)
  have F_56 : Fld Z h_41 a "com/example/nimble_calculus/nimblecalculus/equivalence/Splits" "height" "[I" .null := (((((hF9.ext Ex_6).other W_18 (Or.inr (slot_ne (Or.inl (w_55 hw)) (Or.inl (w_53 hw)) (by decide) (t := (.array .int)) (t' := (.array .int)) (by decide) (by decide)))).other W_26 (Or.inl ne_14)).other W_34 (Or.inl ne_14)).ext Ex_42)
  have E_57 : Exa Z h_41 a "com/example/nimble_calculus/nimblecalculus/equivalence/Splits" := (E_47.ext Ex_42)
  refine E_putF (pc' := 46) X (host := "") (Or.inl (w_54 hw)) Via.refl F_56 E_57 (Or.inl (w_55 hw)) (w_3 hw) (ty := (.array .int)) (by decide) rfl rfl hfr14 d8_43 rfl (fun T h_59 X W_58 => ?_)
  have K_60 : Keep h0 h_59 [a] := K_49.wr W_58 (Or.inl (List.mem_of_getElem? (i := 0) rfl))
  refine E_iconst (v := (0 : Int32)) (pc' := 47) X d8_46 rfl rfl ?_
  refine E_istoreN (Ls' := #[.val (.ref a), .val (.ref t), .val (.int (0 : Int32)), .unset, .unset, .unset, .unset, .unset]) (pc' := 48) X d8_47 rfl rfl ?_
  refine E_iconst (v := (1 : Int32)) (pc' := 49) X d8_48 rfl rfl ?_
  refine E_istoreN (Ls' := #[.val (.ref a), .val (.ref t), .val (.int (0 : Int32)), .val (.int (1 : Int32)), .unset, .unset, .unset, .unset]) (pc' := 50) X d8_49 rfl rfl ?_
  refine E_iloadN (pc' := 51) X d8_50 rfl rfl ?_
  refine E_aloadN (v := (.ref a)) (pc' := 52) X d8_51 rfl rfl rfl ?_
  have F_61 : Fld Z h_59 a "com/example/nimble_calculus/nimblecalculus/equivalence/Splits" "nodeCount" "I" (.int (4 : Int32)) := ((F_39.ext Ex_42).other W_58 (Or.inr (slot_ne (Or.inl (w_12 hw)) (Or.inl (w_55 hw)) (by decide) (t := .int) (t' := (.array .int)) (by decide) (by decide))))
  refine E_getF (pc' := 55) X (host := "") (Or.inl (w_11 hw)) Via.refl F_61 d8_52 rfl (fun T X => ?_)
  refine E_icmp (pcY := 94) (pcN := 58) X (ic_ge _ _) d8_55 (by decide) rfl rfl (fun hc55_0 => absurd hc55_0 (by decide)) (fun hc55_0 => ?_)
  refine E_aloadN (v := (.ref a)) (pc' := 59) X d8_58 rfl rfl rfl ?_
  have F_62 : Fld Z h_59 a "com/example/nimble_calculus/nimblecalculus/equivalence/Splits" "height" "[I" (.ref o40) := (F_56.same W_58)
  refine E_getF (pc' := 62) X (host := "") (Or.inl (w_54 hw)) Via.refl F_62 d8_59 rfl (fun T X => ?_)
  refine E_iloadN (pc' := 63) X d8_62 rfl rfl ?_
  refine E_aloadN (v := (.ref a)) (pc' := 64) X d8_63 rfl rfl rfl ?_
  refine E_getF (pc' := 67) X (host := "") (Or.inl (w_54 hw)) Via.refl F_62 d8_64 rfl (fun T X => ?_)
  refine E_aloadN (v := (.ref a)) (pc' := 68) X d8_67 rfl rfl rfl ?_
  have F_63 : Fld Z h_59 a "com/example/nimble_calculus/nimblecalculus/equivalence/Splits" "parent" "[I" (.ref P) := ((((((hF4.ext Ex_6).other W_18 (Or.inr (slot_ne (Or.inr (w_23 hw)) (Or.inl (w_53 hw)) (by decide) (t := (.array .int)) (t' := (.array .int)) (by decide) (by decide)))).other W_26 (Or.inl ne_14)).other W_34 (Or.inl ne_14)).ext Ex_42).other W_58 (Or.inr (slot_ne (Or.inr (w_23 hw)) (Or.inl (w_55 hw)) (by decide) (t := (.array .int)) (t' := (.array .int)) (by decide) (by decide))))
  refine E_getF (pc' := 71) X (host := "") (Or.inl (w_22 hw)) Via.refl F_63 d8_68 rfl (fun T X => ?_)
  refine E_iloadN (pc' := 72) X d8_71 rfl rfl ?_
  have A_64 : Ar Z h_59 P .int [(.int (0 : Int32)), (.int (0 : Int32)), (.int (0 : Int32)), (.int (2 : Int32)), (.int (0 : Int32)), (.int (0 : Int32)), (.int (0 : Int32))] := ((A_46.ext Ex_42).other W_58 ne_2)
  refine E_iaload (v := (.int (0 : Int32))) (pc' := 73) X A_64 (by decide) rfl d8_72 rfl ?_
  have A_65 : Ar Z h_59 o40 .int [(.int (0 : Int32)), (.int (0 : Int32)), (.int (0 : Int32)), (.int (0 : Int32))] := (Aa_43.other W_58 (Ne.symm ne_53))
  refine E_iaload (v := (.int (0 : Int32))) (pc' := 74) X A_65 (by decide) rfl d8_73 rfl ?_
  refine E_iconst (v := (1 : Int32)) (pc' := 75) X d8_74 rfl rfl ?_
  refine E_iadd (pc' := 76) X d8_75 rfl ?_
  refine E_eqI (z := (1 : Int32)) (by decide) ?_
  refine E_iastore (vs' := [(.int (0 : Int32)), (.int (1 : Int32)), (.int (0 : Int32)), (.int (0 : Int32))]) (pc' := 77) X A_65 (by decide) (Nat.le_of_ble_eq_true rfl) rfl fr_50 d8_76 rfl (fun T h_67 X W_66 Aa_68 => ?_)
  have K_69 : Keep h0 h_67 [a] := K_60.wr W_66 (Or.inr b_48)
  refine E_iloadN (pc' := 78) X d8_77 rfl rfl ?_
  refine E_aloadN (v := (.ref a)) (pc' := 79) X d8_78 rfl rfl rfl ?_
  have F_70 : Fld Z h_67 a "com/example/nimble_calculus/nimblecalculus/equivalence/Splits" "height" "[I" (.ref o40) := (F_62.other W_66 (Or.inl ne_53))
  refine E_getF (pc' := 82) X (host := "") (Or.inl (w_54 hw)) Via.refl F_70 d8_79 rfl (fun T X => ?_)
  refine E_iloadN (pc' := 83) X d8_82 rfl rfl ?_
  refine E_iaload (v := (.int (1 : Int32))) (pc' := 84) X Aa_68 (by decide) rfl d8_83 rfl ?_
  refine E_callS (pc' := 87) (W := 0) (cells' := 2) (slots' := 6) (argsL := [(.int (0 : Int32)), (.int (1 : Int32))]) (rest := []) X (rm5 l Z a0 hw (0 : Int32) (1 : Int32) (1 : Int32) h_67 X.ext (by decide)) (w_28 hw) (w_29 hw) (w_17 hw) (w_30 hw) (by decide) rfl rfl pd_1 rfl rfl d8_84 rfl (Nat.le_refl _) (by decide) (by decide) rfl rfl (by decide) (by decide) (fun v71 T h_72 X hQ73 => ?_)
  obtain ⟨rfl, rfl⟩ := hQ73
  show End Z p e below s _ _ _ _ (mkF m 87 #[.val (.ref a), .val (.ref t), .val (.int (0 : Int32)), .val (.int (1 : Int32)), .unset, .unset, .unset, .unset] [(.int (1 : Int32))])
  refine E_istoreN (Ls' := #[.val (.ref a), .val (.ref t), .val (.int (1 : Int32)), .val (.int (1 : Int32)), .unset, .unset, .unset, .unset]) (pc' := 88) X d8_87 rfl rfl ?_
  refine E_iinc (x := (1 : Int32)) (z := (2 : Int32)) (Ls' := #[.val (.ref a), .val (.ref t), .val (.int (1 : Int32)), .val (.int (2 : Int32)), .unset, .unset, .unset, .unset]) (pc' := 91) X d8_88 rfl rfl rfl rfl ?_
  refine E_goto (pc' := 50) X d8_91 (by decide) rfl ?_
  refine E_iloadN (pc' := 51) X d8_50 rfl rfl ?_
  refine E_aloadN (v := (.ref a)) (pc' := 52) X d8_51 rfl rfl rfl ?_
  have F_75 : Fld Z h_67 a "com/example/nimble_calculus/nimblecalculus/equivalence/Splits" "nodeCount" "I" (.int (4 : Int32)) := (F_61.other W_66 (Or.inl ne_53))
  refine E_getF (pc' := 55) X (host := "") (Or.inl (w_11 hw)) Via.refl F_75 d8_52 rfl (fun T X => ?_)
  refine E_icmp (pcY := 94) (pcN := 58) X (ic_ge _ _) d8_55 (by decide) rfl rfl (fun hc55_1 => absurd hc55_1 (by decide)) (fun hc55_1 => ?_)
  refine E_aloadN (v := (.ref a)) (pc' := 59) X d8_58 rfl rfl rfl ?_
  refine E_getF (pc' := 62) X (host := "") (Or.inl (w_54 hw)) Via.refl F_70 d8_59 rfl (fun T X => ?_)
  refine E_iloadN (pc' := 63) X d8_62 rfl rfl ?_
  refine E_aloadN (v := (.ref a)) (pc' := 64) X d8_63 rfl rfl rfl ?_
  refine E_getF (pc' := 67) X (host := "") (Or.inl (w_54 hw)) Via.refl F_70 d8_64 rfl (fun T X => ?_)
  refine E_aloadN (v := (.ref a)) (pc' := 68) X d8_67 rfl rfl rfl ?_
  have F_76 : Fld Z h_67 a "com/example/nimble_calculus/nimblecalculus/equivalence/Splits" "parent" "[I" (.ref P) := (F_63.other W_66 (Or.inl ne_53))
  refine E_getF (pc' := 71) X (host := "") (Or.inl (w_22 hw)) Via.refl F_76 d8_68 rfl (fun T X => ?_)
  refine E_iloadN (pc' := 72) X d8_71 rfl rfl ?_
  have A_77 : Ar Z h_67 P .int [(.int (0 : Int32)), (.int (0 : Int32)), (.int (0 : Int32)), (.int (2 : Int32)), (.int (0 : Int32)), (.int (0 : Int32)), (.int (0 : Int32))] := (A_64.other W_66 ne_52)
  refine E_iaload (v := (.int (0 : Int32))) (pc' := 73) X A_77 (by decide) rfl d8_72 rfl ?_
  refine E_iaload (v := (.int (0 : Int32))) (pc' := 74) X Aa_68 (by decide) rfl d8_73 rfl ?_
  refine E_iconst (v := (1 : Int32)) (pc' := 75) X d8_74 rfl rfl ?_
  refine E_iadd (pc' := 76) X d8_75 rfl ?_
  refine E_eqI (z := (1 : Int32)) (by decide) ?_
  refine E_iastore (vs' := [(.int (0 : Int32)), (.int (1 : Int32)), (.int (1 : Int32)), (.int (0 : Int32))]) (pc' := 77) X Aa_68 (by decide) (Nat.le_of_ble_eq_true rfl) rfl fr_50 d8_76 rfl (fun T h_79 X W_78 Aa_80 => ?_)
  have K_81 : Keep h0 h_79 [a] := K_69.wr W_78 (Or.inr b_48)
  refine E_iloadN (pc' := 78) X d8_77 rfl rfl ?_
  refine E_aloadN (v := (.ref a)) (pc' := 79) X d8_78 rfl rfl rfl ?_
  have F_82 : Fld Z h_79 a "com/example/nimble_calculus/nimblecalculus/equivalence/Splits" "height" "[I" (.ref o40) := (F_70.other W_78 (Or.inl ne_53))
  refine E_getF (pc' := 82) X (host := "") (Or.inl (w_54 hw)) Via.refl F_82 d8_79 rfl (fun T X => ?_)
  refine E_iloadN (pc' := 83) X d8_82 rfl rfl ?_
  refine E_iaload (v := (.int (1 : Int32))) (pc' := 84) X Aa_80 (by decide) rfl d8_83 rfl ?_
  refine E_callS (pc' := 87) (W := 0) (cells' := 2) (slots' := 6) (argsL := [(.int (1 : Int32)), (.int (1 : Int32))]) (rest := []) X (rm5 l Z a0 hw (1 : Int32) (1 : Int32) (1 : Int32) h_79 X.ext (by decide)) (w_28 hw) (w_29 hw) (w_17 hw) (w_30 hw) (by decide) rfl rfl pd_1 rfl rfl d8_84 rfl (Nat.le_refl _) (by decide) (by decide) rfl rfl (by decide) (by decide) (fun v83 T h_84 X hQ85 => ?_)
  obtain ⟨rfl, rfl⟩ := hQ85
  show End Z p e below s _ _ _ _ (mkF m 87 #[.val (.ref a), .val (.ref t), .val (.int (1 : Int32)), .val (.int (2 : Int32)), .unset, .unset, .unset, .unset] [(.int (1 : Int32))])
  refine E_istoreN (Ls' := #[.val (.ref a), .val (.ref t), .val (.int (1 : Int32)), .val (.int (2 : Int32)), .unset, .unset, .unset, .unset]) (pc' := 88) X d8_87 rfl rfl ?_
  refine E_iinc (x := (2 : Int32)) (z := (3 : Int32)) (Ls' := #[.val (.ref a), .val (.ref t), .val (.int (1 : Int32)), .val (.int (3 : Int32)), .unset, .unset, .unset, .unset]) (pc' := 91) X d8_88 rfl rfl rfl rfl ?_
  refine E_goto (pc' := 50) X d8_91 (by decide) rfl ?_
  refine E_iloadN (pc' := 51) X d8_50 rfl rfl ?_
  refine E_aloadN (v := (.ref a)) (pc' := 52) X d8_51 rfl rfl rfl ?_
  have F_87 : Fld Z h_79 a "com/example/nimble_calculus/nimblecalculus/equivalence/Splits" "nodeCount" "I" (.int (4 : Int32)) := (F_75.other W_78 (Or.inl ne_53))
  refine E_getF (pc' := 55) X (host := "") (Or.inl (w_11 hw)) Via.refl F_87 d8_52 rfl (fun T X => ?_)
  refine E_icmp (pcY := 94) (pcN := 58) X (ic_ge _ _) d8_55 (by decide) rfl rfl (fun hc55_2 => absurd hc55_2 (by decide)) (fun hc55_2 => ?_)
  refine E_aloadN (v := (.ref a)) (pc' := 59) X d8_58 rfl rfl rfl ?_
  refine E_getF (pc' := 62) X (host := "") (Or.inl (w_54 hw)) Via.refl F_82 d8_59 rfl (fun T X => ?_)
  refine E_iloadN (pc' := 63) X d8_62 rfl rfl ?_
  refine E_aloadN (v := (.ref a)) (pc' := 64) X d8_63 rfl rfl rfl ?_
  refine E_getF (pc' := 67) X (host := "") (Or.inl (w_54 hw)) Via.refl F_82 d8_64 rfl (fun T X => ?_)
  refine E_aloadN (v := (.ref a)) (pc' := 68) X d8_67 rfl rfl rfl ?_
  have F_88 : Fld Z h_79 a "com/example/nimble_calculus/nimblecalculus/equivalence/Splits" "parent" "[I" (.ref P) := (F_76.other W_78 (Or.inl ne_53))
  refine E_getF (pc' := 71) X (host := "") (Or.inl (w_22 hw)) Via.refl F_88 d8_68 rfl (fun T X => ?_)
  refine E_iloadN (pc' := 72) X d8_71 rfl rfl ?_
  have A_89 : Ar Z h_79 P .int [(.int (0 : Int32)), (.int (0 : Int32)), (.int (0 : Int32)), (.int (2 : Int32)), (.int (0 : Int32)), (.int (0 : Int32)), (.int (0 : Int32))] := (A_77.other W_78 ne_52)
  refine E_iaload (v := (.int (2 : Int32))) (pc' := 73) X A_89 (by decide) rfl d8_72 rfl ?_
  refine E_iaload (v := (.int (1 : Int32))) (pc' := 74) X Aa_80 (by decide) rfl d8_73 rfl ?_
  refine E_iconst (v := (1 : Int32)) (pc' := 75) X d8_74 rfl rfl ?_
  refine E_iadd (pc' := 76) X d8_75 rfl ?_
  refine E_eqI (z := (2 : Int32)) (by decide) ?_
  refine E_iastore (vs' := [(.int (0 : Int32)), (.int (1 : Int32)), (.int (1 : Int32)), (.int (2 : Int32))]) (pc' := 77) X Aa_80 (by decide) (Nat.le_of_ble_eq_true rfl) rfl fr_50 d8_76 rfl (fun T h_91 X W_90 Aa_92 => ?_)
  have K_93 : Keep h0 h_91 [a] := K_81.wr W_90 (Or.inr b_48)
  refine E_iloadN (pc' := 78) X d8_77 rfl rfl ?_
  refine E_aloadN (v := (.ref a)) (pc' := 79) X d8_78 rfl rfl rfl ?_
  have F_94 : Fld Z h_91 a "com/example/nimble_calculus/nimblecalculus/equivalence/Splits" "height" "[I" (.ref o40) := (F_82.other W_90 (Or.inl ne_53))
  refine E_getF (pc' := 82) X (host := "") (Or.inl (w_54 hw)) Via.refl F_94 d8_79 rfl (fun T X => ?_)
  refine E_iloadN (pc' := 83) X d8_82 rfl rfl ?_
  refine E_iaload (v := (.int (2 : Int32))) (pc' := 84) X Aa_92 (by decide) rfl d8_83 rfl ?_
  refine E_callS (pc' := 87) (W := 0) (cells' := 2) (slots' := 6) (argsL := [(.int (1 : Int32)), (.int (2 : Int32))]) (rest := []) X (rm5 l Z a0 hw (1 : Int32) (2 : Int32) (2 : Int32) h_91 X.ext (by decide)) (w_28 hw) (w_29 hw) (w_17 hw) (w_30 hw) (by decide) rfl rfl pd_1 rfl rfl d8_84 rfl (Nat.le_refl _) (by decide) (by decide) rfl rfl (by decide) (by decide) (fun v95 T h_96 X hQ97 => ?_)
  obtain ⟨rfl, rfl⟩ := hQ97
  show End Z p e below s _ _ _ _ (mkF m 87 #[.val (.ref a), .val (.ref t), .val (.int (1 : Int32)), .val (.int (3 : Int32)), .unset, .unset, .unset, .unset] [(.int (2 : Int32))])
  refine E_istoreN (Ls' := #[.val (.ref a), .val (.ref t), .val (.int (2 : Int32)), .val (.int (3 : Int32)), .unset, .unset, .unset, .unset]) (pc' := 88) X d8_87 rfl rfl ?_
  refine E_iinc (x := (3 : Int32)) (z := (4 : Int32)) (Ls' := #[.val (.ref a), .val (.ref t), .val (.int (2 : Int32)), .val (.int (4 : Int32)), .unset, .unset, .unset, .unset]) (pc' := 91) X d8_88 rfl rfl rfl rfl ?_
  refine E_goto (pc' := 50) X d8_91 (by decide) rfl ?_
  refine E_iloadN (pc' := 51) X d8_50 rfl rfl ?_
  refine E_aloadN (v := (.ref a)) (pc' := 52) X d8_51 rfl rfl rfl ?_
  have F_99 : Fld Z h_91 a "com/example/nimble_calculus/nimblecalculus/equivalence/Splits" "nodeCount" "I" (.int (4 : Int32)) := (F_87.other W_90 (Or.inl ne_53))
  refine E_getF (pc' := 55) X (host := "") (Or.inl (w_11 hw)) Via.refl F_99 d8_52 rfl (fun T X => ?_)
  refine E_icmp (pcY := 94) (pcN := 58) X (ic_ge _ _) d8_55 (by decide) rfl rfl (fun hc55_3 => ?_) (fun hc55_3 => absurd (by decide) hc55_3)
  refine E_bipush (v := (32 : Int32)) (pc' := 96) X d8_94 rfl rfl ?_
  refine E_iconst (v := (1 : Int32)) (pc' := 97) X d8_96 rfl rfl ?_
  refine E_iloadN (pc' := 98) X d8_97 rfl rfl ?_
  refine E_callS (pc' := 101) (W := 1) (cells' := 2) (slots' := 6) (argsL := [(.int (1 : Int32)), (.int (2 : Int32))]) (rest := [(.int (32 : Int32))]) X (rm5 l Z a0 hw (1 : Int32) (2 : Int32) (2 : Int32) h_91 X.ext (by decide)) (w_28 hw) (w_29 hw) (w_17 hw) (w_30 hw) (by decide) rfl rfl pd_1 rfl rfl d8_98 rfl (Nat.le_refl _) (by decide) (by decide) rfl rfl (by decide) (by decide) (fun v100 T h_101 X hQ102 => ?_)
  obtain ⟨rfl, rfl⟩ := hQ102
  show End Z p e below s _ _ _ _ (mkF m 101 #[.val (.ref a), .val (.ref t), .val (.int (2 : Int32)), .val (.int (4 : Int32)), .unset, .unset, .unset, .unset] [(.int (2 : Int32)), (.int (32 : Int32))])
  refine E_callS (pc' := 104) (W := 1) (cells' := 2) (slots' := 6) (argsL := [(.int (2 : Int32))]) (rest := [(.int (32 : Int32))]) X (rm_nlz2 l Z a0 hw h_91 X.ext) (w_56 hw) (w_57 hw) (w_58 hw) (w_59 hw) (by decide) rfl rfl pd_2 rfl rfl d8_101 rfl (Nat.le_refl _) (by decide) (by decide) rfl rfl (by decide) (by decide) (fun v104 T h_105 X hQ106 => ?_)
  obtain ⟨rfl, rfl⟩ := hQ106
  show End Z p e below s _ _ _ _ (mkF m 104 #[.val (.ref a), .val (.ref t), .val (.int (2 : Int32)), .val (.int (4 : Int32)), .unset, .unset, .unset, .unset] [(.int (30 : Int32)), (.int (32 : Int32))])
  refine E_isub (pc' := 105) X d8_104 rfl ?_
  refine E_eqI (z := (2 : Int32)) (by decide) ?_
  refine E_istoreN (Ls' := #[.val (.ref a), .val (.ref t), .val (.int (2 : Int32)), .val (.int (2 : Int32)), .unset, .unset, .unset, .unset]) (pc' := 106) X d8_105 rfl rfl ?_
  refine E_aloadN (v := (.ref a)) (pc' := 107) X d8_106 rfl rfl rfl ?_
  refine E_iloadN (pc' := 108) X d8_107 rfl rfl ?_
  have A_113 : Ar Z h_91 NB .int [(.int (1 : Int32)), (.int (0 : Int32)), (.int (3 : Int32)), (.int (0 : Int32))] := (((((A_45.ext Ex_42).other W_58 ne_1).other W_66 ne_51).other W_78 ne_51).other W_90 ne_51)
  have A_114 : Ar Z h_91 P .int [(.int (0 : Int32)), (.int (0 : Int32)), (.int (0 : Int32)), (.int (2 : Int32)), (.int (0 : Int32)), (.int (0 : Int32)), (.int (0 : Int32))] := (A_89.other W_90 ne_52)
  have E_115 : Exa Z h_91 a "com/example/nimble_calculus/nimblecalculus/equivalence/Splits" := ((((E_57.wr W_58).wr W_66).wr W_78).wr W_90)
  have A_116 : Ar Z h_91 o4 .int [(.int (1 : Int32)), (.int (3 : Int32))] := (((((Aa_36.ext Ex_42).other W_58 (Ne.symm ne_14)).other W_66 ne_54).other W_78 ne_54).other W_90 ne_54)
  have A_117 : Ar Z h_91 t .int [(.int (0 : Int32)), (.int (2 : Int32))] := (((((A_38.ext Ex_42).other W_58 (Ne.symm ne_3)).other W_66 ne_55).other W_78 ne_55).other W_90 ne_55)
  have le_o108 := X.le
  refine E_newRA (pc' := 111) X (n := (2 : Int32)) (cap := 2) (vs := [.null, .null]) (cells' := 3) (slots' := 8) (by decide) (w_61 hw) (w_62 hw) d8_108 rfl (by decide) (by decide) (by decide) rfl rfl rfl (by decide) (by decide) (fun T h_109 o108 g_112 X Ex_110 Aa_111 => ?_)
  have b_118 : h0.size ≤ o108 := by rw [g_112]; exact K_93.1
  have K_119 : Keep h0 h_109 [a] := K_93.ext Ex_110
  have fr_120 : Z.heap.size ≤ o108 := by rw [g_112]; exact le_o108
  have ne_121 : NB ≠ o108 := Nat.ne_of_lt (by rw [g_112]; exact A_113.lt)
  have ne_122 : P ≠ o108 := Nat.ne_of_lt (by rw [g_112]; exact A_114.lt)
  have ne_123 : a ≠ o108 := Nat.ne_of_lt (by rw [g_112]; exact E_115.lt)
  have ne_124 : o4 ≠ o108 := Nat.ne_of_lt (by rw [g_112]; exact A_116.lt)
  have ne_125 : o40 ≠ o108 := Nat.ne_of_lt (by rw [g_112]; exact Aa_92.lt)
  have ne_126 : t ≠ o108 := Nat.ne_of_lt (by rw [g_112]; exact A_117.lt)
  have F_127 : Fld Z h_109 a "com/example/nimble_calculus/nimblecalculus/equivalence/Splits" "jumps" "[[I" .null := ((((((((((hF10.ext Ex_6).other W_18 (Or.inr (slot_ne (Or.inl (w_64 hw)) (Or.inl (w_53 hw)) (by decide) (t := (.array (.array .int))) (t' := (.array .int)) (by decide) (by decide)))).other W_26 (Or.inl ne_14)).other W_34 (Or.inl ne_14)).ext Ex_42).other W_58 (Or.inr (slot_ne (Or.inl (w_64 hw)) (Or.inl (w_55 hw)) (by decide) (t := (.array (.array .int))) (t' := (.array .int)) (by decide) (by decide)))).other W_66 (Or.inl ne_53)).other W_78 (Or.inl ne_53)).other W_90 (Or.inl ne_53)).ext Ex_110)
  have E_128 : Exa Z h_109 a "com/example/nimble_calculus/nimblecalculus/equivalence/Splits" := (E_115.ext Ex_110)
  refine E_putF (pc' := 114) X (host := "") (Or.inl (w_63 hw)) Via.refl F_127 E_128 (Or.inl (w_64 hw)) (w_3 hw) (ty := (.array (.array .int))) (by decide) rfl rfl hfr14 d8_111 rfl (fun T h_130 X W_129 => ?_)
  have K_131 : Keep h0 h_130 [a] := K_119.wr W_129 (Or.inl (List.mem_of_getElem? (i := 0) rfl))
  refine E_aloadN (v := (.ref a)) (pc' := 115) X d8_114 rfl rfl rfl ?_
  have F_132 : Fld Z h_130 a "com/example/nimble_calculus/nimblecalculus/equivalence/Splits" "jumps" "[[I" (.ref o108) := (F_127.same W_129)
  refine E_getF (pc' := 118) X (host := "") (Or.inl (w_63 hw)) Via.refl F_132 d8_115 rfl (fun T X => ?_)
  refine E_iconst (v := (0 : Int32)) (pc' := 119) X d8_118 rfl rfl ?_
  refine E_aloadN (v := (.ref a)) (pc' := 120) X d8_119 rfl rfl rfl ?_
  have F_133 : Fld Z h_130 a "com/example/nimble_calculus/nimblecalculus/equivalence/Splits" "parent" "[I" (.ref P) := (((F_88.other W_90 (Or.inl ne_53)).ext Ex_110).other W_129 (Or.inr (slot_ne (Or.inr (w_23 hw)) (Or.inl (w_64 hw)) (by decide) (t := (.array .int)) (t' := (.array (.array .int))) (by decide) (by decide))))
  refine E_getF (pc' := 123) X (host := "") (Or.inl (w_22 hw)) Via.refl F_133 d8_120 rfl (fun T X => ?_)
  refine E_aloadN (v := (.ref a)) (pc' := 124) X d8_123 rfl rfl rfl ?_
  have F_134 : Fld Z h_130 a "com/example/nimble_calculus/nimblecalculus/equivalence/Splits" "nodeCount" "I" (.int (4 : Int32)) := ((F_99.ext Ex_110).other W_129 (Or.inr (slot_ne (Or.inl (w_12 hw)) (Or.inl (w_64 hw)) (by decide) (t := .int) (t' := (.array (.array .int))) (by decide) (by decide))))
  refine E_getF (pc' := 127) X (host := "") (Or.inl (w_11 hw)) Via.refl F_134 d8_124 rfl (fun T X => ?_)
  have A_135 : Ar Z h_130 P .int [(.int (0 : Int32)), (.int (0 : Int32)), (.int (0 : Int32)), (.int (2 : Int32)), (.int (0 : Int32)), (.int (0 : Int32)), (.int (0 : Int32))] := ((A_114.ext Ex_110).other W_129 ne_2)
  have A_139 : Ar Z h_130 NB .int [(.int (1 : Int32)), (.int (0 : Int32)), (.int (3 : Int32)), (.int (0 : Int32))] := ((A_113.ext Ex_110).other W_129 ne_1)
  have E_140 : Exa Z h_130 a "com/example/nimble_calculus/nimblecalculus/equivalence/Splits" := (E_128.wr W_129)
  have A_141 : ArR Z h_130 o108 (.array .int) "[I" [.null, .null] := (Aa_111.other W_129 (Ne.symm ne_123))
  have A_142 : Ar Z h_130 o4 .int [(.int (1 : Int32)), (.int (3 : Int32))] := ((A_116.ext Ex_110).other W_129 (Ne.symm ne_14))
  have A_143 : Ar Z h_130 o40 .int [(.int (0 : Int32)), (.int (1 : Int32)), (.int (1 : Int32)), (.int (2 : Int32))] := ((Aa_92.ext Ex_110).other W_129 (Ne.symm ne_53))
  have A_144 : Ar Z h_130 t .int [(.int (0 : Int32)), (.int (2 : Int32))] := ((A_117.ext Ex_110).other W_129 (Ne.symm ne_3))
  have le_145 := X.le
  refine E_callS (pc' := 130) (W := 2) (cells' := 4) (slots' := 12) (argsL := [(.ref P), (.int (4 : Int32))]) (rest := [(.int (0 : Int32)), (.ref o108)]) X (rm10 l Z a0 hw P (0 : Int32) (0 : Int32) (0 : Int32) (2 : Int32) (0 : Int32) (0 : Int32) (0 : Int32) h_130 X.ext A_135) (w_65 hw) (w_66 hw) (w_67 hw) (w_68 hw) (by decide) rfl rfl pd_3 rfl rfl d8_127 rfl (Nat.le_refl _) (by decide) (by decide) rfl rfl (by decide) (by decide) (fun v136 T h_137 X hQ138 => ?_)
  obtain ⟨r_146, rfl, Kc_147, nw_148, A_149, E_150⟩ := hQ138
  have K_151 : Keep h0 h_137 [a] := K_131.trans Kc_147 all0
  have ne_152 : NB ≠ r_146 := Nat.ne_of_lt (Nat.lt_of_lt_of_le A_139.lt nw_148)
  have ne_153 : P ≠ r_146 := Nat.ne_of_lt (Nat.lt_of_lt_of_le A_135.lt nw_148)
  have ne_154 : a ≠ r_146 := Nat.ne_of_lt (Nat.lt_of_lt_of_le E_140.lt nw_148)
  have ne_155 : o108 ≠ r_146 := Nat.ne_of_lt (Nat.lt_of_lt_of_le A_141.lt nw_148)
  have ne_156 : o4 ≠ r_146 := Nat.ne_of_lt (Nat.lt_of_lt_of_le A_142.lt nw_148)
  have ne_157 : o40 ≠ r_146 := Nat.ne_of_lt (Nat.lt_of_lt_of_le A_143.lt nw_148)
  have ne_158 : t ≠ r_146 := Nat.ne_of_lt (Nat.lt_of_lt_of_le A_144.lt nw_148)
  have fr_159 : Z.heap.size ≤ r_146 := Nat.le_trans le_145 nw_148
  show End Z p e below s _ _ _ _ (mkF m 130 #[.val (.ref a), .val (.ref t), .val (.int (2 : Int32)), .val (.int (2 : Int32)), .unset, .unset, .unset, .unset] [(.ref r_146), (.int (0 : Int32)), (.ref o108)])
  have A_160 : ArR Z h_137 o108 (.array .int) "[I" [.null, .null] := (A_141.keep Kc_147 nin0)
  refine E_aastore (vs' := [(.ref r_146), .null]) (pc' := 131) X A_160 (Ins.self E_150) rfl (by decide) (Nat.le_of_ble_eq_true rfl) rfl fr_120 d8_130 rfl (fun T h_162 X W_161 Aa_163 => ?_)
  have K_164 : Keep h0 h_162 [a] := K_151.wr W_161 (Or.inr b_118)
  refine E_iconst (v := (1 : Int32)) (pc' := 132) X d8_131 rfl rfl ?_
  refine E_istore (Ls' := #[.val (.ref a), .val (.ref t), .val (.int (2 : Int32)), .val (.int (2 : Int32)), .val (.int (1 : Int32)), .unset, .unset, .unset]) (pc' := 134) X d8_132 rfl rfl ?_
  refine E_iload (pc' := 136) X d8_134 rfl rfl ?_
  refine E_iloadN (pc' := 137) X d8_136 rfl rfl ?_
  refine E_icmp (pcY := 205) (pcN := 140) X (ic_ge _ _) d8_137 (by decide) rfl rfl (fun hc137_0 => absurd hc137_0 (by decide)) (fun hc137_0 => ?_)
  refine E_aloadN (v := (.ref a)) (pc' := 141) X d8_140 rfl rfl rfl ?_
  have F_165 : Fld Z h_162 a "com/example/nimble_calculus/nimblecalculus/equivalence/Splits" "jumps" "[[I" (.ref o108) := ((F_132.keep Kc_147 nin0).other W_161 (Or.inl ne_123))
  refine E_getF (pc' := 144) X (host := "") (Or.inl (w_63 hw)) Via.refl F_165 d8_141 rfl (fun T X => ?_)
  refine E_iload (pc' := 146) X d8_144 rfl rfl ?_
  refine E_iconst (v := (1 : Int32)) (pc' := 147) X d8_146 rfl rfl ?_
  refine E_isub (pc' := 148) X d8_147 rfl ?_
  refine E_eqI (z := (0 : Int32)) (by decide) ?_
  refine E_aaload (v := (.ref r_146)) (pc' := 149) X Aa_163.ar rfl (by decide) rfl d8_148 rfl ?_
  refine E_astore (Ls' := #[.val (.ref a), .val (.ref t), .val (.int (2 : Int32)), .val (.int (2 : Int32)), .val (.int (1 : Int32)), .val (.ref r_146), .unset, .unset]) (pc' := 151) X d8_149 rfl rfl rfl ?_
  refine E_aloadN (v := (.ref a)) (pc' := 152) X d8_151 rfl rfl rfl ?_
  have F_166 : Fld Z h_162 a "com/example/nimble_calculus/nimblecalculus/equivalence/Splits" "nodeCount" "I" (.int (4 : Int32)) := ((F_134.keep Kc_147 nin0).other W_161 (Or.inl ne_123))
  refine E_getF (pc' := 155) X (host := "") (Or.inl (w_11 hw)) Via.refl F_166 d8_152 rfl (fun T X => ?_)
  have A_172 : Ar Z h_162 NB .int [(.int (1 : Int32)), (.int (0 : Int32)), (.int (3 : Int32)), (.int (0 : Int32))] := ((A_139.keep Kc_147 nin0).other W_161 ne_121)
  have A_173 : Ar Z h_162 P .int [(.int (0 : Int32)), (.int (0 : Int32)), (.int (0 : Int32)), (.int (2 : Int32)), (.int (0 : Int32)), (.int (0 : Int32)), (.int (0 : Int32))] := ((A_135.keep Kc_147 nin0).other W_161 ne_122)
  have E_174 : Exa Z h_162 a "com/example/nimble_calculus/nimblecalculus/equivalence/Splits" := ((E_140.keep Kc_147).wr W_161)
  have A_175 : Ar Z h_162 o4 .int [(.int (1 : Int32)), (.int (3 : Int32))] := ((A_142.keep Kc_147 nin0).other W_161 ne_124)
  have A_176 : Ar Z h_162 o40 .int [(.int (0 : Int32)), (.int (1 : Int32)), (.int (1 : Int32)), (.int (2 : Int32))] := ((A_143.keep Kc_147 nin0).other W_161 ne_125)
  have E_177 : Exa Z h_162 r_146 "[I" := (E_150.wr W_161)
  have A_178 : Ar Z h_162 t .int [(.int (0 : Int32)), (.int (2 : Int32))] := ((A_144.keep Kc_147 nin0).other W_161 ne_126)
  have le_o167 := X.le
  refine E_newAE (pc' := 157) X (aty := .int) (n := (4 : Int32)) (cap := 4) (vs := [(.int (0 : Int32)), (.int (0 : Int32)), (.int (0 : Int32)), (.int (0 : Int32))]) (cells' := 5) (slots' := 16) (ad := "[I") (by decide) (w_1 hw) d8_155 rfl (by decide) (by decide) (by decide) rfl rfl rfl (by decide) (by decide) (fun T h_168 o167 g_171 X Ex_169 Aa_170 EaAa_170 => ?_)
  have b_179 : h0.size ≤ o167 := by rw [g_171]; exact K_164.1
  have K_180 : Keep h0 h_168 [a] := K_164.ext Ex_169
  have fr_181 : Z.heap.size ≤ o167 := by rw [g_171]; exact le_o167
  have ne_182 : NB ≠ o167 := Nat.ne_of_lt (by rw [g_171]; exact A_172.lt)
  have ne_183 : P ≠ o167 := Nat.ne_of_lt (by rw [g_171]; exact A_173.lt)
  have ne_184 : a ≠ o167 := Nat.ne_of_lt (by rw [g_171]; exact E_174.lt)
  have ne_185 : o108 ≠ o167 := Nat.ne_of_lt (by rw [g_171]; exact Aa_163.lt)
  have ne_186 : o4 ≠ o167 := Nat.ne_of_lt (by rw [g_171]; exact A_175.lt)
  have ne_187 : o40 ≠ o167 := Nat.ne_of_lt (by rw [g_171]; exact A_176.lt)
  have ne_188 : r_146 ≠ o167 := Nat.ne_of_lt (by rw [g_171]; exact E_177.lt)
  have ne_189 : t ≠ o167 := Nat.ne_of_lt (by rw [g_171]; exact A_178.lt)
  refine E_astore (Ls' := #[.val (.ref a), .val (.ref t), .val (.int (2 : Int32)), .val (.int (2 : Int32)), .val (.int (1 : Int32)), .val (.ref r_146), .val (.ref o167), .unset]) (pc' := 159) X d8_157 rfl rfl rfl ?_
  refine E_iconst (v := (0 : Int32)) (pc' := 160) X d8_159 rfl rfl ?_
  refine E_istore (Ls' := #[.val (.ref a), .val (.ref t), .val (.int (2 : Int32)), .val (.int (2 : Int32)), .val (.int (1 : Int32)), .val (.ref r_146), .val (.ref o167), .val (.int (0 : Int32))]) (pc' := 162) X d8_160 rfl rfl ?_
  refine E_iload (pc' := 164) X d8_162 rfl rfl ?_
  refine E_aloadN (v := (.ref a)) (pc' := 165) X d8_164 rfl rfl rfl ?_
  have F_190 : Fld Z h_168 a "com/example/nimble_calculus/nimblecalculus/equivalence/Splits" "nodeCount" "I" (.int (4 : Int32)) := (F_166.ext Ex_169)
  refine E_getF (pc' := 168) X (host := "") (Or.inl (w_11 hw)) Via.refl F_190 d8_165 rfl (fun T X => ?_)
  refine E_icmp (pcY := 190) (pcN := 171) X (ic_ge _ _) d8_168 (by decide) rfl rfl (fun hc168_0 => absurd hc168_0 (by decide)) (fun hc168_0 => ?_)
  refine E_aload (v := (.ref o167)) (pc' := 173) X d8_171 rfl rfl rfl ?_
  refine E_iload (pc' := 175) X d8_173 rfl rfl ?_
  refine E_aload (v := (.ref r_146)) (pc' := 177) X d8_175 rfl rfl rfl ?_
  refine E_aload (v := (.ref r_146)) (pc' := 179) X d8_177 rfl rfl rfl ?_
  refine E_iload (pc' := 181) X d8_179 rfl rfl ?_
  have A_191 : Ar Z h_168 r_146 .int [(.int (0 : Int32)), (.int (0 : Int32)), (.int (0 : Int32)), (.int (2 : Int32))] := ((A_149.other W_161 (Ne.symm ne_155)).ext Ex_169)
  refine E_iaload (v := (.int (0 : Int32))) (pc' := 182) X A_191 (by decide) rfl d8_181 rfl ?_
  refine E_iaload (v := (.int (0 : Int32))) (pc' := 183) X A_191 (by decide) rfl d8_182 rfl ?_
  refine E_iastore (vs' := [(.int (0 : Int32)), (.int (0 : Int32)), (.int (0 : Int32)), (.int (0 : Int32))]) (pc' := 184) X Aa_170 (by decide) (Nat.le_of_ble_eq_true rfl) rfl fr_181 d8_183 rfl (fun T h_193 X W_192 Aa_194 => ?_)
  have K_195 : Keep h0 h_193 [a] := K_180.wr W_192 (Or.inr b_179)
  refine E_iinc (x := (0 : Int32)) (z := (1 : Int32)) (Ls' := #[.val (.ref a), .val (.ref t), .val (.int (2 : Int32)), .val (.int (2 : Int32)), .val (.int (1 : Int32)), .val (.ref r_146), .val (.ref o167), .val (.int (1 : Int32))]) (pc' := 187) X d8_184 rfl rfl rfl rfl ?_
  refine E_goto (pc' := 162) X d8_187 (by decide) rfl ?_
  refine E_iload (pc' := 164) X d8_162 rfl rfl ?_
  refine E_aloadN (v := (.ref a)) (pc' := 165) X d8_164 rfl rfl rfl ?_
  have F_196 : Fld Z h_193 a "com/example/nimble_calculus/nimblecalculus/equivalence/Splits" "nodeCount" "I" (.int (4 : Int32)) := (F_190.other W_192 (Or.inl ne_184))
  refine E_getF (pc' := 168) X (host := "") (Or.inl (w_11 hw)) Via.refl F_196 d8_165 rfl (fun T X => ?_)
  refine E_icmp (pcY := 190) (pcN := 171) X (ic_ge _ _) d8_168 (by decide) rfl rfl (fun hc168_1 => absurd hc168_1 (by decide)) (fun hc168_1 => ?_)
  refine E_aload (v := (.ref o167)) (pc' := 173) X d8_171 rfl rfl rfl ?_
  refine E_iload (pc' := 175) X d8_173 rfl rfl ?_
  refine E_aload (v := (.ref r_146)) (pc' := 177) X d8_175 rfl rfl rfl ?_
  refine E_aload (v := (.ref r_146)) (pc' := 179) X d8_177 rfl rfl rfl ?_
  refine E_iload (pc' := 181) X d8_179 rfl rfl ?_
  have A_197 : Ar Z h_193 r_146 .int [(.int (0 : Int32)), (.int (0 : Int32)), (.int (0 : Int32)), (.int (2 : Int32))] := (A_191.other W_192 ne_188)
  refine E_iaload (v := (.int (0 : Int32))) (pc' := 182) X A_197 (by decide) rfl d8_181 rfl ?_
  refine E_iaload (v := (.int (0 : Int32))) (pc' := 183) X A_197 (by decide) rfl d8_182 rfl ?_
  refine E_iastore (vs' := [(.int (0 : Int32)), (.int (0 : Int32)), (.int (0 : Int32)), (.int (0 : Int32))]) (pc' := 184) X Aa_194 (by decide) (Nat.le_of_ble_eq_true rfl) rfl fr_181 d8_183 rfl (fun T h_199 X W_198 Aa_200 => ?_)
  have K_201 : Keep h0 h_199 [a] := K_195.wr W_198 (Or.inr b_179)
  refine E_iinc (x := (1 : Int32)) (z := (2 : Int32)) (Ls' := #[.val (.ref a), .val (.ref t), .val (.int (2 : Int32)), .val (.int (2 : Int32)), .val (.int (1 : Int32)), .val (.ref r_146), .val (.ref o167), .val (.int (2 : Int32))]) (pc' := 187) X d8_184 rfl rfl rfl rfl ?_
  refine E_goto (pc' := 162) X d8_187 (by decide) rfl ?_
  refine E_iload (pc' := 164) X d8_162 rfl rfl ?_
  refine E_aloadN (v := (.ref a)) (pc' := 165) X d8_164 rfl rfl rfl ?_
  have F_202 : Fld Z h_199 a "com/example/nimble_calculus/nimblecalculus/equivalence/Splits" "nodeCount" "I" (.int (4 : Int32)) := (F_196.other W_198 (Or.inl ne_184))
  refine E_getF (pc' := 168) X (host := "") (Or.inl (w_11 hw)) Via.refl F_202 d8_165 rfl (fun T X => ?_)
  refine E_icmp (pcY := 190) (pcN := 171) X (ic_ge _ _) d8_168 (by decide) rfl rfl (fun hc168_2 => absurd hc168_2 (by decide)) (fun hc168_2 => ?_)
  refine E_aload (v := (.ref o167)) (pc' := 173) X d8_171 rfl rfl rfl ?_
  refine E_iload (pc' := 175) X d8_173 rfl rfl ?_
  refine E_aload (v := (.ref r_146)) (pc' := 177) X d8_175 rfl rfl rfl ?_
  refine E_aload (v := (.ref r_146)) (pc' := 179) X d8_177 rfl rfl rfl ?_
  refine E_iload (pc' := 181) X d8_179 rfl rfl ?_
  have A_203 : Ar Z h_199 r_146 .int [(.int (0 : Int32)), (.int (0 : Int32)), (.int (0 : Int32)), (.int (2 : Int32))] := (A_197.other W_198 ne_188)
  refine E_iaload (v := (.int (0 : Int32))) (pc' := 182) X A_203 (by decide) rfl d8_181 rfl ?_
  refine E_iaload (v := (.int (0 : Int32))) (pc' := 183) X A_203 (by decide) rfl d8_182 rfl ?_
  refine E_iastore (vs' := [(.int (0 : Int32)), (.int (0 : Int32)), (.int (0 : Int32)), (.int (0 : Int32))]) (pc' := 184) X Aa_200 (by decide) (Nat.le_of_ble_eq_true rfl) rfl fr_181 d8_183 rfl (fun T h_205 X W_204 Aa_206 => ?_)
  have K_207 : Keep h0 h_205 [a] := K_201.wr W_204 (Or.inr b_179)
  refine E_iinc (x := (2 : Int32)) (z := (3 : Int32)) (Ls' := #[.val (.ref a), .val (.ref t), .val (.int (2 : Int32)), .val (.int (2 : Int32)), .val (.int (1 : Int32)), .val (.ref r_146), .val (.ref o167), .val (.int (3 : Int32))]) (pc' := 187) X d8_184 rfl rfl rfl rfl ?_
  refine E_goto (pc' := 162) X d8_187 (by decide) rfl ?_
  refine E_iload (pc' := 164) X d8_162 rfl rfl ?_
  refine E_aloadN (v := (.ref a)) (pc' := 165) X d8_164 rfl rfl rfl ?_
  have F_208 : Fld Z h_205 a "com/example/nimble_calculus/nimblecalculus/equivalence/Splits" "nodeCount" "I" (.int (4 : Int32)) := (F_202.other W_204 (Or.inl ne_184))
  refine E_getF (pc' := 168) X (host := "") (Or.inl (w_11 hw)) Via.refl F_208 d8_165 rfl (fun T X => ?_)
  refine E_icmp (pcY := 190) (pcN := 171) X (ic_ge _ _) d8_168 (by decide) rfl rfl (fun hc168_3 => absurd hc168_3 (by decide)) (fun hc168_3 => ?_)
  refine E_aload (v := (.ref o167)) (pc' := 173) X d8_171 rfl rfl rfl ?_
  refine E_iload (pc' := 175) X d8_173 rfl rfl ?_
  refine E_aload (v := (.ref r_146)) (pc' := 177) X d8_175 rfl rfl rfl ?_
  refine E_aload (v := (.ref r_146)) (pc' := 179) X d8_177 rfl rfl rfl ?_
  refine E_iload (pc' := 181) X d8_179 rfl rfl ?_
  have A_209 : Ar Z h_205 r_146 .int [(.int (0 : Int32)), (.int (0 : Int32)), (.int (0 : Int32)), (.int (2 : Int32))] := (A_203.other W_204 ne_188)
  refine E_iaload (v := (.int (2 : Int32))) (pc' := 182) X A_209 (by decide) rfl d8_181 rfl ?_
  refine E_iaload (v := (.int (0 : Int32))) (pc' := 183) X A_209 (by decide) rfl d8_182 rfl ?_
  refine E_iastore (vs' := [(.int (0 : Int32)), (.int (0 : Int32)), (.int (0 : Int32)), (.int (0 : Int32))]) (pc' := 184) X Aa_206 (by decide) (Nat.le_of_ble_eq_true rfl) rfl fr_181 d8_183 rfl (fun T h_211 X W_210 Aa_212 => ?_)
  have K_213 : Keep h0 h_211 [a] := K_207.wr W_210 (Or.inr b_179)
  refine E_iinc (x := (3 : Int32)) (z := (4 : Int32)) (Ls' := #[.val (.ref a), .val (.ref t), .val (.int (2 : Int32)), .val (.int (2 : Int32)), .val (.int (1 : Int32)), .val (.ref r_146), .val (.ref o167), .val (.int (4 : Int32))]) (pc' := 187) X d8_184 rfl rfl rfl rfl ?_
  refine E_goto (pc' := 162) X d8_187 (by decide) rfl ?_
  refine E_iload (pc' := 164) X d8_162 rfl rfl ?_
  refine E_aloadN (v := (.ref a)) (pc' := 165) X d8_164 rfl rfl rfl ?_
  have F_214 : Fld Z h_211 a "com/example/nimble_calculus/nimblecalculus/equivalence/Splits" "nodeCount" "I" (.int (4 : Int32)) := (F_208.other W_210 (Or.inl ne_184))
  refine E_getF (pc' := 168) X (host := "") (Or.inl (w_11 hw)) Via.refl F_214 d8_165 rfl (fun T X => ?_)
  refine E_icmp (pcY := 190) (pcN := 171) X (ic_ge _ _) d8_168 (by decide) rfl rfl (fun hc168_4 => ?_) (fun hc168_4 => absurd (by decide) hc168_4)
  refine E_aloadN (v := (.ref a)) (pc' := 191) X d8_190 rfl rfl rfl ?_
  have F_215 : Fld Z h_211 a "com/example/nimble_calculus/nimblecalculus/equivalence/Splits" "jumps" "[[I" (.ref o108) := (((((F_165.ext Ex_169).other W_192 (Or.inl ne_184)).other W_198 (Or.inl ne_184)).other W_204 (Or.inl ne_184)).other W_210 (Or.inl ne_184))
  refine E_getF (pc' := 194) X (host := "") (Or.inl (w_63 hw)) Via.refl F_215 d8_191 rfl (fun T X => ?_)
  refine E_iload (pc' := 196) X d8_194 rfl rfl ?_
  refine E_aload (v := (.ref o167)) (pc' := 198) X d8_196 rfl rfl rfl ?_
  have A_216 : ArR Z h_211 o108 (.array .int) "[I" [(.ref r_146), .null] := (((((Aa_163.ext Ex_169).other W_192 ne_185).other W_198 ne_185).other W_204 ne_185).other W_210 ne_185)
  have E_217 : Exa Z h_211 o167 "[I" := ((((EaAa_170.wr W_192).wr W_198).wr W_204).wr W_210)
  refine E_aastore (vs' := [(.ref r_146), (.ref o167)]) (pc' := 199) X A_216 (Ins.self E_217) rfl (by decide) (Nat.le_of_ble_eq_true rfl) rfl fr_120 d8_198 rfl (fun T h_219 X W_218 Aa_220 => ?_)
  have K_221 : Keep h0 h_219 [a] := K_213.wr W_218 (Or.inr b_118)
  refine E_iinc (x := (1 : Int32)) (z := (2 : Int32)) (Ls' := #[.val (.ref a), .val (.ref t), .val (.int (2 : Int32)), .val (.int (2 : Int32)), .val (.int (2 : Int32)), .val (.ref r_146), .val (.ref o167), .val (.int (4 : Int32))]) (pc' := 202) X d8_199 rfl rfl rfl rfl ?_
  refine E_goto (pc' := 134) X d8_202 (by decide) rfl ?_
  refine E_iload (pc' := 136) X d8_134 rfl rfl ?_
  refine E_iloadN (pc' := 137) X d8_136 rfl rfl ?_
  refine E_icmp (pcY := 205) (pcN := 140) X (ic_ge _ _) d8_137 (by decide) rfl rfl (fun hc137_1 => ?_) (fun hc137_1 => absurd (by decide) hc137_1)
  have E_222 : Exa Z h_219 a "com/example/nimble_calculus/nimblecalculus/equivalence/Splits" := ((((((E_174.ext Ex_169).wr W_192).wr W_198).wr W_204).wr W_210).wr W_218)
  have F_223 : Fld Z h_219 a "com/example/nimble_calculus/nimblecalculus/equivalence/Splits" "leaf" "[I" (.ref o4) := ((((((((((((((((F_31.other W_34 (Or.inl ne_14)).ext Ex_42).other W_58 (Or.inr (slot_ne (Or.inl (w_53 hw)) (Or.inl (w_55 hw)) (by decide) (t := (.array .int)) (t' := (.array .int)) (by decide) (by decide)))).other W_66 (Or.inl ne_53)).other W_78 (Or.inl ne_53)).other W_90 (Or.inl ne_53)).ext Ex_110).other W_129 (Or.inr (slot_ne (Or.inl (w_53 hw)) (Or.inl (w_64 hw)) (by decide) (t := (.array .int)) (t' := (.array (.array .int))) (by decide) (by decide)))).keep Kc_147 nin0).other W_161 (Or.inl ne_123)).ext Ex_169).other W_192 (Or.inl ne_184)).other W_198 (Or.inl ne_184)).other W_204 (Or.inl ne_184)).other W_210 (Or.inl ne_184)).other W_218 (Or.inl ne_123))
  have F_224 : Fld Z h_219 a "com/example/nimble_calculus/nimblecalculus/equivalence/Splits" "height" "[I" (.ref o40) := ((((((((((F_94.ext Ex_110).other W_129 (Or.inr (slot_ne (Or.inl (w_55 hw)) (Or.inl (w_64 hw)) (by decide) (t := (.array .int)) (t' := (.array (.array .int))) (by decide) (by decide)))).keep Kc_147 nin0).other W_161 (Or.inl ne_123)).ext Ex_169).other W_192 (Or.inl ne_184)).other W_198 (Or.inl ne_184)).other W_204 (Or.inl ne_184)).other W_210 (Or.inl ne_184)).other W_218 (Or.inl ne_123))
  have F_225 : Fld Z h_219 a "com/example/nimble_calculus/nimblecalculus/equivalence/Splits" "jumps" "[[I" (.ref o108) := (F_215.other W_218 (Or.inl ne_123))
  have F_226 : Fld Z h_219 a "com/example/nimble_calculus/nimblecalculus/equivalence/Splits" "parent" "[I" (.ref P) := ((((((((F_133.keep Kc_147 nin0).other W_161 (Or.inl ne_123)).ext Ex_169).other W_192 (Or.inl ne_184)).other W_198 (Or.inl ne_184)).other W_204 (Or.inl ne_184)).other W_210 (Or.inl ne_184)).other W_218 (Or.inl ne_123))
  have F_227 : Fld Z h_219 a "com/example/nimble_calculus/nimblecalculus/equivalence/Splits" "born" "[I" (.ref B) := (((((((((((((((((((hF5.ext Ex_6).other W_18 (Or.inr (slot_ne (Or.inr (w_25 hw)) (Or.inl (w_53 hw)) (by decide) (t := (.array .int)) (t' := (.array .int)) (by decide) (by decide)))).other W_26 (Or.inl ne_14)).other W_34 (Or.inl ne_14)).ext Ex_42).other W_58 (Or.inr (slot_ne (Or.inr (w_25 hw)) (Or.inl (w_55 hw)) (by decide) (t := (.array .int)) (t' := (.array .int)) (by decide) (by decide)))).other W_66 (Or.inl ne_53)).other W_78 (Or.inl ne_53)).other W_90 (Or.inl ne_53)).ext Ex_110).other W_129 (Or.inr (slot_ne (Or.inr (w_25 hw)) (Or.inl (w_64 hw)) (by decide) (t := (.array .int)) (t' := (.array (.array .int))) (by decide) (by decide)))).keep Kc_147 nin0).other W_161 (Or.inl ne_123)).ext Ex_169).other W_192 (Or.inl ne_184)).other W_198 (Or.inl ne_184)).other W_204 (Or.inl ne_184)).other W_210 (Or.inl ne_184)).other W_218 (Or.inl ne_123))
  have F_228 : Fld Z h_219 a "com/example/nimble_calculus/nimblecalculus/equivalence/Splits" "representative" "[I" (.ref RR) := (((((((((((((((((((hF6.ext Ex_6).other W_18 (Or.inr (slot_ne (Or.inr (w_27 hw)) (Or.inl (w_53 hw)) (by decide) (t := (.array .int)) (t' := (.array .int)) (by decide) (by decide)))).other W_26 (Or.inl ne_14)).other W_34 (Or.inl ne_14)).ext Ex_42).other W_58 (Or.inr (slot_ne (Or.inr (w_27 hw)) (Or.inl (w_55 hw)) (by decide) (t := (.array .int)) (t' := (.array .int)) (by decide) (by decide)))).other W_66 (Or.inl ne_53)).other W_78 (Or.inl ne_53)).other W_90 (Or.inl ne_53)).ext Ex_110).other W_129 (Or.inr (slot_ne (Or.inr (w_27 hw)) (Or.inl (w_64 hw)) (by decide) (t := (.array .int)) (t' := (.array (.array .int))) (by decide) (by decide)))).keep Kc_147 nin0).other W_161 (Or.inl ne_123)).ext Ex_169).other W_192 (Or.inl ne_184)).other W_198 (Or.inl ne_184)).other W_204 (Or.inl ne_184)).other W_210 (Or.inl ne_184)).other W_218 (Or.inl ne_123))
  have A_229 : Ar Z h_219 o4 .int [(.int (1 : Int32)), (.int (3 : Int32))] := ((((((A_175.ext Ex_169).other W_192 ne_186).other W_198 ne_186).other W_204 ne_186).other W_210 ne_186).other W_218 ne_124)
  have A_230 : Ar Z h_219 o40 .int [(.int (0 : Int32)), (.int (1 : Int32)), (.int (1 : Int32)), (.int (2 : Int32))] := ((((((A_176.ext Ex_169).other W_192 ne_187).other W_198 ne_187).other W_204 ne_187).other W_210 ne_187).other W_218 ne_125)
  have A_231 : Ar Z h_219 r_146 .int [(.int (0 : Int32)), (.int (0 : Int32)), (.int (0 : Int32)), (.int (2 : Int32))] := ((A_209.other W_210 ne_188).other W_218 (Ne.symm ne_155))
  have A_232 : Ar Z h_219 o167 .int [(.int (0 : Int32)), (.int (0 : Int32)), (.int (0 : Int32)), (.int (0 : Int32))] := (Aa_212.other W_218 (Ne.symm ne_185))
  exact E_ret0 X d8_205 (by decide) (by decide) ⟨o4, o108, o40, r_146, o167, rfl, K_221, b_9, b_118, b_48, (Nat.le_trans K_131.1 nw_148), b_179, E_222, F_223, F_224, F_225, F_226, F_227, F_228, A_229, A_230, Aa_220.ar, A_231, A_232⟩
theorem ef_rm_fin03 (m : MethodId) (x0 : Addr) (x1 : Addr) : entryFrame m #[(.ref x0), (.ref x1)] 8 = mkF m 0 #[.val (.ref x0), .val (.ref x1), .unset, .unset, .unset, .unset, .unset, .unset] [] := by first | (simp [entryFrame, mkF, argsToLocals, Value.category]; done) | (simp [entryFrame, mkF, argsToLocals, *]; done) | rfl
set_option maxRecDepth 65536 in
set_option maxHeartbeats 2000000 in
theorem rm_fin03 (l : Launch) (Z : State) (a0 : Array Value) (hw : ∀ d ∈ tables_1, d.before a0 Z = true) (a : Addr) (t : Addr) (P : Addr) (B : Addr) (RR : Addr) (NB : Addr) (h0 : Heap) (hE : Ext Z.heap h0) (hE0 : Exa Z h0 a "com/example/nimble_calculus/nimblecalculus/equivalence/Splits") (hF1 : Fld Z h0 a "com/example/nimble_calculus/nimblecalculus/equivalence/Splits" "nodeCount" "I" (.int (4 : Int32))) (hF2 : Fld Z h0 a "com/example/nimble_calculus/nimblecalculus/equivalence/Splits" "splitCount" "I" (.int (2 : Int32))) (hF3 : Fld Z h0 a "com/example/nimble_calculus/nimblecalculus/equivalence/Splits" "splitting" "I" (.int (2 : Int32))) (hF4 : Fld Z h0 a "com/example/nimble_calculus/nimblecalculus/equivalence/Splits" "parent" "[I" (.ref P)) (hF5 : Fld Z h0 a "com/example/nimble_calculus/nimblecalculus/equivalence/Splits" "born" "[I" (.ref B)) (hF6 : Fld Z h0 a "com/example/nimble_calculus/nimblecalculus/equivalence/Splits" "representative" "[I" (.ref RR)) (hF7 : Fld Z h0 a "com/example/nimble_calculus/nimblecalculus/equivalence/Splits" "nodeOfBlock" "[I" (.ref NB)) (hF8 : Fld Z h0 a "com/example/nimble_calculus/nimblecalculus/equivalence/Splits" "leaf" "[I" .null) (hF9 : Fld Z h0 a "com/example/nimble_calculus/nimblecalculus/equivalence/Splits" "height" "[I" .null) (hF10 : Fld Z h0 a "com/example/nimble_calculus/nimblecalculus/equivalence/Splits" "jumps" "[[I" .null) (hA11 : Ar Z h0 P .int [(.int (0 : Int32)), (.int (0 : Int32)), (.int (0 : Int32)), (.int (2 : Int32)), (.int (0 : Int32)), (.int (0 : Int32)), (.int (0 : Int32))]) (hA12 : Ar Z h0 NB .int [(.int (1 : Int32)), (.int (0 : Int32)), (.int (0 : Int32)), (.int (3 : Int32))]) (hA13 : Ar Z h0 t .int [(.int (0 : Int32)), (.int (3 : Int32))]) (hfr14 : Z.heap.size ≤ a) :
    Con l Z (⟨"com/example/nimble_calculus/nimblecalculus/equivalence/Splits", "finish", "([I)V"⟩ : MethodName) prog_61_method_4_code 8 none ({ frames := 2, cells := 5, slots := 16, locals := 34 } : Room) #[(.ref a), (.ref t)] h0 (fun vv hh => ∃ lf : Addr, ∃ jp : Addr, ∃ hg : Addr, ∃ j0 : Addr, ∃ j1 : Addr, vv = none ∧ Keep h0 hh [a] ∧ h0.size ≤ lf ∧ h0.size ≤ jp ∧ h0.size ≤ hg ∧ h0.size ≤ j0 ∧ h0.size ≤ j1 ∧ Exa Z hh a "com/example/nimble_calculus/nimblecalculus/equivalence/Splits" ∧ Fld Z hh a "com/example/nimble_calculus/nimblecalculus/equivalence/Splits" "leaf" "[I" (.ref lf) ∧ Fld Z hh a "com/example/nimble_calculus/nimblecalculus/equivalence/Splits" "height" "[I" (.ref hg) ∧ Fld Z hh a "com/example/nimble_calculus/nimblecalculus/equivalence/Splits" "jumps" "[[I" (.ref jp) ∧ Fld Z hh a "com/example/nimble_calculus/nimblecalculus/equivalence/Splits" "parent" "[I" (.ref P) ∧ Fld Z hh a "com/example/nimble_calculus/nimblecalculus/equivalence/Splits" "born" "[I" (.ref B) ∧ Fld Z hh a "com/example/nimble_calculus/nimblecalculus/equivalence/Splits" "representative" "[I" (.ref RR) ∧ Ar Z hh lf .int [(.int (1 : Int32)), (.int (3 : Int32))] ∧ Ar Z hh hg .int [(.int (0 : Int32)), (.int (1 : Int32)), (.int (1 : Int32)), (.int (2 : Int32))] ∧ Ar Z hh jp (.array .int) [(.ref j0), (.ref j1)] ∧ Ar Z hh j0 .int [(.int (0 : Int32)), (.int (0 : Int32)), (.int (0 : Int32)), (.int (2 : Int32))] ∧ Ar Z hh j1 .int [(.int (0 : Int32)), (.int (0 : Int32)), (.int (0 : Int32)), (.int (0 : Int32))]) := by
  refine Con.of (plainFor_of_name (by first | (simp [plainName, overriddenIn]; done) | decide +kernel)) hE ?_
  intro p e s m below T (X : Sd l Z "com/example/nimble_calculus/nimblecalculus/equivalence/Splits" "finish" prog_61_method_4_code 8 none ({ frames := 2, cells := 5, slots := 16, locals := 34 } : Room) p e s m #[(.ref a), (.ref t)] below T h0 0 0)
  refine End.frame (ef_rm_fin03 m a t) ?_
  have K_0 : Keep h0 h0 [a] := Keep.refl _ _
  have ne_1 : NB ≠ a := Ne.symm (Ar.ne_exa hA12 hE0 (w_3 hw))
  have ne_2 : P ≠ a := Ne.symm (Ar.ne_exa hA11 hE0 (w_3 hw))
  have ne_3 : a ≠ t := Ar.ne_exa hA13 hE0 (w_3 hw)
  show End Z p e below s _ _ _ _ (mkF m 0 #[.val (.ref a), .val (.ref t), .unset, .unset, .unset, .unset, .unset, .unset] [])
  refine E_aloadN (v := (.ref a)) (pc' := 1) X d8_0 rfl rfl rfl ?_
  refine E_aloadN (v := (.ref t)) (pc' := 2) X d8_1 rfl rfl rfl ?_
  refine E_alen (n := (2 : Int32)) (pc' := 3) X hA13 rfl d8_2 rfl ?_
  have le_o4 := X.le
  refine E_newA (pc' := 5) X (aty := .int) (n := (2 : Int32)) (cap := 2) (vs := [(.int (0 : Int32)), (.int (0 : Int32))]) (cells' := 1) (slots' := 2) (w_1 hw) d8_3 rfl (by decide) (by decide) (by decide) rfl rfl rfl (by decide) (by decide) (fun T h_5 o4 g_8 X Ex_6 Aa_7 => ?_)
  have b_9 : h0.size ≤ o4 := by rw [g_8]; exact K_0.1
  have K_10 : Keep h0 h_5 [a] := K_0.ext Ex_6
  have fr_11 : Z.heap.size ≤ o4 := by rw [g_8]; exact le_o4
  have ne_12 : NB ≠ o4 := Nat.ne_of_lt (by rw [g_8]; exact hA12.lt)
  have ne_13 : P ≠ o4 := Nat.ne_of_lt (by rw [g_8]; exact hA11.lt)
  have ne_14 : a ≠ o4 := Nat.ne_of_lt (by rw [g_8]; exact hE0.lt)
  have ne_15 : t ≠ o4 := Nat.ne_of_lt (by rw [g_8]; exact hA13.lt)
  have F_16 : Fld Z h_5 a "com/example/nimble_calculus/nimblecalculus/equivalence/Splits" "leaf" "[I" .null := (hF8.ext Ex_6)
  have E_17 : Exa Z h_5 a "com/example/nimble_calculus/nimblecalculus/equivalence/Splits" := (hE0.ext Ex_6)
  refine E_putF (pc' := 8) X (host := "") (Or.inl (w_52 hw)) Via.refl F_16 E_17 (Or.inl (w_53 hw)) (w_3 hw) (ty := (.array .int)) (by decide) rfl rfl hfr14 d8_5 rfl (fun T h_19 X W_18 => ?_)
  have K_20 : Keep h0 h_19 [a] := K_10.wr W_18 (Or.inl (List.mem_of_getElem? (i := 0) rfl))
  refine E_iconst (v := (0 : Int32)) (pc' := 9) X d8_8 rfl rfl ?_
  refine E_istoreN (Ls' := #[.val (.ref a), .val (.ref t), .val (.int (0 : Int32)), .unset, .unset, .unset, .unset, .unset]) (pc' := 10) X d8_9 rfl rfl ?_
  refine E_iloadN (pc' := 11) X d8_10 rfl rfl ?_
  refine E_aloadN (v := (.ref t)) (pc' := 12) X d8_11 rfl rfl rfl ?_
  have A_21 : Ar Z h_19 t .int [(.int (0 : Int32)), (.int (3 : Int32))] := ((hA13.ext Ex_6).other W_18 (Ne.symm ne_3))
  refine E_alen (n := (2 : Int32)) (pc' := 13) X A_21 rfl d8_12 rfl ?_
  refine E_icmp (pcY := 36) (pcN := 16) X (ic_ge _ _) d8_13 (by decide) rfl rfl (fun hc13_0 => absurd hc13_0 (by decide)) (fun hc13_0 => ?_)
  refine E_aloadN (v := (.ref a)) (pc' := 17) X d8_16 rfl rfl rfl ?_
  have F_22 : Fld Z h_19 a "com/example/nimble_calculus/nimblecalculus/equivalence/Splits" "leaf" "[I" (.ref o4) := (F_16.same W_18)
  refine E_getF (pc' := 20) X (host := "") (Or.inl (w_52 hw)) Via.refl F_22 d8_17 rfl (fun T X => ?_)
  refine E_iloadN (pc' := 21) X d8_20 rfl rfl ?_
  refine E_aloadN (v := (.ref a)) (pc' := 22) X d8_21 rfl rfl rfl ?_
  have F_23 : Fld Z h_19 a "com/example/nimble_calculus/nimblecalculus/equivalence/Splits" "nodeOfBlock" "[I" (.ref NB) := ((hF7.ext Ex_6).other W_18 (Or.inr (slot_ne (Or.inr (w_32 hw)) (Or.inl (w_53 hw)) (by decide) (t := (.array .int)) (t' := (.array .int)) (by decide) (by decide))))
  refine E_getF (pc' := 25) X (host := "") (Or.inl (w_31 hw)) Via.refl F_23 d8_22 rfl (fun T X => ?_)
  refine E_aloadN (v := (.ref t)) (pc' := 26) X d8_25 rfl rfl rfl ?_
  refine E_iloadN (pc' := 27) X d8_26 rfl rfl ?_
  refine E_iaload (v := (.int (0 : Int32))) (pc' := 28) X A_21 (by decide) rfl d8_27 rfl ?_
  have A_24 : Ar Z h_19 NB .int [(.int (1 : Int32)), (.int (0 : Int32)), (.int (0 : Int32)), (.int (3 : Int32))] := ((hA12.ext Ex_6).other W_18 ne_1)
  refine E_iaload (v := (.int (1 : Int32))) (pc' := 29) X A_24 (by decide) rfl d8_28 rfl ?_
  have A_25 : Ar Z h_19 o4 .int [(.int (0 : Int32)), (.int (0 : Int32))] := (Aa_7.other W_18 (Ne.symm ne_14))
  refine E_iastore (vs' := [(.int (1 : Int32)), (.int (0 : Int32))]) (pc' := 30) X A_25 (by decide) (Nat.le_of_ble_eq_true rfl) rfl fr_11 d8_29 rfl (fun T h_27 X W_26 Aa_28 => ?_)
  have K_29 : Keep h0 h_27 [a] := K_20.wr W_26 (Or.inr b_9)
  refine E_iinc (x := (0 : Int32)) (z := (1 : Int32)) (Ls' := #[.val (.ref a), .val (.ref t), .val (.int (1 : Int32)), .unset, .unset, .unset, .unset, .unset]) (pc' := 33) X d8_30 rfl rfl rfl rfl ?_
  refine E_goto (pc' := 10) X d8_33 (by decide) rfl ?_
  refine E_iloadN (pc' := 11) X d8_10 rfl rfl ?_
  refine E_aloadN (v := (.ref t)) (pc' := 12) X d8_11 rfl rfl rfl ?_
  have A_30 : Ar Z h_27 t .int [(.int (0 : Int32)), (.int (3 : Int32))] := (A_21.other W_26 ne_15)
  refine E_alen (n := (2 : Int32)) (pc' := 13) X A_30 rfl d8_12 rfl ?_
  refine E_icmp (pcY := 36) (pcN := 16) X (ic_ge _ _) d8_13 (by decide) rfl rfl (fun hc13_1 => absurd hc13_1 (by decide)) (fun hc13_1 => ?_)
  refine E_aloadN (v := (.ref a)) (pc' := 17) X d8_16 rfl rfl rfl ?_
  have F_31 : Fld Z h_27 a "com/example/nimble_calculus/nimblecalculus/equivalence/Splits" "leaf" "[I" (.ref o4) := (F_22.other W_26 (Or.inl ne_14))
  refine E_getF (pc' := 20) X (host := "") (Or.inl (w_52 hw)) Via.refl F_31 d8_17 rfl (fun T X => ?_)
  refine E_iloadN (pc' := 21) X d8_20 rfl rfl ?_
  refine E_aloadN (v := (.ref a)) (pc' := 22) X d8_21 rfl rfl rfl ?_
  have F_32 : Fld Z h_27 a "com/example/nimble_calculus/nimblecalculus/equivalence/Splits" "nodeOfBlock" "[I" (.ref NB) := (F_23.other W_26 (Or.inl ne_14))
  refine E_getF (pc' := 25) X (host := "") (Or.inl (w_31 hw)) Via.refl F_32 d8_22 rfl (fun T X => ?_)
  refine E_aloadN (v := (.ref t)) (pc' := 26) X d8_25 rfl rfl rfl ?_
  refine E_iloadN (pc' := 27) X d8_26 rfl rfl ?_
  refine E_iaload (v := (.int (3 : Int32))) (pc' := 28) X A_30 (by decide) rfl d8_27 rfl ?_
  have A_33 : Ar Z h_27 NB .int [(.int (1 : Int32)), (.int (0 : Int32)), (.int (0 : Int32)), (.int (3 : Int32))] := (A_24.other W_26 ne_12)
  refine E_iaload (v := (.int (3 : Int32))) (pc' := 29) X A_33 (by decide) rfl d8_28 rfl ?_
  refine E_iastore (vs' := [(.int (1 : Int32)), (.int (3 : Int32))]) (pc' := 30) X Aa_28 (by decide) (Nat.le_of_ble_eq_true rfl) rfl fr_11 d8_29 rfl (fun T h_35 X W_34 Aa_36 => ?_)
  have K_37 : Keep h0 h_35 [a] := K_29.wr W_34 (Or.inr b_9)
  refine E_iinc (x := (1 : Int32)) (z := (2 : Int32)) (Ls' := #[.val (.ref a), .val (.ref t), .val (.int (2 : Int32)), .unset, .unset, .unset, .unset, .unset]) (pc' := 33) X d8_30 rfl rfl rfl rfl ?_
  refine E_goto (pc' := 10) X d8_33 (by decide) rfl ?_
  refine E_iloadN (pc' := 11) X d8_10 rfl rfl ?_
  refine E_aloadN (v := (.ref t)) (pc' := 12) X d8_11 rfl rfl rfl ?_
  have A_38 : Ar Z h_35 t .int [(.int (0 : Int32)), (.int (3 : Int32))] := (A_30.other W_34 ne_15)
  refine E_alen (n := (2 : Int32)) (pc' := 13) X A_38 rfl d8_12 rfl ?_
  refine E_icmp (pcY := 36) (pcN := 16) X (ic_ge _ _) d8_13 (by decide) rfl rfl (fun hc13_2 => ?_) (fun hc13_2 => absurd (by decide) hc13_2)
  refine E_aloadN (v := (.ref a)) (pc' := 37) X d8_36 rfl rfl rfl ?_
  refine E_aloadN (v := (.ref a)) (pc' := 38) X d8_37 rfl rfl rfl ?_
  have F_39 : Fld Z h_35 a "com/example/nimble_calculus/nimblecalculus/equivalence/Splits" "nodeCount" "I" (.int (4 : Int32)) := ((((hF1.ext Ex_6).other W_18 (Or.inr (slot_ne (Or.inl (w_12 hw)) (Or.inl (w_53 hw)) (by decide) (t := .int) (t' := (.array .int)) (by decide) (by decide)))).other W_26 (Or.inl ne_14)).other W_34 (Or.inl ne_14))
  refine E_getF (pc' := 41) X (host := "") (Or.inl (w_11 hw)) Via.refl F_39 d8_38 rfl (fun T X => ?_)
  have A_45 : Ar Z h_35 NB .int [(.int (1 : Int32)), (.int (0 : Int32)), (.int (0 : Int32)), (.int (3 : Int32))] := (A_33.other W_34 ne_12)
  have A_46 : Ar Z h_35 P .int [(.int (0 : Int32)), (.int (0 : Int32)), (.int (0 : Int32)), (.int (2 : Int32)), (.int (0 : Int32)), (.int (0 : Int32)), (.int (0 : Int32))] := ((((hA11.ext Ex_6).other W_18 ne_2).other W_26 ne_13).other W_34 ne_13)
  have E_47 : Exa Z h_35 a "com/example/nimble_calculus/nimblecalculus/equivalence/Splits" := (((E_17.wr W_18).wr W_26).wr W_34)
  have le_o40 := X.le
  refine E_newA (pc' := 43) X (aty := .int) (n := (4 : Int32)) (cap := 4) (vs := [(.int (0 : Int32)), (.int (0 : Int32)), (.int (0 : Int32)), (.int (0 : Int32))]) (cells' := 2) (slots' := 6) (w_1 hw) d8_41 rfl (by decide) (by decide) (by decide) rfl rfl rfl (by decide) (by decide) (fun T h_41 o40 g_44 X Ex_42 Aa_43 => ?_)
  have b_48 : h0.size ≤ o40 := by rw [g_44]; exact K_37.1
  have K_49 : Keep h0 h_41 [a] := K_37.ext Ex_42
  have fr_50 : Z.heap.size ≤ o40 := by rw [g_44]; exact le_o40
  have ne_51 : NB ≠ o40 := Nat.ne_of_lt (by rw [g_44]; exact A_45.lt)
  have ne_52 : P ≠ o40 := Nat.ne_of_lt (by rw [g_44]; exact A_46.lt)
  have ne_53 : a ≠ o40 := Nat.ne_of_lt (by rw [g_44]; exact E_47.lt)
  have ne_54 : o4 ≠ o40 := Nat.ne_of_lt (by rw [g_44]; exact Aa_36.lt)
  have ne_55 : t ≠ o40 := Nat.ne_of_lt (by rw [g_44]; exact A_38.lt)
  have F_56 : Fld Z h_41 a "com/example/nimble_calculus/nimblecalculus/equivalence/Splits" "height" "[I" .null := (((((hF9.ext Ex_6).other W_18 (Or.inr (slot_ne (Or.inl (w_55 hw)) (Or.inl (w_53 hw)) (by decide) (t := (.array .int)) (t' := (.array .int)) (by decide) (by decide)))).other W_26 (Or.inl ne_14)).other W_34 (Or.inl ne_14)).ext Ex_42)
  have E_57 : Exa Z h_41 a "com/example/nimble_calculus/nimblecalculus/equivalence/Splits" := (E_47.ext Ex_42)
  refine E_putF (pc' := 46) X (host := "") (Or.inl (w_54 hw)) Via.refl F_56 E_57 (Or.inl (w_55 hw)) (w_3 hw) (ty := (.array .int)) (by decide) rfl rfl hfr14 d8_43 rfl (fun T h_59 X W_58 => ?_)
  have K_60 : Keep h0 h_59 [a] := K_49.wr W_58 (Or.inl (List.mem_of_getElem? (i := 0) rfl))
  refine E_iconst (v := (0 : Int32)) (pc' := 47) X d8_46 rfl rfl ?_
  refine E_istoreN (Ls' := #[.val (.ref a), .val (.ref t), .val (.int (0 : Int32)), .unset, .unset, .unset, .unset, .unset]) (pc' := 48) X d8_47 rfl rfl ?_
  refine E_iconst (v := (1 : Int32)) (pc' := 49) X d8_48 rfl rfl ?_
  refine E_istoreN (Ls' := #[.val (.ref a), .val (.ref t), .val (.int (0 : Int32)), .val (.int (1 : Int32)), .unset, .unset, .unset, .unset]) (pc' := 50) X d8_49 rfl rfl ?_
  refine E_iloadN (pc' := 51) X d8_50 rfl rfl ?_
  refine E_aloadN (v := (.ref a)) (pc' := 52) X d8_51 rfl rfl rfl ?_
  have F_61 : Fld Z h_59 a "com/example/nimble_calculus/nimblecalculus/equivalence/Splits" "nodeCount" "I" (.int (4 : Int32)) := ((F_39.ext Ex_42).other W_58 (Or.inr (slot_ne (Or.inl (w_12 hw)) (Or.inl (w_55 hw)) (by decide) (t := .int) (t' := (.array .int)) (by decide) (by decide))))
  refine E_getF (pc' := 55) X (host := "") (Or.inl (w_11 hw)) Via.refl F_61 d8_52 rfl (fun T X => ?_)
  refine E_icmp (pcY := 94) (pcN := 58) X (ic_ge _ _) d8_55 (by decide) rfl rfl (fun hc55_0 => absurd hc55_0 (by decide)) (fun hc55_0 => ?_)
  refine E_aloadN (v := (.ref a)) (pc' := 59) X d8_58 rfl rfl rfl ?_
  have F_62 : Fld Z h_59 a "com/example/nimble_calculus/nimblecalculus/equivalence/Splits" "height" "[I" (.ref o40) := (F_56.same W_58)
  refine E_getF (pc' := 62) X (host := "") (Or.inl (w_54 hw)) Via.refl F_62 d8_59 rfl (fun T X => ?_)
  refine E_iloadN (pc' := 63) X d8_62 rfl rfl ?_
  refine E_aloadN (v := (.ref a)) (pc' := 64) X d8_63 rfl rfl rfl ?_
  refine E_getF (pc' := 67) X (host := "") (Or.inl (w_54 hw)) Via.refl F_62 d8_64 rfl (fun T X => ?_)
  refine E_aloadN (v := (.ref a)) (pc' := 68) X d8_67 rfl rfl rfl ?_
  have F_63 : Fld Z h_59 a "com/example/nimble_calculus/nimblecalculus/equivalence/Splits" "parent" "[I" (.ref P) := ((((((hF4.ext Ex_6).other W_18 (Or.inr (slot_ne (Or.inr (w_23 hw)) (Or.inl (w_53 hw)) (by decide) (t := (.array .int)) (t' := (.array .int)) (by decide) (by decide)))).other W_26 (Or.inl ne_14)).other W_34 (Or.inl ne_14)).ext Ex_42).other W_58 (Or.inr (slot_ne (Or.inr (w_23 hw)) (Or.inl (w_55 hw)) (by decide) (t := (.array .int)) (t' := (.array .int)) (by decide) (by decide))))
  refine E_getF (pc' := 71) X (host := "") (Or.inl (w_22 hw)) Via.refl F_63 d8_68 rfl (fun T X => ?_)
  refine E_iloadN (pc' := 72) X d8_71 rfl rfl ?_
  have A_64 : Ar Z h_59 P .int [(.int (0 : Int32)), (.int (0 : Int32)), (.int (0 : Int32)), (.int (2 : Int32)), (.int (0 : Int32)), (.int (0 : Int32)), (.int (0 : Int32))] := ((A_46.ext Ex_42).other W_58 ne_2)
  refine E_iaload (v := (.int (0 : Int32))) (pc' := 73) X A_64 (by decide) rfl d8_72 rfl ?_
  have A_65 : Ar Z h_59 o40 .int [(.int (0 : Int32)), (.int (0 : Int32)), (.int (0 : Int32)), (.int (0 : Int32))] := (Aa_43.other W_58 (Ne.symm ne_53))
  refine E_iaload (v := (.int (0 : Int32))) (pc' := 74) X A_65 (by decide) rfl d8_73 rfl ?_
  refine E_iconst (v := (1 : Int32)) (pc' := 75) X d8_74 rfl rfl ?_
  refine E_iadd (pc' := 76) X d8_75 rfl ?_
  refine E_eqI (z := (1 : Int32)) (by decide) ?_
  refine E_iastore (vs' := [(.int (0 : Int32)), (.int (1 : Int32)), (.int (0 : Int32)), (.int (0 : Int32))]) (pc' := 77) X A_65 (by decide) (Nat.le_of_ble_eq_true rfl) rfl fr_50 d8_76 rfl (fun T h_67 X W_66 Aa_68 => ?_)
  have K_69 : Keep h0 h_67 [a] := K_60.wr W_66 (Or.inr b_48)
  refine E_iloadN (pc' := 78) X d8_77 rfl rfl ?_
  refine E_aloadN (v := (.ref a)) (pc' := 79) X d8_78 rfl rfl rfl ?_
  have F_70 : Fld Z h_67 a "com/example/nimble_calculus/nimblecalculus/equivalence/Splits" "height" "[I" (.ref o40) := (F_62.other W_66 (Or.inl ne_53))
  refine E_getF (pc' := 82) X (host := "") (Or.inl (w_54 hw)) Via.refl F_70 d8_79 rfl (fun T X => ?_)
  refine E_iloadN (pc' := 83) X d8_82 rfl rfl ?_
  refine E_iaload (v := (.int (1 : Int32))) (pc' := 84) X Aa_68 (by decide) rfl d8_83 rfl ?_
  refine E_callS (pc' := 87) (W := 0) (cells' := 2) (slots' := 6) (argsL := [(.int (0 : Int32)), (.int (1 : Int32))]) (rest := []) X (rm5 l Z a0 hw (0 : Int32) (1 : Int32) (1 : Int32) h_67 X.ext (by decide)) (w_28 hw) (w_29 hw) (w_17 hw) (w_30 hw) (by decide) rfl rfl pd_1 rfl rfl d8_84 rfl (Nat.le_refl _) (by decide) (by decide) rfl rfl (by decide) (by decide) (fun v71 T h_72 X hQ73 => ?_)
  obtain ⟨rfl, rfl⟩ := hQ73
  show End Z p e below s _ _ _ _ (mkF m 87 #[.val (.ref a), .val (.ref t), .val (.int (0 : Int32)), .val (.int (1 : Int32)), .unset, .unset, .unset, .unset] [(.int (1 : Int32))])
  refine E_istoreN (Ls' := #[.val (.ref a), .val (.ref t), .val (.int (1 : Int32)), .val (.int (1 : Int32)), .unset, .unset, .unset, .unset]) (pc' := 88) X d8_87 rfl rfl ?_
  refine E_iinc (x := (1 : Int32)) (z := (2 : Int32)) (Ls' := #[.val (.ref a), .val (.ref t), .val (.int (1 : Int32)), .val (.int (2 : Int32)), .unset, .unset, .unset, .unset]) (pc' := 91) X d8_88 rfl rfl rfl rfl ?_
  refine E_goto (pc' := 50) X d8_91 (by decide) rfl ?_
  refine E_iloadN (pc' := 51) X d8_50 rfl rfl ?_
  refine E_aloadN (v := (.ref a)) (pc' := 52) X d8_51 rfl rfl rfl ?_
  have F_75 : Fld Z h_67 a "com/example/nimble_calculus/nimblecalculus/equivalence/Splits" "nodeCount" "I" (.int (4 : Int32)) := (F_61.other W_66 (Or.inl ne_53))
  refine E_getF (pc' := 55) X (host := "") (Or.inl (w_11 hw)) Via.refl F_75 d8_52 rfl (fun T X => ?_)
  refine E_icmp (pcY := 94) (pcN := 58) X (ic_ge _ _) d8_55 (by decide) rfl rfl (fun hc55_1 => absurd hc55_1 (by decide)) (fun hc55_1 => ?_)
  refine E_aloadN (v := (.ref a)) (pc' := 59) X d8_58 rfl rfl rfl ?_
  refine E_getF (pc' := 62) X (host := "") (Or.inl (w_54 hw)) Via.refl F_70 d8_59 rfl (fun T X => ?_)
  refine E_iloadN (pc' := 63) X d8_62 rfl rfl ?_
  refine E_aloadN (v := (.ref a)) (pc' := 64) X d8_63 rfl rfl rfl ?_
  refine E_getF (pc' := 67) X (host := "") (Or.inl (w_54 hw)) Via.refl F_70 d8_64 rfl (fun T X => ?_)
  refine E_aloadN (v := (.ref a)) (pc' := 68) X d8_67 rfl rfl rfl ?_
  have F_76 : Fld Z h_67 a "com/example/nimble_calculus/nimblecalculus/equivalence/Splits" "parent" "[I" (.ref P) := (F_63.other W_66 (Or.inl ne_53))
  refine E_getF (pc' := 71) X (host := "") (Or.inl (w_22 hw)) Via.refl F_76 d8_68 rfl (fun T X => ?_)
  refine E_iloadN (pc' := 72) X d8_71 rfl rfl ?_
  have A_77 : Ar Z h_67 P .int [(.int (0 : Int32)), (.int (0 : Int32)), (.int (0 : Int32)), (.int (2 : Int32)), (.int (0 : Int32)), (.int (0 : Int32)), (.int (0 : Int32))] := (A_64.other W_66 ne_52)
  refine E_iaload (v := (.int (0 : Int32))) (pc' := 73) X A_77 (by decide) rfl d8_72 rfl ?_
  refine E_iaload (v := (.int (0 : Int32))) (pc' := 74) X Aa_68 (by decide) rfl d8_73 rfl ?_
  refine E_iconst (v := (1 : Int32)) (pc' := 75) X d8_74 rfl rfl ?_
  refine E_iadd (pc' := 76) X d8_75 rfl ?_
  refine E_eqI (z := (1 : Int32)) (by decide) ?_
  refine E_iastore (vs' := [(.int (0 : Int32)), (.int (1 : Int32)), (.int (1 : Int32)), (.int (0 : Int32))]) (pc' := 77) X Aa_68 (by decide) (Nat.le_of_ble_eq_true rfl) rfl fr_50 d8_76 rfl (fun T h_79 X W_78 Aa_80 => ?_)
  have K_81 : Keep h0 h_79 [a] := K_69.wr W_78 (Or.inr b_48)
  refine E_iloadN (pc' := 78) X d8_77 rfl rfl ?_
  refine E_aloadN (v := (.ref a)) (pc' := 79) X d8_78 rfl rfl rfl ?_
  have F_82 : Fld Z h_79 a "com/example/nimble_calculus/nimblecalculus/equivalence/Splits" "height" "[I" (.ref o40) := (F_70.other W_78 (Or.inl ne_53))
  refine E_getF (pc' := 82) X (host := "") (Or.inl (w_54 hw)) Via.refl F_82 d8_79 rfl (fun T X => ?_)
  refine E_iloadN (pc' := 83) X d8_82 rfl rfl ?_
  refine E_iaload (v := (.int (1 : Int32))) (pc' := 84) X Aa_80 (by decide) rfl d8_83 rfl ?_
  refine E_callS (pc' := 87) (W := 0) (cells' := 2) (slots' := 6) (argsL := [(.int (1 : Int32)), (.int (1 : Int32))]) (rest := []) X (rm5 l Z a0 hw (1 : Int32) (1 : Int32) (1 : Int32) h_79 X.ext (by decide)) (w_28 hw) (w_29 hw) (w_17 hw) (w_30 hw) (by decide) rfl rfl pd_1 rfl rfl d8_84 rfl (Nat.le_refl _) (by decide) (by decide) rfl rfl (by decide) (by decide) (fun v83 T h_84 X hQ85 => ?_)
  obtain ⟨rfl, rfl⟩ := hQ85
  show End Z p e below s _ _ _ _ (mkF m 87 #[.val (.ref a), .val (.ref t), .val (.int (1 : Int32)), .val (.int (2 : Int32)), .unset, .unset, .unset, .unset] [(.int (1 : Int32))])
  refine E_istoreN (Ls' := #[.val (.ref a), .val (.ref t), .val (.int (1 : Int32)), .val (.int (2 : Int32)), .unset, .unset, .unset, .unset]) (pc' := 88) X d8_87 rfl rfl ?_
  refine E_iinc (x := (2 : Int32)) (z := (3 : Int32)) (Ls' := #[.val (.ref a), .val (.ref t), .val (.int (1 : Int32)), .val (.int (3 : Int32)), .unset, .unset, .unset, .unset]) (pc' := 91) X d8_88 rfl rfl rfl rfl ?_
  refine E_goto (pc' := 50) X d8_91 (by decide) rfl ?_
  refine E_iloadN (pc' := 51) X d8_50 rfl rfl ?_
  refine E_aloadN (v := (.ref a)) (pc' := 52) X d8_51 rfl rfl rfl ?_
  have F_87 : Fld Z h_79 a "com/example/nimble_calculus/nimblecalculus/equivalence/Splits" "nodeCount" "I" (.int (4 : Int32)) := (F_75.other W_78 (Or.inl ne_53))
  refine E_getF (pc' := 55) X (host := "") (Or.inl (w_11 hw)) Via.refl F_87 d8_52 rfl (fun T X => ?_)
  refine E_icmp (pcY := 94) (pcN := 58) X (ic_ge _ _) d8_55 (by decide) rfl rfl (fun hc55_2 => absurd hc55_2 (by decide)) (fun hc55_2 => ?_)
  refine E_aloadN (v := (.ref a)) (pc' := 59) X d8_58 rfl rfl rfl ?_
  refine E_getF (pc' := 62) X (host := "") (Or.inl (w_54 hw)) Via.refl F_82 d8_59 rfl (fun T X => ?_)
  refine E_iloadN (pc' := 63) X d8_62 rfl rfl ?_
  refine E_aloadN (v := (.ref a)) (pc' := 64) X d8_63 rfl rfl rfl ?_
  refine E_getF (pc' := 67) X (host := "") (Or.inl (w_54 hw)) Via.refl F_82 d8_64 rfl (fun T X => ?_)
  refine E_aloadN (v := (.ref a)) (pc' := 68) X d8_67 rfl rfl rfl ?_
  have F_88 : Fld Z h_79 a "com/example/nimble_calculus/nimblecalculus/equivalence/Splits" "parent" "[I" (.ref P) := (F_76.other W_78 (Or.inl ne_53))
  refine E_getF (pc' := 71) X (host := "") (Or.inl (w_22 hw)) Via.refl F_88 d8_68 rfl (fun T X => ?_)
  refine E_iloadN (pc' := 72) X d8_71 rfl rfl ?_
  have A_89 : Ar Z h_79 P .int [(.int (0 : Int32)), (.int (0 : Int32)), (.int (0 : Int32)), (.int (2 : Int32)), (.int (0 : Int32)), (.int (0 : Int32)), (.int (0 : Int32))] := (A_77.other W_78 ne_52)
  refine E_iaload (v := (.int (2 : Int32))) (pc' := 73) X A_89 (by decide) rfl d8_72 rfl ?_
  refine E_iaload (v := (.int (1 : Int32))) (pc' := 74) X Aa_80 (by decide) rfl d8_73 rfl ?_
  refine E_iconst (v := (1 : Int32)) (pc' := 75) X d8_74 rfl rfl ?_
  refine E_iadd (pc' := 76) X d8_75 rfl ?_
  refine E_eqI (z := (2 : Int32)) (by decide) ?_
  refine E_iastore (vs' := [(.int (0 : Int32)), (.int (1 : Int32)), (.int (1 : Int32)), (.int (2 : Int32))]) (pc' := 77) X Aa_80 (by decide) (Nat.le_of_ble_eq_true rfl) rfl fr_50 d8_76 rfl (fun T h_91 X W_90 Aa_92 => ?_)
  have K_93 : Keep h0 h_91 [a] := K_81.wr W_90 (Or.inr b_48)
  refine E_iloadN (pc' := 78) X d8_77 rfl rfl ?_
  refine E_aloadN (v := (.ref a)) (pc' := 79) X d8_78 rfl rfl rfl ?_
  have F_94 : Fld Z h_91 a "com/example/nimble_calculus/nimblecalculus/equivalence/Splits" "height" "[I" (.ref o40) := (F_82.other W_90 (Or.inl ne_53))
  refine E_getF (pc' := 82) X (host := "") (Or.inl (w_54 hw)) Via.refl F_94 d8_79 rfl (fun T X => ?_)
  refine E_iloadN (pc' := 83) X d8_82 rfl rfl ?_
  refine E_iaload (v := (.int (2 : Int32))) (pc' := 84) X Aa_92 (by decide) rfl d8_83 rfl ?_
  refine E_callS (pc' := 87) (W := 0) (cells' := 2) (slots' := 6) (argsL := [(.int (1 : Int32)), (.int (2 : Int32))]) (rest := []) X (rm5 l Z a0 hw (1 : Int32) (2 : Int32) (2 : Int32) h_91 X.ext (by decide)) (w_28 hw) (w_29 hw) (w_17 hw) (w_30 hw) (by decide) rfl rfl pd_1 rfl rfl d8_84 rfl (Nat.le_refl _) (by decide) (by decide) rfl rfl (by decide) (by decide) (fun v95 T h_96 X hQ97 => ?_)
  obtain ⟨rfl, rfl⟩ := hQ97
  show End Z p e below s _ _ _ _ (mkF m 87 #[.val (.ref a), .val (.ref t), .val (.int (1 : Int32)), .val (.int (3 : Int32)), .unset, .unset, .unset, .unset] [(.int (2 : Int32))])
  refine E_istoreN (Ls' := #[.val (.ref a), .val (.ref t), .val (.int (2 : Int32)), .val (.int (3 : Int32)), .unset, .unset, .unset, .unset]) (pc' := 88) X d8_87 rfl rfl ?_
  refine E_iinc (x := (3 : Int32)) (z := (4 : Int32)) (Ls' := #[.val (.ref a), .val (.ref t), .val (.int (2 : Int32)), .val (.int (4 : Int32)), .unset, .unset, .unset, .unset]) (pc' := 91) X d8_88 rfl rfl rfl rfl ?_
  refine E_goto (pc' := 50) X d8_91 (by decide) rfl ?_
  refine E_iloadN (pc' := 51) X d8_50 rfl rfl ?_
  refine E_aloadN (v := (.ref a)) (pc' := 52) X d8_51 rfl rfl rfl ?_
  have F_99 : Fld Z h_91 a "com/example/nimble_calculus/nimblecalculus/equivalence/Splits" "nodeCount" "I" (.int (4 : Int32)) := (F_87.other W_90 (Or.inl ne_53))
  refine E_getF (pc' := 55) X (host := "") (Or.inl (w_11 hw)) Via.refl F_99 d8_52 rfl (fun T X => ?_)
  refine E_icmp (pcY := 94) (pcN := 58) X (ic_ge _ _) d8_55 (by decide) rfl rfl (fun hc55_3 => ?_) (fun hc55_3 => absurd (by decide) hc55_3)
  refine E_bipush (v := (32 : Int32)) (pc' := 96) X d8_94 rfl rfl ?_
  refine E_iconst (v := (1 : Int32)) (pc' := 97) X d8_96 rfl rfl ?_
  refine E_iloadN (pc' := 98) X d8_97 rfl rfl ?_
  refine E_callS (pc' := 101) (W := 1) (cells' := 2) (slots' := 6) (argsL := [(.int (1 : Int32)), (.int (2 : Int32))]) (rest := [(.int (32 : Int32))]) X (rm5 l Z a0 hw (1 : Int32) (2 : Int32) (2 : Int32) h_91 X.ext (by decide)) (w_28 hw) (w_29 hw) (w_17 hw) (w_30 hw) (by decide) rfl rfl pd_1 rfl rfl d8_98 rfl (Nat.le_refl _) (by decide) (by decide) rfl rfl (by decide) (by decide) (fun v100 T h_101 X hQ102 => ?_)
  obtain ⟨rfl, rfl⟩ := hQ102
  show End Z p e below s _ _ _ _ (mkF m 101 #[.val (.ref a), .val (.ref t), .val (.int (2 : Int32)), .val (.int (4 : Int32)), .unset, .unset, .unset, .unset] [(.int (2 : Int32)), (.int (32 : Int32))])
  refine E_callS (pc' := 104) (W := 1) (cells' := 2) (slots' := 6) (argsL := [(.int (2 : Int32))]) (rest := [(.int (32 : Int32))]) X (rm_nlz2 l Z a0 hw h_91 X.ext) (w_56 hw) (w_57 hw) (w_58 hw) (w_59 hw) (by decide) rfl rfl pd_2 rfl rfl d8_101 rfl (Nat.le_refl _) (by decide) (by decide) rfl rfl (by decide) (by decide) (fun v104 T h_105 X hQ106 => ?_)
  obtain ⟨rfl, rfl⟩ := hQ106
  show End Z p e below s _ _ _ _ (mkF m 104 #[.val (.ref a), .val (.ref t), .val (.int (2 : Int32)), .val (.int (4 : Int32)), .unset, .unset, .unset, .unset] [(.int (30 : Int32)), (.int (32 : Int32))])
  refine E_isub (pc' := 105) X d8_104 rfl ?_
  refine E_eqI (z := (2 : Int32)) (by decide) ?_
  refine E_istoreN (Ls' := #[.val (.ref a), .val (.ref t), .val (.int (2 : Int32)), .val (.int (2 : Int32)), .unset, .unset, .unset, .unset]) (pc' := 106) X d8_105 rfl rfl ?_
  refine E_aloadN (v := (.ref a)) (pc' := 107) X d8_106 rfl rfl rfl ?_
  refine E_iloadN (pc' := 108) X d8_107 rfl rfl ?_
  have A_113 : Ar Z h_91 NB .int [(.int (1 : Int32)), (.int (0 : Int32)), (.int (0 : Int32)), (.int (3 : Int32))] := (((((A_45.ext Ex_42).other W_58 ne_1).other W_66 ne_51).other W_78 ne_51).other W_90 ne_51)
  have A_114 : Ar Z h_91 P .int [(.int (0 : Int32)), (.int (0 : Int32)), (.int (0 : Int32)), (.int (2 : Int32)), (.int (0 : Int32)), (.int (0 : Int32)), (.int (0 : Int32))] := (A_89.other W_90 ne_52)
  have E_115 : Exa Z h_91 a "com/example/nimble_calculus/nimblecalculus/equivalence/Splits" := ((((E_57.wr W_58).wr W_66).wr W_78).wr W_90)
  have A_116 : Ar Z h_91 o4 .int [(.int (1 : Int32)), (.int (3 : Int32))] := (((((Aa_36.ext Ex_42).other W_58 (Ne.symm ne_14)).other W_66 ne_54).other W_78 ne_54).other W_90 ne_54)
  have A_117 : Ar Z h_91 t .int [(.int (0 : Int32)), (.int (3 : Int32))] := (((((A_38.ext Ex_42).other W_58 (Ne.symm ne_3)).other W_66 ne_55).other W_78 ne_55).other W_90 ne_55)
  have le_o108 := X.le
  refine E_newRA (pc' := 111) X (n := (2 : Int32)) (cap := 2) (vs := [.null, .null]) (cells' := 3) (slots' := 8) (by decide) (w_61 hw) (w_62 hw) d8_108 rfl (by decide) (by decide) (by decide) rfl rfl rfl (by decide) (by decide) (fun T h_109 o108 g_112 X Ex_110 Aa_111 => ?_)
  have b_118 : h0.size ≤ o108 := by rw [g_112]; exact K_93.1
  have K_119 : Keep h0 h_109 [a] := K_93.ext Ex_110
  have fr_120 : Z.heap.size ≤ o108 := by rw [g_112]; exact le_o108
  have ne_121 : NB ≠ o108 := Nat.ne_of_lt (by rw [g_112]; exact A_113.lt)
  have ne_122 : P ≠ o108 := Nat.ne_of_lt (by rw [g_112]; exact A_114.lt)
  have ne_123 : a ≠ o108 := Nat.ne_of_lt (by rw [g_112]; exact E_115.lt)
  have ne_124 : o4 ≠ o108 := Nat.ne_of_lt (by rw [g_112]; exact A_116.lt)
  have ne_125 : o40 ≠ o108 := Nat.ne_of_lt (by rw [g_112]; exact Aa_92.lt)
  have ne_126 : t ≠ o108 := Nat.ne_of_lt (by rw [g_112]; exact A_117.lt)
  have F_127 : Fld Z h_109 a "com/example/nimble_calculus/nimblecalculus/equivalence/Splits" "jumps" "[[I" .null := ((((((((((hF10.ext Ex_6).other W_18 (Or.inr (slot_ne (Or.inl (w_64 hw)) (Or.inl (w_53 hw)) (by decide) (t := (.array (.array .int))) (t' := (.array .int)) (by decide) (by decide)))).other W_26 (Or.inl ne_14)).other W_34 (Or.inl ne_14)).ext Ex_42).other W_58 (Or.inr (slot_ne (Or.inl (w_64 hw)) (Or.inl (w_55 hw)) (by decide) (t := (.array (.array .int))) (t' := (.array .int)) (by decide) (by decide)))).other W_66 (Or.inl ne_53)).other W_78 (Or.inl ne_53)).other W_90 (Or.inl ne_53)).ext Ex_110)
  have E_128 : Exa Z h_109 a "com/example/nimble_calculus/nimblecalculus/equivalence/Splits" := (E_115.ext Ex_110)
  refine E_putF (pc' := 114) X (host := "") (Or.inl (w_63 hw)) Via.refl F_127 E_128 (Or.inl (w_64 hw)) (w_3 hw) (ty := (.array (.array .int))) (by decide) rfl rfl hfr14 d8_111 rfl (fun T h_130 X W_129 => ?_)
  have K_131 : Keep h0 h_130 [a] := K_119.wr W_129 (Or.inl (List.mem_of_getElem? (i := 0) rfl))
  refine E_aloadN (v := (.ref a)) (pc' := 115) X d8_114 rfl rfl rfl ?_
  have F_132 : Fld Z h_130 a "com/example/nimble_calculus/nimblecalculus/equivalence/Splits" "jumps" "[[I" (.ref o108) := (F_127.same W_129)
  refine E_getF (pc' := 118) X (host := "") (Or.inl (w_63 hw)) Via.refl F_132 d8_115 rfl (fun T X => ?_)
  refine E_iconst (v := (0 : Int32)) (pc' := 119) X d8_118 rfl rfl ?_
  refine E_aloadN (v := (.ref a)) (pc' := 120) X d8_119 rfl rfl rfl ?_
  have F_133 : Fld Z h_130 a "com/example/nimble_calculus/nimblecalculus/equivalence/Splits" "parent" "[I" (.ref P) := (((F_88.other W_90 (Or.inl ne_53)).ext Ex_110).other W_129 (Or.inr (slot_ne (Or.inr (w_23 hw)) (Or.inl (w_64 hw)) (by decide) (t := (.array .int)) (t' := (.array (.array .int))) (by decide) (by decide))))
  refine E_getF (pc' := 123) X (host := "") (Or.inl (w_22 hw)) Via.refl F_133 d8_120 rfl (fun T X => ?_)
  refine E_aloadN (v := (.ref a)) (pc' := 124) X d8_123 rfl rfl rfl ?_
  have F_134 : Fld Z h_130 a "com/example/nimble_calculus/nimblecalculus/equivalence/Splits" "nodeCount" "I" (.int (4 : Int32)) := ((F_99.ext Ex_110).other W_129 (Or.inr (slot_ne (Or.inl (w_12 hw)) (Or.inl (w_64 hw)) (by decide) (t := .int) (t' := (.array (.array .int))) (by decide) (by decide))))
  refine E_getF (pc' := 127) X (host := "") (Or.inl (w_11 hw)) Via.refl F_134 d8_124 rfl (fun T X => ?_)
  have A_135 : Ar Z h_130 P .int [(.int (0 : Int32)), (.int (0 : Int32)), (.int (0 : Int32)), (.int (2 : Int32)), (.int (0 : Int32)), (.int (0 : Int32)), (.int (0 : Int32))] := ((A_114.ext Ex_110).other W_129 ne_2)
  have A_139 : Ar Z h_130 NB .int [(.int (1 : Int32)), (.int (0 : Int32)), (.int (0 : Int32)), (.int (3 : Int32))] := ((A_113.ext Ex_110).other W_129 ne_1)
  have E_140 : Exa Z h_130 a "com/example/nimble_calculus/nimblecalculus/equivalence/Splits" := (E_128.wr W_129)
  have A_141 : ArR Z h_130 o108 (.array .int) "[I" [.null, .null] := (Aa_111.other W_129 (Ne.symm ne_123))
  have A_142 : Ar Z h_130 o4 .int [(.int (1 : Int32)), (.int (3 : Int32))] := ((A_116.ext Ex_110).other W_129 (Ne.symm ne_14))
  have A_143 : Ar Z h_130 o40 .int [(.int (0 : Int32)), (.int (1 : Int32)), (.int (1 : Int32)), (.int (2 : Int32))] := ((Aa_92.ext Ex_110).other W_129 (Ne.symm ne_53))
  have A_144 : Ar Z h_130 t .int [(.int (0 : Int32)), (.int (3 : Int32))] := ((A_117.ext Ex_110).other W_129 (Ne.symm ne_3))
  have le_145 := X.le
  refine E_callS (pc' := 130) (W := 2) (cells' := 4) (slots' := 12) (argsL := [(.ref P), (.int (4 : Int32))]) (rest := [(.int (0 : Int32)), (.ref o108)]) X (rm10 l Z a0 hw P (0 : Int32) (0 : Int32) (0 : Int32) (2 : Int32) (0 : Int32) (0 : Int32) (0 : Int32) h_130 X.ext A_135) (w_65 hw) (w_66 hw) (w_67 hw) (w_68 hw) (by decide) rfl rfl pd_3 rfl rfl d8_127 rfl (Nat.le_refl _) (by decide) (by decide) rfl rfl (by decide) (by decide) (fun v136 T h_137 X hQ138 => ?_)
  obtain ⟨r_146, rfl, Kc_147, nw_148, A_149, E_150⟩ := hQ138
  have K_151 : Keep h0 h_137 [a] := K_131.trans Kc_147 all0
  have ne_152 : NB ≠ r_146 := Nat.ne_of_lt (Nat.lt_of_lt_of_le A_139.lt nw_148)
  have ne_153 : P ≠ r_146 := Nat.ne_of_lt (Nat.lt_of_lt_of_le A_135.lt nw_148)
  have ne_154 : a ≠ r_146 := Nat.ne_of_lt (Nat.lt_of_lt_of_le E_140.lt nw_148)
  have ne_155 : o108 ≠ r_146 := Nat.ne_of_lt (Nat.lt_of_lt_of_le A_141.lt nw_148)
  have ne_156 : o4 ≠ r_146 := Nat.ne_of_lt (Nat.lt_of_lt_of_le A_142.lt nw_148)
  have ne_157 : o40 ≠ r_146 := Nat.ne_of_lt (Nat.lt_of_lt_of_le A_143.lt nw_148)
  have ne_158 : t ≠ r_146 := Nat.ne_of_lt (Nat.lt_of_lt_of_le A_144.lt nw_148)
  have fr_159 : Z.heap.size ≤ r_146 := Nat.le_trans le_145 nw_148
  show End Z p e below s _ _ _ _ (mkF m 130 #[.val (.ref a), .val (.ref t), .val (.int (2 : Int32)), .val (.int (2 : Int32)), .unset, .unset, .unset, .unset] [(.ref r_146), (.int (0 : Int32)), (.ref o108)])
  have A_160 : ArR Z h_137 o108 (.array .int) "[I" [.null, .null] := (A_141.keep Kc_147 nin0)
  refine E_aastore (vs' := [(.ref r_146), .null]) (pc' := 131) X A_160 (Ins.self E_150) rfl (by decide) (Nat.le_of_ble_eq_true rfl) rfl fr_120 d8_130 rfl (fun T h_162 X W_161 Aa_163 => ?_)
  have K_164 : Keep h0 h_162 [a] := K_151.wr W_161 (Or.inr b_118)
  refine E_iconst (v := (1 : Int32)) (pc' := 132) X d8_131 rfl rfl ?_
  refine E_istore (Ls' := #[.val (.ref a), .val (.ref t), .val (.int (2 : Int32)), .val (.int (2 : Int32)), .val (.int (1 : Int32)), .unset, .unset, .unset]) (pc' := 134) X d8_132 rfl rfl ?_
  refine E_iload (pc' := 136) X d8_134 rfl rfl ?_
  refine E_iloadN (pc' := 137) X d8_136 rfl rfl ?_
  refine E_icmp (pcY := 205) (pcN := 140) X (ic_ge _ _) d8_137 (by decide) rfl rfl (fun hc137_0 => absurd hc137_0 (by decide)) (fun hc137_0 => ?_)
  refine E_aloadN (v := (.ref a)) (pc' := 141) X d8_140 rfl rfl rfl ?_
  have F_165 : Fld Z h_162 a "com/example/nimble_calculus/nimblecalculus/equivalence/Splits" "jumps" "[[I" (.ref o108) := ((F_132.keep Kc_147 nin0).other W_161 (Or.inl ne_123))
  refine E_getF (pc' := 144) X (host := "") (Or.inl (w_63 hw)) Via.refl F_165 d8_141 rfl (fun T X => ?_)
  refine E_iload (pc' := 146) X d8_144 rfl rfl ?_
  refine E_iconst (v := (1 : Int32)) (pc' := 147) X d8_146 rfl rfl ?_
  refine E_isub (pc' := 148) X d8_147 rfl ?_
  refine E_eqI (z := (0 : Int32)) (by decide) ?_
  refine E_aaload (v := (.ref r_146)) (pc' := 149) X Aa_163.ar rfl (by decide) rfl d8_148 rfl ?_
  refine E_astore (Ls' := #[.val (.ref a), .val (.ref t), .val (.int (2 : Int32)), .val (.int (2 : Int32)), .val (.int (1 : Int32)), .val (.ref r_146), .unset, .unset]) (pc' := 151) X d8_149 rfl rfl rfl ?_
  refine E_aloadN (v := (.ref a)) (pc' := 152) X d8_151 rfl rfl rfl ?_
  have F_166 : Fld Z h_162 a "com/example/nimble_calculus/nimblecalculus/equivalence/Splits" "nodeCount" "I" (.int (4 : Int32)) := ((F_134.keep Kc_147 nin0).other W_161 (Or.inl ne_123))
  refine E_getF (pc' := 155) X (host := "") (Or.inl (w_11 hw)) Via.refl F_166 d8_152 rfl (fun T X => ?_)
  have A_172 : Ar Z h_162 NB .int [(.int (1 : Int32)), (.int (0 : Int32)), (.int (0 : Int32)), (.int (3 : Int32))] := ((A_139.keep Kc_147 nin0).other W_161 ne_121)
  have A_173 : Ar Z h_162 P .int [(.int (0 : Int32)), (.int (0 : Int32)), (.int (0 : Int32)), (.int (2 : Int32)), (.int (0 : Int32)), (.int (0 : Int32)), (.int (0 : Int32))] := ((A_135.keep Kc_147 nin0).other W_161 ne_122)
  have E_174 : Exa Z h_162 a "com/example/nimble_calculus/nimblecalculus/equivalence/Splits" := ((E_140.keep Kc_147).wr W_161)
  have A_175 : Ar Z h_162 o4 .int [(.int (1 : Int32)), (.int (3 : Int32))] := ((A_142.keep Kc_147 nin0).other W_161 ne_124)
  have A_176 : Ar Z h_162 o40 .int [(.int (0 : Int32)), (.int (1 : Int32)), (.int (1 : Int32)), (.int (2 : Int32))] := ((A_143.keep Kc_147 nin0).other W_161 ne_125)
  have E_177 : Exa Z h_162 r_146 "[I" := (E_150.wr W_161)
  have A_178 : Ar Z h_162 t .int [(.int (0 : Int32)), (.int (3 : Int32))] := ((A_144.keep Kc_147 nin0).other W_161 ne_126)
  have le_o167 := X.le
  refine E_newAE (pc' := 157) X (aty := .int) (n := (4 : Int32)) (cap := 4) (vs := [(.int (0 : Int32)), (.int (0 : Int32)), (.int (0 : Int32)), (.int (0 : Int32))]) (cells' := 5) (slots' := 16) (ad := "[I") (by decide) (w_1 hw) d8_155 rfl (by decide) (by decide) (by decide) rfl rfl rfl (by decide) (by decide) (fun T h_168 o167 g_171 X Ex_169 Aa_170 EaAa_170 => ?_)
  have b_179 : h0.size ≤ o167 := by rw [g_171]; exact K_164.1
  have K_180 : Keep h0 h_168 [a] := K_164.ext Ex_169
  have fr_181 : Z.heap.size ≤ o167 := by rw [g_171]; exact le_o167
  have ne_182 : NB ≠ o167 := Nat.ne_of_lt (by rw [g_171]; exact A_172.lt)
  have ne_183 : P ≠ o167 := Nat.ne_of_lt (by rw [g_171]; exact A_173.lt)
  have ne_184 : a ≠ o167 := Nat.ne_of_lt (by rw [g_171]; exact E_174.lt)
  have ne_185 : o108 ≠ o167 := Nat.ne_of_lt (by rw [g_171]; exact Aa_163.lt)
  have ne_186 : o4 ≠ o167 := Nat.ne_of_lt (by rw [g_171]; exact A_175.lt)
  have ne_187 : o40 ≠ o167 := Nat.ne_of_lt (by rw [g_171]; exact A_176.lt)
  have ne_188 : r_146 ≠ o167 := Nat.ne_of_lt (by rw [g_171]; exact E_177.lt)
  have ne_189 : t ≠ o167 := Nat.ne_of_lt (by rw [g_171]; exact A_178.lt)
  refine E_astore (Ls' := #[.val (.ref a), .val (.ref t), .val (.int (2 : Int32)), .val (.int (2 : Int32)), .val (.int (1 : Int32)), .val (.ref r_146), .val (.ref o167), .unset]) (pc' := 159) X d8_157 rfl rfl rfl ?_
  refine E_iconst (v := (0 : Int32)) (pc' := 160) X d8_159 rfl rfl ?_
  refine E_istore (Ls' := #[.val (.ref a), .val (.ref t), .val (.int (2 : Int32)), .val (.int (2 : Int32)), .val (.int (1 : Int32)), .val (.ref r_146), .val (.ref o167), .val (.int (0 : Int32))]) (pc' := 162) X d8_160 rfl rfl ?_
  refine E_iload (pc' := 164) X d8_162 rfl rfl ?_
  refine E_aloadN (v := (.ref a)) (pc' := 165) X d8_164 rfl rfl rfl ?_
  have F_190 : Fld Z h_168 a "com/example/nimble_calculus/nimblecalculus/equivalence/Splits" "nodeCount" "I" (.int (4 : Int32)) := (F_166.ext Ex_169)
  refine E_getF (pc' := 168) X (host := "") (Or.inl (w_11 hw)) Via.refl F_190 d8_165 rfl (fun T X => ?_)
  refine E_icmp (pcY := 190) (pcN := 171) X (ic_ge _ _) d8_168 (by decide) rfl rfl (fun hc168_0 => absurd hc168_0 (by decide)) (fun hc168_0 => ?_)
  refine E_aload (v := (.ref o167)) (pc' := 173) X d8_171 rfl rfl rfl ?_
  refine E_iload (pc' := 175) X d8_173 rfl rfl ?_
  refine E_aload (v := (.ref r_146)) (pc' := 177) X d8_175 rfl rfl rfl ?_
  refine E_aload (v := (.ref r_146)) (pc' := 179) X d8_177 rfl rfl rfl ?_
  refine E_iload (pc' := 181) X d8_179 rfl rfl ?_
  have A_191 : Ar Z h_168 r_146 .int [(.int (0 : Int32)), (.int (0 : Int32)), (.int (0 : Int32)), (.int (2 : Int32))] := ((A_149.other W_161 (Ne.symm ne_155)).ext Ex_169)
  refine E_iaload (v := (.int (0 : Int32))) (pc' := 182) X A_191 (by decide) rfl d8_181 rfl ?_
  refine E_iaload (v := (.int (0 : Int32))) (pc' := 183) X A_191 (by decide) rfl d8_182 rfl ?_
  refine E_iastore (vs' := [(.int (0 : Int32)), (.int (0 : Int32)), (.int (0 : Int32)), (.int (0 : Int32))]) (pc' := 184) X Aa_170 (by decide) (Nat.le_of_ble_eq_true rfl) rfl fr_181 d8_183 rfl (fun T h_193 X W_192 Aa_194 => ?_)
  have K_195 : Keep h0 h_193 [a] := K_180.wr W_192 (Or.inr b_179)
  refine E_iinc (x := (0 : Int32)) (z := (1 : Int32)) (Ls' := #[.val (.ref a), .val (.ref t), .val (.int (2 : Int32)), .val (.int (2 : Int32)), .val (.int (1 : Int32)), .val (.ref r_146), .val (.ref o167), .val (.int (1 : Int32))]) (pc' := 187) X d8_184 rfl rfl rfl rfl ?_
  refine E_goto (pc' := 162) X d8_187 (by decide) rfl ?_
  refine E_iload (pc' := 164) X d8_162 rfl rfl ?_
  refine E_aloadN (v := (.ref a)) (pc' := 165) X d8_164 rfl rfl rfl ?_
  have F_196 : Fld Z h_193 a "com/example/nimble_calculus/nimblecalculus/equivalence/Splits" "nodeCount" "I" (.int (4 : Int32)) := (F_190.other W_192 (Or.inl ne_184))
  refine E_getF (pc' := 168) X (host := "") (Or.inl (w_11 hw)) Via.refl F_196 d8_165 rfl (fun T X => ?_)
  refine E_icmp (pcY := 190) (pcN := 171) X (ic_ge _ _) d8_168 (by decide) rfl rfl (fun hc168_1 => absurd hc168_1 (by decide)) (fun hc168_1 => ?_)
  refine E_aload (v := (.ref o167)) (pc' := 173) X d8_171 rfl rfl rfl ?_
  refine E_iload (pc' := 175) X d8_173 rfl rfl ?_
  refine E_aload (v := (.ref r_146)) (pc' := 177) X d8_175 rfl rfl rfl ?_
  refine E_aload (v := (.ref r_146)) (pc' := 179) X d8_177 rfl rfl rfl ?_
  refine E_iload (pc' := 181) X d8_179 rfl rfl ?_
  have A_197 : Ar Z h_193 r_146 .int [(.int (0 : Int32)), (.int (0 : Int32)), (.int (0 : Int32)), (.int (2 : Int32))] := (A_191.other W_192 ne_188)
  refine E_iaload (v := (.int (0 : Int32))) (pc' := 182) X A_197 (by decide) rfl d8_181 rfl ?_
  refine E_iaload (v := (.int (0 : Int32))) (pc' := 183) X A_197 (by decide) rfl d8_182 rfl ?_
  refine E_iastore (vs' := [(.int (0 : Int32)), (.int (0 : Int32)), (.int (0 : Int32)), (.int (0 : Int32))]) (pc' := 184) X Aa_194 (by decide) (Nat.le_of_ble_eq_true rfl) rfl fr_181 d8_183 rfl (fun T h_199 X W_198 Aa_200 => ?_)
  have K_201 : Keep h0 h_199 [a] := K_195.wr W_198 (Or.inr b_179)
  refine E_iinc (x := (1 : Int32)) (z := (2 : Int32)) (Ls' := #[.val (.ref a), .val (.ref t), .val (.int (2 : Int32)), .val (.int (2 : Int32)), .val (.int (1 : Int32)), .val (.ref r_146), .val (.ref o167), .val (.int (2 : Int32))]) (pc' := 187) X d8_184 rfl rfl rfl rfl ?_
  refine E_goto (pc' := 162) X d8_187 (by decide) rfl ?_
  refine E_iload (pc' := 164) X d8_162 rfl rfl ?_
  refine E_aloadN (v := (.ref a)) (pc' := 165) X d8_164 rfl rfl rfl ?_
  have F_202 : Fld Z h_199 a "com/example/nimble_calculus/nimblecalculus/equivalence/Splits" "nodeCount" "I" (.int (4 : Int32)) := (F_196.other W_198 (Or.inl ne_184))
  refine E_getF (pc' := 168) X (host := "") (Or.inl (w_11 hw)) Via.refl F_202 d8_165 rfl (fun T X => ?_)
  refine E_icmp (pcY := 190) (pcN := 171) X (ic_ge _ _) d8_168 (by decide) rfl rfl (fun hc168_2 => absurd hc168_2 (by decide)) (fun hc168_2 => ?_)
  refine E_aload (v := (.ref o167)) (pc' := 173) X d8_171 rfl rfl rfl ?_
  refine E_iload (pc' := 175) X d8_173 rfl rfl ?_
  refine E_aload (v := (.ref r_146)) (pc' := 177) X d8_175 rfl rfl rfl ?_
  refine E_aload (v := (.ref r_146)) (pc' := 179) X d8_177 rfl rfl rfl ?_
  refine E_iload (pc' := 181) X d8_179 rfl rfl ?_
  have A_203 : Ar Z h_199 r_146 .int [(.int (0 : Int32)), (.int (0 : Int32)), (.int (0 : Int32)), (.int (2 : Int32))] := (A_197.other W_198 ne_188)
  refine E_iaload (v := (.int (0 : Int32))) (pc' := 182) X A_203 (by decide) rfl d8_181 rfl ?_
  refine E_iaload (v := (.int (0 : Int32))) (pc' := 183) X A_203 (by decide) rfl d8_182 rfl ?_
  refine E_iastore (vs' := [(.int (0 : Int32)), (.int (0 : Int32)), (.int (0 : Int32)), (.int (0 : Int32))]) (pc' := 184) X Aa_200 (by decide) (Nat.le_of_ble_eq_true rfl) rfl fr_181 d8_183 rfl (fun T h_205 X W_204 Aa_206 => ?_)
  have K_207 : Keep h0 h_205 [a] := K_201.wr W_204 (Or.inr b_179)
  refine E_iinc (x := (2 : Int32)) (z := (3 : Int32)) (Ls' := #[.val (.ref a), .val (.ref t), .val (.int (2 : Int32)), .val (.int (2 : Int32)), .val (.int (1 : Int32)), .val (.ref r_146), .val (.ref o167), .val (.int (3 : Int32))]) (pc' := 187) X d8_184 rfl rfl rfl rfl ?_
  refine E_goto (pc' := 162) X d8_187 (by decide) rfl ?_
  refine E_iload (pc' := 164) X d8_162 rfl rfl ?_
  refine E_aloadN (v := (.ref a)) (pc' := 165) X d8_164 rfl rfl rfl ?_
  have F_208 : Fld Z h_205 a "com/example/nimble_calculus/nimblecalculus/equivalence/Splits" "nodeCount" "I" (.int (4 : Int32)) := (F_202.other W_204 (Or.inl ne_184))
  refine E_getF (pc' := 168) X (host := "") (Or.inl (w_11 hw)) Via.refl F_208 d8_165 rfl (fun T X => ?_)
  refine E_icmp (pcY := 190) (pcN := 171) X (ic_ge _ _) d8_168 (by decide) rfl rfl (fun hc168_3 => absurd hc168_3 (by decide)) (fun hc168_3 => ?_)
  refine E_aload (v := (.ref o167)) (pc' := 173) X d8_171 rfl rfl rfl ?_
  refine E_iload (pc' := 175) X d8_173 rfl rfl ?_
  refine E_aload (v := (.ref r_146)) (pc' := 177) X d8_175 rfl rfl rfl ?_
  refine E_aload (v := (.ref r_146)) (pc' := 179) X d8_177 rfl rfl rfl ?_
  refine E_iload (pc' := 181) X d8_179 rfl rfl ?_
  have A_209 : Ar Z h_205 r_146 .int [(.int (0 : Int32)), (.int (0 : Int32)), (.int (0 : Int32)), (.int (2 : Int32))] := (A_203.other W_204 ne_188)
  refine E_iaload (v := (.int (2 : Int32))) (pc' := 182) X A_209 (by decide) rfl d8_181 rfl ?_
  refine E_iaload (v := (.int (0 : Int32))) (pc' := 183) X A_209 (by decide) rfl d8_182 rfl ?_
  refine E_iastore (vs' := [(.int (0 : Int32)), (.int (0 : Int32)), (.int (0 : Int32)), (.int (0 : Int32))]) (pc' := 184) X Aa_206 (by decide) (Nat.le_of_ble_eq_true rfl) rfl fr_181 d8_183 rfl (fun T h_211 X W_210 Aa_212 => ?_)
  have K_213 : Keep h0 h_211 [a] := K_207.wr W_210 (Or.inr b_179)
  refine E_iinc (x := (3 : Int32)) (z := (4 : Int32)) (Ls' := #[.val (.ref a), .val (.ref t), .val (.int (2 : Int32)), .val (.int (2 : Int32)), .val (.int (1 : Int32)), .val (.ref r_146), .val (.ref o167), .val (.int (4 : Int32))]) (pc' := 187) X d8_184 rfl rfl rfl rfl ?_
  refine E_goto (pc' := 162) X d8_187 (by decide) rfl ?_
  refine E_iload (pc' := 164) X d8_162 rfl rfl ?_
  refine E_aloadN (v := (.ref a)) (pc' := 165) X d8_164 rfl rfl rfl ?_
  have F_214 : Fld Z h_211 a "com/example/nimble_calculus/nimblecalculus/equivalence/Splits" "nodeCount" "I" (.int (4 : Int32)) := (F_208.other W_210 (Or.inl ne_184))
  refine E_getF (pc' := 168) X (host := "") (Or.inl (w_11 hw)) Via.refl F_214 d8_165 rfl (fun T X => ?_)
  refine E_icmp (pcY := 190) (pcN := 171) X (ic_ge _ _) d8_168 (by decide) rfl rfl (fun hc168_4 => ?_) (fun hc168_4 => absurd (by decide) hc168_4)
  refine E_aloadN (v := (.ref a)) (pc' := 191) X d8_190 rfl rfl rfl ?_
  have F_215 : Fld Z h_211 a "com/example/nimble_calculus/nimblecalculus/equivalence/Splits" "jumps" "[[I" (.ref o108) := (((((F_165.ext Ex_169).other W_192 (Or.inl ne_184)).other W_198 (Or.inl ne_184)).other W_204 (Or.inl ne_184)).other W_210 (Or.inl ne_184))
  refine E_getF (pc' := 194) X (host := "") (Or.inl (w_63 hw)) Via.refl F_215 d8_191 rfl (fun T X => ?_)
  refine E_iload (pc' := 196) X d8_194 rfl rfl ?_
  refine E_aload (v := (.ref o167)) (pc' := 198) X d8_196 rfl rfl rfl ?_
  have A_216 : ArR Z h_211 o108 (.array .int) "[I" [(.ref r_146), .null] := (((((Aa_163.ext Ex_169).other W_192 ne_185).other W_198 ne_185).other W_204 ne_185).other W_210 ne_185)
  have E_217 : Exa Z h_211 o167 "[I" := ((((EaAa_170.wr W_192).wr W_198).wr W_204).wr W_210)
  refine E_aastore (vs' := [(.ref r_146), (.ref o167)]) (pc' := 199) X A_216 (Ins.self E_217) rfl (by decide) (Nat.le_of_ble_eq_true rfl) rfl fr_120 d8_198 rfl (fun T h_219 X W_218 Aa_220 => ?_)
  have K_221 : Keep h0 h_219 [a] := K_213.wr W_218 (Or.inr b_118)
  refine E_iinc (x := (1 : Int32)) (z := (2 : Int32)) (Ls' := #[.val (.ref a), .val (.ref t), .val (.int (2 : Int32)), .val (.int (2 : Int32)), .val (.int (2 : Int32)), .val (.ref r_146), .val (.ref o167), .val (.int (4 : Int32))]) (pc' := 202) X d8_199 rfl rfl rfl rfl ?_
  refine E_goto (pc' := 134) X d8_202 (by decide) rfl ?_
  refine E_iload (pc' := 136) X d8_134 rfl rfl ?_
  refine E_iloadN (pc' := 137) X d8_136 rfl rfl ?_
  refine E_icmp (pcY := 205) (pcN := 140) X (ic_ge _ _) d8_137 (by decide) rfl rfl (fun hc137_1 => ?_) (fun hc137_1 => absurd (by decide) hc137_1)
  have E_222 : Exa Z h_219 a "com/example/nimble_calculus/nimblecalculus/equivalence/Splits" := ((((((E_174.ext Ex_169).wr W_192).wr W_198).wr W_204).wr W_210).wr W_218)
  have F_223 : Fld Z h_219 a "com/example/nimble_calculus/nimblecalculus/equivalence/Splits" "leaf" "[I" (.ref o4) := ((((((((((((((((F_31.other W_34 (Or.inl ne_14)).ext Ex_42).other W_58 (Or.inr (slot_ne (Or.inl (w_53 hw)) (Or.inl (w_55 hw)) (by decide) (t := (.array .int)) (t' := (.array .int)) (by decide) (by decide)))).other W_66 (Or.inl ne_53)).other W_78 (Or.inl ne_53)).other W_90 (Or.inl ne_53)).ext Ex_110).other W_129 (Or.inr (slot_ne (Or.inl (w_53 hw)) (Or.inl (w_64 hw)) (by decide) (t := (.array .int)) (t' := (.array (.array .int))) (by decide) (by decide)))).keep Kc_147 nin0).other W_161 (Or.inl ne_123)).ext Ex_169).other W_192 (Or.inl ne_184)).other W_198 (Or.inl ne_184)).other W_204 (Or.inl ne_184)).other W_210 (Or.inl ne_184)).other W_218 (Or.inl ne_123))
  have F_224 : Fld Z h_219 a "com/example/nimble_calculus/nimblecalculus/equivalence/Splits" "height" "[I" (.ref o40) := ((((((((((F_94.ext Ex_110).other W_129 (Or.inr (slot_ne (Or.inl (w_55 hw)) (Or.inl (w_64 hw)) (by decide) (t := (.array .int)) (t' := (.array (.array .int))) (by decide) (by decide)))).keep Kc_147 nin0).other W_161 (Or.inl ne_123)).ext Ex_169).other W_192 (Or.inl ne_184)).other W_198 (Or.inl ne_184)).other W_204 (Or.inl ne_184)).other W_210 (Or.inl ne_184)).other W_218 (Or.inl ne_123))
  have F_225 : Fld Z h_219 a "com/example/nimble_calculus/nimblecalculus/equivalence/Splits" "jumps" "[[I" (.ref o108) := (F_215.other W_218 (Or.inl ne_123))
  have F_226 : Fld Z h_219 a "com/example/nimble_calculus/nimblecalculus/equivalence/Splits" "parent" "[I" (.ref P) := ((((((((F_133.keep Kc_147 nin0).other W_161 (Or.inl ne_123)).ext Ex_169).other W_192 (Or.inl ne_184)).other W_198 (Or.inl ne_184)).other W_204 (Or.inl ne_184)).other W_210 (Or.inl ne_184)).other W_218 (Or.inl ne_123))
  have F_227 : Fld Z h_219 a "com/example/nimble_calculus/nimblecalculus/equivalence/Splits" "born" "[I" (.ref B) := (((((((((((((((((((hF5.ext Ex_6).other W_18 (Or.inr (slot_ne (Or.inr (w_25 hw)) (Or.inl (w_53 hw)) (by decide) (t := (.array .int)) (t' := (.array .int)) (by decide) (by decide)))).other W_26 (Or.inl ne_14)).other W_34 (Or.inl ne_14)).ext Ex_42).other W_58 (Or.inr (slot_ne (Or.inr (w_25 hw)) (Or.inl (w_55 hw)) (by decide) (t := (.array .int)) (t' := (.array .int)) (by decide) (by decide)))).other W_66 (Or.inl ne_53)).other W_78 (Or.inl ne_53)).other W_90 (Or.inl ne_53)).ext Ex_110).other W_129 (Or.inr (slot_ne (Or.inr (w_25 hw)) (Or.inl (w_64 hw)) (by decide) (t := (.array .int)) (t' := (.array (.array .int))) (by decide) (by decide)))).keep Kc_147 nin0).other W_161 (Or.inl ne_123)).ext Ex_169).other W_192 (Or.inl ne_184)).other W_198 (Or.inl ne_184)).other W_204 (Or.inl ne_184)).other W_210 (Or.inl ne_184)).other W_218 (Or.inl ne_123))
  have F_228 : Fld Z h_219 a "com/example/nimble_calculus/nimblecalculus/equivalence/Splits" "representative" "[I" (.ref RR) := (((((((((((((((((((hF6.ext Ex_6).other W_18 (Or.inr (slot_ne (Or.inr (w_27 hw)) (Or.inl (w_53 hw)) (by decide) (t := (.array .int)) (t' := (.array .int)) (by decide) (by decide)))).other W_26 (Or.inl ne_14)).other W_34 (Or.inl ne_14)).ext Ex_42).other W_58 (Or.inr (slot_ne (Or.inr (w_27 hw)) (Or.inl (w_55 hw)) (by decide) (t := (.array .int)) (t' := (.array .int)) (by decide) (by decide)))).other W_66 (Or.inl ne_53)).other W_78 (Or.inl ne_53)).other W_90 (Or.inl ne_53)).ext Ex_110).other W_129 (Or.inr (slot_ne (Or.inr (w_27 hw)) (Or.inl (w_64 hw)) (by decide) (t := (.array .int)) (t' := (.array (.array .int))) (by decide) (by decide)))).keep Kc_147 nin0).other W_161 (Or.inl ne_123)).ext Ex_169).other W_192 (Or.inl ne_184)).other W_198 (Or.inl ne_184)).other W_204 (Or.inl ne_184)).other W_210 (Or.inl ne_184)).other W_218 (Or.inl ne_123))
  have A_229 : Ar Z h_219 o4 .int [(.int (1 : Int32)), (.int (3 : Int32))] := ((((((A_175.ext Ex_169).other W_192 ne_186).other W_198 ne_186).other W_204 ne_186).other W_210 ne_186).other W_218 ne_124)
  have A_230 : Ar Z h_219 o40 .int [(.int (0 : Int32)), (.int (1 : Int32)), (.int (1 : Int32)), (.int (2 : Int32))] := ((((((A_176.ext Ex_169).other W_192 ne_187).other W_198 ne_187).other W_204 ne_187).other W_210 ne_187).other W_218 ne_125)
  have A_231 : Ar Z h_219 r_146 .int [(.int (0 : Int32)), (.int (0 : Int32)), (.int (0 : Int32)), (.int (2 : Int32))] := ((A_209.other W_210 ne_188).other W_218 (Ne.symm ne_155))
  have A_232 : Ar Z h_219 o167 .int [(.int (0 : Int32)), (.int (0 : Int32)), (.int (0 : Int32)), (.int (0 : Int32))] := (Aa_212.other W_218 (Ne.symm ne_185))
  exact E_ret0 X d8_205 (by decide) (by decide) ⟨o4, o108, o40, r_146, o167, rfl, K_221, b_9, b_118, b_48, (Nat.le_trans K_131.1 nw_148), b_179, E_222, F_223, F_224, F_225, F_226, F_227, F_228, A_229, A_230, Aa_220.ar, A_231, A_232⟩
theorem d15_0 : decode prog_61_method_8_code 0 = .ok (.aload_n 0, 1) := by decide +kernel
theorem d15_1 : decode prog_61_method_8_code 1 = .ok (.getfield 50, 3) := by decide +kernel
theorem d15_4 : decode prog_61_method_8_code 4 = .ok (.iload_n 1, 1) := by decide +kernel
theorem d15_5 : decode prog_61_method_8_code 5 = .ok (.iaload, 1) := by decide +kernel
theorem d15_6 : decode prog_61_method_8_code 6 = .ok (.istore_n 3, 1) := by decide +kernel
theorem d15_7 : decode prog_61_method_8_code 7 = .ok (.aload_n 0, 1) := by decide +kernel
theorem d15_8 : decode prog_61_method_8_code 8 = .ok (.getfield 32, 3) := by decide +kernel
theorem d15_11 : decode prog_61_method_8_code 11 = .ok (.iload_n 3, 1) := by decide +kernel
theorem d15_12 : decode prog_61_method_8_code 12 = .ok (.iaload, 1) := by decide +kernel
theorem d15_13 : decode prog_61_method_8_code 13 = .ok (.iload_n 2, 1) := by decide +kernel
theorem d15_14 : decode prog_61_method_8_code 14 = .ok (.if_icmp .ge 5, 3) := by decide +kernel
theorem d15_19 : decode prog_61_method_8_code 19 = .ok (.aload_n 0, 1) := by decide +kernel
theorem d15_20 : decode prog_61_method_8_code 20 = .ok (.getfield 61, 3) := by decide +kernel
theorem d15_23 : decode prog_61_method_8_code 23 = .ok (.arraylength, 1) := by decide +kernel
theorem d15_24 : decode prog_61_method_8_code 24 = .ok (.iconst 1, 1) := by decide +kernel
theorem d15_25 : decode prog_61_method_8_code 25 = .ok (.isub, 1) := by decide +kernel
theorem d15_26 : decode prog_61_method_8_code 26 = .ok (.istore 4, 2) := by decide +kernel
theorem d15_28 : decode prog_61_method_8_code 28 = .ok (.iload 4, 2) := by decide +kernel
theorem d15_30 : decode prog_61_method_8_code 30 = .ok (.ifCond .lt 34, 3) := by decide +kernel
theorem d15_33 : decode prog_61_method_8_code 33 = .ok (.aload_n 0, 1) := by decide +kernel
theorem d15_34 : decode prog_61_method_8_code 34 = .ok (.getfield 61, 3) := by decide +kernel
theorem d15_37 : decode prog_61_method_8_code 37 = .ok (.iload 4, 2) := by decide +kernel
theorem d15_39 : decode prog_61_method_8_code 39 = .ok (.aaload, 1) := by decide +kernel
theorem d15_40 : decode prog_61_method_8_code 40 = .ok (.iload_n 3, 1) := by decide +kernel
theorem d15_41 : decode prog_61_method_8_code 41 = .ok (.iaload, 1) := by decide +kernel
theorem d15_42 : decode prog_61_method_8_code 42 = .ok (.istore 5, 2) := by decide +kernel
theorem d15_44 : decode prog_61_method_8_code 44 = .ok (.aload_n 0, 1) := by decide +kernel
theorem d15_45 : decode prog_61_method_8_code 45 = .ok (.getfield 32, 3) := by decide +kernel
theorem d15_48 : decode prog_61_method_8_code 48 = .ok (.iload 5, 2) := by decide +kernel
theorem d15_50 : decode prog_61_method_8_code 50 = .ok (.iaload, 1) := by decide +kernel
theorem d15_51 : decode prog_61_method_8_code 51 = .ok (.iload_n 2, 1) := by decide +kernel
theorem d15_52 : decode prog_61_method_8_code 52 = .ok (.if_icmp .lt 6, 3) := by decide +kernel
theorem d15_58 : decode prog_61_method_8_code 58 = .ok (.iinc 4 (-1), 3) := by decide +kernel
theorem d15_61 : decode prog_61_method_8_code 61 = .ok (.goto (-33), 3) := by decide +kernel
theorem d15_64 : decode prog_61_method_8_code 64 = .ok (.aload_n 0, 1) := by decide +kernel
theorem d15_65 : decode prog_61_method_8_code 65 = .ok (.getfield 28, 3) := by decide +kernel
theorem d15_68 : decode prog_61_method_8_code 68 = .ok (.iload_n 3, 1) := by decide +kernel
theorem d15_69 : decode prog_61_method_8_code 69 = .ok (.iaload, 1) := by decide +kernel
theorem d15_70 : decode prog_61_method_8_code 70 = .ok (.ireturn, 1) := by decide +kernel
theorem ef_rm_bb0 (m : MethodId) (x0 : Addr) (x1 : Int32) (x2 : Int32) : entryFrame m #[(.ref x0), (.int x1), (.int x2)] 6 = mkF m 0 #[.val (.ref x0), .val (.int x1), .val (.int x2), .unset, .unset, .unset] [] := by first | (simp [entryFrame, mkF, argsToLocals, Value.category]; done) | (simp [entryFrame, mkF, argsToLocals, *]; done) | rfl
set_option maxRecDepth 65536 in
set_option maxHeartbeats 2000000 in
theorem rm_bb0 (l : Launch) (Z : State) (a0 : Array Value) (hw : ∀ d ∈ tables_1, d.before a0 Z = true) (a : Addr) (lf : Addr) (jp : Addr) (P : Addr) (B : Addr) (j0 : Addr) (j1 : Addr) (h0 : Heap) (hE : Ext Z.heap h0) (hF0 : Fld Z h0 a "com/example/nimble_calculus/nimblecalculus/equivalence/Splits" "leaf" "[I" (.ref lf)) (hF1 : Fld Z h0 a "com/example/nimble_calculus/nimblecalculus/equivalence/Splits" "jumps" "[[I" (.ref jp)) (hF2 : Fld Z h0 a "com/example/nimble_calculus/nimblecalculus/equivalence/Splits" "parent" "[I" (.ref P)) (hF3 : Fld Z h0 a "com/example/nimble_calculus/nimblecalculus/equivalence/Splits" "born" "[I" (.ref B)) (hA4 : Ar Z h0 P .int [(.int (0 : Int32)), (.int (0 : Int32)), (.int (0 : Int32)), (.int (2 : Int32)), (.int (0 : Int32)), (.int (0 : Int32)), (.int (0 : Int32))]) (hA5 : Ar Z h0 B .int [(.int (0 : Int32)), (.int (1 : Int32)), (.int (1 : Int32)), (.int (2 : Int32)), (.int (0 : Int32)), (.int (0 : Int32)), (.int (0 : Int32))]) (hA6 : Ar Z h0 lf .int [(.int (1 : Int32)), (.int (3 : Int32))]) (hA7 : Ar Z h0 jp (.array .int) [(.ref j0), (.ref j1)]) (hA8 : Ar Z h0 j0 .int [(.int (0 : Int32)), (.int (0 : Int32)), (.int (0 : Int32)), (.int (2 : Int32))]) (hA9 : Ar Z h0 j1 .int [(.int (0 : Int32)), (.int (0 : Int32)), (.int (0 : Int32)), (.int (0 : Int32))]) :
    Con l Z (⟨"com/example/nimble_calculus/nimblecalculus/equivalence/Splits", "blockBefore", "(II)I"⟩ : MethodName) prog_61_method_8_code 6 (some .int) ({ frames := 0, cells := 0, slots := 0, locals := 0 } : Room) #[(.ref a), (.int (1 : Int32)), (.int (2 : Int32))] h0 (fun vv hh => vv = some (.int (2 : Int32)) ∧ h0 = hh) := by
  refine Con.of (plainFor_of_name (by first | (simp [plainName, overriddenIn]; done) | decide +kernel)) hE ?_
  intro p e s m below T (X : Sd l Z "com/example/nimble_calculus/nimblecalculus/equivalence/Splits" "blockBefore" prog_61_method_8_code 6 (some .int) ({ frames := 0, cells := 0, slots := 0, locals := 0 } : Room) p e s m #[(.ref a), (.int (1 : Int32)), (.int (2 : Int32))] below T h0 0 0)
  refine End.frame (ef_rm_bb0 m a (1 : Int32) (2 : Int32)) ?_
  show End Z p e below s _ _ _ _ (mkF m 0 #[.val (.ref a), .val (.int (1 : Int32)), .val (.int (2 : Int32)), .unset, .unset, .unset] [])
  refine E_aloadN (v := (.ref a)) (pc' := 1) X d15_0 rfl rfl rfl ?_
  refine E_getF (pc' := 4) X (host := "") (Or.inl (w_52 hw)) Via.refl hF0 d15_1 rfl (fun T X => ?_)
  refine E_iloadN (pc' := 5) X d15_4 rfl rfl ?_
  refine E_iaload (v := (.int (3 : Int32))) (pc' := 6) X hA6 (by decide) rfl d15_5 rfl ?_
  refine E_istoreN (Ls' := #[.val (.ref a), .val (.int (1 : Int32)), .val (.int (2 : Int32)), .val (.int (3 : Int32)), .unset, .unset]) (pc' := 7) X d15_6 rfl rfl ?_
  refine E_aloadN (v := (.ref a)) (pc' := 8) X d15_7 rfl rfl rfl ?_
  refine E_getF (pc' := 11) X (host := "") (Or.inl (w_24 hw)) Via.refl hF3 d15_8 rfl (fun T X => ?_)
  refine E_iloadN (pc' := 12) X d15_11 rfl rfl ?_
  refine E_iaload (v := (.int (2 : Int32))) (pc' := 13) X hA5 (by decide) rfl d15_12 rfl ?_
  refine E_iloadN (pc' := 14) X d15_13 rfl rfl ?_
  refine E_icmp (pcY := 19) (pcN := 17) X (ic_ge _ _) d15_14 (by decide) rfl rfl (fun hc14_0 => ?_) (fun hc14_0 => absurd (by decide) hc14_0)
  refine E_aloadN (v := (.ref a)) (pc' := 20) X d15_19 rfl rfl rfl ?_
  refine E_getF (pc' := 23) X (host := "") (Or.inl (w_63 hw)) Via.refl hF1 d15_20 rfl (fun T X => ?_)
  refine E_alen (n := (2 : Int32)) (pc' := 24) X hA7 rfl d15_23 rfl ?_
  refine E_iconst (v := (1 : Int32)) (pc' := 25) X d15_24 rfl rfl ?_
  refine E_isub (pc' := 26) X d15_25 rfl ?_
  refine E_eqI (z := (1 : Int32)) (by decide) ?_
  refine E_istore (Ls' := #[.val (.ref a), .val (.int (1 : Int32)), .val (.int (2 : Int32)), .val (.int (3 : Int32)), .val (.int (1 : Int32)), .unset]) (pc' := 28) X d15_26 rfl rfl ?_
  refine E_iload (pc' := 30) X d15_28 rfl rfl ?_
  refine E_if (pcY := 64) (pcN := 33) X (i0_lt _) d15_30 (by decide) rfl rfl (fun hc30_0 => absurd hc30_0 (by decide)) (fun hc30_0 => ?_)
  refine E_aloadN (v := (.ref a)) (pc' := 34) X d15_33 rfl rfl rfl ?_
  refine E_getF (pc' := 37) X (host := "") (Or.inl (w_63 hw)) Via.refl hF1 d15_34 rfl (fun T X => ?_)
  refine E_iload (pc' := 39) X d15_37 rfl rfl ?_
  refine E_aaload (v := (.ref j1)) (pc' := 40) X hA7 rfl (by decide) rfl d15_39 rfl ?_
  refine E_iloadN (pc' := 41) X d15_40 rfl rfl ?_
  refine E_iaload (v := (.int (0 : Int32))) (pc' := 42) X hA9 (by decide) rfl d15_41 rfl ?_
  refine E_istore (Ls' := #[.val (.ref a), .val (.int (1 : Int32)), .val (.int (2 : Int32)), .val (.int (3 : Int32)), .val (.int (1 : Int32)), .val (.int (0 : Int32))]) (pc' := 44) X d15_42 rfl rfl ?_
  refine E_aloadN (v := (.ref a)) (pc' := 45) X d15_44 rfl rfl rfl ?_
  refine E_getF (pc' := 48) X (host := "") (Or.inl (w_24 hw)) Via.refl hF3 d15_45 rfl (fun T X => ?_)
  refine E_iload (pc' := 50) X d15_48 rfl rfl ?_
  refine E_iaload (v := (.int (0 : Int32))) (pc' := 51) X hA5 (by decide) rfl d15_50 rfl ?_
  refine E_iloadN (pc' := 52) X d15_51 rfl rfl ?_
  refine E_icmp (pcY := 58) (pcN := 55) X (ic_lt _ _) d15_52 (by decide) rfl rfl (fun hc52_0 => ?_) (fun hc52_0 => absurd (by decide) hc52_0)
  refine E_iinc (x := (1 : Int32)) (z := (0 : Int32)) (Ls' := #[.val (.ref a), .val (.int (1 : Int32)), .val (.int (2 : Int32)), .val (.int (3 : Int32)), .val (.int (0 : Int32)), .val (.int (0 : Int32))]) (pc' := 61) X d15_58 rfl rfl rfl rfl ?_
  refine E_goto (pc' := 28) X d15_61 (by decide) rfl ?_
  refine E_iload (pc' := 30) X d15_28 rfl rfl ?_
  refine E_if (pcY := 64) (pcN := 33) X (i0_lt _) d15_30 (by decide) rfl rfl (fun hc30_1 => absurd hc30_1 (by decide)) (fun hc30_1 => ?_)
  refine E_aloadN (v := (.ref a)) (pc' := 34) X d15_33 rfl rfl rfl ?_
  refine E_getF (pc' := 37) X (host := "") (Or.inl (w_63 hw)) Via.refl hF1 d15_34 rfl (fun T X => ?_)
  refine E_iload (pc' := 39) X d15_37 rfl rfl ?_
  refine E_aaload (v := (.ref j0)) (pc' := 40) X hA7 rfl (by decide) rfl d15_39 rfl ?_
  refine E_iloadN (pc' := 41) X d15_40 rfl rfl ?_
  refine E_iaload (v := (.int (2 : Int32))) (pc' := 42) X hA8 (by decide) rfl d15_41 rfl ?_
  refine E_istore (Ls' := #[.val (.ref a), .val (.int (1 : Int32)), .val (.int (2 : Int32)), .val (.int (3 : Int32)), .val (.int (0 : Int32)), .val (.int (2 : Int32))]) (pc' := 44) X d15_42 rfl rfl ?_
  refine E_aloadN (v := (.ref a)) (pc' := 45) X d15_44 rfl rfl rfl ?_
  refine E_getF (pc' := 48) X (host := "") (Or.inl (w_24 hw)) Via.refl hF3 d15_45 rfl (fun T X => ?_)
  refine E_iload (pc' := 50) X d15_48 rfl rfl ?_
  refine E_iaload (v := (.int (1 : Int32))) (pc' := 51) X hA5 (by decide) rfl d15_50 rfl ?_
  refine E_iloadN (pc' := 52) X d15_51 rfl rfl ?_
  refine E_icmp (pcY := 58) (pcN := 55) X (ic_lt _ _) d15_52 (by decide) rfl rfl (fun hc52_1 => ?_) (fun hc52_1 => absurd (by decide) hc52_1)
  refine E_iinc (x := (0 : Int32)) (z := (-1 : Int32)) (Ls' := #[.val (.ref a), .val (.int (1 : Int32)), .val (.int (2 : Int32)), .val (.int (3 : Int32)), .val (.int (-1 : Int32)), .val (.int (2 : Int32))]) (pc' := 61) X d15_58 rfl rfl rfl rfl ?_
  refine E_goto (pc' := 28) X d15_61 (by decide) rfl ?_
  refine E_iload (pc' := 30) X d15_28 rfl rfl ?_
  refine E_if (pcY := 64) (pcN := 33) X (i0_lt _) d15_30 (by decide) rfl rfl (fun hc30_2 => ?_) (fun hc30_2 => absurd (by decide) hc30_2)
  refine E_aloadN (v := (.ref a)) (pc' := 65) X d15_64 rfl rfl rfl ?_
  refine E_getF (pc' := 68) X (host := "") (Or.inl (w_22 hw)) Via.refl hF2 d15_65 rfl (fun T X => ?_)
  refine E_iloadN (pc' := 69) X d15_68 rfl rfl ?_
  refine E_iaload (v := (.int (2 : Int32))) (pc' := 70) X hA4 (by decide) rfl d15_69 rfl ?_
  exact E_retI X d15_70 (by decide) (by decide) ⟨rfl, rfl⟩
theorem d16_0 : decode prog_61_method_9_code 0 = .ok (.iload_n 1, 1) := by decide +kernel
theorem d16_1 : decode prog_61_method_9_code 1 = .ok (.istore_n 3, 1) := by decide +kernel
theorem d16_2 : decode prog_61_method_9_code 2 = .ok (.iload_n 2, 1) := by decide +kernel
theorem d16_3 : decode prog_61_method_9_code 3 = .ok (.istore 4, 2) := by decide +kernel
theorem d16_5 : decode prog_61_method_9_code 5 = .ok (.aload_n 0, 1) := by decide +kernel
theorem d16_6 : decode prog_61_method_9_code 6 = .ok (.getfield 61, 3) := by decide +kernel
theorem d16_9 : decode prog_61_method_9_code 9 = .ok (.arraylength, 1) := by decide +kernel
theorem d16_10 : decode prog_61_method_9_code 10 = .ok (.iconst 1, 1) := by decide +kernel
theorem d16_11 : decode prog_61_method_9_code 11 = .ok (.isub, 1) := by decide +kernel
theorem d16_12 : decode prog_61_method_9_code 12 = .ok (.istore 5, 2) := by decide +kernel
theorem d16_14 : decode prog_61_method_9_code 14 = .ok (.iload 5, 2) := by decide +kernel
theorem d16_16 : decode prog_61_method_9_code 16 = .ok (.ifCond .lt 73, 3) := by decide +kernel
theorem d16_19 : decode prog_61_method_9_code 19 = .ok (.aload_n 0, 1) := by decide +kernel
theorem d16_20 : decode prog_61_method_9_code 20 = .ok (.getfield 53, 3) := by decide +kernel
theorem d16_23 : decode prog_61_method_9_code 23 = .ok (.iload_n 3, 1) := by decide +kernel
theorem d16_24 : decode prog_61_method_9_code 24 = .ok (.iaload, 1) := by decide +kernel
theorem d16_25 : decode prog_61_method_9_code 25 = .ok (.iconst 1, 1) := by decide +kernel
theorem d16_26 : decode prog_61_method_9_code 26 = .ok (.iload 5, 2) := by decide +kernel
theorem d16_28 : decode prog_61_method_9_code 28 = .ok (.ishl, 1) := by decide +kernel
theorem d16_29 : decode prog_61_method_9_code 29 = .ok (.isub, 1) := by decide +kernel
theorem d16_30 : decode prog_61_method_9_code 30 = .ok (.aload_n 0, 1) := by decide +kernel
theorem d16_31 : decode prog_61_method_9_code 31 = .ok (.getfield 53, 3) := by decide +kernel
theorem d16_34 : decode prog_61_method_9_code 34 = .ok (.iload 4, 2) := by decide +kernel
theorem d16_36 : decode prog_61_method_9_code 36 = .ok (.iaload, 1) := by decide +kernel
theorem d16_37 : decode prog_61_method_9_code 37 = .ok (.if_icmp .lt 13, 3) := by decide +kernel
theorem d16_50 : decode prog_61_method_9_code 50 = .ok (.aload_n 0, 1) := by decide +kernel
theorem d16_51 : decode prog_61_method_9_code 51 = .ok (.getfield 53, 3) := by decide +kernel
theorem d16_54 : decode prog_61_method_9_code 54 = .ok (.iload 4, 2) := by decide +kernel
theorem d16_56 : decode prog_61_method_9_code 56 = .ok (.iaload, 1) := by decide +kernel
theorem d16_57 : decode prog_61_method_9_code 57 = .ok (.iconst 1, 1) := by decide +kernel
theorem d16_58 : decode prog_61_method_9_code 58 = .ok (.iload 5, 2) := by decide +kernel
theorem d16_60 : decode prog_61_method_9_code 60 = .ok (.ishl, 1) := by decide +kernel
theorem d16_61 : decode prog_61_method_9_code 61 = .ok (.isub, 1) := by decide +kernel
theorem d16_62 : decode prog_61_method_9_code 62 = .ok (.aload_n 0, 1) := by decide +kernel
theorem d16_63 : decode prog_61_method_9_code 63 = .ok (.getfield 53, 3) := by decide +kernel
theorem d16_66 : decode prog_61_method_9_code 66 = .ok (.iload_n 3, 1) := by decide +kernel
theorem d16_67 : decode prog_61_method_9_code 67 = .ok (.iaload, 1) := by decide +kernel
theorem d16_68 : decode prog_61_method_9_code 68 = .ok (.if_icmp .lt 15, 3) := by decide +kernel
theorem d16_71 : decode prog_61_method_9_code 71 = .ok (.aload_n 0, 1) := by decide +kernel
theorem d16_72 : decode prog_61_method_9_code 72 = .ok (.getfield 61, 3) := by decide +kernel
theorem d16_75 : decode prog_61_method_9_code 75 = .ok (.iload 5, 2) := by decide +kernel
theorem d16_77 : decode prog_61_method_9_code 77 = .ok (.aaload, 1) := by decide +kernel
theorem d16_78 : decode prog_61_method_9_code 78 = .ok (.iload 4, 2) := by decide +kernel
theorem d16_80 : decode prog_61_method_9_code 80 = .ok (.iaload, 1) := by decide +kernel
theorem d16_81 : decode prog_61_method_9_code 81 = .ok (.istore 4, 2) := by decide +kernel
theorem d16_83 : decode prog_61_method_9_code 83 = .ok (.iinc 5 (-1), 3) := by decide +kernel
theorem d16_86 : decode prog_61_method_9_code 86 = .ok (.goto (-72), 3) := by decide +kernel
theorem d16_89 : decode prog_61_method_9_code 89 = .ok (.iload_n 3, 1) := by decide +kernel
theorem d16_90 : decode prog_61_method_9_code 90 = .ok (.iload 4, 2) := by decide +kernel
theorem d16_92 : decode prog_61_method_9_code 92 = .ok (.if_icmp .ne 18, 3) := by decide +kernel
theorem d16_110 : decode prog_61_method_9_code 110 = .ok (.aload_n 0, 1) := by decide +kernel
theorem d16_111 : decode prog_61_method_9_code 111 = .ok (.getfield 61, 3) := by decide +kernel
theorem d16_114 : decode prog_61_method_9_code 114 = .ok (.arraylength, 1) := by decide +kernel
theorem d16_115 : decode prog_61_method_9_code 115 = .ok (.iconst 1, 1) := by decide +kernel
theorem d16_116 : decode prog_61_method_9_code 116 = .ok (.isub, 1) := by decide +kernel
theorem d16_117 : decode prog_61_method_9_code 117 = .ok (.istore 5, 2) := by decide +kernel
theorem d16_119 : decode prog_61_method_9_code 119 = .ok (.iload 5, 2) := by decide +kernel
theorem d16_121 : decode prog_61_method_9_code 121 = .ok (.ifCond .lt 53, 3) := by decide +kernel
theorem d16_124 : decode prog_61_method_9_code 124 = .ok (.aload_n 0, 1) := by decide +kernel
theorem d16_125 : decode prog_61_method_9_code 125 = .ok (.getfield 61, 3) := by decide +kernel
theorem d16_128 : decode prog_61_method_9_code 128 = .ok (.iload 5, 2) := by decide +kernel
theorem d16_130 : decode prog_61_method_9_code 130 = .ok (.aaload, 1) := by decide +kernel
theorem d16_131 : decode prog_61_method_9_code 131 = .ok (.iload_n 3, 1) := by decide +kernel
theorem d16_132 : decode prog_61_method_9_code 132 = .ok (.iaload, 1) := by decide +kernel
theorem d16_133 : decode prog_61_method_9_code 133 = .ok (.aload_n 0, 1) := by decide +kernel
theorem d16_134 : decode prog_61_method_9_code 134 = .ok (.getfield 61, 3) := by decide +kernel
theorem d16_137 : decode prog_61_method_9_code 137 = .ok (.iload 5, 2) := by decide +kernel
theorem d16_139 : decode prog_61_method_9_code 139 = .ok (.aaload, 1) := by decide +kernel
theorem d16_140 : decode prog_61_method_9_code 140 = .ok (.iload 4, 2) := by decide +kernel
theorem d16_142 : decode prog_61_method_9_code 142 = .ok (.iaload, 1) := by decide +kernel
theorem d16_143 : decode prog_61_method_9_code 143 = .ok (.if_icmp .eq 25, 3) := by decide +kernel
theorem d16_168 : decode prog_61_method_9_code 168 = .ok (.iinc 5 (-1), 3) := by decide +kernel
theorem d16_171 : decode prog_61_method_9_code 171 = .ok (.goto (-52), 3) := by decide +kernel
theorem d16_174 : decode prog_61_method_9_code 174 = .ok (.iload_n 3, 1) := by decide +kernel
theorem d16_175 : decode prog_61_method_9_code 175 = .ok (.iload 4, 2) := by decide +kernel
theorem d16_177 : decode prog_61_method_9_code 177 = .ok (.invokestatic 80, 3) := by decide +kernel
theorem d16_180 : decode prog_61_method_9_code 180 = .ok (.lreturn, 1) := by decide +kernel
theorem pd_4 : parseMethodDescriptor "(II)J" = some ⟨[.int, .int], some .long⟩ := by decide +kernel
theorem ef_rm_ca0 (m : MethodId) (x0 : Addr) (x1 : Int32) (x2 : Int32) : entryFrame m #[(.ref x0), (.int x1), (.int x2)] 6 = mkF m 0 #[.val (.ref x0), .val (.int x1), .val (.int x2), .unset, .unset, .unset] [] := by first | (simp [entryFrame, mkF, argsToLocals, Value.category]; done) | (simp [entryFrame, mkF, argsToLocals, *]; done) | rfl
set_option maxRecDepth 65536 in
set_option maxHeartbeats 2000000 in
theorem rm_ca0 (l : Launch) (Z : State) (a0 : Array Value) (hw : ∀ d ∈ tables_1, d.before a0 Z = true) (a : Addr) (hg : Addr) (jp : Addr) (j0 : Addr) (j1 : Addr) (h0 : Heap) (hE : Ext Z.heap h0) (hF0 : Fld Z h0 a "com/example/nimble_calculus/nimblecalculus/equivalence/Splits" "jumps" "[[I" (.ref jp)) (hF1 : Fld Z h0 a "com/example/nimble_calculus/nimblecalculus/equivalence/Splits" "height" "[I" (.ref hg)) (hA2 : Ar Z h0 hg .int [(.int (0 : Int32)), (.int (1 : Int32)), (.int (1 : Int32)), (.int (2 : Int32))]) (hA3 : Ar Z h0 jp (.array .int) [(.ref j0), (.ref j1)]) (hA4 : Ar Z h0 j0 .int [(.int (0 : Int32)), (.int (0 : Int32)), (.int (0 : Int32)), (.int (2 : Int32))]) (hA5 : Ar Z h0 j1 .int [(.int (0 : Int32)), (.int (0 : Int32)), (.int (0 : Int32)), (.int (0 : Int32))]) :
    Con l Z (⟨"com/example/nimble_calculus/nimblecalculus/equivalence/Splits", "childrenApart", "(II)J"⟩ : MethodName) prog_61_method_9_code 6 (some .long) ({ frames := 1, cells := 0, slots := 0, locals := 13 } : Room) #[(.ref a), (.int (1 : Int32)), (.int (3 : Int32))] h0 (fun vv hh => vv = some (.long (4294967298 : Int64)) ∧ h0 = hh) := by
  refine Con.of (plainFor_of_name (by first | (simp [plainName, overriddenIn]; done) | decide +kernel)) hE ?_
  intro p e s m below T (X : Sd l Z "com/example/nimble_calculus/nimblecalculus/equivalence/Splits" "childrenApart" prog_61_method_9_code 6 (some .long) ({ frames := 1, cells := 0, slots := 0, locals := 13 } : Room) p e s m #[(.ref a), (.int (1 : Int32)), (.int (3 : Int32))] below T h0 0 0)
  refine End.frame (ef_rm_ca0 m a (1 : Int32) (3 : Int32)) ?_
  show End Z p e below s _ _ _ _ (mkF m 0 #[.val (.ref a), .val (.int (1 : Int32)), .val (.int (3 : Int32)), .unset, .unset, .unset] [])
  refine E_iloadN (pc' := 1) X d16_0 rfl rfl ?_
  refine E_istoreN (Ls' := #[.val (.ref a), .val (.int (1 : Int32)), .val (.int (3 : Int32)), .val (.int (1 : Int32)), .unset, .unset]) (pc' := 2) X d16_1 rfl rfl ?_
  refine E_iloadN (pc' := 3) X d16_2 rfl rfl ?_
  refine E_istore (Ls' := #[.val (.ref a), .val (.int (1 : Int32)), .val (.int (3 : Int32)), .val (.int (1 : Int32)), .val (.int (3 : Int32)), .unset]) (pc' := 5) X d16_3 rfl rfl ?_
  refine E_aloadN (v := (.ref a)) (pc' := 6) X d16_5 rfl rfl rfl ?_
  refine E_getF (pc' := 9) X (host := "") (Or.inl (w_63 hw)) Via.refl hF0 d16_6 rfl (fun T X => ?_)
  refine E_alen (n := (2 : Int32)) (pc' := 10) X hA3 rfl d16_9 rfl ?_
  refine E_iconst (v := (1 : Int32)) (pc' := 11) X d16_10 rfl rfl ?_
  refine E_isub (pc' := 12) X d16_11 rfl ?_
  refine E_eqI (z := (1 : Int32)) (by decide) ?_
  refine E_istore (Ls' := #[.val (.ref a), .val (.int (1 : Int32)), .val (.int (3 : Int32)), .val (.int (1 : Int32)), .val (.int (3 : Int32)), .val (.int (1 : Int32))]) (pc' := 14) X d16_12 rfl rfl ?_
  refine E_iload (pc' := 16) X d16_14 rfl rfl ?_
  refine E_if (pcY := 89) (pcN := 19) X (i0_lt _) d16_16 (by decide) rfl rfl (fun hc16_0 => absurd hc16_0 (by decide)) (fun hc16_0 => ?_)
  refine E_aloadN (v := (.ref a)) (pc' := 20) X d16_19 rfl rfl rfl ?_
  refine E_getF (pc' := 23) X (host := "") (Or.inl (w_54 hw)) Via.refl hF1 d16_20 rfl (fun T X => ?_)
  refine E_iloadN (pc' := 24) X d16_23 rfl rfl ?_
  refine E_iaload (v := (.int (1 : Int32))) (pc' := 25) X hA2 (by decide) rfl d16_24 rfl ?_
  refine E_iconst (v := (1 : Int32)) (pc' := 26) X d16_25 rfl rfl ?_
  refine E_iload (pc' := 28) X d16_26 rfl rfl ?_
  refine E_ishl (pc' := 29) X d16_28 rfl ?_
  refine E_eqI (z := (2 : Int32)) (by decide) ?_
  refine E_isub (pc' := 30) X d16_29 rfl ?_
  refine E_eqI (z := (-1 : Int32)) (by decide) ?_
  refine E_aloadN (v := (.ref a)) (pc' := 31) X d16_30 rfl rfl rfl ?_
  refine E_getF (pc' := 34) X (host := "") (Or.inl (w_54 hw)) Via.refl hF1 d16_31 rfl (fun T X => ?_)
  refine E_iload (pc' := 36) X d16_34 rfl rfl ?_
  refine E_iaload (v := (.int (2 : Int32))) (pc' := 37) X hA2 (by decide) rfl d16_36 rfl ?_
  refine E_icmp (pcY := 50) (pcN := 40) X (ic_lt _ _) d16_37 (by decide) rfl rfl (fun hc37_0 => ?_) (fun hc37_0 => absurd (by decide) hc37_0)
  refine E_aloadN (v := (.ref a)) (pc' := 51) X d16_50 rfl rfl rfl ?_
  refine E_getF (pc' := 54) X (host := "") (Or.inl (w_54 hw)) Via.refl hF1 d16_51 rfl (fun T X => ?_)
  refine E_iload (pc' := 56) X d16_54 rfl rfl ?_
  refine E_iaload (v := (.int (2 : Int32))) (pc' := 57) X hA2 (by decide) rfl d16_56 rfl ?_
  refine E_iconst (v := (1 : Int32)) (pc' := 58) X d16_57 rfl rfl ?_
  refine E_iload (pc' := 60) X d16_58 rfl rfl ?_
  refine E_ishl (pc' := 61) X d16_60 rfl ?_
  refine E_eqI (z := (2 : Int32)) (by decide) ?_
  refine E_isub (pc' := 62) X d16_61 rfl ?_
  refine E_eqI (z := (0 : Int32)) (by decide) ?_
  refine E_aloadN (v := (.ref a)) (pc' := 63) X d16_62 rfl rfl rfl ?_
  refine E_getF (pc' := 66) X (host := "") (Or.inl (w_54 hw)) Via.refl hF1 d16_63 rfl (fun T X => ?_)
  refine E_iloadN (pc' := 67) X d16_66 rfl rfl ?_
  refine E_iaload (v := (.int (1 : Int32))) (pc' := 68) X hA2 (by decide) rfl d16_67 rfl ?_
  refine E_icmp (pcY := 83) (pcN := 71) X (ic_lt _ _) d16_68 (by decide) rfl rfl (fun hc68_0 => ?_) (fun hc68_0 => absurd (by decide) hc68_0)
  refine E_iinc (x := (1 : Int32)) (z := (0 : Int32)) (Ls' := #[.val (.ref a), .val (.int (1 : Int32)), .val (.int (3 : Int32)), .val (.int (1 : Int32)), .val (.int (3 : Int32)), .val (.int (0 : Int32))]) (pc' := 86) X d16_83 rfl rfl rfl rfl ?_
  refine E_goto (pc' := 14) X d16_86 (by decide) rfl ?_
  refine E_iload (pc' := 16) X d16_14 rfl rfl ?_
  refine E_if (pcY := 89) (pcN := 19) X (i0_lt _) d16_16 (by decide) rfl rfl (fun hc16_1 => absurd hc16_1 (by decide)) (fun hc16_1 => ?_)
  refine E_aloadN (v := (.ref a)) (pc' := 20) X d16_19 rfl rfl rfl ?_
  refine E_getF (pc' := 23) X (host := "") (Or.inl (w_54 hw)) Via.refl hF1 d16_20 rfl (fun T X => ?_)
  refine E_iloadN (pc' := 24) X d16_23 rfl rfl ?_
  refine E_iaload (v := (.int (1 : Int32))) (pc' := 25) X hA2 (by decide) rfl d16_24 rfl ?_
  refine E_iconst (v := (1 : Int32)) (pc' := 26) X d16_25 rfl rfl ?_
  refine E_iload (pc' := 28) X d16_26 rfl rfl ?_
  refine E_ishl (pc' := 29) X d16_28 rfl ?_
  refine E_eqI (z := (1 : Int32)) (by decide) ?_
  refine E_isub (pc' := 30) X d16_29 rfl ?_
  refine E_eqI (z := (0 : Int32)) (by decide) ?_
  refine E_aloadN (v := (.ref a)) (pc' := 31) X d16_30 rfl rfl rfl ?_
  refine E_getF (pc' := 34) X (host := "") (Or.inl (w_54 hw)) Via.refl hF1 d16_31 rfl (fun T X => ?_)
  refine E_iload (pc' := 36) X d16_34 rfl rfl ?_
  refine E_iaload (v := (.int (2 : Int32))) (pc' := 37) X hA2 (by decide) rfl d16_36 rfl ?_
  refine E_icmp (pcY := 50) (pcN := 40) X (ic_lt _ _) d16_37 (by decide) rfl rfl (fun hc37_1 => ?_) (fun hc37_1 => absurd (by decide) hc37_1)
  refine E_aloadN (v := (.ref a)) (pc' := 51) X d16_50 rfl rfl rfl ?_
  refine E_getF (pc' := 54) X (host := "") (Or.inl (w_54 hw)) Via.refl hF1 d16_51 rfl (fun T X => ?_)
  refine E_iload (pc' := 56) X d16_54 rfl rfl ?_
  refine E_iaload (v := (.int (2 : Int32))) (pc' := 57) X hA2 (by decide) rfl d16_56 rfl ?_
  refine E_iconst (v := (1 : Int32)) (pc' := 58) X d16_57 rfl rfl ?_
  refine E_iload (pc' := 60) X d16_58 rfl rfl ?_
  refine E_ishl (pc' := 61) X d16_60 rfl ?_
  refine E_eqI (z := (1 : Int32)) (by decide) ?_
  refine E_isub (pc' := 62) X d16_61 rfl ?_
  refine E_eqI (z := (1 : Int32)) (by decide) ?_
  refine E_aloadN (v := (.ref a)) (pc' := 63) X d16_62 rfl rfl rfl ?_
  refine E_getF (pc' := 66) X (host := "") (Or.inl (w_54 hw)) Via.refl hF1 d16_63 rfl (fun T X => ?_)
  refine E_iloadN (pc' := 67) X d16_66 rfl rfl ?_
  refine E_iaload (v := (.int (1 : Int32))) (pc' := 68) X hA2 (by decide) rfl d16_67 rfl ?_
  refine E_icmp (pcY := 83) (pcN := 71) X (ic_lt _ _) d16_68 (by decide) rfl rfl (fun hc68_1 => absurd hc68_1 (by decide)) (fun hc68_1 => ?_)
  refine E_aloadN (v := (.ref a)) (pc' := 72) X d16_71 rfl rfl rfl ?_
  refine E_getF (pc' := 75) X (host := "") (Or.inl (w_63 hw)) Via.refl hF0 d16_72 rfl (fun T X => ?_)
  refine E_iload (pc' := 77) X d16_75 rfl rfl ?_
  refine E_aaload (v := (.ref j0)) (pc' := 78) X hA3 rfl (by decide) rfl d16_77 rfl ?_
  refine E_iload (pc' := 80) X d16_78 rfl rfl ?_
  refine E_iaload (v := (.int (2 : Int32))) (pc' := 81) X hA4 (by decide) rfl d16_80 rfl ?_
  refine E_istore (Ls' := #[.val (.ref a), .val (.int (1 : Int32)), .val (.int (3 : Int32)), .val (.int (1 : Int32)), .val (.int (2 : Int32)), .val (.int (0 : Int32))]) (pc' := 83) X d16_81 rfl rfl ?_
  refine E_iinc (x := (0 : Int32)) (z := (-1 : Int32)) (Ls' := #[.val (.ref a), .val (.int (1 : Int32)), .val (.int (3 : Int32)), .val (.int (1 : Int32)), .val (.int (2 : Int32)), .val (.int (-1 : Int32))]) (pc' := 86) X d16_83 rfl rfl rfl rfl ?_
  refine E_goto (pc' := 14) X d16_86 (by decide) rfl ?_
  refine E_iload (pc' := 16) X d16_14 rfl rfl ?_
  refine E_if (pcY := 89) (pcN := 19) X (i0_lt _) d16_16 (by decide) rfl rfl (fun hc16_2 => ?_) (fun hc16_2 => absurd (by decide) hc16_2)
  refine E_iloadN (pc' := 90) X d16_89 rfl rfl ?_
  refine E_iload (pc' := 92) X d16_90 rfl rfl ?_
  refine E_icmp (pcY := 110) (pcN := 95) X (ic_ne _ _) d16_92 (by decide) rfl rfl (fun hc92_0 => ?_) (fun hc92_0 => absurd (by decide) hc92_0)
  refine E_aloadN (v := (.ref a)) (pc' := 111) X d16_110 rfl rfl rfl ?_
  refine E_getF (pc' := 114) X (host := "") (Or.inl (w_63 hw)) Via.refl hF0 d16_111 rfl (fun T X => ?_)
  refine E_alen (n := (2 : Int32)) (pc' := 115) X hA3 rfl d16_114 rfl ?_
  refine E_iconst (v := (1 : Int32)) (pc' := 116) X d16_115 rfl rfl ?_
  refine E_isub (pc' := 117) X d16_116 rfl ?_
  refine E_eqI (z := (1 : Int32)) (by decide) ?_
  refine E_istore (Ls' := #[.val (.ref a), .val (.int (1 : Int32)), .val (.int (3 : Int32)), .val (.int (1 : Int32)), .val (.int (2 : Int32)), .val (.int (1 : Int32))]) (pc' := 119) X d16_117 rfl rfl ?_
  refine E_iload (pc' := 121) X d16_119 rfl rfl ?_
  refine E_if (pcY := 174) (pcN := 124) X (i0_lt _) d16_121 (by decide) rfl rfl (fun hc121_0 => absurd hc121_0 (by decide)) (fun hc121_0 => ?_)
  refine E_aloadN (v := (.ref a)) (pc' := 125) X d16_124 rfl rfl rfl ?_
  refine E_getF (pc' := 128) X (host := "") (Or.inl (w_63 hw)) Via.refl hF0 d16_125 rfl (fun T X => ?_)
  refine E_iload (pc' := 130) X d16_128 rfl rfl ?_
  refine E_aaload (v := (.ref j1)) (pc' := 131) X hA3 rfl (by decide) rfl d16_130 rfl ?_
  refine E_iloadN (pc' := 132) X d16_131 rfl rfl ?_
  refine E_iaload (v := (.int (0 : Int32))) (pc' := 133) X hA5 (by decide) rfl d16_132 rfl ?_
  refine E_aloadN (v := (.ref a)) (pc' := 134) X d16_133 rfl rfl rfl ?_
  refine E_getF (pc' := 137) X (host := "") (Or.inl (w_63 hw)) Via.refl hF0 d16_134 rfl (fun T X => ?_)
  refine E_iload (pc' := 139) X d16_137 rfl rfl ?_
  refine E_aaload (v := (.ref j1)) (pc' := 140) X hA3 rfl (by decide) rfl d16_139 rfl ?_
  refine E_iload (pc' := 142) X d16_140 rfl rfl ?_
  refine E_iaload (v := (.int (0 : Int32))) (pc' := 143) X hA5 (by decide) rfl d16_142 rfl ?_
  refine E_icmp (pcY := 168) (pcN := 146) X (ic_eq _ _) d16_143 (by decide) rfl rfl (fun hc143_0 => ?_) (fun hc143_0 => absurd (by decide) hc143_0)
  refine E_iinc (x := (1 : Int32)) (z := (0 : Int32)) (Ls' := #[.val (.ref a), .val (.int (1 : Int32)), .val (.int (3 : Int32)), .val (.int (1 : Int32)), .val (.int (2 : Int32)), .val (.int (0 : Int32))]) (pc' := 171) X d16_168 rfl rfl rfl rfl ?_
  refine E_goto (pc' := 119) X d16_171 (by decide) rfl ?_
  refine E_iload (pc' := 121) X d16_119 rfl rfl ?_
  refine E_if (pcY := 174) (pcN := 124) X (i0_lt _) d16_121 (by decide) rfl rfl (fun hc121_1 => absurd hc121_1 (by decide)) (fun hc121_1 => ?_)
  refine E_aloadN (v := (.ref a)) (pc' := 125) X d16_124 rfl rfl rfl ?_
  refine E_getF (pc' := 128) X (host := "") (Or.inl (w_63 hw)) Via.refl hF0 d16_125 rfl (fun T X => ?_)
  refine E_iload (pc' := 130) X d16_128 rfl rfl ?_
  refine E_aaload (v := (.ref j0)) (pc' := 131) X hA3 rfl (by decide) rfl d16_130 rfl ?_
  refine E_iloadN (pc' := 132) X d16_131 rfl rfl ?_
  refine E_iaload (v := (.int (0 : Int32))) (pc' := 133) X hA4 (by decide) rfl d16_132 rfl ?_
  refine E_aloadN (v := (.ref a)) (pc' := 134) X d16_133 rfl rfl rfl ?_
  refine E_getF (pc' := 137) X (host := "") (Or.inl (w_63 hw)) Via.refl hF0 d16_134 rfl (fun T X => ?_)
  refine E_iload (pc' := 139) X d16_137 rfl rfl ?_
  refine E_aaload (v := (.ref j0)) (pc' := 140) X hA3 rfl (by decide) rfl d16_139 rfl ?_
  refine E_iload (pc' := 142) X d16_140 rfl rfl ?_
  refine E_iaload (v := (.int (0 : Int32))) (pc' := 143) X hA4 (by decide) rfl d16_142 rfl ?_
  refine E_icmp (pcY := 168) (pcN := 146) X (ic_eq _ _) d16_143 (by decide) rfl rfl (fun hc143_1 => ?_) (fun hc143_1 => absurd (by decide) hc143_1)
  refine E_iinc (x := (0 : Int32)) (z := (-1 : Int32)) (Ls' := #[.val (.ref a), .val (.int (1 : Int32)), .val (.int (3 : Int32)), .val (.int (1 : Int32)), .val (.int (2 : Int32)), .val (.int (-1 : Int32))]) (pc' := 171) X d16_168 rfl rfl rfl rfl ?_
  refine E_goto (pc' := 119) X d16_171 (by decide) rfl ?_
  refine E_iload (pc' := 121) X d16_119 rfl rfl ?_
  refine E_if (pcY := 174) (pcN := 124) X (i0_lt _) d16_121 (by decide) rfl rfl (fun hc121_2 => ?_) (fun hc121_2 => absurd (by decide) hc121_2)
  refine E_iloadN (pc' := 175) X d16_174 rfl rfl ?_
  refine E_iload (pc' := 177) X d16_175 rfl rfl ?_
  refine E_callS (pc' := 180) (W := 0) (cells' := 0) (slots' := 0) (argsL := [(.int (1 : Int32)), (.int (2 : Int32))]) (rest := []) X (rm17 l Z a0 hw h0 X.ext) (w_102 hw) (w_103 hw) (w_4 hw) (w_104 hw) (by decide) rfl rfl pd_4 rfl rfl d16_177 rfl (Nat.le_refl _) (by decide) (by decide) rfl rfl (by decide) (by decide) (fun v1 T h_2 X hQ3 => ?_)
  obtain ⟨rfl, rfl⟩ := hQ3
  show End Z p e below s _ _ _ _ (mkF m 180 #[.val (.ref a), .val (.int (1 : Int32)), .val (.int (3 : Int32)), .val (.int (1 : Int32)), .val (.int (2 : Int32)), .val (.int (-1 : Int32))] [(.long (4294967298 : Int64))])
  exact E_retL X d16_180 (by decide) (by decide) ⟨rfl, rfl⟩
theorem ef_rm_fin11 (m : MethodId) (x0 : Addr) (x1 : Addr) : entryFrame m #[(.ref x0), (.ref x1)] 8 = mkF m 0 #[.val (.ref x0), .val (.ref x1), .unset, .unset, .unset, .unset, .unset, .unset] [] := by first | (simp [entryFrame, mkF, argsToLocals, Value.category]; done) | (simp [entryFrame, mkF, argsToLocals, *]; done) | rfl
set_option maxRecDepth 65536 in
set_option maxHeartbeats 2000000 in
theorem rm_fin11 (l : Launch) (Z : State) (a0 : Array Value) (hw : ∀ d ∈ tables_1, d.before a0 Z = true) (a : Addr) (t : Addr) (P : Addr) (B : Addr) (RR : Addr) (NB : Addr) (h0 : Heap) (hE : Ext Z.heap h0) (hE0 : Exa Z h0 a "com/example/nimble_calculus/nimblecalculus/equivalence/Splits") (hF1 : Fld Z h0 a "com/example/nimble_calculus/nimblecalculus/equivalence/Splits" "nodeCount" "I" (.int (4 : Int32))) (hF2 : Fld Z h0 a "com/example/nimble_calculus/nimblecalculus/equivalence/Splits" "splitCount" "I" (.int (2 : Int32))) (hF3 : Fld Z h0 a "com/example/nimble_calculus/nimblecalculus/equivalence/Splits" "splitting" "I" (.int (1 : Int32))) (hF4 : Fld Z h0 a "com/example/nimble_calculus/nimblecalculus/equivalence/Splits" "parent" "[I" (.ref P)) (hF5 : Fld Z h0 a "com/example/nimble_calculus/nimblecalculus/equivalence/Splits" "born" "[I" (.ref B)) (hF6 : Fld Z h0 a "com/example/nimble_calculus/nimblecalculus/equivalence/Splits" "representative" "[I" (.ref RR)) (hF7 : Fld Z h0 a "com/example/nimble_calculus/nimblecalculus/equivalence/Splits" "nodeOfBlock" "[I" (.ref NB)) (hF8 : Fld Z h0 a "com/example/nimble_calculus/nimblecalculus/equivalence/Splits" "leaf" "[I" .null) (hF9 : Fld Z h0 a "com/example/nimble_calculus/nimblecalculus/equivalence/Splits" "height" "[I" .null) (hF10 : Fld Z h0 a "com/example/nimble_calculus/nimblecalculus/equivalence/Splits" "jumps" "[[I" .null) (hA11 : Ar Z h0 P .int [(.int (0 : Int32)), (.int (0 : Int32)), (.int (0 : Int32)), (.int (1 : Int32)), (.int (0 : Int32)), (.int (0 : Int32)), (.int (0 : Int32))]) (hA12 : Ar Z h0 NB .int [(.int (3 : Int32)), (.int (2 : Int32)), (.int (0 : Int32)), (.int (0 : Int32))]) (hA13 : Ar Z h0 t .int [(.int (0 : Int32)), (.int (1 : Int32))]) (hfr14 : Z.heap.size ≤ a) :
    Con l Z (⟨"com/example/nimble_calculus/nimblecalculus/equivalence/Splits", "finish", "([I)V"⟩ : MethodName) prog_61_method_4_code 8 none ({ frames := 2, cells := 5, slots := 16, locals := 34 } : Room) #[(.ref a), (.ref t)] h0 (fun vv hh => ∃ lf : Addr, ∃ jp : Addr, ∃ hg : Addr, ∃ j0 : Addr, ∃ j1 : Addr, vv = none ∧ Keep h0 hh [a] ∧ h0.size ≤ lf ∧ h0.size ≤ jp ∧ h0.size ≤ hg ∧ h0.size ≤ j0 ∧ h0.size ≤ j1 ∧ Exa Z hh a "com/example/nimble_calculus/nimblecalculus/equivalence/Splits" ∧ Fld Z hh a "com/example/nimble_calculus/nimblecalculus/equivalence/Splits" "leaf" "[I" (.ref lf) ∧ Fld Z hh a "com/example/nimble_calculus/nimblecalculus/equivalence/Splits" "height" "[I" (.ref hg) ∧ Fld Z hh a "com/example/nimble_calculus/nimblecalculus/equivalence/Splits" "jumps" "[[I" (.ref jp) ∧ Fld Z hh a "com/example/nimble_calculus/nimblecalculus/equivalence/Splits" "parent" "[I" (.ref P) ∧ Fld Z hh a "com/example/nimble_calculus/nimblecalculus/equivalence/Splits" "born" "[I" (.ref B) ∧ Fld Z hh a "com/example/nimble_calculus/nimblecalculus/equivalence/Splits" "representative" "[I" (.ref RR) ∧ Ar Z hh lf .int [(.int (3 : Int32)), (.int (2 : Int32))] ∧ Ar Z hh hg .int [(.int (0 : Int32)), (.int (1 : Int32)), (.int (1 : Int32)), (.int (2 : Int32))] ∧ Ar Z hh jp (.array .int) [(.ref j0), (.ref j1)] ∧ Ar Z hh j0 .int [(.int (0 : Int32)), (.int (0 : Int32)), (.int (0 : Int32)), (.int (1 : Int32))] ∧ Ar Z hh j1 .int [(.int (0 : Int32)), (.int (0 : Int32)), (.int (0 : Int32)), (.int (0 : Int32))]) := by
  refine Con.of (plainFor_of_name (by first | (simp [plainName, overriddenIn]; done) | decide +kernel)) hE ?_
  intro p e s m below T (X : Sd l Z "com/example/nimble_calculus/nimblecalculus/equivalence/Splits" "finish" prog_61_method_4_code 8 none ({ frames := 2, cells := 5, slots := 16, locals := 34 } : Room) p e s m #[(.ref a), (.ref t)] below T h0 0 0)
  refine End.frame (ef_rm_fin11 m a t) ?_
  have K_0 : Keep h0 h0 [a] := Keep.refl _ _
  have ne_1 : NB ≠ a := Ne.symm (Ar.ne_exa hA12 hE0 (w_3 hw))
  have ne_2 : P ≠ a := Ne.symm (Ar.ne_exa hA11 hE0 (w_3 hw))
  have ne_3 : a ≠ t := Ar.ne_exa hA13 hE0 (w_3 hw)
  show End Z p e below s _ _ _ _ (mkF m 0 #[.val (.ref a), .val (.ref t), .unset, .unset, .unset, .unset, .unset, .unset] [])
  refine E_aloadN (v := (.ref a)) (pc' := 1) X d8_0 rfl rfl rfl ?_
  refine E_aloadN (v := (.ref t)) (pc' := 2) X d8_1 rfl rfl rfl ?_
  refine E_alen (n := (2 : Int32)) (pc' := 3) X hA13 rfl d8_2 rfl ?_
  have le_o4 := X.le
  refine E_newA (pc' := 5) X (aty := .int) (n := (2 : Int32)) (cap := 2) (vs := [(.int (0 : Int32)), (.int (0 : Int32))]) (cells' := 1) (slots' := 2) (w_1 hw) d8_3 rfl (by decide) (by decide) (by decide) rfl rfl rfl (by decide) (by decide) (fun T h_5 o4 g_8 X Ex_6 Aa_7 => ?_)
  have b_9 : h0.size ≤ o4 := by rw [g_8]; exact K_0.1
  have K_10 : Keep h0 h_5 [a] := K_0.ext Ex_6
  have fr_11 : Z.heap.size ≤ o4 := by rw [g_8]; exact le_o4
  have ne_12 : NB ≠ o4 := Nat.ne_of_lt (by rw [g_8]; exact hA12.lt)
  have ne_13 : P ≠ o4 := Nat.ne_of_lt (by rw [g_8]; exact hA11.lt)
  have ne_14 : a ≠ o4 := Nat.ne_of_lt (by rw [g_8]; exact hE0.lt)
  have ne_15 : t ≠ o4 := Nat.ne_of_lt (by rw [g_8]; exact hA13.lt)
  have F_16 : Fld Z h_5 a "com/example/nimble_calculus/nimblecalculus/equivalence/Splits" "leaf" "[I" .null := (hF8.ext Ex_6)
  have E_17 : Exa Z h_5 a "com/example/nimble_calculus/nimblecalculus/equivalence/Splits" := (hE0.ext Ex_6)
  refine E_putF (pc' := 8) X (host := "") (Or.inl (w_52 hw)) Via.refl F_16 E_17 (Or.inl (w_53 hw)) (w_3 hw) (ty := (.array .int)) (by decide) rfl rfl hfr14 d8_5 rfl (fun T h_19 X W_18 => ?_)
  have K_20 : Keep h0 h_19 [a] := K_10.wr W_18 (Or.inl (List.mem_of_getElem? (i := 0) rfl))
  refine E_iconst (v := (0 : Int32)) (pc' := 9) X d8_8 rfl rfl ?_
  refine E_istoreN (Ls' := #[.val (.ref a), .val (.ref t), .val (.int (0 : Int32)), .unset, .unset, .unset, .unset, .unset]) (pc' := 10) X d8_9 rfl rfl ?_
  refine E_iloadN (pc' := 11) X d8_10 rfl rfl ?_
  refine E_aloadN (v := (.ref t)) (pc' := 12) X d8_11 rfl rfl rfl ?_
  have A_21 : Ar Z h_19 t .int [(.int (0 : Int32)), (.int (1 : Int32))] := ((hA13.ext Ex_6).other W_18 (Ne.symm ne_3))
  refine E_alen (n := (2 : Int32)) (pc' := 13) X A_21 rfl d8_12 rfl ?_
  refine E_icmp (pcY := 36) (pcN := 16) X (ic_ge _ _) d8_13 (by decide) rfl rfl (fun hc13_0 => absurd hc13_0 (by decide)) (fun hc13_0 => ?_)
  refine E_aloadN (v := (.ref a)) (pc' := 17) X d8_16 rfl rfl rfl ?_
  have F_22 : Fld Z h_19 a "com/example/nimble_calculus/nimblecalculus/equivalence/Splits" "leaf" "[I" (.ref o4) := (F_16.same W_18)
  refine E_getF (pc' := 20) X (host := "") (Or.inl (w_52 hw)) Via.refl F_22 d8_17 rfl (fun T X => ?_)
  refine E_iloadN (pc' := 21) X d8_20 rfl rfl ?_
  refine E_aloadN (v := (.ref a)) (pc' := 22) X d8_21 rfl rfl rfl ?_
  have F_23 : Fld Z h_19 a "com/example/nimble_calculus/nimblecalculus/equivalence/Splits" "nodeOfBlock" "[I" (.ref NB) := ((hF7.ext Ex_6).other W_18 (Or.inr (slot_ne (Or.inr (w_32 hw)) (Or.inl (w_53 hw)) (by decide) (t := (.array .int)) (t' := (.array .int)) (by decide) (by decide))))
  refine E_getF (pc' := 25) X (host := "") (Or.inl (w_31 hw)) Via.refl F_23 d8_22 rfl (fun T X => ?_)
  refine E_aloadN (v := (.ref t)) (pc' := 26) X d8_25 rfl rfl rfl ?_
  refine E_iloadN (pc' := 27) X d8_26 rfl rfl ?_
  refine E_iaload (v := (.int (0 : Int32))) (pc' := 28) X A_21 (by decide) rfl d8_27 rfl ?_
  have A_24 : Ar Z h_19 NB .int [(.int (3 : Int32)), (.int (2 : Int32)), (.int (0 : Int32)), (.int (0 : Int32))] := ((hA12.ext Ex_6).other W_18 ne_1)
  refine E_iaload (v := (.int (3 : Int32))) (pc' := 29) X A_24 (by decide) rfl d8_28 rfl ?_
  have A_25 : Ar Z h_19 o4 .int [(.int (0 : Int32)), (.int (0 : Int32))] := (Aa_7.other W_18 (Ne.symm ne_14))
  refine E_iastore (vs' := [(.int (3 : Int32)), (.int (0 : Int32))]) (pc' := 30) X A_25 (by decide) (Nat.le_of_ble_eq_true rfl) rfl fr_11 d8_29 rfl (fun T h_27 X W_26 Aa_28 => ?_)
  have K_29 : Keep h0 h_27 [a] := K_20.wr W_26 (Or.inr b_9)
  refine E_iinc (x := (0 : Int32)) (z := (1 : Int32)) (Ls' := #[.val (.ref a), .val (.ref t), .val (.int (1 : Int32)), .unset, .unset, .unset, .unset, .unset]) (pc' := 33) X d8_30 rfl rfl rfl rfl ?_
  refine E_goto (pc' := 10) X d8_33 (by decide) rfl ?_
  refine E_iloadN (pc' := 11) X d8_10 rfl rfl ?_
  refine E_aloadN (v := (.ref t)) (pc' := 12) X d8_11 rfl rfl rfl ?_
  have A_30 : Ar Z h_27 t .int [(.int (0 : Int32)), (.int (1 : Int32))] := (A_21.other W_26 ne_15)
  refine E_alen (n := (2 : Int32)) (pc' := 13) X A_30 rfl d8_12 rfl ?_
  refine E_icmp (pcY := 36) (pcN := 16) X (ic_ge _ _) d8_13 (by decide) rfl rfl (fun hc13_1 => absurd hc13_1 (by decide)) (fun hc13_1 => ?_)
  refine E_aloadN (v := (.ref a)) (pc' := 17) X d8_16 rfl rfl rfl ?_
  have F_31 : Fld Z h_27 a "com/example/nimble_calculus/nimblecalculus/equivalence/Splits" "leaf" "[I" (.ref o4) := (F_22.other W_26 (Or.inl ne_14))
  refine E_getF (pc' := 20) X (host := "") (Or.inl (w_52 hw)) Via.refl F_31 d8_17 rfl (fun T X => ?_)
  refine E_iloadN (pc' := 21) X d8_20 rfl rfl ?_
  refine E_aloadN (v := (.ref a)) (pc' := 22) X d8_21 rfl rfl rfl ?_
  have F_32 : Fld Z h_27 a "com/example/nimble_calculus/nimblecalculus/equivalence/Splits" "nodeOfBlock" "[I" (.ref NB) := (F_23.other W_26 (Or.inl ne_14))
  refine E_getF (pc' := 25) X (host := "") (Or.inl (w_31 hw)) Via.refl F_32 d8_22 rfl (fun T X => ?_)
  refine E_aloadN (v := (.ref t)) (pc' := 26) X d8_25 rfl rfl rfl ?_
  refine E_iloadN (pc' := 27) X d8_26 rfl rfl ?_
  refine E_iaload (v := (.int (1 : Int32))) (pc' := 28) X A_30 (by decide) rfl d8_27 rfl ?_
  have A_33 : Ar Z h_27 NB .int [(.int (3 : Int32)), (.int (2 : Int32)), (.int (0 : Int32)), (.int (0 : Int32))] := (A_24.other W_26 ne_12)
  refine E_iaload (v := (.int (2 : Int32))) (pc' := 29) X A_33 (by decide) rfl d8_28 rfl ?_
  refine E_iastore (vs' := [(.int (3 : Int32)), (.int (2 : Int32))]) (pc' := 30) X Aa_28 (by decide) (Nat.le_of_ble_eq_true rfl) rfl fr_11 d8_29 rfl (fun T h_35 X W_34 Aa_36 => ?_)
  have K_37 : Keep h0 h_35 [a] := K_29.wr W_34 (Or.inr b_9)
  refine E_iinc (x := (1 : Int32)) (z := (2 : Int32)) (Ls' := #[.val (.ref a), .val (.ref t), .val (.int (2 : Int32)), .unset, .unset, .unset, .unset, .unset]) (pc' := 33) X d8_30 rfl rfl rfl rfl ?_
  refine E_goto (pc' := 10) X d8_33 (by decide) rfl ?_
  refine E_iloadN (pc' := 11) X d8_10 rfl rfl ?_
  refine E_aloadN (v := (.ref t)) (pc' := 12) X d8_11 rfl rfl rfl ?_
  have A_38 : Ar Z h_35 t .int [(.int (0 : Int32)), (.int (1 : Int32))] := (A_30.other W_34 ne_15)
  refine E_alen (n := (2 : Int32)) (pc' := 13) X A_38 rfl d8_12 rfl ?_
  refine E_icmp (pcY := 36) (pcN := 16) X (ic_ge _ _) d8_13 (by decide) rfl rfl (fun hc13_2 => ?_) (fun hc13_2 => absurd (by decide) hc13_2)
  refine E_aloadN (v := (.ref a)) (pc' := 37) X d8_36 rfl rfl rfl ?_
  refine E_aloadN (v := (.ref a)) (pc' := 38) X d8_37 rfl rfl rfl ?_
  have F_39 : Fld Z h_35 a "com/example/nimble_calculus/nimblecalculus/equivalence/Splits" "nodeCount" "I" (.int (4 : Int32)) := ((((hF1.ext Ex_6).other W_18 (Or.inr (slot_ne (Or.inl (w_12 hw)) (Or.inl (w_53 hw)) (by decide) (t := .int) (t' := (.array .int)) (by decide) (by decide)))).other W_26 (Or.inl ne_14)).other W_34 (Or.inl ne_14))
  refine E_getF (pc' := 41) X (host := "") (Or.inl (w_11 hw)) Via.refl F_39 d8_38 rfl (fun T X => ?_)
  have A_45 : Ar Z h_35 NB .int [(.int (3 : Int32)), (.int (2 : Int32)), (.int (0 : Int32)), (.int (0 : Int32))] := (A_33.other W_34 ne_12)
  have A_46 : Ar Z h_35 P .int [(.int (0 : Int32)), (.int (0 : Int32)), (.int (0 : Int32)), (.int (1 : Int32)), (.int (0 : Int32)), (.int (0 : Int32)), (.int (0 : Int32))] := ((((hA11.ext Ex_6).other W_18 ne_2).other W_26 ne_13).other W_34 ne_13)
  have E_47 : Exa Z h_35 a "com/example/nimble_calculus/nimblecalculus/equivalence/Splits" := (((E_17.wr W_18).wr W_26).wr W_34)
  have le_o40 := X.le
  refine E_newA (pc' := 43) X (aty := .int) (n := (4 : Int32)) (cap := 4) (vs := [(.int (0 : Int32)), (.int (0 : Int32)), (.int (0 : Int32)), (.int (0 : Int32))]) (cells' := 2) (slots' := 6) (w_1 hw) d8_41 rfl (by decide) (by decide) (by decide) rfl rfl rfl (by decide) (by decide) (fun T h_41 o40 g_44 X Ex_42 Aa_43 => ?_)
  have b_48 : h0.size ≤ o40 := by rw [g_44]; exact K_37.1
  have K_49 : Keep h0 h_41 [a] := K_37.ext Ex_42
  have fr_50 : Z.heap.size ≤ o40 := by rw [g_44]; exact le_o40
  have ne_51 : NB ≠ o40 := Nat.ne_of_lt (by rw [g_44]; exact A_45.lt)
  have ne_52 : P ≠ o40 := Nat.ne_of_lt (by rw [g_44]; exact A_46.lt)
  have ne_53 : a ≠ o40 := Nat.ne_of_lt (by rw [g_44]; exact E_47.lt)
  have ne_54 : o4 ≠ o40 := Nat.ne_of_lt (by rw [g_44]; exact Aa_36.lt)
  have ne_55 : t ≠ o40 := Nat.ne_of_lt (by rw [g_44]; exact A_38.lt)
  have F_56 : Fld Z h_41 a "com/example/nimble_calculus/nimblecalculus/equivalence/Splits" "height" "[I" .null := (((((hF9.ext Ex_6).other W_18 (Or.inr (slot_ne (Or.inl (w_55 hw)) (Or.inl (w_53 hw)) (by decide) (t := (.array .int)) (t' := (.array .int)) (by decide) (by decide)))).other W_26 (Or.inl ne_14)).other W_34 (Or.inl ne_14)).ext Ex_42)
  have E_57 : Exa Z h_41 a "com/example/nimble_calculus/nimblecalculus/equivalence/Splits" := (E_47.ext Ex_42)
  refine E_putF (pc' := 46) X (host := "") (Or.inl (w_54 hw)) Via.refl F_56 E_57 (Or.inl (w_55 hw)) (w_3 hw) (ty := (.array .int)) (by decide) rfl rfl hfr14 d8_43 rfl (fun T h_59 X W_58 => ?_)
  have K_60 : Keep h0 h_59 [a] := K_49.wr W_58 (Or.inl (List.mem_of_getElem? (i := 0) rfl))
  refine E_iconst (v := (0 : Int32)) (pc' := 47) X d8_46 rfl rfl ?_
  refine E_istoreN (Ls' := #[.val (.ref a), .val (.ref t), .val (.int (0 : Int32)), .unset, .unset, .unset, .unset, .unset]) (pc' := 48) X d8_47 rfl rfl ?_
  refine E_iconst (v := (1 : Int32)) (pc' := 49) X d8_48 rfl rfl ?_
  refine E_istoreN (Ls' := #[.val (.ref a), .val (.ref t), .val (.int (0 : Int32)), .val (.int (1 : Int32)), .unset, .unset, .unset, .unset]) (pc' := 50) X d8_49 rfl rfl ?_
  refine E_iloadN (pc' := 51) X d8_50 rfl rfl ?_
  refine E_aloadN (v := (.ref a)) (pc' := 52) X d8_51 rfl rfl rfl ?_
  have F_61 : Fld Z h_59 a "com/example/nimble_calculus/nimblecalculus/equivalence/Splits" "nodeCount" "I" (.int (4 : Int32)) := ((F_39.ext Ex_42).other W_58 (Or.inr (slot_ne (Or.inl (w_12 hw)) (Or.inl (w_55 hw)) (by decide) (t := .int) (t' := (.array .int)) (by decide) (by decide))))
  refine E_getF (pc' := 55) X (host := "") (Or.inl (w_11 hw)) Via.refl F_61 d8_52 rfl (fun T X => ?_)
  refine E_icmp (pcY := 94) (pcN := 58) X (ic_ge _ _) d8_55 (by decide) rfl rfl (fun hc55_0 => absurd hc55_0 (by decide)) (fun hc55_0 => ?_)
  refine E_aloadN (v := (.ref a)) (pc' := 59) X d8_58 rfl rfl rfl ?_
  have F_62 : Fld Z h_59 a "com/example/nimble_calculus/nimblecalculus/equivalence/Splits" "height" "[I" (.ref o40) := (F_56.same W_58)
  refine E_getF (pc' := 62) X (host := "") (Or.inl (w_54 hw)) Via.refl F_62 d8_59 rfl (fun T X => ?_)
  refine E_iloadN (pc' := 63) X d8_62 rfl rfl ?_
  refine E_aloadN (v := (.ref a)) (pc' := 64) X d8_63 rfl rfl rfl ?_
  refine E_getF (pc' := 67) X (host := "") (Or.inl (w_54 hw)) Via.refl F_62 d8_64 rfl (fun T X => ?_)
  refine E_aloadN (v := (.ref a)) (pc' := 68) X d8_67 rfl rfl rfl ?_
  have F_63 : Fld Z h_59 a "com/example/nimble_calculus/nimblecalculus/equivalence/Splits" "parent" "[I" (.ref P) := ((((((hF4.ext Ex_6).other W_18 (Or.inr (slot_ne (Or.inr (w_23 hw)) (Or.inl (w_53 hw)) (by decide) (t := (.array .int)) (t' := (.array .int)) (by decide) (by decide)))).other W_26 (Or.inl ne_14)).other W_34 (Or.inl ne_14)).ext Ex_42).other W_58 (Or.inr (slot_ne (Or.inr (w_23 hw)) (Or.inl (w_55 hw)) (by decide) (t := (.array .int)) (t' := (.array .int)) (by decide) (by decide))))
  refine E_getF (pc' := 71) X (host := "") (Or.inl (w_22 hw)) Via.refl F_63 d8_68 rfl (fun T X => ?_)
  refine E_iloadN (pc' := 72) X d8_71 rfl rfl ?_
  have A_64 : Ar Z h_59 P .int [(.int (0 : Int32)), (.int (0 : Int32)), (.int (0 : Int32)), (.int (1 : Int32)), (.int (0 : Int32)), (.int (0 : Int32)), (.int (0 : Int32))] := ((A_46.ext Ex_42).other W_58 ne_2)
  refine E_iaload (v := (.int (0 : Int32))) (pc' := 73) X A_64 (by decide) rfl d8_72 rfl ?_
  have A_65 : Ar Z h_59 o40 .int [(.int (0 : Int32)), (.int (0 : Int32)), (.int (0 : Int32)), (.int (0 : Int32))] := (Aa_43.other W_58 (Ne.symm ne_53))
  refine E_iaload (v := (.int (0 : Int32))) (pc' := 74) X A_65 (by decide) rfl d8_73 rfl ?_
  refine E_iconst (v := (1 : Int32)) (pc' := 75) X d8_74 rfl rfl ?_
  refine E_iadd (pc' := 76) X d8_75 rfl ?_
  refine E_eqI (z := (1 : Int32)) (by decide) ?_
  refine E_iastore (vs' := [(.int (0 : Int32)), (.int (1 : Int32)), (.int (0 : Int32)), (.int (0 : Int32))]) (pc' := 77) X A_65 (by decide) (Nat.le_of_ble_eq_true rfl) rfl fr_50 d8_76 rfl (fun T h_67 X W_66 Aa_68 => ?_)
  have K_69 : Keep h0 h_67 [a] := K_60.wr W_66 (Or.inr b_48)
  refine E_iloadN (pc' := 78) X d8_77 rfl rfl ?_
  refine E_aloadN (v := (.ref a)) (pc' := 79) X d8_78 rfl rfl rfl ?_
  have F_70 : Fld Z h_67 a "com/example/nimble_calculus/nimblecalculus/equivalence/Splits" "height" "[I" (.ref o40) := (F_62.other W_66 (Or.inl ne_53))
  refine E_getF (pc' := 82) X (host := "") (Or.inl (w_54 hw)) Via.refl F_70 d8_79 rfl (fun T X => ?_)
  refine E_iloadN (pc' := 83) X d8_82 rfl rfl ?_
  refine E_iaload (v := (.int (1 : Int32))) (pc' := 84) X Aa_68 (by decide) rfl d8_83 rfl ?_
  refine E_callS (pc' := 87) (W := 0) (cells' := 2) (slots' := 6) (argsL := [(.int (0 : Int32)), (.int (1 : Int32))]) (rest := []) X (rm5 l Z a0 hw (0 : Int32) (1 : Int32) (1 : Int32) h_67 X.ext (by decide)) (w_28 hw) (w_29 hw) (w_17 hw) (w_30 hw) (by decide) rfl rfl pd_1 rfl rfl d8_84 rfl (Nat.le_refl _) (by decide) (by decide) rfl rfl (by decide) (by decide) (fun v71 T h_72 X hQ73 => ?_)
  obtain ⟨rfl, rfl⟩ := hQ73
  show End Z p e below s _ _ _ _ (mkF m 87 #[.val (.ref a), .val (.ref t), .val (.int (0 : Int32)), .val (.int (1 : Int32)), .unset, .unset, .unset, .unset] [(.int (1 : Int32))])
  refine E_istoreN (Ls' := #[.val (.ref a), .val (.ref t), .val (.int (1 : Int32)), .val (.int (1 : Int32)), .unset, .unset, .unset, .unset]) (pc' := 88) X d8_87 rfl rfl ?_
  refine E_iinc (x := (1 : Int32)) (z := (2 : Int32)) (Ls' := #[.val (.ref a), .val (.ref t), .val (.int (1 : Int32)), .val (.int (2 : Int32)), .unset, .unset, .unset, .unset]) (pc' := 91) X d8_88 rfl rfl rfl rfl ?_
  refine E_goto (pc' := 50) X d8_91 (by decide) rfl ?_
  refine E_iloadN (pc' := 51) X d8_50 rfl rfl ?_
  refine E_aloadN (v := (.ref a)) (pc' := 52) X d8_51 rfl rfl rfl ?_
  have F_75 : Fld Z h_67 a "com/example/nimble_calculus/nimblecalculus/equivalence/Splits" "nodeCount" "I" (.int (4 : Int32)) := (F_61.other W_66 (Or.inl ne_53))
  refine E_getF (pc' := 55) X (host := "") (Or.inl (w_11 hw)) Via.refl F_75 d8_52 rfl (fun T X => ?_)
  refine E_icmp (pcY := 94) (pcN := 58) X (ic_ge _ _) d8_55 (by decide) rfl rfl (fun hc55_1 => absurd hc55_1 (by decide)) (fun hc55_1 => ?_)
  refine E_aloadN (v := (.ref a)) (pc' := 59) X d8_58 rfl rfl rfl ?_
  refine E_getF (pc' := 62) X (host := "") (Or.inl (w_54 hw)) Via.refl F_70 d8_59 rfl (fun T X => ?_)
  refine E_iloadN (pc' := 63) X d8_62 rfl rfl ?_
  refine E_aloadN (v := (.ref a)) (pc' := 64) X d8_63 rfl rfl rfl ?_
  refine E_getF (pc' := 67) X (host := "") (Or.inl (w_54 hw)) Via.refl F_70 d8_64 rfl (fun T X => ?_)
  refine E_aloadN (v := (.ref a)) (pc' := 68) X d8_67 rfl rfl rfl ?_
  have F_76 : Fld Z h_67 a "com/example/nimble_calculus/nimblecalculus/equivalence/Splits" "parent" "[I" (.ref P) := (F_63.other W_66 (Or.inl ne_53))
  refine E_getF (pc' := 71) X (host := "") (Or.inl (w_22 hw)) Via.refl F_76 d8_68 rfl (fun T X => ?_)
  refine E_iloadN (pc' := 72) X d8_71 rfl rfl ?_
  have A_77 : Ar Z h_67 P .int [(.int (0 : Int32)), (.int (0 : Int32)), (.int (0 : Int32)), (.int (1 : Int32)), (.int (0 : Int32)), (.int (0 : Int32)), (.int (0 : Int32))] := (A_64.other W_66 ne_52)
  refine E_iaload (v := (.int (0 : Int32))) (pc' := 73) X A_77 (by decide) rfl d8_72 rfl ?_
  refine E_iaload (v := (.int (0 : Int32))) (pc' := 74) X Aa_68 (by decide) rfl d8_73 rfl ?_
  refine E_iconst (v := (1 : Int32)) (pc' := 75) X d8_74 rfl rfl ?_
  refine E_iadd (pc' := 76) X d8_75 rfl ?_
  refine E_eqI (z := (1 : Int32)) (by decide) ?_
  refine E_iastore (vs' := [(.int (0 : Int32)), (.int (1 : Int32)), (.int (1 : Int32)), (.int (0 : Int32))]) (pc' := 77) X Aa_68 (by decide) (Nat.le_of_ble_eq_true rfl) rfl fr_50 d8_76 rfl (fun T h_79 X W_78 Aa_80 => ?_)
  have K_81 : Keep h0 h_79 [a] := K_69.wr W_78 (Or.inr b_48)
  refine E_iloadN (pc' := 78) X d8_77 rfl rfl ?_
  refine E_aloadN (v := (.ref a)) (pc' := 79) X d8_78 rfl rfl rfl ?_
  have F_82 : Fld Z h_79 a "com/example/nimble_calculus/nimblecalculus/equivalence/Splits" "height" "[I" (.ref o40) := (F_70.other W_78 (Or.inl ne_53))
  refine E_getF (pc' := 82) X (host := "") (Or.inl (w_54 hw)) Via.refl F_82 d8_79 rfl (fun T X => ?_)
  refine E_iloadN (pc' := 83) X d8_82 rfl rfl ?_
  refine E_iaload (v := (.int (1 : Int32))) (pc' := 84) X Aa_80 (by decide) rfl d8_83 rfl ?_
  refine E_callS (pc' := 87) (W := 0) (cells' := 2) (slots' := 6) (argsL := [(.int (1 : Int32)), (.int (1 : Int32))]) (rest := []) X (rm5 l Z a0 hw (1 : Int32) (1 : Int32) (1 : Int32) h_79 X.ext (by decide)) (w_28 hw) (w_29 hw) (w_17 hw) (w_30 hw) (by decide) rfl rfl pd_1 rfl rfl d8_84 rfl (Nat.le_refl _) (by decide) (by decide) rfl rfl (by decide) (by decide) (fun v83 T h_84 X hQ85 => ?_)
  obtain ⟨rfl, rfl⟩ := hQ85
  show End Z p e below s _ _ _ _ (mkF m 87 #[.val (.ref a), .val (.ref t), .val (.int (1 : Int32)), .val (.int (2 : Int32)), .unset, .unset, .unset, .unset] [(.int (1 : Int32))])
  refine E_istoreN (Ls' := #[.val (.ref a), .val (.ref t), .val (.int (1 : Int32)), .val (.int (2 : Int32)), .unset, .unset, .unset, .unset]) (pc' := 88) X d8_87 rfl rfl ?_
  refine E_iinc (x := (2 : Int32)) (z := (3 : Int32)) (Ls' := #[.val (.ref a), .val (.ref t), .val (.int (1 : Int32)), .val (.int (3 : Int32)), .unset, .unset, .unset, .unset]) (pc' := 91) X d8_88 rfl rfl rfl rfl ?_
  refine E_goto (pc' := 50) X d8_91 (by decide) rfl ?_
  refine E_iloadN (pc' := 51) X d8_50 rfl rfl ?_
  refine E_aloadN (v := (.ref a)) (pc' := 52) X d8_51 rfl rfl rfl ?_
  have F_87 : Fld Z h_79 a "com/example/nimble_calculus/nimblecalculus/equivalence/Splits" "nodeCount" "I" (.int (4 : Int32)) := (F_75.other W_78 (Or.inl ne_53))
  refine E_getF (pc' := 55) X (host := "") (Or.inl (w_11 hw)) Via.refl F_87 d8_52 rfl (fun T X => ?_)
  refine E_icmp (pcY := 94) (pcN := 58) X (ic_ge _ _) d8_55 (by decide) rfl rfl (fun hc55_2 => absurd hc55_2 (by decide)) (fun hc55_2 => ?_)
  refine E_aloadN (v := (.ref a)) (pc' := 59) X d8_58 rfl rfl rfl ?_
  refine E_getF (pc' := 62) X (host := "") (Or.inl (w_54 hw)) Via.refl F_82 d8_59 rfl (fun T X => ?_)
  refine E_iloadN (pc' := 63) X d8_62 rfl rfl ?_
  refine E_aloadN (v := (.ref a)) (pc' := 64) X d8_63 rfl rfl rfl ?_
  refine E_getF (pc' := 67) X (host := "") (Or.inl (w_54 hw)) Via.refl F_82 d8_64 rfl (fun T X => ?_)
  refine E_aloadN (v := (.ref a)) (pc' := 68) X d8_67 rfl rfl rfl ?_
  have F_88 : Fld Z h_79 a "com/example/nimble_calculus/nimblecalculus/equivalence/Splits" "parent" "[I" (.ref P) := (F_76.other W_78 (Or.inl ne_53))
  refine E_getF (pc' := 71) X (host := "") (Or.inl (w_22 hw)) Via.refl F_88 d8_68 rfl (fun T X => ?_)
  refine E_iloadN (pc' := 72) X d8_71 rfl rfl ?_
  have A_89 : Ar Z h_79 P .int [(.int (0 : Int32)), (.int (0 : Int32)), (.int (0 : Int32)), (.int (1 : Int32)), (.int (0 : Int32)), (.int (0 : Int32)), (.int (0 : Int32))] := (A_77.other W_78 ne_52)
  refine E_iaload (v := (.int (1 : Int32))) (pc' := 73) X A_89 (by decide) rfl d8_72 rfl ?_
  refine E_iaload (v := (.int (1 : Int32))) (pc' := 74) X Aa_80 (by decide) rfl d8_73 rfl ?_
  refine E_iconst (v := (1 : Int32)) (pc' := 75) X d8_74 rfl rfl ?_
  refine E_iadd (pc' := 76) X d8_75 rfl ?_
  refine E_eqI (z := (2 : Int32)) (by decide) ?_
  refine E_iastore (vs' := [(.int (0 : Int32)), (.int (1 : Int32)), (.int (1 : Int32)), (.int (2 : Int32))]) (pc' := 77) X Aa_80 (by decide) (Nat.le_of_ble_eq_true rfl) rfl fr_50 d8_76 rfl (fun T h_91 X W_90 Aa_92 => ?_)
  have K_93 : Keep h0 h_91 [a] := K_81.wr W_90 (Or.inr b_48)
  refine E_iloadN (pc' := 78) X d8_77 rfl rfl ?_
  refine E_aloadN (v := (.ref a)) (pc' := 79) X d8_78 rfl rfl rfl ?_
  have F_94 : Fld Z h_91 a "com/example/nimble_calculus/nimblecalculus/equivalence/Splits" "height" "[I" (.ref o40) := (F_82.other W_90 (Or.inl ne_53))
  refine E_getF (pc' := 82) X (host := "") (Or.inl (w_54 hw)) Via.refl F_94 d8_79 rfl (fun T X => ?_)
  refine E_iloadN (pc' := 83) X d8_82 rfl rfl ?_
  refine E_iaload (v := (.int (2 : Int32))) (pc' := 84) X Aa_92 (by decide) rfl d8_83 rfl ?_
  refine E_callS (pc' := 87) (W := 0) (cells' := 2) (slots' := 6) (argsL := [(.int (1 : Int32)), (.int (2 : Int32))]) (rest := []) X (rm5 l Z a0 hw (1 : Int32) (2 : Int32) (2 : Int32) h_91 X.ext (by decide)) (w_28 hw) (w_29 hw) (w_17 hw) (w_30 hw) (by decide) rfl rfl pd_1 rfl rfl d8_84 rfl (Nat.le_refl _) (by decide) (by decide) rfl rfl (by decide) (by decide) (fun v95 T h_96 X hQ97 => ?_)
  obtain ⟨rfl, rfl⟩ := hQ97
  show End Z p e below s _ _ _ _ (mkF m 87 #[.val (.ref a), .val (.ref t), .val (.int (1 : Int32)), .val (.int (3 : Int32)), .unset, .unset, .unset, .unset] [(.int (2 : Int32))])
  refine E_istoreN (Ls' := #[.val (.ref a), .val (.ref t), .val (.int (2 : Int32)), .val (.int (3 : Int32)), .unset, .unset, .unset, .unset]) (pc' := 88) X d8_87 rfl rfl ?_
  refine E_iinc (x := (3 : Int32)) (z := (4 : Int32)) (Ls' := #[.val (.ref a), .val (.ref t), .val (.int (2 : Int32)), .val (.int (4 : Int32)), .unset, .unset, .unset, .unset]) (pc' := 91) X d8_88 rfl rfl rfl rfl ?_
  refine E_goto (pc' := 50) X d8_91 (by decide) rfl ?_
  refine E_iloadN (pc' := 51) X d8_50 rfl rfl ?_
  refine E_aloadN (v := (.ref a)) (pc' := 52) X d8_51 rfl rfl rfl ?_
  have F_99 : Fld Z h_91 a "com/example/nimble_calculus/nimblecalculus/equivalence/Splits" "nodeCount" "I" (.int (4 : Int32)) := (F_87.other W_90 (Or.inl ne_53))
  refine E_getF (pc' := 55) X (host := "") (Or.inl (w_11 hw)) Via.refl F_99 d8_52 rfl (fun T X => ?_)
  refine E_icmp (pcY := 94) (pcN := 58) X (ic_ge _ _) d8_55 (by decide) rfl rfl (fun hc55_3 => ?_) (fun hc55_3 => absurd (by decide) hc55_3)
  refine E_bipush (v := (32 : Int32)) (pc' := 96) X d8_94 rfl rfl ?_
  refine E_iconst (v := (1 : Int32)) (pc' := 97) X d8_96 rfl rfl ?_
  refine E_iloadN (pc' := 98) X d8_97 rfl rfl ?_
  refine E_callS (pc' := 101) (W := 1) (cells' := 2) (slots' := 6) (argsL := [(.int (1 : Int32)), (.int (2 : Int32))]) (rest := [(.int (32 : Int32))]) X (rm5 l Z a0 hw (1 : Int32) (2 : Int32) (2 : Int32) h_91 X.ext (by decide)) (w_28 hw) (w_29 hw) (w_17 hw) (w_30 hw) (by decide) rfl rfl pd_1 rfl rfl d8_98 rfl (Nat.le_refl _) (by decide) (by decide) rfl rfl (by decide) (by decide) (fun v100 T h_101 X hQ102 => ?_)
  obtain ⟨rfl, rfl⟩ := hQ102
  show End Z p e below s _ _ _ _ (mkF m 101 #[.val (.ref a), .val (.ref t), .val (.int (2 : Int32)), .val (.int (4 : Int32)), .unset, .unset, .unset, .unset] [(.int (2 : Int32)), (.int (32 : Int32))])
  refine E_callS (pc' := 104) (W := 1) (cells' := 2) (slots' := 6) (argsL := [(.int (2 : Int32))]) (rest := [(.int (32 : Int32))]) X (rm_nlz2 l Z a0 hw h_91 X.ext) (w_56 hw) (w_57 hw) (w_58 hw) (w_59 hw) (by decide) rfl rfl pd_2 rfl rfl d8_101 rfl (Nat.le_refl _) (by decide) (by decide) rfl rfl (by decide) (by decide) (fun v104 T h_105 X hQ106 => ?_)
  obtain ⟨rfl, rfl⟩ := hQ106
  show End Z p e below s _ _ _ _ (mkF m 104 #[.val (.ref a), .val (.ref t), .val (.int (2 : Int32)), .val (.int (4 : Int32)), .unset, .unset, .unset, .unset] [(.int (30 : Int32)), (.int (32 : Int32))])
  refine E_isub (pc' := 105) X d8_104 rfl ?_
  refine E_eqI (z := (2 : Int32)) (by decide) ?_
  refine E_istoreN (Ls' := #[.val (.ref a), .val (.ref t), .val (.int (2 : Int32)), .val (.int (2 : Int32)), .unset, .unset, .unset, .unset]) (pc' := 106) X d8_105 rfl rfl ?_
  refine E_aloadN (v := (.ref a)) (pc' := 107) X d8_106 rfl rfl rfl ?_
  refine E_iloadN (pc' := 108) X d8_107 rfl rfl ?_
  have A_113 : Ar Z h_91 NB .int [(.int (3 : Int32)), (.int (2 : Int32)), (.int (0 : Int32)), (.int (0 : Int32))] := (((((A_45.ext Ex_42).other W_58 ne_1).other W_66 ne_51).other W_78 ne_51).other W_90 ne_51)
  have A_114 : Ar Z h_91 P .int [(.int (0 : Int32)), (.int (0 : Int32)), (.int (0 : Int32)), (.int (1 : Int32)), (.int (0 : Int32)), (.int (0 : Int32)), (.int (0 : Int32))] := (A_89.other W_90 ne_52)
  have E_115 : Exa Z h_91 a "com/example/nimble_calculus/nimblecalculus/equivalence/Splits" := ((((E_57.wr W_58).wr W_66).wr W_78).wr W_90)
  have A_116 : Ar Z h_91 o4 .int [(.int (3 : Int32)), (.int (2 : Int32))] := (((((Aa_36.ext Ex_42).other W_58 (Ne.symm ne_14)).other W_66 ne_54).other W_78 ne_54).other W_90 ne_54)
  have A_117 : Ar Z h_91 t .int [(.int (0 : Int32)), (.int (1 : Int32))] := (((((A_38.ext Ex_42).other W_58 (Ne.symm ne_3)).other W_66 ne_55).other W_78 ne_55).other W_90 ne_55)
  have le_o108 := X.le
  refine E_newRA (pc' := 111) X (n := (2 : Int32)) (cap := 2) (vs := [.null, .null]) (cells' := 3) (slots' := 8) (by decide) (w_61 hw) (w_62 hw) d8_108 rfl (by decide) (by decide) (by decide) rfl rfl rfl (by decide) (by decide) (fun T h_109 o108 g_112 X Ex_110 Aa_111 => ?_)
  have b_118 : h0.size ≤ o108 := by rw [g_112]; exact K_93.1
  have K_119 : Keep h0 h_109 [a] := K_93.ext Ex_110
  have fr_120 : Z.heap.size ≤ o108 := by rw [g_112]; exact le_o108
  have ne_121 : NB ≠ o108 := Nat.ne_of_lt (by rw [g_112]; exact A_113.lt)
  have ne_122 : P ≠ o108 := Nat.ne_of_lt (by rw [g_112]; exact A_114.lt)
  have ne_123 : a ≠ o108 := Nat.ne_of_lt (by rw [g_112]; exact E_115.lt)
  have ne_124 : o4 ≠ o108 := Nat.ne_of_lt (by rw [g_112]; exact A_116.lt)
  have ne_125 : o40 ≠ o108 := Nat.ne_of_lt (by rw [g_112]; exact Aa_92.lt)
  have ne_126 : t ≠ o108 := Nat.ne_of_lt (by rw [g_112]; exact A_117.lt)
  have F_127 : Fld Z h_109 a "com/example/nimble_calculus/nimblecalculus/equivalence/Splits" "jumps" "[[I" .null := ((((((((((hF10.ext Ex_6).other W_18 (Or.inr (slot_ne (Or.inl (w_64 hw)) (Or.inl (w_53 hw)) (by decide) (t := (.array (.array .int))) (t' := (.array .int)) (by decide) (by decide)))).other W_26 (Or.inl ne_14)).other W_34 (Or.inl ne_14)).ext Ex_42).other W_58 (Or.inr (slot_ne (Or.inl (w_64 hw)) (Or.inl (w_55 hw)) (by decide) (t := (.array (.array .int))) (t' := (.array .int)) (by decide) (by decide)))).other W_66 (Or.inl ne_53)).other W_78 (Or.inl ne_53)).other W_90 (Or.inl ne_53)).ext Ex_110)
  have E_128 : Exa Z h_109 a "com/example/nimble_calculus/nimblecalculus/equivalence/Splits" := (E_115.ext Ex_110)
  refine E_putF (pc' := 114) X (host := "") (Or.inl (w_63 hw)) Via.refl F_127 E_128 (Or.inl (w_64 hw)) (w_3 hw) (ty := (.array (.array .int))) (by decide) rfl rfl hfr14 d8_111 rfl (fun T h_130 X W_129 => ?_)
  have K_131 : Keep h0 h_130 [a] := K_119.wr W_129 (Or.inl (List.mem_of_getElem? (i := 0) rfl))
  refine E_aloadN (v := (.ref a)) (pc' := 115) X d8_114 rfl rfl rfl ?_
  have F_132 : Fld Z h_130 a "com/example/nimble_calculus/nimblecalculus/equivalence/Splits" "jumps" "[[I" (.ref o108) := (F_127.same W_129)
  refine E_getF (pc' := 118) X (host := "") (Or.inl (w_63 hw)) Via.refl F_132 d8_115 rfl (fun T X => ?_)
  refine E_iconst (v := (0 : Int32)) (pc' := 119) X d8_118 rfl rfl ?_
  refine E_aloadN (v := (.ref a)) (pc' := 120) X d8_119 rfl rfl rfl ?_
  have F_133 : Fld Z h_130 a "com/example/nimble_calculus/nimblecalculus/equivalence/Splits" "parent" "[I" (.ref P) := (((F_88.other W_90 (Or.inl ne_53)).ext Ex_110).other W_129 (Or.inr (slot_ne (Or.inr (w_23 hw)) (Or.inl (w_64 hw)) (by decide) (t := (.array .int)) (t' := (.array (.array .int))) (by decide) (by decide))))
  refine E_getF (pc' := 123) X (host := "") (Or.inl (w_22 hw)) Via.refl F_133 d8_120 rfl (fun T X => ?_)
  refine E_aloadN (v := (.ref a)) (pc' := 124) X d8_123 rfl rfl rfl ?_
  have F_134 : Fld Z h_130 a "com/example/nimble_calculus/nimblecalculus/equivalence/Splits" "nodeCount" "I" (.int (4 : Int32)) := ((F_99.ext Ex_110).other W_129 (Or.inr (slot_ne (Or.inl (w_12 hw)) (Or.inl (w_64 hw)) (by decide) (t := .int) (t' := (.array (.array .int))) (by decide) (by decide))))
  refine E_getF (pc' := 127) X (host := "") (Or.inl (w_11 hw)) Via.refl F_134 d8_124 rfl (fun T X => ?_)
  have A_135 : Ar Z h_130 P .int [(.int (0 : Int32)), (.int (0 : Int32)), (.int (0 : Int32)), (.int (1 : Int32)), (.int (0 : Int32)), (.int (0 : Int32)), (.int (0 : Int32))] := ((A_114.ext Ex_110).other W_129 ne_2)
  have A_139 : Ar Z h_130 NB .int [(.int (3 : Int32)), (.int (2 : Int32)), (.int (0 : Int32)), (.int (0 : Int32))] := ((A_113.ext Ex_110).other W_129 ne_1)
  have E_140 : Exa Z h_130 a "com/example/nimble_calculus/nimblecalculus/equivalence/Splits" := (E_128.wr W_129)
  have A_141 : ArR Z h_130 o108 (.array .int) "[I" [.null, .null] := (Aa_111.other W_129 (Ne.symm ne_123))
  have A_142 : Ar Z h_130 o4 .int [(.int (3 : Int32)), (.int (2 : Int32))] := ((A_116.ext Ex_110).other W_129 (Ne.symm ne_14))
  have A_143 : Ar Z h_130 o40 .int [(.int (0 : Int32)), (.int (1 : Int32)), (.int (1 : Int32)), (.int (2 : Int32))] := ((Aa_92.ext Ex_110).other W_129 (Ne.symm ne_53))
  have A_144 : Ar Z h_130 t .int [(.int (0 : Int32)), (.int (1 : Int32))] := ((A_117.ext Ex_110).other W_129 (Ne.symm ne_3))
  have le_145 := X.le
  refine E_callS (pc' := 130) (W := 2) (cells' := 4) (slots' := 12) (argsL := [(.ref P), (.int (4 : Int32))]) (rest := [(.int (0 : Int32)), (.ref o108)]) X (rm10 l Z a0 hw P (0 : Int32) (0 : Int32) (0 : Int32) (1 : Int32) (0 : Int32) (0 : Int32) (0 : Int32) h_130 X.ext A_135) (w_65 hw) (w_66 hw) (w_67 hw) (w_68 hw) (by decide) rfl rfl pd_3 rfl rfl d8_127 rfl (Nat.le_refl _) (by decide) (by decide) rfl rfl (by decide) (by decide) (fun v136 T h_137 X hQ138 => ?_)
  obtain ⟨r_146, rfl, Kc_147, nw_148, A_149, E_150⟩ := hQ138
  have K_151 : Keep h0 h_137 [a] := K_131.trans Kc_147 all0
  have ne_152 : NB ≠ r_146 := Nat.ne_of_lt (Nat.lt_of_lt_of_le A_139.lt nw_148)
  have ne_153 : P ≠ r_146 := Nat.ne_of_lt (Nat.lt_of_lt_of_le A_135.lt nw_148)
  have ne_154 : a ≠ r_146 := Nat.ne_of_lt (Nat.lt_of_lt_of_le E_140.lt nw_148)
  have ne_155 : o108 ≠ r_146 := Nat.ne_of_lt (Nat.lt_of_lt_of_le A_141.lt nw_148)
  have ne_156 : o4 ≠ r_146 := Nat.ne_of_lt (Nat.lt_of_lt_of_le A_142.lt nw_148)
  have ne_157 : o40 ≠ r_146 := Nat.ne_of_lt (Nat.lt_of_lt_of_le A_143.lt nw_148)
  have ne_158 : t ≠ r_146 := Nat.ne_of_lt (Nat.lt_of_lt_of_le A_144.lt nw_148)
  have fr_159 : Z.heap.size ≤ r_146 := Nat.le_trans le_145 nw_148
  show End Z p e below s _ _ _ _ (mkF m 130 #[.val (.ref a), .val (.ref t), .val (.int (2 : Int32)), .val (.int (2 : Int32)), .unset, .unset, .unset, .unset] [(.ref r_146), (.int (0 : Int32)), (.ref o108)])
  have A_160 : ArR Z h_137 o108 (.array .int) "[I" [.null, .null] := (A_141.keep Kc_147 nin0)
  refine E_aastore (vs' := [(.ref r_146), .null]) (pc' := 131) X A_160 (Ins.self E_150) rfl (by decide) (Nat.le_of_ble_eq_true rfl) rfl fr_120 d8_130 rfl (fun T h_162 X W_161 Aa_163 => ?_)
  have K_164 : Keep h0 h_162 [a] := K_151.wr W_161 (Or.inr b_118)
  refine E_iconst (v := (1 : Int32)) (pc' := 132) X d8_131 rfl rfl ?_
  refine E_istore (Ls' := #[.val (.ref a), .val (.ref t), .val (.int (2 : Int32)), .val (.int (2 : Int32)), .val (.int (1 : Int32)), .unset, .unset, .unset]) (pc' := 134) X d8_132 rfl rfl ?_
  refine E_iload (pc' := 136) X d8_134 rfl rfl ?_
  refine E_iloadN (pc' := 137) X d8_136 rfl rfl ?_
  refine E_icmp (pcY := 205) (pcN := 140) X (ic_ge _ _) d8_137 (by decide) rfl rfl (fun hc137_0 => absurd hc137_0 (by decide)) (fun hc137_0 => ?_)
  refine E_aloadN (v := (.ref a)) (pc' := 141) X d8_140 rfl rfl rfl ?_
  have F_165 : Fld Z h_162 a "com/example/nimble_calculus/nimblecalculus/equivalence/Splits" "jumps" "[[I" (.ref o108) := ((F_132.keep Kc_147 nin0).other W_161 (Or.inl ne_123))
  refine E_getF (pc' := 144) X (host := "") (Or.inl (w_63 hw)) Via.refl F_165 d8_141 rfl (fun T X => ?_)
  refine E_iload (pc' := 146) X d8_144 rfl rfl ?_
  refine E_iconst (v := (1 : Int32)) (pc' := 147) X d8_146 rfl rfl ?_
  refine E_isub (pc' := 148) X d8_147 rfl ?_
  refine E_eqI (z := (0 : Int32)) (by decide) ?_
  refine E_aaload (v := (.ref r_146)) (pc' := 149) X Aa_163.ar rfl (by decide) rfl d8_148 rfl ?_
  refine E_astore (Ls' := #[.val (.ref a), .val (.ref t), .val (.int (2 : Int32)), .val (.int (2 : Int32)), .val (.int (1 : Int32)), .val (.ref r_146), .unset, .unset]) (pc' := 151) X d8_149 rfl rfl rfl ?_
  refine E_aloadN (v := (.ref a)) (pc' := 152) X d8_151 rfl rfl rfl ?_
  have F_166 : Fld Z h_162 a "com/example/nimble_calculus/nimblecalculus/equivalence/Splits" "nodeCount" "I" (.int (4 : Int32)) := ((F_134.keep Kc_147 nin0).other W_161 (Or.inl ne_123))
  refine E_getF (pc' := 155) X (host := "") (Or.inl (w_11 hw)) Via.refl F_166 d8_152 rfl (fun T X => ?_)
  have A_172 : Ar Z h_162 NB .int [(.int (3 : Int32)), (.int (2 : Int32)), (.int (0 : Int32)), (.int (0 : Int32))] := ((A_139.keep Kc_147 nin0).other W_161 ne_121)
  have A_173 : Ar Z h_162 P .int [(.int (0 : Int32)), (.int (0 : Int32)), (.int (0 : Int32)), (.int (1 : Int32)), (.int (0 : Int32)), (.int (0 : Int32)), (.int (0 : Int32))] := ((A_135.keep Kc_147 nin0).other W_161 ne_122)
  have E_174 : Exa Z h_162 a "com/example/nimble_calculus/nimblecalculus/equivalence/Splits" := ((E_140.keep Kc_147).wr W_161)
  have A_175 : Ar Z h_162 o4 .int [(.int (3 : Int32)), (.int (2 : Int32))] := ((A_142.keep Kc_147 nin0).other W_161 ne_124)
  have A_176 : Ar Z h_162 o40 .int [(.int (0 : Int32)), (.int (1 : Int32)), (.int (1 : Int32)), (.int (2 : Int32))] := ((A_143.keep Kc_147 nin0).other W_161 ne_125)
  have E_177 : Exa Z h_162 r_146 "[I" := (E_150.wr W_161)
  have A_178 : Ar Z h_162 t .int [(.int (0 : Int32)), (.int (1 : Int32))] := ((A_144.keep Kc_147 nin0).other W_161 ne_126)
  have le_o167 := X.le
  refine E_newAE (pc' := 157) X (aty := .int) (n := (4 : Int32)) (cap := 4) (vs := [(.int (0 : Int32)), (.int (0 : Int32)), (.int (0 : Int32)), (.int (0 : Int32))]) (cells' := 5) (slots' := 16) (ad := "[I") (by decide) (w_1 hw) d8_155 rfl (by decide) (by decide) (by decide) rfl rfl rfl (by decide) (by decide) (fun T h_168 o167 g_171 X Ex_169 Aa_170 EaAa_170 => ?_)
  have b_179 : h0.size ≤ o167 := by rw [g_171]; exact K_164.1
  have K_180 : Keep h0 h_168 [a] := K_164.ext Ex_169
  have fr_181 : Z.heap.size ≤ o167 := by rw [g_171]; exact le_o167
  have ne_182 : NB ≠ o167 := Nat.ne_of_lt (by rw [g_171]; exact A_172.lt)
  have ne_183 : P ≠ o167 := Nat.ne_of_lt (by rw [g_171]; exact A_173.lt)
  have ne_184 : a ≠ o167 := Nat.ne_of_lt (by rw [g_171]; exact E_174.lt)
  have ne_185 : o108 ≠ o167 := Nat.ne_of_lt (by rw [g_171]; exact Aa_163.lt)
  have ne_186 : o4 ≠ o167 := Nat.ne_of_lt (by rw [g_171]; exact A_175.lt)
  have ne_187 : o40 ≠ o167 := Nat.ne_of_lt (by rw [g_171]; exact A_176.lt)
  have ne_188 : r_146 ≠ o167 := Nat.ne_of_lt (by rw [g_171]; exact E_177.lt)
  have ne_189 : t ≠ o167 := Nat.ne_of_lt (by rw [g_171]; exact A_178.lt)
  refine E_astore (Ls' := #[.val (.ref a), .val (.ref t), .val (.int (2 : Int32)), .val (.int (2 : Int32)), .val (.int (1 : Int32)), .val (.ref r_146), .val (.ref o167), .unset]) (pc' := 159) X d8_157 rfl rfl rfl ?_
  refine E_iconst (v := (0 : Int32)) (pc' := 160) X d8_159 rfl rfl ?_
  refine E_istore (Ls' := #[.val (.ref a), .val (.ref t), .val (.int (2 : Int32)), .val (.int (2 : Int32)), .val (.int (1 : Int32)), .val (.ref r_146), .val (.ref o167), .val (.int (0 : Int32))]) (pc' := 162) X d8_160 rfl rfl ?_
  refine E_iload (pc' := 164) X d8_162 rfl rfl ?_
  refine E_aloadN (v := (.ref a)) (pc' := 165) X d8_164 rfl rfl rfl ?_
  have F_190 : Fld Z h_168 a "com/example/nimble_calculus/nimblecalculus/equivalence/Splits" "nodeCount" "I" (.int (4 : Int32)) := (F_166.ext Ex_169)
  refine E_getF (pc' := 168) X (host := "") (Or.inl (w_11 hw)) Via.refl F_190 d8_165 rfl (fun T X => ?_)
  refine E_icmp (pcY := 190) (pcN := 171) X (ic_ge _ _) d8_168 (by decide) rfl rfl (fun hc168_0 => absurd hc168_0 (by decide)) (fun hc168_0 => ?_)
  refine E_aload (v := (.ref o167)) (pc' := 173) X d8_171 rfl rfl rfl ?_
  refine E_iload (pc' := 175) X d8_173 rfl rfl ?_
  refine E_aload (v := (.ref r_146)) (pc' := 177) X d8_175 rfl rfl rfl ?_
  refine E_aload (v := (.ref r_146)) (pc' := 179) X d8_177 rfl rfl rfl ?_
  refine E_iload (pc' := 181) X d8_179 rfl rfl ?_
  have A_191 : Ar Z h_168 r_146 .int [(.int (0 : Int32)), (.int (0 : Int32)), (.int (0 : Int32)), (.int (1 : Int32))] := ((A_149.other W_161 (Ne.symm ne_155)).ext Ex_169)
  refine E_iaload (v := (.int (0 : Int32))) (pc' := 182) X A_191 (by decide) rfl d8_181 rfl ?_
  refine E_iaload (v := (.int (0 : Int32))) (pc' := 183) X A_191 (by decide) rfl d8_182 rfl ?_
  refine E_iastore (vs' := [(.int (0 : Int32)), (.int (0 : Int32)), (.int (0 : Int32)), (.int (0 : Int32))]) (pc' := 184) X Aa_170 (by decide) (Nat.le_of_ble_eq_true rfl) rfl fr_181 d8_183 rfl (fun T h_193 X W_192 Aa_194 => ?_)
  have K_195 : Keep h0 h_193 [a] := K_180.wr W_192 (Or.inr b_179)
  refine E_iinc (x := (0 : Int32)) (z := (1 : Int32)) (Ls' := #[.val (.ref a), .val (.ref t), .val (.int (2 : Int32)), .val (.int (2 : Int32)), .val (.int (1 : Int32)), .val (.ref r_146), .val (.ref o167), .val (.int (1 : Int32))]) (pc' := 187) X d8_184 rfl rfl rfl rfl ?_
  refine E_goto (pc' := 162) X d8_187 (by decide) rfl ?_
  refine E_iload (pc' := 164) X d8_162 rfl rfl ?_
  refine E_aloadN (v := (.ref a)) (pc' := 165) X d8_164 rfl rfl rfl ?_
  have F_196 : Fld Z h_193 a "com/example/nimble_calculus/nimblecalculus/equivalence/Splits" "nodeCount" "I" (.int (4 : Int32)) := (F_190.other W_192 (Or.inl ne_184))
  refine E_getF (pc' := 168) X (host := "") (Or.inl (w_11 hw)) Via.refl F_196 d8_165 rfl (fun T X => ?_)
  refine E_icmp (pcY := 190) (pcN := 171) X (ic_ge _ _) d8_168 (by decide) rfl rfl (fun hc168_1 => absurd hc168_1 (by decide)) (fun hc168_1 => ?_)
  refine E_aload (v := (.ref o167)) (pc' := 173) X d8_171 rfl rfl rfl ?_
  refine E_iload (pc' := 175) X d8_173 rfl rfl ?_
  refine E_aload (v := (.ref r_146)) (pc' := 177) X d8_175 rfl rfl rfl ?_
  refine E_aload (v := (.ref r_146)) (pc' := 179) X d8_177 rfl rfl rfl ?_
  refine E_iload (pc' := 181) X d8_179 rfl rfl ?_
  have A_197 : Ar Z h_193 r_146 .int [(.int (0 : Int32)), (.int (0 : Int32)), (.int (0 : Int32)), (.int (1 : Int32))] := (A_191.other W_192 ne_188)
  refine E_iaload (v := (.int (0 : Int32))) (pc' := 182) X A_197 (by decide) rfl d8_181 rfl ?_
  refine E_iaload (v := (.int (0 : Int32))) (pc' := 183) X A_197 (by decide) rfl d8_182 rfl ?_
  refine E_iastore (vs' := [(.int (0 : Int32)), (.int (0 : Int32)), (.int (0 : Int32)), (.int (0 : Int32))]) (pc' := 184) X Aa_194 (by decide) (Nat.le_of_ble_eq_true rfl) rfl fr_181 d8_183 rfl (fun T h_199 X W_198 Aa_200 => ?_)
  have K_201 : Keep h0 h_199 [a] := K_195.wr W_198 (Or.inr b_179)
  refine E_iinc (x := (1 : Int32)) (z := (2 : Int32)) (Ls' := #[.val (.ref a), .val (.ref t), .val (.int (2 : Int32)), .val (.int (2 : Int32)), .val (.int (1 : Int32)), .val (.ref r_146), .val (.ref o167), .val (.int (2 : Int32))]) (pc' := 187) X d8_184 rfl rfl rfl rfl ?_
  refine E_goto (pc' := 162) X d8_187 (by decide) rfl ?_
  refine E_iload (pc' := 164) X d8_162 rfl rfl ?_
  refine E_aloadN (v := (.ref a)) (pc' := 165) X d8_164 rfl rfl rfl ?_
  have F_202 : Fld Z h_199 a "com/example/nimble_calculus/nimblecalculus/equivalence/Splits" "nodeCount" "I" (.int (4 : Int32)) := (F_196.other W_198 (Or.inl ne_184))
  refine E_getF (pc' := 168) X (host := "") (Or.inl (w_11 hw)) Via.refl F_202 d8_165 rfl (fun T X => ?_)
  refine E_icmp (pcY := 190) (pcN := 171) X (ic_ge _ _) d8_168 (by decide) rfl rfl (fun hc168_2 => absurd hc168_2 (by decide)) (fun hc168_2 => ?_)
  refine E_aload (v := (.ref o167)) (pc' := 173) X d8_171 rfl rfl rfl ?_
  refine E_iload (pc' := 175) X d8_173 rfl rfl ?_
  refine E_aload (v := (.ref r_146)) (pc' := 177) X d8_175 rfl rfl rfl ?_
  refine E_aload (v := (.ref r_146)) (pc' := 179) X d8_177 rfl rfl rfl ?_
  refine E_iload (pc' := 181) X d8_179 rfl rfl ?_
  have A_203 : Ar Z h_199 r_146 .int [(.int (0 : Int32)), (.int (0 : Int32)), (.int (0 : Int32)), (.int (1 : Int32))] := (A_197.other W_198 ne_188)
  refine E_iaload (v := (.int (0 : Int32))) (pc' := 182) X A_203 (by decide) rfl d8_181 rfl ?_
  refine E_iaload (v := (.int (0 : Int32))) (pc' := 183) X A_203 (by decide) rfl d8_182 rfl ?_
  refine E_iastore (vs' := [(.int (0 : Int32)), (.int (0 : Int32)), (.int (0 : Int32)), (.int (0 : Int32))]) (pc' := 184) X Aa_200 (by decide) (Nat.le_of_ble_eq_true rfl) rfl fr_181 d8_183 rfl (fun T h_205 X W_204 Aa_206 => ?_)
  have K_207 : Keep h0 h_205 [a] := K_201.wr W_204 (Or.inr b_179)
  refine E_iinc (x := (2 : Int32)) (z := (3 : Int32)) (Ls' := #[.val (.ref a), .val (.ref t), .val (.int (2 : Int32)), .val (.int (2 : Int32)), .val (.int (1 : Int32)), .val (.ref r_146), .val (.ref o167), .val (.int (3 : Int32))]) (pc' := 187) X d8_184 rfl rfl rfl rfl ?_
  refine E_goto (pc' := 162) X d8_187 (by decide) rfl ?_
  refine E_iload (pc' := 164) X d8_162 rfl rfl ?_
  refine E_aloadN (v := (.ref a)) (pc' := 165) X d8_164 rfl rfl rfl ?_
  have F_208 : Fld Z h_205 a "com/example/nimble_calculus/nimblecalculus/equivalence/Splits" "nodeCount" "I" (.int (4 : Int32)) := (F_202.other W_204 (Or.inl ne_184))
  refine E_getF (pc' := 168) X (host := "") (Or.inl (w_11 hw)) Via.refl F_208 d8_165 rfl (fun T X => ?_)
  refine E_icmp (pcY := 190) (pcN := 171) X (ic_ge _ _) d8_168 (by decide) rfl rfl (fun hc168_3 => absurd hc168_3 (by decide)) (fun hc168_3 => ?_)
  refine E_aload (v := (.ref o167)) (pc' := 173) X d8_171 rfl rfl rfl ?_
  refine E_iload (pc' := 175) X d8_173 rfl rfl ?_
  refine E_aload (v := (.ref r_146)) (pc' := 177) X d8_175 rfl rfl rfl ?_
  refine E_aload (v := (.ref r_146)) (pc' := 179) X d8_177 rfl rfl rfl ?_
  refine E_iload (pc' := 181) X d8_179 rfl rfl ?_
  have A_209 : Ar Z h_205 r_146 .int [(.int (0 : Int32)), (.int (0 : Int32)), (.int (0 : Int32)), (.int (1 : Int32))] := (A_203.other W_204 ne_188)
  refine E_iaload (v := (.int (1 : Int32))) (pc' := 182) X A_209 (by decide) rfl d8_181 rfl ?_
  refine E_iaload (v := (.int (0 : Int32))) (pc' := 183) X A_209 (by decide) rfl d8_182 rfl ?_
  refine E_iastore (vs' := [(.int (0 : Int32)), (.int (0 : Int32)), (.int (0 : Int32)), (.int (0 : Int32))]) (pc' := 184) X Aa_206 (by decide) (Nat.le_of_ble_eq_true rfl) rfl fr_181 d8_183 rfl (fun T h_211 X W_210 Aa_212 => ?_)
  have K_213 : Keep h0 h_211 [a] := K_207.wr W_210 (Or.inr b_179)
  refine E_iinc (x := (3 : Int32)) (z := (4 : Int32)) (Ls' := #[.val (.ref a), .val (.ref t), .val (.int (2 : Int32)), .val (.int (2 : Int32)), .val (.int (1 : Int32)), .val (.ref r_146), .val (.ref o167), .val (.int (4 : Int32))]) (pc' := 187) X d8_184 rfl rfl rfl rfl ?_
  refine E_goto (pc' := 162) X d8_187 (by decide) rfl ?_
  refine E_iload (pc' := 164) X d8_162 rfl rfl ?_
  refine E_aloadN (v := (.ref a)) (pc' := 165) X d8_164 rfl rfl rfl ?_
  have F_214 : Fld Z h_211 a "com/example/nimble_calculus/nimblecalculus/equivalence/Splits" "nodeCount" "I" (.int (4 : Int32)) := (F_208.other W_210 (Or.inl ne_184))
  refine E_getF (pc' := 168) X (host := "") (Or.inl (w_11 hw)) Via.refl F_214 d8_165 rfl (fun T X => ?_)
  refine E_icmp (pcY := 190) (pcN := 171) X (ic_ge _ _) d8_168 (by decide) rfl rfl (fun hc168_4 => ?_) (fun hc168_4 => absurd (by decide) hc168_4)
  refine E_aloadN (v := (.ref a)) (pc' := 191) X d8_190 rfl rfl rfl ?_
  have F_215 : Fld Z h_211 a "com/example/nimble_calculus/nimblecalculus/equivalence/Splits" "jumps" "[[I" (.ref o108) := (((((F_165.ext Ex_169).other W_192 (Or.inl ne_184)).other W_198 (Or.inl ne_184)).other W_204 (Or.inl ne_184)).other W_210 (Or.inl ne_184))
  refine E_getF (pc' := 194) X (host := "") (Or.inl (w_63 hw)) Via.refl F_215 d8_191 rfl (fun T X => ?_)
  refine E_iload (pc' := 196) X d8_194 rfl rfl ?_
  refine E_aload (v := (.ref o167)) (pc' := 198) X d8_196 rfl rfl rfl ?_
  have A_216 : ArR Z h_211 o108 (.array .int) "[I" [(.ref r_146), .null] := (((((Aa_163.ext Ex_169).other W_192 ne_185).other W_198 ne_185).other W_204 ne_185).other W_210 ne_185)
  have E_217 : Exa Z h_211 o167 "[I" := ((((EaAa_170.wr W_192).wr W_198).wr W_204).wr W_210)
  refine E_aastore (vs' := [(.ref r_146), (.ref o167)]) (pc' := 199) X A_216 (Ins.self E_217) rfl (by decide) (Nat.le_of_ble_eq_true rfl) rfl fr_120 d8_198 rfl (fun T h_219 X W_218 Aa_220 => ?_)
  have K_221 : Keep h0 h_219 [a] := K_213.wr W_218 (Or.inr b_118)
  refine E_iinc (x := (1 : Int32)) (z := (2 : Int32)) (Ls' := #[.val (.ref a), .val (.ref t), .val (.int (2 : Int32)), .val (.int (2 : Int32)), .val (.int (2 : Int32)), .val (.ref r_146), .val (.ref o167), .val (.int (4 : Int32))]) (pc' := 202) X d8_199 rfl rfl rfl rfl ?_
  refine E_goto (pc' := 134) X d8_202 (by decide) rfl ?_
  refine E_iload (pc' := 136) X d8_134 rfl rfl ?_
  refine E_iloadN (pc' := 137) X d8_136 rfl rfl ?_
  refine E_icmp (pcY := 205) (pcN := 140) X (ic_ge _ _) d8_137 (by decide) rfl rfl (fun hc137_1 => ?_) (fun hc137_1 => absurd (by decide) hc137_1)
  have E_222 : Exa Z h_219 a "com/example/nimble_calculus/nimblecalculus/equivalence/Splits" := ((((((E_174.ext Ex_169).wr W_192).wr W_198).wr W_204).wr W_210).wr W_218)
  have F_223 : Fld Z h_219 a "com/example/nimble_calculus/nimblecalculus/equivalence/Splits" "leaf" "[I" (.ref o4) := ((((((((((((((((F_31.other W_34 (Or.inl ne_14)).ext Ex_42).other W_58 (Or.inr (slot_ne (Or.inl (w_53 hw)) (Or.inl (w_55 hw)) (by decide) (t := (.array .int)) (t' := (.array .int)) (by decide) (by decide)))).other W_66 (Or.inl ne_53)).other W_78 (Or.inl ne_53)).other W_90 (Or.inl ne_53)).ext Ex_110).other W_129 (Or.inr (slot_ne (Or.inl (w_53 hw)) (Or.inl (w_64 hw)) (by decide) (t := (.array .int)) (t' := (.array (.array .int))) (by decide) (by decide)))).keep Kc_147 nin0).other W_161 (Or.inl ne_123)).ext Ex_169).other W_192 (Or.inl ne_184)).other W_198 (Or.inl ne_184)).other W_204 (Or.inl ne_184)).other W_210 (Or.inl ne_184)).other W_218 (Or.inl ne_123))
  have F_224 : Fld Z h_219 a "com/example/nimble_calculus/nimblecalculus/equivalence/Splits" "height" "[I" (.ref o40) := ((((((((((F_94.ext Ex_110).other W_129 (Or.inr (slot_ne (Or.inl (w_55 hw)) (Or.inl (w_64 hw)) (by decide) (t := (.array .int)) (t' := (.array (.array .int))) (by decide) (by decide)))).keep Kc_147 nin0).other W_161 (Or.inl ne_123)).ext Ex_169).other W_192 (Or.inl ne_184)).other W_198 (Or.inl ne_184)).other W_204 (Or.inl ne_184)).other W_210 (Or.inl ne_184)).other W_218 (Or.inl ne_123))
  have F_225 : Fld Z h_219 a "com/example/nimble_calculus/nimblecalculus/equivalence/Splits" "jumps" "[[I" (.ref o108) := (F_215.other W_218 (Or.inl ne_123))
  have F_226 : Fld Z h_219 a "com/example/nimble_calculus/nimblecalculus/equivalence/Splits" "parent" "[I" (.ref P) := ((((((((F_133.keep Kc_147 nin0).other W_161 (Or.inl ne_123)).ext Ex_169).other W_192 (Or.inl ne_184)).other W_198 (Or.inl ne_184)).other W_204 (Or.inl ne_184)).other W_210 (Or.inl ne_184)).other W_218 (Or.inl ne_123))
  have F_227 : Fld Z h_219 a "com/example/nimble_calculus/nimblecalculus/equivalence/Splits" "born" "[I" (.ref B) := (((((((((((((((((((hF5.ext Ex_6).other W_18 (Or.inr (slot_ne (Or.inr (w_25 hw)) (Or.inl (w_53 hw)) (by decide) (t := (.array .int)) (t' := (.array .int)) (by decide) (by decide)))).other W_26 (Or.inl ne_14)).other W_34 (Or.inl ne_14)).ext Ex_42).other W_58 (Or.inr (slot_ne (Or.inr (w_25 hw)) (Or.inl (w_55 hw)) (by decide) (t := (.array .int)) (t' := (.array .int)) (by decide) (by decide)))).other W_66 (Or.inl ne_53)).other W_78 (Or.inl ne_53)).other W_90 (Or.inl ne_53)).ext Ex_110).other W_129 (Or.inr (slot_ne (Or.inr (w_25 hw)) (Or.inl (w_64 hw)) (by decide) (t := (.array .int)) (t' := (.array (.array .int))) (by decide) (by decide)))).keep Kc_147 nin0).other W_161 (Or.inl ne_123)).ext Ex_169).other W_192 (Or.inl ne_184)).other W_198 (Or.inl ne_184)).other W_204 (Or.inl ne_184)).other W_210 (Or.inl ne_184)).other W_218 (Or.inl ne_123))
  have F_228 : Fld Z h_219 a "com/example/nimble_calculus/nimblecalculus/equivalence/Splits" "representative" "[I" (.ref RR) := (((((((((((((((((((hF6.ext Ex_6).other W_18 (Or.inr (slot_ne (Or.inr (w_27 hw)) (Or.inl (w_53 hw)) (by decide) (t := (.array .int)) (t' := (.array .int)) (by decide) (by decide)))).other W_26 (Or.inl ne_14)).other W_34 (Or.inl ne_14)).ext Ex_42).other W_58 (Or.inr (slot_ne (Or.inr (w_27 hw)) (Or.inl (w_55 hw)) (by decide) (t := (.array .int)) (t' := (.array .int)) (by decide) (by decide)))).other W_66 (Or.inl ne_53)).other W_78 (Or.inl ne_53)).other W_90 (Or.inl ne_53)).ext Ex_110).other W_129 (Or.inr (slot_ne (Or.inr (w_27 hw)) (Or.inl (w_64 hw)) (by decide) (t := (.array .int)) (t' := (.array (.array .int))) (by decide) (by decide)))).keep Kc_147 nin0).other W_161 (Or.inl ne_123)).ext Ex_169).other W_192 (Or.inl ne_184)).other W_198 (Or.inl ne_184)).other W_204 (Or.inl ne_184)).other W_210 (Or.inl ne_184)).other W_218 (Or.inl ne_123))
  have A_229 : Ar Z h_219 o4 .int [(.int (3 : Int32)), (.int (2 : Int32))] := ((((((A_175.ext Ex_169).other W_192 ne_186).other W_198 ne_186).other W_204 ne_186).other W_210 ne_186).other W_218 ne_124)
  have A_230 : Ar Z h_219 o40 .int [(.int (0 : Int32)), (.int (1 : Int32)), (.int (1 : Int32)), (.int (2 : Int32))] := ((((((A_176.ext Ex_169).other W_192 ne_187).other W_198 ne_187).other W_204 ne_187).other W_210 ne_187).other W_218 ne_125)
  have A_231 : Ar Z h_219 r_146 .int [(.int (0 : Int32)), (.int (0 : Int32)), (.int (0 : Int32)), (.int (1 : Int32))] := ((A_209.other W_210 ne_188).other W_218 (Ne.symm ne_155))
  have A_232 : Ar Z h_219 o167 .int [(.int (0 : Int32)), (.int (0 : Int32)), (.int (0 : Int32)), (.int (0 : Int32))] := (Aa_212.other W_218 (Ne.symm ne_185))
  exact E_ret0 X d8_205 (by decide) (by decide) ⟨o4, o108, o40, r_146, o167, rfl, K_221, b_9, b_118, b_48, (Nat.le_trans K_131.1 nw_148), b_179, E_222, F_223, F_224, F_225, F_226, F_227, F_228, A_229, A_230, Aa_220.ar, A_231, A_232⟩
theorem ef_rm_fin12 (m : MethodId) (x0 : Addr) (x1 : Addr) : entryFrame m #[(.ref x0), (.ref x1)] 8 = mkF m 0 #[.val (.ref x0), .val (.ref x1), .unset, .unset, .unset, .unset, .unset, .unset] [] := by first | (simp [entryFrame, mkF, argsToLocals, Value.category]; done) | (simp [entryFrame, mkF, argsToLocals, *]; done) | rfl
set_option maxRecDepth 65536 in
set_option maxHeartbeats 2000000 in
theorem rm_fin12 (l : Launch) (Z : State) (a0 : Array Value) (hw : ∀ d ∈ tables_1, d.before a0 Z = true) (a : Addr) (t : Addr) (P : Addr) (B : Addr) (RR : Addr) (NB : Addr) (h0 : Heap) (hE : Ext Z.heap h0) (hE0 : Exa Z h0 a "com/example/nimble_calculus/nimblecalculus/equivalence/Splits") (hF1 : Fld Z h0 a "com/example/nimble_calculus/nimblecalculus/equivalence/Splits" "nodeCount" "I" (.int (4 : Int32))) (hF2 : Fld Z h0 a "com/example/nimble_calculus/nimblecalculus/equivalence/Splits" "splitCount" "I" (.int (2 : Int32))) (hF3 : Fld Z h0 a "com/example/nimble_calculus/nimblecalculus/equivalence/Splits" "splitting" "I" (.int (1 : Int32))) (hF4 : Fld Z h0 a "com/example/nimble_calculus/nimblecalculus/equivalence/Splits" "parent" "[I" (.ref P)) (hF5 : Fld Z h0 a "com/example/nimble_calculus/nimblecalculus/equivalence/Splits" "born" "[I" (.ref B)) (hF6 : Fld Z h0 a "com/example/nimble_calculus/nimblecalculus/equivalence/Splits" "representative" "[I" (.ref RR)) (hF7 : Fld Z h0 a "com/example/nimble_calculus/nimblecalculus/equivalence/Splits" "nodeOfBlock" "[I" (.ref NB)) (hF8 : Fld Z h0 a "com/example/nimble_calculus/nimblecalculus/equivalence/Splits" "leaf" "[I" .null) (hF9 : Fld Z h0 a "com/example/nimble_calculus/nimblecalculus/equivalence/Splits" "height" "[I" .null) (hF10 : Fld Z h0 a "com/example/nimble_calculus/nimblecalculus/equivalence/Splits" "jumps" "[[I" .null) (hA11 : Ar Z h0 P .int [(.int (0 : Int32)), (.int (0 : Int32)), (.int (0 : Int32)), (.int (1 : Int32)), (.int (0 : Int32)), (.int (0 : Int32)), (.int (0 : Int32))]) (hA12 : Ar Z h0 NB .int [(.int (3 : Int32)), (.int (0 : Int32)), (.int (2 : Int32)), (.int (0 : Int32))]) (hA13 : Ar Z h0 t .int [(.int (0 : Int32)), (.int (2 : Int32))]) (hfr14 : Z.heap.size ≤ a) :
    Con l Z (⟨"com/example/nimble_calculus/nimblecalculus/equivalence/Splits", "finish", "([I)V"⟩ : MethodName) prog_61_method_4_code 8 none ({ frames := 2, cells := 5, slots := 16, locals := 34 } : Room) #[(.ref a), (.ref t)] h0 (fun vv hh => ∃ lf : Addr, ∃ jp : Addr, ∃ hg : Addr, ∃ j0 : Addr, ∃ j1 : Addr, vv = none ∧ Keep h0 hh [a] ∧ h0.size ≤ lf ∧ h0.size ≤ jp ∧ h0.size ≤ hg ∧ h0.size ≤ j0 ∧ h0.size ≤ j1 ∧ Exa Z hh a "com/example/nimble_calculus/nimblecalculus/equivalence/Splits" ∧ Fld Z hh a "com/example/nimble_calculus/nimblecalculus/equivalence/Splits" "leaf" "[I" (.ref lf) ∧ Fld Z hh a "com/example/nimble_calculus/nimblecalculus/equivalence/Splits" "height" "[I" (.ref hg) ∧ Fld Z hh a "com/example/nimble_calculus/nimblecalculus/equivalence/Splits" "jumps" "[[I" (.ref jp) ∧ Fld Z hh a "com/example/nimble_calculus/nimblecalculus/equivalence/Splits" "parent" "[I" (.ref P) ∧ Fld Z hh a "com/example/nimble_calculus/nimblecalculus/equivalence/Splits" "born" "[I" (.ref B) ∧ Fld Z hh a "com/example/nimble_calculus/nimblecalculus/equivalence/Splits" "representative" "[I" (.ref RR) ∧ Ar Z hh lf .int [(.int (3 : Int32)), (.int (2 : Int32))] ∧ Ar Z hh hg .int [(.int (0 : Int32)), (.int (1 : Int32)), (.int (1 : Int32)), (.int (2 : Int32))] ∧ Ar Z hh jp (.array .int) [(.ref j0), (.ref j1)] ∧ Ar Z hh j0 .int [(.int (0 : Int32)), (.int (0 : Int32)), (.int (0 : Int32)), (.int (1 : Int32))] ∧ Ar Z hh j1 .int [(.int (0 : Int32)), (.int (0 : Int32)), (.int (0 : Int32)), (.int (0 : Int32))]) := by
  refine Con.of (plainFor_of_name (by first | (simp [plainName, overriddenIn]; done) | decide +kernel)) hE ?_
  intro p e s m below T (X : Sd l Z "com/example/nimble_calculus/nimblecalculus/equivalence/Splits" "finish" prog_61_method_4_code 8 none ({ frames := 2, cells := 5, slots := 16, locals := 34 } : Room) p e s m #[(.ref a), (.ref t)] below T h0 0 0)
  refine End.frame (ef_rm_fin12 m a t) ?_
  have K_0 : Keep h0 h0 [a] := Keep.refl _ _
  have ne_1 : NB ≠ a := Ne.symm (Ar.ne_exa hA12 hE0 (w_3 hw))
  have ne_2 : P ≠ a := Ne.symm (Ar.ne_exa hA11 hE0 (w_3 hw))
  have ne_3 : a ≠ t := Ar.ne_exa hA13 hE0 (w_3 hw)
  show End Z p e below s _ _ _ _ (mkF m 0 #[.val (.ref a), .val (.ref t), .unset, .unset, .unset, .unset, .unset, .unset] [])
  refine E_aloadN (v := (.ref a)) (pc' := 1) X d8_0 rfl rfl rfl ?_
  refine E_aloadN (v := (.ref t)) (pc' := 2) X d8_1 rfl rfl rfl ?_
  refine E_alen (n := (2 : Int32)) (pc' := 3) X hA13 rfl d8_2 rfl ?_
  have le_o4 := X.le
  refine E_newA (pc' := 5) X (aty := .int) (n := (2 : Int32)) (cap := 2) (vs := [(.int (0 : Int32)), (.int (0 : Int32))]) (cells' := 1) (slots' := 2) (w_1 hw) d8_3 rfl (by decide) (by decide) (by decide) rfl rfl rfl (by decide) (by decide) (fun T h_5 o4 g_8 X Ex_6 Aa_7 => ?_)
  have b_9 : h0.size ≤ o4 := by rw [g_8]; exact K_0.1
  have K_10 : Keep h0 h_5 [a] := K_0.ext Ex_6
  have fr_11 : Z.heap.size ≤ o4 := by rw [g_8]; exact le_o4
  have ne_12 : NB ≠ o4 := Nat.ne_of_lt (by rw [g_8]; exact hA12.lt)
  have ne_13 : P ≠ o4 := Nat.ne_of_lt (by rw [g_8]; exact hA11.lt)
  have ne_14 : a ≠ o4 := Nat.ne_of_lt (by rw [g_8]; exact hE0.lt)
  have ne_15 : t ≠ o4 := Nat.ne_of_lt (by rw [g_8]; exact hA13.lt)
  have F_16 : Fld Z h_5 a "com/example/nimble_calculus/nimblecalculus/equivalence/Splits" "leaf" "[I" .null := (hF8.ext Ex_6)
  have E_17 : Exa Z h_5 a "com/example/nimble_calculus/nimblecalculus/equivalence/Splits" := (hE0.ext Ex_6)
  refine E_putF (pc' := 8) X (host := "") (Or.inl (w_52 hw)) Via.refl F_16 E_17 (Or.inl (w_53 hw)) (w_3 hw) (ty := (.array .int)) (by decide) rfl rfl hfr14 d8_5 rfl (fun T h_19 X W_18 => ?_)
  have K_20 : Keep h0 h_19 [a] := K_10.wr W_18 (Or.inl (List.mem_of_getElem? (i := 0) rfl))
  refine E_iconst (v := (0 : Int32)) (pc' := 9) X d8_8 rfl rfl ?_
  refine E_istoreN (Ls' := #[.val (.ref a), .val (.ref t), .val (.int (0 : Int32)), .unset, .unset, .unset, .unset, .unset]) (pc' := 10) X d8_9 rfl rfl ?_
  refine E_iloadN (pc' := 11) X d8_10 rfl rfl ?_
  refine E_aloadN (v := (.ref t)) (pc' := 12) X d8_11 rfl rfl rfl ?_
  have A_21 : Ar Z h_19 t .int [(.int (0 : Int32)), (.int (2 : Int32))] := ((hA13.ext Ex_6).other W_18 (Ne.symm ne_3))
  refine E_alen (n := (2 : Int32)) (pc' := 13) X A_21 rfl d8_12 rfl ?_
  refine E_icmp (pcY := 36) (pcN := 16) X (ic_ge _ _) d8_13 (by decide) rfl rfl (fun hc13_0 => absurd hc13_0 (by decide)) (fun hc13_0 => ?_)
  refine E_aloadN (v := (.ref a)) (pc' := 17) X d8_16 rfl rfl rfl ?_
  have F_22 : Fld Z h_19 a "com/example/nimble_calculus/nimblecalculus/equivalence/Splits" "leaf" "[I" (.ref o4) := (F_16.same W_18)
  refine E_getF (pc' := 20) X (host := "") (Or.inl (w_52 hw)) Via.refl F_22 d8_17 rfl (fun T X => ?_)
  refine E_iloadN (pc' := 21) X d8_20 rfl rfl ?_
  refine E_aloadN (v := (.ref a)) (pc' := 22) X d8_21 rfl rfl rfl ?_
  have F_23 : Fld Z h_19 a "com/example/nimble_calculus/nimblecalculus/equivalence/Splits" "nodeOfBlock" "[I" (.ref NB) := ((hF7.ext Ex_6).other W_18 (Or.inr (slot_ne (Or.inr (w_32 hw)) (Or.inl (w_53 hw)) (by decide) (t := (.array .int)) (t' := (.array .int)) (by decide) (by decide))))
  refine E_getF (pc' := 25) X (host := "") (Or.inl (w_31 hw)) Via.refl F_23 d8_22 rfl (fun T X => ?_)
  refine E_aloadN (v := (.ref t)) (pc' := 26) X d8_25 rfl rfl rfl ?_
  refine E_iloadN (pc' := 27) X d8_26 rfl rfl ?_
  refine E_iaload (v := (.int (0 : Int32))) (pc' := 28) X A_21 (by decide) rfl d8_27 rfl ?_
  have A_24 : Ar Z h_19 NB .int [(.int (3 : Int32)), (.int (0 : Int32)), (.int (2 : Int32)), (.int (0 : Int32))] := ((hA12.ext Ex_6).other W_18 ne_1)
  refine E_iaload (v := (.int (3 : Int32))) (pc' := 29) X A_24 (by decide) rfl d8_28 rfl ?_
  have A_25 : Ar Z h_19 o4 .int [(.int (0 : Int32)), (.int (0 : Int32))] := (Aa_7.other W_18 (Ne.symm ne_14))
  refine E_iastore (vs' := [(.int (3 : Int32)), (.int (0 : Int32))]) (pc' := 30) X A_25 (by decide) (Nat.le_of_ble_eq_true rfl) rfl fr_11 d8_29 rfl (fun T h_27 X W_26 Aa_28 => ?_)
  have K_29 : Keep h0 h_27 [a] := K_20.wr W_26 (Or.inr b_9)
  refine E_iinc (x := (0 : Int32)) (z := (1 : Int32)) (Ls' := #[.val (.ref a), .val (.ref t), .val (.int (1 : Int32)), .unset, .unset, .unset, .unset, .unset]) (pc' := 33) X d8_30 rfl rfl rfl rfl ?_
  refine E_goto (pc' := 10) X d8_33 (by decide) rfl ?_
  refine E_iloadN (pc' := 11) X d8_10 rfl rfl ?_
  refine E_aloadN (v := (.ref t)) (pc' := 12) X d8_11 rfl rfl rfl ?_
  have A_30 : Ar Z h_27 t .int [(.int (0 : Int32)), (.int (2 : Int32))] := (A_21.other W_26 ne_15)
  refine E_alen (n := (2 : Int32)) (pc' := 13) X A_30 rfl d8_12 rfl ?_
  refine E_icmp (pcY := 36) (pcN := 16) X (ic_ge _ _) d8_13 (by decide) rfl rfl (fun hc13_1 => absurd hc13_1 (by decide)) (fun hc13_1 => ?_)
  refine E_aloadN (v := (.ref a)) (pc' := 17) X d8_16 rfl rfl rfl ?_
  have F_31 : Fld Z h_27 a "com/example/nimble_calculus/nimblecalculus/equivalence/Splits" "leaf" "[I" (.ref o4) := (F_22.other W_26 (Or.inl ne_14))
  refine E_getF (pc' := 20) X (host := "") (Or.inl (w_52 hw)) Via.refl F_31 d8_17 rfl (fun T X => ?_)
  refine E_iloadN (pc' := 21) X d8_20 rfl rfl ?_
  refine E_aloadN (v := (.ref a)) (pc' := 22) X d8_21 rfl rfl rfl ?_
  have F_32 : Fld Z h_27 a "com/example/nimble_calculus/nimblecalculus/equivalence/Splits" "nodeOfBlock" "[I" (.ref NB) := (F_23.other W_26 (Or.inl ne_14))
  refine E_getF (pc' := 25) X (host := "") (Or.inl (w_31 hw)) Via.refl F_32 d8_22 rfl (fun T X => ?_)
  refine E_aloadN (v := (.ref t)) (pc' := 26) X d8_25 rfl rfl rfl ?_
  refine E_iloadN (pc' := 27) X d8_26 rfl rfl ?_
  refine E_iaload (v := (.int (2 : Int32))) (pc' := 28) X A_30 (by decide) rfl d8_27 rfl ?_
  have A_33 : Ar Z h_27 NB .int [(.int (3 : Int32)), (.int (0 : Int32)), (.int (2 : Int32)), (.int (0 : Int32))] := (A_24.other W_26 ne_12)
  refine E_iaload (v := (.int (2 : Int32))) (pc' := 29) X A_33 (by decide) rfl d8_28 rfl ?_
  refine E_iastore (vs' := [(.int (3 : Int32)), (.int (2 : Int32))]) (pc' := 30) X Aa_28 (by decide) (Nat.le_of_ble_eq_true rfl) rfl fr_11 d8_29 rfl (fun T h_35 X W_34 Aa_36 => ?_)
  have K_37 : Keep h0 h_35 [a] := K_29.wr W_34 (Or.inr b_9)
  refine E_iinc (x := (1 : Int32)) (z := (2 : Int32)) (Ls' := #[.val (.ref a), .val (.ref t), .val (.int (2 : Int32)), .unset, .unset, .unset, .unset, .unset]) (pc' := 33) X d8_30 rfl rfl rfl rfl ?_
  refine E_goto (pc' := 10) X d8_33 (by decide) rfl ?_
  refine E_iloadN (pc' := 11) X d8_10 rfl rfl ?_
  refine E_aloadN (v := (.ref t)) (pc' := 12) X d8_11 rfl rfl rfl ?_
  have A_38 : Ar Z h_35 t .int [(.int (0 : Int32)), (.int (2 : Int32))] := (A_30.other W_34 ne_15)
  refine E_alen (n := (2 : Int32)) (pc' := 13) X A_38 rfl d8_12 rfl ?_
  refine E_icmp (pcY := 36) (pcN := 16) X (ic_ge _ _) d8_13 (by decide) rfl rfl (fun hc13_2 => ?_) (fun hc13_2 => absurd (by decide) hc13_2)
  refine E_aloadN (v := (.ref a)) (pc' := 37) X d8_36 rfl rfl rfl ?_
  refine E_aloadN (v := (.ref a)) (pc' := 38) X d8_37 rfl rfl rfl ?_
  have F_39 : Fld Z h_35 a "com/example/nimble_calculus/nimblecalculus/equivalence/Splits" "nodeCount" "I" (.int (4 : Int32)) := ((((hF1.ext Ex_6).other W_18 (Or.inr (slot_ne (Or.inl (w_12 hw)) (Or.inl (w_53 hw)) (by decide) (t := .int) (t' := (.array .int)) (by decide) (by decide)))).other W_26 (Or.inl ne_14)).other W_34 (Or.inl ne_14))
  refine E_getF (pc' := 41) X (host := "") (Or.inl (w_11 hw)) Via.refl F_39 d8_38 rfl (fun T X => ?_)
  have A_45 : Ar Z h_35 NB .int [(.int (3 : Int32)), (.int (0 : Int32)), (.int (2 : Int32)), (.int (0 : Int32))] := (A_33.other W_34 ne_12)
  have A_46 : Ar Z h_35 P .int [(.int (0 : Int32)), (.int (0 : Int32)), (.int (0 : Int32)), (.int (1 : Int32)), (.int (0 : Int32)), (.int (0 : Int32)), (.int (0 : Int32))] := ((((hA11.ext Ex_6).other W_18 ne_2).other W_26 ne_13).other W_34 ne_13)
  have E_47 : Exa Z h_35 a "com/example/nimble_calculus/nimblecalculus/equivalence/Splits" := (((E_17.wr W_18).wr W_26).wr W_34)
  have le_o40 := X.le
  refine E_newA (pc' := 43) X (aty := .int) (n := (4 : Int32)) (cap := 4) (vs := [(.int (0 : Int32)), (.int (0 : Int32)), (.int (0 : Int32)), (.int (0 : Int32))]) (cells' := 2) (slots' := 6) (w_1 hw) d8_41 rfl (by decide) (by decide) (by decide) rfl rfl rfl (by decide) (by decide) (fun T h_41 o40 g_44 X Ex_42 Aa_43 => ?_)
  have b_48 : h0.size ≤ o40 := by rw [g_44]; exact K_37.1
  have K_49 : Keep h0 h_41 [a] := K_37.ext Ex_42
  have fr_50 : Z.heap.size ≤ o40 := by rw [g_44]; exact le_o40
  have ne_51 : NB ≠ o40 := Nat.ne_of_lt (by rw [g_44]; exact A_45.lt)
  have ne_52 : P ≠ o40 := Nat.ne_of_lt (by rw [g_44]; exact A_46.lt)
  have ne_53 : a ≠ o40 := Nat.ne_of_lt (by rw [g_44]; exact E_47.lt)
  have ne_54 : o4 ≠ o40 := Nat.ne_of_lt (by rw [g_44]; exact Aa_36.lt)
  have ne_55 : t ≠ o40 := Nat.ne_of_lt (by rw [g_44]; exact A_38.lt)
  have F_56 : Fld Z h_41 a "com/example/nimble_calculus/nimblecalculus/equivalence/Splits" "height" "[I" .null := (((((hF9.ext Ex_6).other W_18 (Or.inr (slot_ne (Or.inl (w_55 hw)) (Or.inl (w_53 hw)) (by decide) (t := (.array .int)) (t' := (.array .int)) (by decide) (by decide)))).other W_26 (Or.inl ne_14)).other W_34 (Or.inl ne_14)).ext Ex_42)
  have E_57 : Exa Z h_41 a "com/example/nimble_calculus/nimblecalculus/equivalence/Splits" := (E_47.ext Ex_42)
  refine E_putF (pc' := 46) X (host := "") (Or.inl (w_54 hw)) Via.refl F_56 E_57 (Or.inl (w_55 hw)) (w_3 hw) (ty := (.array .int)) (by decide) rfl rfl hfr14 d8_43 rfl (fun T h_59 X W_58 => ?_)
  have K_60 : Keep h0 h_59 [a] := K_49.wr W_58 (Or.inl (List.mem_of_getElem? (i := 0) rfl))
  refine E_iconst (v := (0 : Int32)) (pc' := 47) X d8_46 rfl rfl ?_
  refine E_istoreN (Ls' := #[.val (.ref a), .val (.ref t), .val (.int (0 : Int32)), .unset, .unset, .unset, .unset, .unset]) (pc' := 48) X d8_47 rfl rfl ?_
  refine E_iconst (v := (1 : Int32)) (pc' := 49) X d8_48 rfl rfl ?_
  refine E_istoreN (Ls' := #[.val (.ref a), .val (.ref t), .val (.int (0 : Int32)), .val (.int (1 : Int32)), .unset, .unset, .unset, .unset]) (pc' := 50) X d8_49 rfl rfl ?_
  refine E_iloadN (pc' := 51) X d8_50 rfl rfl ?_
  refine E_aloadN (v := (.ref a)) (pc' := 52) X d8_51 rfl rfl rfl ?_
  have F_61 : Fld Z h_59 a "com/example/nimble_calculus/nimblecalculus/equivalence/Splits" "nodeCount" "I" (.int (4 : Int32)) := ((F_39.ext Ex_42).other W_58 (Or.inr (slot_ne (Or.inl (w_12 hw)) (Or.inl (w_55 hw)) (by decide) (t := .int) (t' := (.array .int)) (by decide) (by decide))))
  refine E_getF (pc' := 55) X (host := "") (Or.inl (w_11 hw)) Via.refl F_61 d8_52 rfl (fun T X => ?_)
  refine E_icmp (pcY := 94) (pcN := 58) X (ic_ge _ _) d8_55 (by decide) rfl rfl (fun hc55_0 => absurd hc55_0 (by decide)) (fun hc55_0 => ?_)
  refine E_aloadN (v := (.ref a)) (pc' := 59) X d8_58 rfl rfl rfl ?_
  have F_62 : Fld Z h_59 a "com/example/nimble_calculus/nimblecalculus/equivalence/Splits" "height" "[I" (.ref o40) := (F_56.same W_58)
  refine E_getF (pc' := 62) X (host := "") (Or.inl (w_54 hw)) Via.refl F_62 d8_59 rfl (fun T X => ?_)
  refine E_iloadN (pc' := 63) X d8_62 rfl rfl ?_
  refine E_aloadN (v := (.ref a)) (pc' := 64) X d8_63 rfl rfl rfl ?_
  refine E_getF (pc' := 67) X (host := "") (Or.inl (w_54 hw)) Via.refl F_62 d8_64 rfl (fun T X => ?_)
  refine E_aloadN (v := (.ref a)) (pc' := 68) X d8_67 rfl rfl rfl ?_
  have F_63 : Fld Z h_59 a "com/example/nimble_calculus/nimblecalculus/equivalence/Splits" "parent" "[I" (.ref P) := ((((((hF4.ext Ex_6).other W_18 (Or.inr (slot_ne (Or.inr (w_23 hw)) (Or.inl (w_53 hw)) (by decide) (t := (.array .int)) (t' := (.array .int)) (by decide) (by decide)))).other W_26 (Or.inl ne_14)).other W_34 (Or.inl ne_14)).ext Ex_42).other W_58 (Or.inr (slot_ne (Or.inr (w_23 hw)) (Or.inl (w_55 hw)) (by decide) (t := (.array .int)) (t' := (.array .int)) (by decide) (by decide))))
  refine E_getF (pc' := 71) X (host := "") (Or.inl (w_22 hw)) Via.refl F_63 d8_68 rfl (fun T X => ?_)
  refine E_iloadN (pc' := 72) X d8_71 rfl rfl ?_
  have A_64 : Ar Z h_59 P .int [(.int (0 : Int32)), (.int (0 : Int32)), (.int (0 : Int32)), (.int (1 : Int32)), (.int (0 : Int32)), (.int (0 : Int32)), (.int (0 : Int32))] := ((A_46.ext Ex_42).other W_58 ne_2)
  refine E_iaload (v := (.int (0 : Int32))) (pc' := 73) X A_64 (by decide) rfl d8_72 rfl ?_
  have A_65 : Ar Z h_59 o40 .int [(.int (0 : Int32)), (.int (0 : Int32)), (.int (0 : Int32)), (.int (0 : Int32))] := (Aa_43.other W_58 (Ne.symm ne_53))
  refine E_iaload (v := (.int (0 : Int32))) (pc' := 74) X A_65 (by decide) rfl d8_73 rfl ?_
  refine E_iconst (v := (1 : Int32)) (pc' := 75) X d8_74 rfl rfl ?_
  refine E_iadd (pc' := 76) X d8_75 rfl ?_
  refine E_eqI (z := (1 : Int32)) (by decide) ?_
  refine E_iastore (vs' := [(.int (0 : Int32)), (.int (1 : Int32)), (.int (0 : Int32)), (.int (0 : Int32))]) (pc' := 77) X A_65 (by decide) (Nat.le_of_ble_eq_true rfl) rfl fr_50 d8_76 rfl (fun T h_67 X W_66 Aa_68 => ?_)
  have K_69 : Keep h0 h_67 [a] := K_60.wr W_66 (Or.inr b_48)
  refine E_iloadN (pc' := 78) X d8_77 rfl rfl ?_
  refine E_aloadN (v := (.ref a)) (pc' := 79) X d8_78 rfl rfl rfl ?_
  have F_70 : Fld Z h_67 a "com/example/nimble_calculus/nimblecalculus/equivalence/Splits" "height" "[I" (.ref o40) := (F_62.other W_66 (Or.inl ne_53))
  refine E_getF (pc' := 82) X (host := "") (Or.inl (w_54 hw)) Via.refl F_70 d8_79 rfl (fun T X => ?_)
  refine E_iloadN (pc' := 83) X d8_82 rfl rfl ?_
  refine E_iaload (v := (.int (1 : Int32))) (pc' := 84) X Aa_68 (by decide) rfl d8_83 rfl ?_
  refine E_callS (pc' := 87) (W := 0) (cells' := 2) (slots' := 6) (argsL := [(.int (0 : Int32)), (.int (1 : Int32))]) (rest := []) X (rm5 l Z a0 hw (0 : Int32) (1 : Int32) (1 : Int32) h_67 X.ext (by decide)) (w_28 hw) (w_29 hw) (w_17 hw) (w_30 hw) (by decide) rfl rfl pd_1 rfl rfl d8_84 rfl (Nat.le_refl _) (by decide) (by decide) rfl rfl (by decide) (by decide) (fun v71 T h_72 X hQ73 => ?_)
  obtain ⟨rfl, rfl⟩ := hQ73
  show End Z p e below s _ _ _ _ (mkF m 87 #[.val (.ref a), .val (.ref t), .val (.int (0 : Int32)), .val (.int (1 : Int32)), .unset, .unset, .unset, .unset] [(.int (1 : Int32))])
  refine E_istoreN (Ls' := #[.val (.ref a), .val (.ref t), .val (.int (1 : Int32)), .val (.int (1 : Int32)), .unset, .unset, .unset, .unset]) (pc' := 88) X d8_87 rfl rfl ?_
  refine E_iinc (x := (1 : Int32)) (z := (2 : Int32)) (Ls' := #[.val (.ref a), .val (.ref t), .val (.int (1 : Int32)), .val (.int (2 : Int32)), .unset, .unset, .unset, .unset]) (pc' := 91) X d8_88 rfl rfl rfl rfl ?_
  refine E_goto (pc' := 50) X d8_91 (by decide) rfl ?_
  refine E_iloadN (pc' := 51) X d8_50 rfl rfl ?_
  refine E_aloadN (v := (.ref a)) (pc' := 52) X d8_51 rfl rfl rfl ?_
  have F_75 : Fld Z h_67 a "com/example/nimble_calculus/nimblecalculus/equivalence/Splits" "nodeCount" "I" (.int (4 : Int32)) := (F_61.other W_66 (Or.inl ne_53))
  refine E_getF (pc' := 55) X (host := "") (Or.inl (w_11 hw)) Via.refl F_75 d8_52 rfl (fun T X => ?_)
  refine E_icmp (pcY := 94) (pcN := 58) X (ic_ge _ _) d8_55 (by decide) rfl rfl (fun hc55_1 => absurd hc55_1 (by decide)) (fun hc55_1 => ?_)
  refine E_aloadN (v := (.ref a)) (pc' := 59) X d8_58 rfl rfl rfl ?_
  refine E_getF (pc' := 62) X (host := "") (Or.inl (w_54 hw)) Via.refl F_70 d8_59 rfl (fun T X => ?_)
  refine E_iloadN (pc' := 63) X d8_62 rfl rfl ?_
  refine E_aloadN (v := (.ref a)) (pc' := 64) X d8_63 rfl rfl rfl ?_
  refine E_getF (pc' := 67) X (host := "") (Or.inl (w_54 hw)) Via.refl F_70 d8_64 rfl (fun T X => ?_)
  refine E_aloadN (v := (.ref a)) (pc' := 68) X d8_67 rfl rfl rfl ?_
  have F_76 : Fld Z h_67 a "com/example/nimble_calculus/nimblecalculus/equivalence/Splits" "parent" "[I" (.ref P) := (F_63.other W_66 (Or.inl ne_53))
  refine E_getF (pc' := 71) X (host := "") (Or.inl (w_22 hw)) Via.refl F_76 d8_68 rfl (fun T X => ?_)
  refine E_iloadN (pc' := 72) X d8_71 rfl rfl ?_
  have A_77 : Ar Z h_67 P .int [(.int (0 : Int32)), (.int (0 : Int32)), (.int (0 : Int32)), (.int (1 : Int32)), (.int (0 : Int32)), (.int (0 : Int32)), (.int (0 : Int32))] := (A_64.other W_66 ne_52)
  refine E_iaload (v := (.int (0 : Int32))) (pc' := 73) X A_77 (by decide) rfl d8_72 rfl ?_
  refine E_iaload (v := (.int (0 : Int32))) (pc' := 74) X Aa_68 (by decide) rfl d8_73 rfl ?_
  refine E_iconst (v := (1 : Int32)) (pc' := 75) X d8_74 rfl rfl ?_
  refine E_iadd (pc' := 76) X d8_75 rfl ?_
  refine E_eqI (z := (1 : Int32)) (by decide) ?_
  refine E_iastore (vs' := [(.int (0 : Int32)), (.int (1 : Int32)), (.int (1 : Int32)), (.int (0 : Int32))]) (pc' := 77) X Aa_68 (by decide) (Nat.le_of_ble_eq_true rfl) rfl fr_50 d8_76 rfl (fun T h_79 X W_78 Aa_80 => ?_)
  have K_81 : Keep h0 h_79 [a] := K_69.wr W_78 (Or.inr b_48)
  refine E_iloadN (pc' := 78) X d8_77 rfl rfl ?_
  refine E_aloadN (v := (.ref a)) (pc' := 79) X d8_78 rfl rfl rfl ?_
  have F_82 : Fld Z h_79 a "com/example/nimble_calculus/nimblecalculus/equivalence/Splits" "height" "[I" (.ref o40) := (F_70.other W_78 (Or.inl ne_53))
  refine E_getF (pc' := 82) X (host := "") (Or.inl (w_54 hw)) Via.refl F_82 d8_79 rfl (fun T X => ?_)
  refine E_iloadN (pc' := 83) X d8_82 rfl rfl ?_
  refine E_iaload (v := (.int (1 : Int32))) (pc' := 84) X Aa_80 (by decide) rfl d8_83 rfl ?_
  refine E_callS (pc' := 87) (W := 0) (cells' := 2) (slots' := 6) (argsL := [(.int (1 : Int32)), (.int (1 : Int32))]) (rest := []) X (rm5 l Z a0 hw (1 : Int32) (1 : Int32) (1 : Int32) h_79 X.ext (by decide)) (w_28 hw) (w_29 hw) (w_17 hw) (w_30 hw) (by decide) rfl rfl pd_1 rfl rfl d8_84 rfl (Nat.le_refl _) (by decide) (by decide) rfl rfl (by decide) (by decide) (fun v83 T h_84 X hQ85 => ?_)
  obtain ⟨rfl, rfl⟩ := hQ85
  show End Z p e below s _ _ _ _ (mkF m 87 #[.val (.ref a), .val (.ref t), .val (.int (1 : Int32)), .val (.int (2 : Int32)), .unset, .unset, .unset, .unset] [(.int (1 : Int32))])
  refine E_istoreN (Ls' := #[.val (.ref a), .val (.ref t), .val (.int (1 : Int32)), .val (.int (2 : Int32)), .unset, .unset, .unset, .unset]) (pc' := 88) X d8_87 rfl rfl ?_
  refine E_iinc (x := (2 : Int32)) (z := (3 : Int32)) (Ls' := #[.val (.ref a), .val (.ref t), .val (.int (1 : Int32)), .val (.int (3 : Int32)), .unset, .unset, .unset, .unset]) (pc' := 91) X d8_88 rfl rfl rfl rfl ?_
  refine E_goto (pc' := 50) X d8_91 (by decide) rfl ?_
  refine E_iloadN (pc' := 51) X d8_50 rfl rfl ?_
  refine E_aloadN (v := (.ref a)) (pc' := 52) X d8_51 rfl rfl rfl ?_
  have F_87 : Fld Z h_79 a "com/example/nimble_calculus/nimblecalculus/equivalence/Splits" "nodeCount" "I" (.int (4 : Int32)) := (F_75.other W_78 (Or.inl ne_53))
  refine E_getF (pc' := 55) X (host := "") (Or.inl (w_11 hw)) Via.refl F_87 d8_52 rfl (fun T X => ?_)
  refine E_icmp (pcY := 94) (pcN := 58) X (ic_ge _ _) d8_55 (by decide) rfl rfl (fun hc55_2 => absurd hc55_2 (by decide)) (fun hc55_2 => ?_)
  refine E_aloadN (v := (.ref a)) (pc' := 59) X d8_58 rfl rfl rfl ?_
  refine E_getF (pc' := 62) X (host := "") (Or.inl (w_54 hw)) Via.refl F_82 d8_59 rfl (fun T X => ?_)
  refine E_iloadN (pc' := 63) X d8_62 rfl rfl ?_
  refine E_aloadN (v := (.ref a)) (pc' := 64) X d8_63 rfl rfl rfl ?_
  refine E_getF (pc' := 67) X (host := "") (Or.inl (w_54 hw)) Via.refl F_82 d8_64 rfl (fun T X => ?_)
  refine E_aloadN (v := (.ref a)) (pc' := 68) X d8_67 rfl rfl rfl ?_
  have F_88 : Fld Z h_79 a "com/example/nimble_calculus/nimblecalculus/equivalence/Splits" "parent" "[I" (.ref P) := (F_76.other W_78 (Or.inl ne_53))
  refine E_getF (pc' := 71) X (host := "") (Or.inl (w_22 hw)) Via.refl F_88 d8_68 rfl (fun T X => ?_)
  refine E_iloadN (pc' := 72) X d8_71 rfl rfl ?_
  have A_89 : Ar Z h_79 P .int [(.int (0 : Int32)), (.int (0 : Int32)), (.int (0 : Int32)), (.int (1 : Int32)), (.int (0 : Int32)), (.int (0 : Int32)), (.int (0 : Int32))] := (A_77.other W_78 ne_52)
  refine E_iaload (v := (.int (1 : Int32))) (pc' := 73) X A_89 (by decide) rfl d8_72 rfl ?_
  refine E_iaload (v := (.int (1 : Int32))) (pc' := 74) X Aa_80 (by decide) rfl d8_73 rfl ?_
  refine E_iconst (v := (1 : Int32)) (pc' := 75) X d8_74 rfl rfl ?_
  refine E_iadd (pc' := 76) X d8_75 rfl ?_
  refine E_eqI (z := (2 : Int32)) (by decide) ?_
  refine E_iastore (vs' := [(.int (0 : Int32)), (.int (1 : Int32)), (.int (1 : Int32)), (.int (2 : Int32))]) (pc' := 77) X Aa_80 (by decide) (Nat.le_of_ble_eq_true rfl) rfl fr_50 d8_76 rfl (fun T h_91 X W_90 Aa_92 => ?_)
  have K_93 : Keep h0 h_91 [a] := K_81.wr W_90 (Or.inr b_48)
  refine E_iloadN (pc' := 78) X d8_77 rfl rfl ?_
  refine E_aloadN (v := (.ref a)) (pc' := 79) X d8_78 rfl rfl rfl ?_
  have F_94 : Fld Z h_91 a "com/example/nimble_calculus/nimblecalculus/equivalence/Splits" "height" "[I" (.ref o40) := (F_82.other W_90 (Or.inl ne_53))
  refine E_getF (pc' := 82) X (host := "") (Or.inl (w_54 hw)) Via.refl F_94 d8_79 rfl (fun T X => ?_)
  refine E_iloadN (pc' := 83) X d8_82 rfl rfl ?_
  refine E_iaload (v := (.int (2 : Int32))) (pc' := 84) X Aa_92 (by decide) rfl d8_83 rfl ?_
  refine E_callS (pc' := 87) (W := 0) (cells' := 2) (slots' := 6) (argsL := [(.int (1 : Int32)), (.int (2 : Int32))]) (rest := []) X (rm5 l Z a0 hw (1 : Int32) (2 : Int32) (2 : Int32) h_91 X.ext (by decide)) (w_28 hw) (w_29 hw) (w_17 hw) (w_30 hw) (by decide) rfl rfl pd_1 rfl rfl d8_84 rfl (Nat.le_refl _) (by decide) (by decide) rfl rfl (by decide) (by decide) (fun v95 T h_96 X hQ97 => ?_)
  obtain ⟨rfl, rfl⟩ := hQ97
  show End Z p e below s _ _ _ _ (mkF m 87 #[.val (.ref a), .val (.ref t), .val (.int (1 : Int32)), .val (.int (3 : Int32)), .unset, .unset, .unset, .unset] [(.int (2 : Int32))])
  refine E_istoreN (Ls' := #[.val (.ref a), .val (.ref t), .val (.int (2 : Int32)), .val (.int (3 : Int32)), .unset, .unset, .unset, .unset]) (pc' := 88) X d8_87 rfl rfl ?_
  refine E_iinc (x := (3 : Int32)) (z := (4 : Int32)) (Ls' := #[.val (.ref a), .val (.ref t), .val (.int (2 : Int32)), .val (.int (4 : Int32)), .unset, .unset, .unset, .unset]) (pc' := 91) X d8_88 rfl rfl rfl rfl ?_
  refine E_goto (pc' := 50) X d8_91 (by decide) rfl ?_
  refine E_iloadN (pc' := 51) X d8_50 rfl rfl ?_
  refine E_aloadN (v := (.ref a)) (pc' := 52) X d8_51 rfl rfl rfl ?_
  have F_99 : Fld Z h_91 a "com/example/nimble_calculus/nimblecalculus/equivalence/Splits" "nodeCount" "I" (.int (4 : Int32)) := (F_87.other W_90 (Or.inl ne_53))
  refine E_getF (pc' := 55) X (host := "") (Or.inl (w_11 hw)) Via.refl F_99 d8_52 rfl (fun T X => ?_)
  refine E_icmp (pcY := 94) (pcN := 58) X (ic_ge _ _) d8_55 (by decide) rfl rfl (fun hc55_3 => ?_) (fun hc55_3 => absurd (by decide) hc55_3)
  refine E_bipush (v := (32 : Int32)) (pc' := 96) X d8_94 rfl rfl ?_
  refine E_iconst (v := (1 : Int32)) (pc' := 97) X d8_96 rfl rfl ?_
  refine E_iloadN (pc' := 98) X d8_97 rfl rfl ?_
  refine E_callS (pc' := 101) (W := 1) (cells' := 2) (slots' := 6) (argsL := [(.int (1 : Int32)), (.int (2 : Int32))]) (rest := [(.int (32 : Int32))]) X (rm5 l Z a0 hw (1 : Int32) (2 : Int32) (2 : Int32) h_91 X.ext (by decide)) (w_28 hw) (w_29 hw) (w_17 hw) (w_30 hw) (by decide) rfl rfl pd_1 rfl rfl d8_98 rfl (Nat.le_refl _) (by decide) (by decide) rfl rfl (by decide) (by decide) (fun v100 T h_101 X hQ102 => ?_)
  obtain ⟨rfl, rfl⟩ := hQ102
  show End Z p e below s _ _ _ _ (mkF m 101 #[.val (.ref a), .val (.ref t), .val (.int (2 : Int32)), .val (.int (4 : Int32)), .unset, .unset, .unset, .unset] [(.int (2 : Int32)), (.int (32 : Int32))])
  refine E_callS (pc' := 104) (W := 1) (cells' := 2) (slots' := 6) (argsL := [(.int (2 : Int32))]) (rest := [(.int (32 : Int32))]) X (rm_nlz2 l Z a0 hw h_91 X.ext) (w_56 hw) (w_57 hw) (w_58 hw) (w_59 hw) (by decide) rfl rfl pd_2 rfl rfl d8_101 rfl (Nat.le_refl _) (by decide) (by decide) rfl rfl (by decide) (by decide) (fun v104 T h_105 X hQ106 => ?_)
  obtain ⟨rfl, rfl⟩ := hQ106
  show End Z p e below s _ _ _ _ (mkF m 104 #[.val (.ref a), .val (.ref t), .val (.int (2 : Int32)), .val (.int (4 : Int32)), .unset, .unset, .unset, .unset] [(.int (30 : Int32)), (.int (32 : Int32))])
  refine E_isub (pc' := 105) X d8_104 rfl ?_
  refine E_eqI (z := (2 : Int32)) (by decide) ?_
  refine E_istoreN (Ls' := #[.val (.ref a), .val (.ref t), .val (.int (2 : Int32)), .val (.int (2 : Int32)), .unset, .unset, .unset, .unset]) (pc' := 106) X d8_105 rfl rfl ?_
  refine E_aloadN (v := (.ref a)) (pc' := 107) X d8_106 rfl rfl rfl ?_
  refine E_iloadN (pc' := 108) X d8_107 rfl rfl ?_
  have A_113 : Ar Z h_91 NB .int [(.int (3 : Int32)), (.int (0 : Int32)), (.int (2 : Int32)), (.int (0 : Int32))] := (((((A_45.ext Ex_42).other W_58 ne_1).other W_66 ne_51).other W_78 ne_51).other W_90 ne_51)
  have A_114 : Ar Z h_91 P .int [(.int (0 : Int32)), (.int (0 : Int32)), (.int (0 : Int32)), (.int (1 : Int32)), (.int (0 : Int32)), (.int (0 : Int32)), (.int (0 : Int32))] := (A_89.other W_90 ne_52)
  have E_115 : Exa Z h_91 a "com/example/nimble_calculus/nimblecalculus/equivalence/Splits" := ((((E_57.wr W_58).wr W_66).wr W_78).wr W_90)
  have A_116 : Ar Z h_91 o4 .int [(.int (3 : Int32)), (.int (2 : Int32))] := (((((Aa_36.ext Ex_42).other W_58 (Ne.symm ne_14)).other W_66 ne_54).other W_78 ne_54).other W_90 ne_54)
  have A_117 : Ar Z h_91 t .int [(.int (0 : Int32)), (.int (2 : Int32))] := (((((A_38.ext Ex_42).other W_58 (Ne.symm ne_3)).other W_66 ne_55).other W_78 ne_55).other W_90 ne_55)
  have le_o108 := X.le
  refine E_newRA (pc' := 111) X (n := (2 : Int32)) (cap := 2) (vs := [.null, .null]) (cells' := 3) (slots' := 8) (by decide) (w_61 hw) (w_62 hw) d8_108 rfl (by decide) (by decide) (by decide) rfl rfl rfl (by decide) (by decide) (fun T h_109 o108 g_112 X Ex_110 Aa_111 => ?_)
  have b_118 : h0.size ≤ o108 := by rw [g_112]; exact K_93.1
  have K_119 : Keep h0 h_109 [a] := K_93.ext Ex_110
  have fr_120 : Z.heap.size ≤ o108 := by rw [g_112]; exact le_o108
  have ne_121 : NB ≠ o108 := Nat.ne_of_lt (by rw [g_112]; exact A_113.lt)
  have ne_122 : P ≠ o108 := Nat.ne_of_lt (by rw [g_112]; exact A_114.lt)
  have ne_123 : a ≠ o108 := Nat.ne_of_lt (by rw [g_112]; exact E_115.lt)
  have ne_124 : o4 ≠ o108 := Nat.ne_of_lt (by rw [g_112]; exact A_116.lt)
  have ne_125 : o40 ≠ o108 := Nat.ne_of_lt (by rw [g_112]; exact Aa_92.lt)
  have ne_126 : t ≠ o108 := Nat.ne_of_lt (by rw [g_112]; exact A_117.lt)
  have F_127 : Fld Z h_109 a "com/example/nimble_calculus/nimblecalculus/equivalence/Splits" "jumps" "[[I" .null := ((((((((((hF10.ext Ex_6).other W_18 (Or.inr (slot_ne (Or.inl (w_64 hw)) (Or.inl (w_53 hw)) (by decide) (t := (.array (.array .int))) (t' := (.array .int)) (by decide) (by decide)))).other W_26 (Or.inl ne_14)).other W_34 (Or.inl ne_14)).ext Ex_42).other W_58 (Or.inr (slot_ne (Or.inl (w_64 hw)) (Or.inl (w_55 hw)) (by decide) (t := (.array (.array .int))) (t' := (.array .int)) (by decide) (by decide)))).other W_66 (Or.inl ne_53)).other W_78 (Or.inl ne_53)).other W_90 (Or.inl ne_53)).ext Ex_110)
  have E_128 : Exa Z h_109 a "com/example/nimble_calculus/nimblecalculus/equivalence/Splits" := (E_115.ext Ex_110)
  refine E_putF (pc' := 114) X (host := "") (Or.inl (w_63 hw)) Via.refl F_127 E_128 (Or.inl (w_64 hw)) (w_3 hw) (ty := (.array (.array .int))) (by decide) rfl rfl hfr14 d8_111 rfl (fun T h_130 X W_129 => ?_)
  have K_131 : Keep h0 h_130 [a] := K_119.wr W_129 (Or.inl (List.mem_of_getElem? (i := 0) rfl))
  refine E_aloadN (v := (.ref a)) (pc' := 115) X d8_114 rfl rfl rfl ?_
  have F_132 : Fld Z h_130 a "com/example/nimble_calculus/nimblecalculus/equivalence/Splits" "jumps" "[[I" (.ref o108) := (F_127.same W_129)
  refine E_getF (pc' := 118) X (host := "") (Or.inl (w_63 hw)) Via.refl F_132 d8_115 rfl (fun T X => ?_)
  refine E_iconst (v := (0 : Int32)) (pc' := 119) X d8_118 rfl rfl ?_
  refine E_aloadN (v := (.ref a)) (pc' := 120) X d8_119 rfl rfl rfl ?_
  have F_133 : Fld Z h_130 a "com/example/nimble_calculus/nimblecalculus/equivalence/Splits" "parent" "[I" (.ref P) := (((F_88.other W_90 (Or.inl ne_53)).ext Ex_110).other W_129 (Or.inr (slot_ne (Or.inr (w_23 hw)) (Or.inl (w_64 hw)) (by decide) (t := (.array .int)) (t' := (.array (.array .int))) (by decide) (by decide))))
  refine E_getF (pc' := 123) X (host := "") (Or.inl (w_22 hw)) Via.refl F_133 d8_120 rfl (fun T X => ?_)
  refine E_aloadN (v := (.ref a)) (pc' := 124) X d8_123 rfl rfl rfl ?_
  have F_134 : Fld Z h_130 a "com/example/nimble_calculus/nimblecalculus/equivalence/Splits" "nodeCount" "I" (.int (4 : Int32)) := ((F_99.ext Ex_110).other W_129 (Or.inr (slot_ne (Or.inl (w_12 hw)) (Or.inl (w_64 hw)) (by decide) (t := .int) (t' := (.array (.array .int))) (by decide) (by decide))))
  refine E_getF (pc' := 127) X (host := "") (Or.inl (w_11 hw)) Via.refl F_134 d8_124 rfl (fun T X => ?_)
  have A_135 : Ar Z h_130 P .int [(.int (0 : Int32)), (.int (0 : Int32)), (.int (0 : Int32)), (.int (1 : Int32)), (.int (0 : Int32)), (.int (0 : Int32)), (.int (0 : Int32))] := ((A_114.ext Ex_110).other W_129 ne_2)
  have A_139 : Ar Z h_130 NB .int [(.int (3 : Int32)), (.int (0 : Int32)), (.int (2 : Int32)), (.int (0 : Int32))] := ((A_113.ext Ex_110).other W_129 ne_1)
  have E_140 : Exa Z h_130 a "com/example/nimble_calculus/nimblecalculus/equivalence/Splits" := (E_128.wr W_129)
  have A_141 : ArR Z h_130 o108 (.array .int) "[I" [.null, .null] := (Aa_111.other W_129 (Ne.symm ne_123))
  have A_142 : Ar Z h_130 o4 .int [(.int (3 : Int32)), (.int (2 : Int32))] := ((A_116.ext Ex_110).other W_129 (Ne.symm ne_14))
  have A_143 : Ar Z h_130 o40 .int [(.int (0 : Int32)), (.int (1 : Int32)), (.int (1 : Int32)), (.int (2 : Int32))] := ((Aa_92.ext Ex_110).other W_129 (Ne.symm ne_53))
  have A_144 : Ar Z h_130 t .int [(.int (0 : Int32)), (.int (2 : Int32))] := ((A_117.ext Ex_110).other W_129 (Ne.symm ne_3))
  have le_145 := X.le
  refine E_callS (pc' := 130) (W := 2) (cells' := 4) (slots' := 12) (argsL := [(.ref P), (.int (4 : Int32))]) (rest := [(.int (0 : Int32)), (.ref o108)]) X (rm10 l Z a0 hw P (0 : Int32) (0 : Int32) (0 : Int32) (1 : Int32) (0 : Int32) (0 : Int32) (0 : Int32) h_130 X.ext A_135) (w_65 hw) (w_66 hw) (w_67 hw) (w_68 hw) (by decide) rfl rfl pd_3 rfl rfl d8_127 rfl (Nat.le_refl _) (by decide) (by decide) rfl rfl (by decide) (by decide) (fun v136 T h_137 X hQ138 => ?_)
  obtain ⟨r_146, rfl, Kc_147, nw_148, A_149, E_150⟩ := hQ138
  have K_151 : Keep h0 h_137 [a] := K_131.trans Kc_147 all0
  have ne_152 : NB ≠ r_146 := Nat.ne_of_lt (Nat.lt_of_lt_of_le A_139.lt nw_148)
  have ne_153 : P ≠ r_146 := Nat.ne_of_lt (Nat.lt_of_lt_of_le A_135.lt nw_148)
  have ne_154 : a ≠ r_146 := Nat.ne_of_lt (Nat.lt_of_lt_of_le E_140.lt nw_148)
  have ne_155 : o108 ≠ r_146 := Nat.ne_of_lt (Nat.lt_of_lt_of_le A_141.lt nw_148)
  have ne_156 : o4 ≠ r_146 := Nat.ne_of_lt (Nat.lt_of_lt_of_le A_142.lt nw_148)
  have ne_157 : o40 ≠ r_146 := Nat.ne_of_lt (Nat.lt_of_lt_of_le A_143.lt nw_148)
  have ne_158 : t ≠ r_146 := Nat.ne_of_lt (Nat.lt_of_lt_of_le A_144.lt nw_148)
  have fr_159 : Z.heap.size ≤ r_146 := Nat.le_trans le_145 nw_148
  show End Z p e below s _ _ _ _ (mkF m 130 #[.val (.ref a), .val (.ref t), .val (.int (2 : Int32)), .val (.int (2 : Int32)), .unset, .unset, .unset, .unset] [(.ref r_146), (.int (0 : Int32)), (.ref o108)])
  have A_160 : ArR Z h_137 o108 (.array .int) "[I" [.null, .null] := (A_141.keep Kc_147 nin0)
  refine E_aastore (vs' := [(.ref r_146), .null]) (pc' := 131) X A_160 (Ins.self E_150) rfl (by decide) (Nat.le_of_ble_eq_true rfl) rfl fr_120 d8_130 rfl (fun T h_162 X W_161 Aa_163 => ?_)
  have K_164 : Keep h0 h_162 [a] := K_151.wr W_161 (Or.inr b_118)
  refine E_iconst (v := (1 : Int32)) (pc' := 132) X d8_131 rfl rfl ?_
  refine E_istore (Ls' := #[.val (.ref a), .val (.ref t), .val (.int (2 : Int32)), .val (.int (2 : Int32)), .val (.int (1 : Int32)), .unset, .unset, .unset]) (pc' := 134) X d8_132 rfl rfl ?_
  refine E_iload (pc' := 136) X d8_134 rfl rfl ?_
  refine E_iloadN (pc' := 137) X d8_136 rfl rfl ?_
  refine E_icmp (pcY := 205) (pcN := 140) X (ic_ge _ _) d8_137 (by decide) rfl rfl (fun hc137_0 => absurd hc137_0 (by decide)) (fun hc137_0 => ?_)
  refine E_aloadN (v := (.ref a)) (pc' := 141) X d8_140 rfl rfl rfl ?_
  have F_165 : Fld Z h_162 a "com/example/nimble_calculus/nimblecalculus/equivalence/Splits" "jumps" "[[I" (.ref o108) := ((F_132.keep Kc_147 nin0).other W_161 (Or.inl ne_123))
  refine E_getF (pc' := 144) X (host := "") (Or.inl (w_63 hw)) Via.refl F_165 d8_141 rfl (fun T X => ?_)
  refine E_iload (pc' := 146) X d8_144 rfl rfl ?_
  refine E_iconst (v := (1 : Int32)) (pc' := 147) X d8_146 rfl rfl ?_
  refine E_isub (pc' := 148) X d8_147 rfl ?_
  refine E_eqI (z := (0 : Int32)) (by decide) ?_
  refine E_aaload (v := (.ref r_146)) (pc' := 149) X Aa_163.ar rfl (by decide) rfl d8_148 rfl ?_
  refine E_astore (Ls' := #[.val (.ref a), .val (.ref t), .val (.int (2 : Int32)), .val (.int (2 : Int32)), .val (.int (1 : Int32)), .val (.ref r_146), .unset, .unset]) (pc' := 151) X d8_149 rfl rfl rfl ?_
  refine E_aloadN (v := (.ref a)) (pc' := 152) X d8_151 rfl rfl rfl ?_
  have F_166 : Fld Z h_162 a "com/example/nimble_calculus/nimblecalculus/equivalence/Splits" "nodeCount" "I" (.int (4 : Int32)) := ((F_134.keep Kc_147 nin0).other W_161 (Or.inl ne_123))
  refine E_getF (pc' := 155) X (host := "") (Or.inl (w_11 hw)) Via.refl F_166 d8_152 rfl (fun T X => ?_)
  have A_172 : Ar Z h_162 NB .int [(.int (3 : Int32)), (.int (0 : Int32)), (.int (2 : Int32)), (.int (0 : Int32))] := ((A_139.keep Kc_147 nin0).other W_161 ne_121)
  have A_173 : Ar Z h_162 P .int [(.int (0 : Int32)), (.int (0 : Int32)), (.int (0 : Int32)), (.int (1 : Int32)), (.int (0 : Int32)), (.int (0 : Int32)), (.int (0 : Int32))] := ((A_135.keep Kc_147 nin0).other W_161 ne_122)
  have E_174 : Exa Z h_162 a "com/example/nimble_calculus/nimblecalculus/equivalence/Splits" := ((E_140.keep Kc_147).wr W_161)
  have A_175 : Ar Z h_162 o4 .int [(.int (3 : Int32)), (.int (2 : Int32))] := ((A_142.keep Kc_147 nin0).other W_161 ne_124)
  have A_176 : Ar Z h_162 o40 .int [(.int (0 : Int32)), (.int (1 : Int32)), (.int (1 : Int32)), (.int (2 : Int32))] := ((A_143.keep Kc_147 nin0).other W_161 ne_125)
  have E_177 : Exa Z h_162 r_146 "[I" := (E_150.wr W_161)
  have A_178 : Ar Z h_162 t .int [(.int (0 : Int32)), (.int (2 : Int32))] := ((A_144.keep Kc_147 nin0).other W_161 ne_126)
  have le_o167 := X.le
  refine E_newAE (pc' := 157) X (aty := .int) (n := (4 : Int32)) (cap := 4) (vs := [(.int (0 : Int32)), (.int (0 : Int32)), (.int (0 : Int32)), (.int (0 : Int32))]) (cells' := 5) (slots' := 16) (ad := "[I") (by decide) (w_1 hw) d8_155 rfl (by decide) (by decide) (by decide) rfl rfl rfl (by decide) (by decide) (fun T h_168 o167 g_171 X Ex_169 Aa_170 EaAa_170 => ?_)
  have b_179 : h0.size ≤ o167 := by rw [g_171]; exact K_164.1
  have K_180 : Keep h0 h_168 [a] := K_164.ext Ex_169
  have fr_181 : Z.heap.size ≤ o167 := by rw [g_171]; exact le_o167
  have ne_182 : NB ≠ o167 := Nat.ne_of_lt (by rw [g_171]; exact A_172.lt)
  have ne_183 : P ≠ o167 := Nat.ne_of_lt (by rw [g_171]; exact A_173.lt)
  have ne_184 : a ≠ o167 := Nat.ne_of_lt (by rw [g_171]; exact E_174.lt)
  have ne_185 : o108 ≠ o167 := Nat.ne_of_lt (by rw [g_171]; exact Aa_163.lt)
  have ne_186 : o4 ≠ o167 := Nat.ne_of_lt (by rw [g_171]; exact A_175.lt)
  have ne_187 : o40 ≠ o167 := Nat.ne_of_lt (by rw [g_171]; exact A_176.lt)
  have ne_188 : r_146 ≠ o167 := Nat.ne_of_lt (by rw [g_171]; exact E_177.lt)
  have ne_189 : t ≠ o167 := Nat.ne_of_lt (by rw [g_171]; exact A_178.lt)
  refine E_astore (Ls' := #[.val (.ref a), .val (.ref t), .val (.int (2 : Int32)), .val (.int (2 : Int32)), .val (.int (1 : Int32)), .val (.ref r_146), .val (.ref o167), .unset]) (pc' := 159) X d8_157 rfl rfl rfl ?_
  refine E_iconst (v := (0 : Int32)) (pc' := 160) X d8_159 rfl rfl ?_
  refine E_istore (Ls' := #[.val (.ref a), .val (.ref t), .val (.int (2 : Int32)), .val (.int (2 : Int32)), .val (.int (1 : Int32)), .val (.ref r_146), .val (.ref o167), .val (.int (0 : Int32))]) (pc' := 162) X d8_160 rfl rfl ?_
  refine E_iload (pc' := 164) X d8_162 rfl rfl ?_
  refine E_aloadN (v := (.ref a)) (pc' := 165) X d8_164 rfl rfl rfl ?_
  have F_190 : Fld Z h_168 a "com/example/nimble_calculus/nimblecalculus/equivalence/Splits" "nodeCount" "I" (.int (4 : Int32)) := (F_166.ext Ex_169)
  refine E_getF (pc' := 168) X (host := "") (Or.inl (w_11 hw)) Via.refl F_190 d8_165 rfl (fun T X => ?_)
  refine E_icmp (pcY := 190) (pcN := 171) X (ic_ge _ _) d8_168 (by decide) rfl rfl (fun hc168_0 => absurd hc168_0 (by decide)) (fun hc168_0 => ?_)
  refine E_aload (v := (.ref o167)) (pc' := 173) X d8_171 rfl rfl rfl ?_
  refine E_iload (pc' := 175) X d8_173 rfl rfl ?_
  refine E_aload (v := (.ref r_146)) (pc' := 177) X d8_175 rfl rfl rfl ?_
  refine E_aload (v := (.ref r_146)) (pc' := 179) X d8_177 rfl rfl rfl ?_
  refine E_iload (pc' := 181) X d8_179 rfl rfl ?_
  have A_191 : Ar Z h_168 r_146 .int [(.int (0 : Int32)), (.int (0 : Int32)), (.int (0 : Int32)), (.int (1 : Int32))] := ((A_149.other W_161 (Ne.symm ne_155)).ext Ex_169)
  refine E_iaload (v := (.int (0 : Int32))) (pc' := 182) X A_191 (by decide) rfl d8_181 rfl ?_
  refine E_iaload (v := (.int (0 : Int32))) (pc' := 183) X A_191 (by decide) rfl d8_182 rfl ?_
  refine E_iastore (vs' := [(.int (0 : Int32)), (.int (0 : Int32)), (.int (0 : Int32)), (.int (0 : Int32))]) (pc' := 184) X Aa_170 (by decide) (Nat.le_of_ble_eq_true rfl) rfl fr_181 d8_183 rfl (fun T h_193 X W_192 Aa_194 => ?_)
  have K_195 : Keep h0 h_193 [a] := K_180.wr W_192 (Or.inr b_179)
  refine E_iinc (x := (0 : Int32)) (z := (1 : Int32)) (Ls' := #[.val (.ref a), .val (.ref t), .val (.int (2 : Int32)), .val (.int (2 : Int32)), .val (.int (1 : Int32)), .val (.ref r_146), .val (.ref o167), .val (.int (1 : Int32))]) (pc' := 187) X d8_184 rfl rfl rfl rfl ?_
  refine E_goto (pc' := 162) X d8_187 (by decide) rfl ?_
  refine E_iload (pc' := 164) X d8_162 rfl rfl ?_
  refine E_aloadN (v := (.ref a)) (pc' := 165) X d8_164 rfl rfl rfl ?_
  have F_196 : Fld Z h_193 a "com/example/nimble_calculus/nimblecalculus/equivalence/Splits" "nodeCount" "I" (.int (4 : Int32)) := (F_190.other W_192 (Or.inl ne_184))
  refine E_getF (pc' := 168) X (host := "") (Or.inl (w_11 hw)) Via.refl F_196 d8_165 rfl (fun T X => ?_)
  refine E_icmp (pcY := 190) (pcN := 171) X (ic_ge _ _) d8_168 (by decide) rfl rfl (fun hc168_1 => absurd hc168_1 (by decide)) (fun hc168_1 => ?_)
  refine E_aload (v := (.ref o167)) (pc' := 173) X d8_171 rfl rfl rfl ?_
  refine E_iload (pc' := 175) X d8_173 rfl rfl ?_
  refine E_aload (v := (.ref r_146)) (pc' := 177) X d8_175 rfl rfl rfl ?_
  refine E_aload (v := (.ref r_146)) (pc' := 179) X d8_177 rfl rfl rfl ?_
  refine E_iload (pc' := 181) X d8_179 rfl rfl ?_
  have A_197 : Ar Z h_193 r_146 .int [(.int (0 : Int32)), (.int (0 : Int32)), (.int (0 : Int32)), (.int (1 : Int32))] := (A_191.other W_192 ne_188)
  refine E_iaload (v := (.int (0 : Int32))) (pc' := 182) X A_197 (by decide) rfl d8_181 rfl ?_
  refine E_iaload (v := (.int (0 : Int32))) (pc' := 183) X A_197 (by decide) rfl d8_182 rfl ?_
  refine E_iastore (vs' := [(.int (0 : Int32)), (.int (0 : Int32)), (.int (0 : Int32)), (.int (0 : Int32))]) (pc' := 184) X Aa_194 (by decide) (Nat.le_of_ble_eq_true rfl) rfl fr_181 d8_183 rfl (fun T h_199 X W_198 Aa_200 => ?_)
  have K_201 : Keep h0 h_199 [a] := K_195.wr W_198 (Or.inr b_179)
  refine E_iinc (x := (1 : Int32)) (z := (2 : Int32)) (Ls' := #[.val (.ref a), .val (.ref t), .val (.int (2 : Int32)), .val (.int (2 : Int32)), .val (.int (1 : Int32)), .val (.ref r_146), .val (.ref o167), .val (.int (2 : Int32))]) (pc' := 187) X d8_184 rfl rfl rfl rfl ?_
  refine E_goto (pc' := 162) X d8_187 (by decide) rfl ?_
  refine E_iload (pc' := 164) X d8_162 rfl rfl ?_
  refine E_aloadN (v := (.ref a)) (pc' := 165) X d8_164 rfl rfl rfl ?_
  have F_202 : Fld Z h_199 a "com/example/nimble_calculus/nimblecalculus/equivalence/Splits" "nodeCount" "I" (.int (4 : Int32)) := (F_196.other W_198 (Or.inl ne_184))
  refine E_getF (pc' := 168) X (host := "") (Or.inl (w_11 hw)) Via.refl F_202 d8_165 rfl (fun T X => ?_)
  refine E_icmp (pcY := 190) (pcN := 171) X (ic_ge _ _) d8_168 (by decide) rfl rfl (fun hc168_2 => absurd hc168_2 (by decide)) (fun hc168_2 => ?_)
  refine E_aload (v := (.ref o167)) (pc' := 173) X d8_171 rfl rfl rfl ?_
  refine E_iload (pc' := 175) X d8_173 rfl rfl ?_
  refine E_aload (v := (.ref r_146)) (pc' := 177) X d8_175 rfl rfl rfl ?_
  refine E_aload (v := (.ref r_146)) (pc' := 179) X d8_177 rfl rfl rfl ?_
  refine E_iload (pc' := 181) X d8_179 rfl rfl ?_
  have A_203 : Ar Z h_199 r_146 .int [(.int (0 : Int32)), (.int (0 : Int32)), (.int (0 : Int32)), (.int (1 : Int32))] := (A_197.other W_198 ne_188)
  refine E_iaload (v := (.int (0 : Int32))) (pc' := 182) X A_203 (by decide) rfl d8_181 rfl ?_
  refine E_iaload (v := (.int (0 : Int32))) (pc' := 183) X A_203 (by decide) rfl d8_182 rfl ?_
  refine E_iastore (vs' := [(.int (0 : Int32)), (.int (0 : Int32)), (.int (0 : Int32)), (.int (0 : Int32))]) (pc' := 184) X Aa_200 (by decide) (Nat.le_of_ble_eq_true rfl) rfl fr_181 d8_183 rfl (fun T h_205 X W_204 Aa_206 => ?_)
  have K_207 : Keep h0 h_205 [a] := K_201.wr W_204 (Or.inr b_179)
  refine E_iinc (x := (2 : Int32)) (z := (3 : Int32)) (Ls' := #[.val (.ref a), .val (.ref t), .val (.int (2 : Int32)), .val (.int (2 : Int32)), .val (.int (1 : Int32)), .val (.ref r_146), .val (.ref o167), .val (.int (3 : Int32))]) (pc' := 187) X d8_184 rfl rfl rfl rfl ?_
  refine E_goto (pc' := 162) X d8_187 (by decide) rfl ?_
  refine E_iload (pc' := 164) X d8_162 rfl rfl ?_
  refine E_aloadN (v := (.ref a)) (pc' := 165) X d8_164 rfl rfl rfl ?_
  have F_208 : Fld Z h_205 a "com/example/nimble_calculus/nimblecalculus/equivalence/Splits" "nodeCount" "I" (.int (4 : Int32)) := (F_202.other W_204 (Or.inl ne_184))
  refine E_getF (pc' := 168) X (host := "") (Or.inl (w_11 hw)) Via.refl F_208 d8_165 rfl (fun T X => ?_)
  refine E_icmp (pcY := 190) (pcN := 171) X (ic_ge _ _) d8_168 (by decide) rfl rfl (fun hc168_3 => absurd hc168_3 (by decide)) (fun hc168_3 => ?_)
  refine E_aload (v := (.ref o167)) (pc' := 173) X d8_171 rfl rfl rfl ?_
  refine E_iload (pc' := 175) X d8_173 rfl rfl ?_
  refine E_aload (v := (.ref r_146)) (pc' := 177) X d8_175 rfl rfl rfl ?_
  refine E_aload (v := (.ref r_146)) (pc' := 179) X d8_177 rfl rfl rfl ?_
  refine E_iload (pc' := 181) X d8_179 rfl rfl ?_
  have A_209 : Ar Z h_205 r_146 .int [(.int (0 : Int32)), (.int (0 : Int32)), (.int (0 : Int32)), (.int (1 : Int32))] := (A_203.other W_204 ne_188)
  refine E_iaload (v := (.int (1 : Int32))) (pc' := 182) X A_209 (by decide) rfl d8_181 rfl ?_
  refine E_iaload (v := (.int (0 : Int32))) (pc' := 183) X A_209 (by decide) rfl d8_182 rfl ?_
  refine E_iastore (vs' := [(.int (0 : Int32)), (.int (0 : Int32)), (.int (0 : Int32)), (.int (0 : Int32))]) (pc' := 184) X Aa_206 (by decide) (Nat.le_of_ble_eq_true rfl) rfl fr_181 d8_183 rfl (fun T h_211 X W_210 Aa_212 => ?_)
  have K_213 : Keep h0 h_211 [a] := K_207.wr W_210 (Or.inr b_179)
  refine E_iinc (x := (3 : Int32)) (z := (4 : Int32)) (Ls' := #[.val (.ref a), .val (.ref t), .val (.int (2 : Int32)), .val (.int (2 : Int32)), .val (.int (1 : Int32)), .val (.ref r_146), .val (.ref o167), .val (.int (4 : Int32))]) (pc' := 187) X d8_184 rfl rfl rfl rfl ?_
  refine E_goto (pc' := 162) X d8_187 (by decide) rfl ?_
  refine E_iload (pc' := 164) X d8_162 rfl rfl ?_
  refine E_aloadN (v := (.ref a)) (pc' := 165) X d8_164 rfl rfl rfl ?_
  have F_214 : Fld Z h_211 a "com/example/nimble_calculus/nimblecalculus/equivalence/Splits" "nodeCount" "I" (.int (4 : Int32)) := (F_208.other W_210 (Or.inl ne_184))
  refine E_getF (pc' := 168) X (host := "") (Or.inl (w_11 hw)) Via.refl F_214 d8_165 rfl (fun T X => ?_)
  refine E_icmp (pcY := 190) (pcN := 171) X (ic_ge _ _) d8_168 (by decide) rfl rfl (fun hc168_4 => ?_) (fun hc168_4 => absurd (by decide) hc168_4)
  refine E_aloadN (v := (.ref a)) (pc' := 191) X d8_190 rfl rfl rfl ?_
  have F_215 : Fld Z h_211 a "com/example/nimble_calculus/nimblecalculus/equivalence/Splits" "jumps" "[[I" (.ref o108) := (((((F_165.ext Ex_169).other W_192 (Or.inl ne_184)).other W_198 (Or.inl ne_184)).other W_204 (Or.inl ne_184)).other W_210 (Or.inl ne_184))
  refine E_getF (pc' := 194) X (host := "") (Or.inl (w_63 hw)) Via.refl F_215 d8_191 rfl (fun T X => ?_)
  refine E_iload (pc' := 196) X d8_194 rfl rfl ?_
  refine E_aload (v := (.ref o167)) (pc' := 198) X d8_196 rfl rfl rfl ?_
  have A_216 : ArR Z h_211 o108 (.array .int) "[I" [(.ref r_146), .null] := (((((Aa_163.ext Ex_169).other W_192 ne_185).other W_198 ne_185).other W_204 ne_185).other W_210 ne_185)
  have E_217 : Exa Z h_211 o167 "[I" := ((((EaAa_170.wr W_192).wr W_198).wr W_204).wr W_210)
  refine E_aastore (vs' := [(.ref r_146), (.ref o167)]) (pc' := 199) X A_216 (Ins.self E_217) rfl (by decide) (Nat.le_of_ble_eq_true rfl) rfl fr_120 d8_198 rfl (fun T h_219 X W_218 Aa_220 => ?_)
  have K_221 : Keep h0 h_219 [a] := K_213.wr W_218 (Or.inr b_118)
  refine E_iinc (x := (1 : Int32)) (z := (2 : Int32)) (Ls' := #[.val (.ref a), .val (.ref t), .val (.int (2 : Int32)), .val (.int (2 : Int32)), .val (.int (2 : Int32)), .val (.ref r_146), .val (.ref o167), .val (.int (4 : Int32))]) (pc' := 202) X d8_199 rfl rfl rfl rfl ?_
  refine E_goto (pc' := 134) X d8_202 (by decide) rfl ?_
  refine E_iload (pc' := 136) X d8_134 rfl rfl ?_
  refine E_iloadN (pc' := 137) X d8_136 rfl rfl ?_
  refine E_icmp (pcY := 205) (pcN := 140) X (ic_ge _ _) d8_137 (by decide) rfl rfl (fun hc137_1 => ?_) (fun hc137_1 => absurd (by decide) hc137_1)
  have E_222 : Exa Z h_219 a "com/example/nimble_calculus/nimblecalculus/equivalence/Splits" := ((((((E_174.ext Ex_169).wr W_192).wr W_198).wr W_204).wr W_210).wr W_218)
  have F_223 : Fld Z h_219 a "com/example/nimble_calculus/nimblecalculus/equivalence/Splits" "leaf" "[I" (.ref o4) := ((((((((((((((((F_31.other W_34 (Or.inl ne_14)).ext Ex_42).other W_58 (Or.inr (slot_ne (Or.inl (w_53 hw)) (Or.inl (w_55 hw)) (by decide) (t := (.array .int)) (t' := (.array .int)) (by decide) (by decide)))).other W_66 (Or.inl ne_53)).other W_78 (Or.inl ne_53)).other W_90 (Or.inl ne_53)).ext Ex_110).other W_129 (Or.inr (slot_ne (Or.inl (w_53 hw)) (Or.inl (w_64 hw)) (by decide) (t := (.array .int)) (t' := (.array (.array .int))) (by decide) (by decide)))).keep Kc_147 nin0).other W_161 (Or.inl ne_123)).ext Ex_169).other W_192 (Or.inl ne_184)).other W_198 (Or.inl ne_184)).other W_204 (Or.inl ne_184)).other W_210 (Or.inl ne_184)).other W_218 (Or.inl ne_123))
  have F_224 : Fld Z h_219 a "com/example/nimble_calculus/nimblecalculus/equivalence/Splits" "height" "[I" (.ref o40) := ((((((((((F_94.ext Ex_110).other W_129 (Or.inr (slot_ne (Or.inl (w_55 hw)) (Or.inl (w_64 hw)) (by decide) (t := (.array .int)) (t' := (.array (.array .int))) (by decide) (by decide)))).keep Kc_147 nin0).other W_161 (Or.inl ne_123)).ext Ex_169).other W_192 (Or.inl ne_184)).other W_198 (Or.inl ne_184)).other W_204 (Or.inl ne_184)).other W_210 (Or.inl ne_184)).other W_218 (Or.inl ne_123))
  have F_225 : Fld Z h_219 a "com/example/nimble_calculus/nimblecalculus/equivalence/Splits" "jumps" "[[I" (.ref o108) := (F_215.other W_218 (Or.inl ne_123))
  have F_226 : Fld Z h_219 a "com/example/nimble_calculus/nimblecalculus/equivalence/Splits" "parent" "[I" (.ref P) := ((((((((F_133.keep Kc_147 nin0).other W_161 (Or.inl ne_123)).ext Ex_169).other W_192 (Or.inl ne_184)).other W_198 (Or.inl ne_184)).other W_204 (Or.inl ne_184)).other W_210 (Or.inl ne_184)).other W_218 (Or.inl ne_123))
  have F_227 : Fld Z h_219 a "com/example/nimble_calculus/nimblecalculus/equivalence/Splits" "born" "[I" (.ref B) := (((((((((((((((((((hF5.ext Ex_6).other W_18 (Or.inr (slot_ne (Or.inr (w_25 hw)) (Or.inl (w_53 hw)) (by decide) (t := (.array .int)) (t' := (.array .int)) (by decide) (by decide)))).other W_26 (Or.inl ne_14)).other W_34 (Or.inl ne_14)).ext Ex_42).other W_58 (Or.inr (slot_ne (Or.inr (w_25 hw)) (Or.inl (w_55 hw)) (by decide) (t := (.array .int)) (t' := (.array .int)) (by decide) (by decide)))).other W_66 (Or.inl ne_53)).other W_78 (Or.inl ne_53)).other W_90 (Or.inl ne_53)).ext Ex_110).other W_129 (Or.inr (slot_ne (Or.inr (w_25 hw)) (Or.inl (w_64 hw)) (by decide) (t := (.array .int)) (t' := (.array (.array .int))) (by decide) (by decide)))).keep Kc_147 nin0).other W_161 (Or.inl ne_123)).ext Ex_169).other W_192 (Or.inl ne_184)).other W_198 (Or.inl ne_184)).other W_204 (Or.inl ne_184)).other W_210 (Or.inl ne_184)).other W_218 (Or.inl ne_123))
  have F_228 : Fld Z h_219 a "com/example/nimble_calculus/nimblecalculus/equivalence/Splits" "representative" "[I" (.ref RR) := (((((((((((((((((((hF6.ext Ex_6).other W_18 (Or.inr (slot_ne (Or.inr (w_27 hw)) (Or.inl (w_53 hw)) (by decide) (t := (.array .int)) (t' := (.array .int)) (by decide) (by decide)))).other W_26 (Or.inl ne_14)).other W_34 (Or.inl ne_14)).ext Ex_42).other W_58 (Or.inr (slot_ne (Or.inr (w_27 hw)) (Or.inl (w_55 hw)) (by decide) (t := (.array .int)) (t' := (.array .int)) (by decide) (by decide)))).other W_66 (Or.inl ne_53)).other W_78 (Or.inl ne_53)).other W_90 (Or.inl ne_53)).ext Ex_110).other W_129 (Or.inr (slot_ne (Or.inr (w_27 hw)) (Or.inl (w_64 hw)) (by decide) (t := (.array .int)) (t' := (.array (.array .int))) (by decide) (by decide)))).keep Kc_147 nin0).other W_161 (Or.inl ne_123)).ext Ex_169).other W_192 (Or.inl ne_184)).other W_198 (Or.inl ne_184)).other W_204 (Or.inl ne_184)).other W_210 (Or.inl ne_184)).other W_218 (Or.inl ne_123))
  have A_229 : Ar Z h_219 o4 .int [(.int (3 : Int32)), (.int (2 : Int32))] := ((((((A_175.ext Ex_169).other W_192 ne_186).other W_198 ne_186).other W_204 ne_186).other W_210 ne_186).other W_218 ne_124)
  have A_230 : Ar Z h_219 o40 .int [(.int (0 : Int32)), (.int (1 : Int32)), (.int (1 : Int32)), (.int (2 : Int32))] := ((((((A_176.ext Ex_169).other W_192 ne_187).other W_198 ne_187).other W_204 ne_187).other W_210 ne_187).other W_218 ne_125)
  have A_231 : Ar Z h_219 r_146 .int [(.int (0 : Int32)), (.int (0 : Int32)), (.int (0 : Int32)), (.int (1 : Int32))] := ((A_209.other W_210 ne_188).other W_218 (Ne.symm ne_155))
  have A_232 : Ar Z h_219 o167 .int [(.int (0 : Int32)), (.int (0 : Int32)), (.int (0 : Int32)), (.int (0 : Int32))] := (Aa_212.other W_218 (Ne.symm ne_185))
  exact E_ret0 X d8_205 (by decide) (by decide) ⟨o4, o108, o40, r_146, o167, rfl, K_221, b_9, b_118, b_48, (Nat.le_trans K_131.1 nw_148), b_179, E_222, F_223, F_224, F_225, F_226, F_227, F_228, A_229, A_230, Aa_220.ar, A_231, A_232⟩
theorem ef_rm_fin13 (m : MethodId) (x0 : Addr) (x1 : Addr) : entryFrame m #[(.ref x0), (.ref x1)] 8 = mkF m 0 #[.val (.ref x0), .val (.ref x1), .unset, .unset, .unset, .unset, .unset, .unset] [] := by first | (simp [entryFrame, mkF, argsToLocals, Value.category]; done) | (simp [entryFrame, mkF, argsToLocals, *]; done) | rfl
set_option maxRecDepth 65536 in
set_option maxHeartbeats 2000000 in
theorem rm_fin13 (l : Launch) (Z : State) (a0 : Array Value) (hw : ∀ d ∈ tables_1, d.before a0 Z = true) (a : Addr) (t : Addr) (P : Addr) (B : Addr) (RR : Addr) (NB : Addr) (h0 : Heap) (hE : Ext Z.heap h0) (hE0 : Exa Z h0 a "com/example/nimble_calculus/nimblecalculus/equivalence/Splits") (hF1 : Fld Z h0 a "com/example/nimble_calculus/nimblecalculus/equivalence/Splits" "nodeCount" "I" (.int (4 : Int32))) (hF2 : Fld Z h0 a "com/example/nimble_calculus/nimblecalculus/equivalence/Splits" "splitCount" "I" (.int (2 : Int32))) (hF3 : Fld Z h0 a "com/example/nimble_calculus/nimblecalculus/equivalence/Splits" "splitting" "I" (.int (1 : Int32))) (hF4 : Fld Z h0 a "com/example/nimble_calculus/nimblecalculus/equivalence/Splits" "parent" "[I" (.ref P)) (hF5 : Fld Z h0 a "com/example/nimble_calculus/nimblecalculus/equivalence/Splits" "born" "[I" (.ref B)) (hF6 : Fld Z h0 a "com/example/nimble_calculus/nimblecalculus/equivalence/Splits" "representative" "[I" (.ref RR)) (hF7 : Fld Z h0 a "com/example/nimble_calculus/nimblecalculus/equivalence/Splits" "nodeOfBlock" "[I" (.ref NB)) (hF8 : Fld Z h0 a "com/example/nimble_calculus/nimblecalculus/equivalence/Splits" "leaf" "[I" .null) (hF9 : Fld Z h0 a "com/example/nimble_calculus/nimblecalculus/equivalence/Splits" "height" "[I" .null) (hF10 : Fld Z h0 a "com/example/nimble_calculus/nimblecalculus/equivalence/Splits" "jumps" "[[I" .null) (hA11 : Ar Z h0 P .int [(.int (0 : Int32)), (.int (0 : Int32)), (.int (0 : Int32)), (.int (1 : Int32)), (.int (0 : Int32)), (.int (0 : Int32)), (.int (0 : Int32))]) (hA12 : Ar Z h0 NB .int [(.int (3 : Int32)), (.int (0 : Int32)), (.int (0 : Int32)), (.int (2 : Int32))]) (hA13 : Ar Z h0 t .int [(.int (0 : Int32)), (.int (3 : Int32))]) (hfr14 : Z.heap.size ≤ a) :
    Con l Z (⟨"com/example/nimble_calculus/nimblecalculus/equivalence/Splits", "finish", "([I)V"⟩ : MethodName) prog_61_method_4_code 8 none ({ frames := 2, cells := 5, slots := 16, locals := 34 } : Room) #[(.ref a), (.ref t)] h0 (fun vv hh => ∃ lf : Addr, ∃ jp : Addr, ∃ hg : Addr, ∃ j0 : Addr, ∃ j1 : Addr, vv = none ∧ Keep h0 hh [a] ∧ h0.size ≤ lf ∧ h0.size ≤ jp ∧ h0.size ≤ hg ∧ h0.size ≤ j0 ∧ h0.size ≤ j1 ∧ Exa Z hh a "com/example/nimble_calculus/nimblecalculus/equivalence/Splits" ∧ Fld Z hh a "com/example/nimble_calculus/nimblecalculus/equivalence/Splits" "leaf" "[I" (.ref lf) ∧ Fld Z hh a "com/example/nimble_calculus/nimblecalculus/equivalence/Splits" "height" "[I" (.ref hg) ∧ Fld Z hh a "com/example/nimble_calculus/nimblecalculus/equivalence/Splits" "jumps" "[[I" (.ref jp) ∧ Fld Z hh a "com/example/nimble_calculus/nimblecalculus/equivalence/Splits" "parent" "[I" (.ref P) ∧ Fld Z hh a "com/example/nimble_calculus/nimblecalculus/equivalence/Splits" "born" "[I" (.ref B) ∧ Fld Z hh a "com/example/nimble_calculus/nimblecalculus/equivalence/Splits" "representative" "[I" (.ref RR) ∧ Ar Z hh lf .int [(.int (3 : Int32)), (.int (2 : Int32))] ∧ Ar Z hh hg .int [(.int (0 : Int32)), (.int (1 : Int32)), (.int (1 : Int32)), (.int (2 : Int32))] ∧ Ar Z hh jp (.array .int) [(.ref j0), (.ref j1)] ∧ Ar Z hh j0 .int [(.int (0 : Int32)), (.int (0 : Int32)), (.int (0 : Int32)), (.int (1 : Int32))] ∧ Ar Z hh j1 .int [(.int (0 : Int32)), (.int (0 : Int32)), (.int (0 : Int32)), (.int (0 : Int32))]) := by
  refine Con.of (plainFor_of_name (by first | (simp [plainName, overriddenIn]; done) | decide +kernel)) hE ?_
  intro p e s m below T (X : Sd l Z "com/example/nimble_calculus/nimblecalculus/equivalence/Splits" "finish" prog_61_method_4_code 8 none ({ frames := 2, cells := 5, slots := 16, locals := 34 } : Room) p e s m #[(.ref a), (.ref t)] below T h0 0 0)
  refine End.frame (ef_rm_fin13 m a t) ?_
  have K_0 : Keep h0 h0 [a] := Keep.refl _ _
  have ne_1 : NB ≠ a := Ne.symm (Ar.ne_exa hA12 hE0 (w_3 hw))
  have ne_2 : P ≠ a := Ne.symm (Ar.ne_exa hA11 hE0 (w_3 hw))
  have ne_3 : a ≠ t := Ar.ne_exa hA13 hE0 (w_3 hw)
  show End Z p e below s _ _ _ _ (mkF m 0 #[.val (.ref a), .val (.ref t), .unset, .unset, .unset, .unset, .unset, .unset] [])
  refine E_aloadN (v := (.ref a)) (pc' := 1) X d8_0 rfl rfl rfl ?_
  refine E_aloadN (v := (.ref t)) (pc' := 2) X d8_1 rfl rfl rfl ?_
  refine E_alen (n := (2 : Int32)) (pc' := 3) X hA13 rfl d8_2 rfl ?_
  have le_o4 := X.le
  refine E_newA (pc' := 5) X (aty := .int) (n := (2 : Int32)) (cap := 2) (vs := [(.int (0 : Int32)), (.int (0 : Int32))]) (cells' := 1) (slots' := 2) (w_1 hw) d8_3 rfl (by decide) (by decide) (by decide) rfl rfl rfl (by decide) (by decide) (fun T h_5 o4 g_8 X Ex_6 Aa_7 => ?_)
  have b_9 : h0.size ≤ o4 := by rw [g_8]; exact K_0.1
  have K_10 : Keep h0 h_5 [a] := K_0.ext Ex_6
  have fr_11 : Z.heap.size ≤ o4 := by rw [g_8]; exact le_o4
  have ne_12 : NB ≠ o4 := Nat.ne_of_lt (by rw [g_8]; exact hA12.lt)
  have ne_13 : P ≠ o4 := Nat.ne_of_lt (by rw [g_8]; exact hA11.lt)
  have ne_14 : a ≠ o4 := Nat.ne_of_lt (by rw [g_8]; exact hE0.lt)
  have ne_15 : t ≠ o4 := Nat.ne_of_lt (by rw [g_8]; exact hA13.lt)
  have F_16 : Fld Z h_5 a "com/example/nimble_calculus/nimblecalculus/equivalence/Splits" "leaf" "[I" .null := (hF8.ext Ex_6)
  have E_17 : Exa Z h_5 a "com/example/nimble_calculus/nimblecalculus/equivalence/Splits" := (hE0.ext Ex_6)
  refine E_putF (pc' := 8) X (host := "") (Or.inl (w_52 hw)) Via.refl F_16 E_17 (Or.inl (w_53 hw)) (w_3 hw) (ty := (.array .int)) (by decide) rfl rfl hfr14 d8_5 rfl (fun T h_19 X W_18 => ?_)
  have K_20 : Keep h0 h_19 [a] := K_10.wr W_18 (Or.inl (List.mem_of_getElem? (i := 0) rfl))
  refine E_iconst (v := (0 : Int32)) (pc' := 9) X d8_8 rfl rfl ?_
  refine E_istoreN (Ls' := #[.val (.ref a), .val (.ref t), .val (.int (0 : Int32)), .unset, .unset, .unset, .unset, .unset]) (pc' := 10) X d8_9 rfl rfl ?_
  refine E_iloadN (pc' := 11) X d8_10 rfl rfl ?_
  refine E_aloadN (v := (.ref t)) (pc' := 12) X d8_11 rfl rfl rfl ?_
  have A_21 : Ar Z h_19 t .int [(.int (0 : Int32)), (.int (3 : Int32))] := ((hA13.ext Ex_6).other W_18 (Ne.symm ne_3))
  refine E_alen (n := (2 : Int32)) (pc' := 13) X A_21 rfl d8_12 rfl ?_
  refine E_icmp (pcY := 36) (pcN := 16) X (ic_ge _ _) d8_13 (by decide) rfl rfl (fun hc13_0 => absurd hc13_0 (by decide)) (fun hc13_0 => ?_)
  refine E_aloadN (v := (.ref a)) (pc' := 17) X d8_16 rfl rfl rfl ?_
  have F_22 : Fld Z h_19 a "com/example/nimble_calculus/nimblecalculus/equivalence/Splits" "leaf" "[I" (.ref o4) := (F_16.same W_18)
  refine E_getF (pc' := 20) X (host := "") (Or.inl (w_52 hw)) Via.refl F_22 d8_17 rfl (fun T X => ?_)
  refine E_iloadN (pc' := 21) X d8_20 rfl rfl ?_
  refine E_aloadN (v := (.ref a)) (pc' := 22) X d8_21 rfl rfl rfl ?_
  have F_23 : Fld Z h_19 a "com/example/nimble_calculus/nimblecalculus/equivalence/Splits" "nodeOfBlock" "[I" (.ref NB) := ((hF7.ext Ex_6).other W_18 (Or.inr (slot_ne (Or.inr (w_32 hw)) (Or.inl (w_53 hw)) (by decide) (t := (.array .int)) (t' := (.array .int)) (by decide) (by decide))))
  refine E_getF (pc' := 25) X (host := "") (Or.inl (w_31 hw)) Via.refl F_23 d8_22 rfl (fun T X => ?_)
  refine E_aloadN (v := (.ref t)) (pc' := 26) X d8_25 rfl rfl rfl ?_
  refine E_iloadN (pc' := 27) X d8_26 rfl rfl ?_
  refine E_iaload (v := (.int (0 : Int32))) (pc' := 28) X A_21 (by decide) rfl d8_27 rfl ?_
  have A_24 : Ar Z h_19 NB .int [(.int (3 : Int32)), (.int (0 : Int32)), (.int (0 : Int32)), (.int (2 : Int32))] := ((hA12.ext Ex_6).other W_18 ne_1)
  refine E_iaload (v := (.int (3 : Int32))) (pc' := 29) X A_24 (by decide) rfl d8_28 rfl ?_
  have A_25 : Ar Z h_19 o4 .int [(.int (0 : Int32)), (.int (0 : Int32))] := (Aa_7.other W_18 (Ne.symm ne_14))
  refine E_iastore (vs' := [(.int (3 : Int32)), (.int (0 : Int32))]) (pc' := 30) X A_25 (by decide) (Nat.le_of_ble_eq_true rfl) rfl fr_11 d8_29 rfl (fun T h_27 X W_26 Aa_28 => ?_)
  have K_29 : Keep h0 h_27 [a] := K_20.wr W_26 (Or.inr b_9)
  refine E_iinc (x := (0 : Int32)) (z := (1 : Int32)) (Ls' := #[.val (.ref a), .val (.ref t), .val (.int (1 : Int32)), .unset, .unset, .unset, .unset, .unset]) (pc' := 33) X d8_30 rfl rfl rfl rfl ?_
  refine E_goto (pc' := 10) X d8_33 (by decide) rfl ?_
  refine E_iloadN (pc' := 11) X d8_10 rfl rfl ?_
  refine E_aloadN (v := (.ref t)) (pc' := 12) X d8_11 rfl rfl rfl ?_
  have A_30 : Ar Z h_27 t .int [(.int (0 : Int32)), (.int (3 : Int32))] := (A_21.other W_26 ne_15)
  refine E_alen (n := (2 : Int32)) (pc' := 13) X A_30 rfl d8_12 rfl ?_
  refine E_icmp (pcY := 36) (pcN := 16) X (ic_ge _ _) d8_13 (by decide) rfl rfl (fun hc13_1 => absurd hc13_1 (by decide)) (fun hc13_1 => ?_)
  refine E_aloadN (v := (.ref a)) (pc' := 17) X d8_16 rfl rfl rfl ?_
  have F_31 : Fld Z h_27 a "com/example/nimble_calculus/nimblecalculus/equivalence/Splits" "leaf" "[I" (.ref o4) := (F_22.other W_26 (Or.inl ne_14))
  refine E_getF (pc' := 20) X (host := "") (Or.inl (w_52 hw)) Via.refl F_31 d8_17 rfl (fun T X => ?_)
  refine E_iloadN (pc' := 21) X d8_20 rfl rfl ?_
  refine E_aloadN (v := (.ref a)) (pc' := 22) X d8_21 rfl rfl rfl ?_
  have F_32 : Fld Z h_27 a "com/example/nimble_calculus/nimblecalculus/equivalence/Splits" "nodeOfBlock" "[I" (.ref NB) := (F_23.other W_26 (Or.inl ne_14))
  refine E_getF (pc' := 25) X (host := "") (Or.inl (w_31 hw)) Via.refl F_32 d8_22 rfl (fun T X => ?_)
  refine E_aloadN (v := (.ref t)) (pc' := 26) X d8_25 rfl rfl rfl ?_
  refine E_iloadN (pc' := 27) X d8_26 rfl rfl ?_
  refine E_iaload (v := (.int (3 : Int32))) (pc' := 28) X A_30 (by decide) rfl d8_27 rfl ?_
  have A_33 : Ar Z h_27 NB .int [(.int (3 : Int32)), (.int (0 : Int32)), (.int (0 : Int32)), (.int (2 : Int32))] := (A_24.other W_26 ne_12)
  refine E_iaload (v := (.int (2 : Int32))) (pc' := 29) X A_33 (by decide) rfl d8_28 rfl ?_
  refine E_iastore (vs' := [(.int (3 : Int32)), (.int (2 : Int32))]) (pc' := 30) X Aa_28 (by decide) (Nat.le_of_ble_eq_true rfl) rfl fr_11 d8_29 rfl (fun T h_35 X W_34 Aa_36 => ?_)
  have K_37 : Keep h0 h_35 [a] := K_29.wr W_34 (Or.inr b_9)
  refine E_iinc (x := (1 : Int32)) (z := (2 : Int32)) (Ls' := #[.val (.ref a), .val (.ref t), .val (.int (2 : Int32)), .unset, .unset, .unset, .unset, .unset]) (pc' := 33) X d8_30 rfl rfl rfl rfl ?_
  refine E_goto (pc' := 10) X d8_33 (by decide) rfl ?_
  refine E_iloadN (pc' := 11) X d8_10 rfl rfl ?_
  refine E_aloadN (v := (.ref t)) (pc' := 12) X d8_11 rfl rfl rfl ?_
  have A_38 : Ar Z h_35 t .int [(.int (0 : Int32)), (.int (3 : Int32))] := (A_30.other W_34 ne_15)
  refine E_alen (n := (2 : Int32)) (pc' := 13) X A_38 rfl d8_12 rfl ?_
  refine E_icmp (pcY := 36) (pcN := 16) X (ic_ge _ _) d8_13 (by decide) rfl rfl (fun hc13_2 => ?_) (fun hc13_2 => absurd (by decide) hc13_2)
  refine E_aloadN (v := (.ref a)) (pc' := 37) X d8_36 rfl rfl rfl ?_
  refine E_aloadN (v := (.ref a)) (pc' := 38) X d8_37 rfl rfl rfl ?_
  have F_39 : Fld Z h_35 a "com/example/nimble_calculus/nimblecalculus/equivalence/Splits" "nodeCount" "I" (.int (4 : Int32)) := ((((hF1.ext Ex_6).other W_18 (Or.inr (slot_ne (Or.inl (w_12 hw)) (Or.inl (w_53 hw)) (by decide) (t := .int) (t' := (.array .int)) (by decide) (by decide)))).other W_26 (Or.inl ne_14)).other W_34 (Or.inl ne_14))
  refine E_getF (pc' := 41) X (host := "") (Or.inl (w_11 hw)) Via.refl F_39 d8_38 rfl (fun T X => ?_)
  have A_45 : Ar Z h_35 NB .int [(.int (3 : Int32)), (.int (0 : Int32)), (.int (0 : Int32)), (.int (2 : Int32))] := (A_33.other W_34 ne_12)
  have A_46 : Ar Z h_35 P .int [(.int (0 : Int32)), (.int (0 : Int32)), (.int (0 : Int32)), (.int (1 : Int32)), (.int (0 : Int32)), (.int (0 : Int32)), (.int (0 : Int32))] := ((((hA11.ext Ex_6).other W_18 ne_2).other W_26 ne_13).other W_34 ne_13)
  have E_47 : Exa Z h_35 a "com/example/nimble_calculus/nimblecalculus/equivalence/Splits" := (((E_17.wr W_18).wr W_26).wr W_34)
  have le_o40 := X.le
  refine E_newA (pc' := 43) X (aty := .int) (n := (4 : Int32)) (cap := 4) (vs := [(.int (0 : Int32)), (.int (0 : Int32)), (.int (0 : Int32)), (.int (0 : Int32))]) (cells' := 2) (slots' := 6) (w_1 hw) d8_41 rfl (by decide) (by decide) (by decide) rfl rfl rfl (by decide) (by decide) (fun T h_41 o40 g_44 X Ex_42 Aa_43 => ?_)
  have b_48 : h0.size ≤ o40 := by rw [g_44]; exact K_37.1
  have K_49 : Keep h0 h_41 [a] := K_37.ext Ex_42
  have fr_50 : Z.heap.size ≤ o40 := by rw [g_44]; exact le_o40
  have ne_51 : NB ≠ o40 := Nat.ne_of_lt (by rw [g_44]; exact A_45.lt)
  have ne_52 : P ≠ o40 := Nat.ne_of_lt (by rw [g_44]; exact A_46.lt)
  have ne_53 : a ≠ o40 := Nat.ne_of_lt (by rw [g_44]; exact E_47.lt)
  have ne_54 : o4 ≠ o40 := Nat.ne_of_lt (by rw [g_44]; exact Aa_36.lt)
  have ne_55 : t ≠ o40 := Nat.ne_of_lt (by rw [g_44]; exact A_38.lt)
  have F_56 : Fld Z h_41 a "com/example/nimble_calculus/nimblecalculus/equivalence/Splits" "height" "[I" .null := (((((hF9.ext Ex_6).other W_18 (Or.inr (slot_ne (Or.inl (w_55 hw)) (Or.inl (w_53 hw)) (by decide) (t := (.array .int)) (t' := (.array .int)) (by decide) (by decide)))).other W_26 (Or.inl ne_14)).other W_34 (Or.inl ne_14)).ext Ex_42)
  have E_57 : Exa Z h_41 a "com/example/nimble_calculus/nimblecalculus/equivalence/Splits" := (E_47.ext Ex_42)
  refine E_putF (pc' := 46) X (host := "") (Or.inl (w_54 hw)) Via.refl F_56 E_57 (Or.inl (w_55 hw)) (w_3 hw) (ty := (.array .int)) (by decide) rfl rfl hfr14 d8_43 rfl (fun T h_59 X W_58 => ?_)
  have K_60 : Keep h0 h_59 [a] := K_49.wr W_58 (Or.inl (List.mem_of_getElem? (i := 0) rfl))
  refine E_iconst (v := (0 : Int32)) (pc' := 47) X d8_46 rfl rfl ?_
  refine E_istoreN (Ls' := #[.val (.ref a), .val (.ref t), .val (.int (0 : Int32)), .unset, .unset, .unset, .unset, .unset]) (pc' := 48) X d8_47 rfl rfl ?_
  refine E_iconst (v := (1 : Int32)) (pc' := 49) X d8_48 rfl rfl ?_
  refine E_istoreN (Ls' := #[.val (.ref a), .val (.ref t), .val (.int (0 : Int32)), .val (.int (1 : Int32)), .unset, .unset, .unset, .unset]) (pc' := 50) X d8_49 rfl rfl ?_
  refine E_iloadN (pc' := 51) X d8_50 rfl rfl ?_
  refine E_aloadN (v := (.ref a)) (pc' := 52) X d8_51 rfl rfl rfl ?_
  have F_61 : Fld Z h_59 a "com/example/nimble_calculus/nimblecalculus/equivalence/Splits" "nodeCount" "I" (.int (4 : Int32)) := ((F_39.ext Ex_42).other W_58 (Or.inr (slot_ne (Or.inl (w_12 hw)) (Or.inl (w_55 hw)) (by decide) (t := .int) (t' := (.array .int)) (by decide) (by decide))))
  refine E_getF (pc' := 55) X (host := "") (Or.inl (w_11 hw)) Via.refl F_61 d8_52 rfl (fun T X => ?_)
  refine E_icmp (pcY := 94) (pcN := 58) X (ic_ge _ _) d8_55 (by decide) rfl rfl (fun hc55_0 => absurd hc55_0 (by decide)) (fun hc55_0 => ?_)
  refine E_aloadN (v := (.ref a)) (pc' := 59) X d8_58 rfl rfl rfl ?_
  have F_62 : Fld Z h_59 a "com/example/nimble_calculus/nimblecalculus/equivalence/Splits" "height" "[I" (.ref o40) := (F_56.same W_58)
  refine E_getF (pc' := 62) X (host := "") (Or.inl (w_54 hw)) Via.refl F_62 d8_59 rfl (fun T X => ?_)
  refine E_iloadN (pc' := 63) X d8_62 rfl rfl ?_
  refine E_aloadN (v := (.ref a)) (pc' := 64) X d8_63 rfl rfl rfl ?_
  refine E_getF (pc' := 67) X (host := "") (Or.inl (w_54 hw)) Via.refl F_62 d8_64 rfl (fun T X => ?_)
  refine E_aloadN (v := (.ref a)) (pc' := 68) X d8_67 rfl rfl rfl ?_
  have F_63 : Fld Z h_59 a "com/example/nimble_calculus/nimblecalculus/equivalence/Splits" "parent" "[I" (.ref P) := ((((((hF4.ext Ex_6).other W_18 (Or.inr (slot_ne (Or.inr (w_23 hw)) (Or.inl (w_53 hw)) (by decide) (t := (.array .int)) (t' := (.array .int)) (by decide) (by decide)))).other W_26 (Or.inl ne_14)).other W_34 (Or.inl ne_14)).ext Ex_42).other W_58 (Or.inr (slot_ne (Or.inr (w_23 hw)) (Or.inl (w_55 hw)) (by decide) (t := (.array .int)) (t' := (.array .int)) (by decide) (by decide))))
  refine E_getF (pc' := 71) X (host := "") (Or.inl (w_22 hw)) Via.refl F_63 d8_68 rfl (fun T X => ?_)
  refine E_iloadN (pc' := 72) X d8_71 rfl rfl ?_
  have A_64 : Ar Z h_59 P .int [(.int (0 : Int32)), (.int (0 : Int32)), (.int (0 : Int32)), (.int (1 : Int32)), (.int (0 : Int32)), (.int (0 : Int32)), (.int (0 : Int32))] := ((A_46.ext Ex_42).other W_58 ne_2)
  refine E_iaload (v := (.int (0 : Int32))) (pc' := 73) X A_64 (by decide) rfl d8_72 rfl ?_
  have A_65 : Ar Z h_59 o40 .int [(.int (0 : Int32)), (.int (0 : Int32)), (.int (0 : Int32)), (.int (0 : Int32))] := (Aa_43.other W_58 (Ne.symm ne_53))
  refine E_iaload (v := (.int (0 : Int32))) (pc' := 74) X A_65 (by decide) rfl d8_73 rfl ?_
  refine E_iconst (v := (1 : Int32)) (pc' := 75) X d8_74 rfl rfl ?_
  refine E_iadd (pc' := 76) X d8_75 rfl ?_
  refine E_eqI (z := (1 : Int32)) (by decide) ?_
  refine E_iastore (vs' := [(.int (0 : Int32)), (.int (1 : Int32)), (.int (0 : Int32)), (.int (0 : Int32))]) (pc' := 77) X A_65 (by decide) (Nat.le_of_ble_eq_true rfl) rfl fr_50 d8_76 rfl (fun T h_67 X W_66 Aa_68 => ?_)
  have K_69 : Keep h0 h_67 [a] := K_60.wr W_66 (Or.inr b_48)
  refine E_iloadN (pc' := 78) X d8_77 rfl rfl ?_
  refine E_aloadN (v := (.ref a)) (pc' := 79) X d8_78 rfl rfl rfl ?_
  have F_70 : Fld Z h_67 a "com/example/nimble_calculus/nimblecalculus/equivalence/Splits" "height" "[I" (.ref o40) := (F_62.other W_66 (Or.inl ne_53))
  refine E_getF (pc' := 82) X (host := "") (Or.inl (w_54 hw)) Via.refl F_70 d8_79 rfl (fun T X => ?_)
  refine E_iloadN (pc' := 83) X d8_82 rfl rfl ?_
  refine E_iaload (v := (.int (1 : Int32))) (pc' := 84) X Aa_68 (by decide) rfl d8_83 rfl ?_
  refine E_callS (pc' := 87) (W := 0) (cells' := 2) (slots' := 6) (argsL := [(.int (0 : Int32)), (.int (1 : Int32))]) (rest := []) X (rm5 l Z a0 hw (0 : Int32) (1 : Int32) (1 : Int32) h_67 X.ext (by decide)) (w_28 hw) (w_29 hw) (w_17 hw) (w_30 hw) (by decide) rfl rfl pd_1 rfl rfl d8_84 rfl (Nat.le_refl _) (by decide) (by decide) rfl rfl (by decide) (by decide) (fun v71 T h_72 X hQ73 => ?_)
  obtain ⟨rfl, rfl⟩ := hQ73
  show End Z p e below s _ _ _ _ (mkF m 87 #[.val (.ref a), .val (.ref t), .val (.int (0 : Int32)), .val (.int (1 : Int32)), .unset, .unset, .unset, .unset] [(.int (1 : Int32))])
  refine E_istoreN (Ls' := #[.val (.ref a), .val (.ref t), .val (.int (1 : Int32)), .val (.int (1 : Int32)), .unset, .unset, .unset, .unset]) (pc' := 88) X d8_87 rfl rfl ?_
  refine E_iinc (x := (1 : Int32)) (z := (2 : Int32)) (Ls' := #[.val (.ref a), .val (.ref t), .val (.int (1 : Int32)), .val (.int (2 : Int32)), .unset, .unset, .unset, .unset]) (pc' := 91) X d8_88 rfl rfl rfl rfl ?_
  refine E_goto (pc' := 50) X d8_91 (by decide) rfl ?_
  refine E_iloadN (pc' := 51) X d8_50 rfl rfl ?_
  refine E_aloadN (v := (.ref a)) (pc' := 52) X d8_51 rfl rfl rfl ?_
  have F_75 : Fld Z h_67 a "com/example/nimble_calculus/nimblecalculus/equivalence/Splits" "nodeCount" "I" (.int (4 : Int32)) := (F_61.other W_66 (Or.inl ne_53))
  refine E_getF (pc' := 55) X (host := "") (Or.inl (w_11 hw)) Via.refl F_75 d8_52 rfl (fun T X => ?_)
  refine E_icmp (pcY := 94) (pcN := 58) X (ic_ge _ _) d8_55 (by decide) rfl rfl (fun hc55_1 => absurd hc55_1 (by decide)) (fun hc55_1 => ?_)
  refine E_aloadN (v := (.ref a)) (pc' := 59) X d8_58 rfl rfl rfl ?_
  refine E_getF (pc' := 62) X (host := "") (Or.inl (w_54 hw)) Via.refl F_70 d8_59 rfl (fun T X => ?_)
  refine E_iloadN (pc' := 63) X d8_62 rfl rfl ?_
  refine E_aloadN (v := (.ref a)) (pc' := 64) X d8_63 rfl rfl rfl ?_
  refine E_getF (pc' := 67) X (host := "") (Or.inl (w_54 hw)) Via.refl F_70 d8_64 rfl (fun T X => ?_)
  refine E_aloadN (v := (.ref a)) (pc' := 68) X d8_67 rfl rfl rfl ?_
  have F_76 : Fld Z h_67 a "com/example/nimble_calculus/nimblecalculus/equivalence/Splits" "parent" "[I" (.ref P) := (F_63.other W_66 (Or.inl ne_53))
  refine E_getF (pc' := 71) X (host := "") (Or.inl (w_22 hw)) Via.refl F_76 d8_68 rfl (fun T X => ?_)
  refine E_iloadN (pc' := 72) X d8_71 rfl rfl ?_
  have A_77 : Ar Z h_67 P .int [(.int (0 : Int32)), (.int (0 : Int32)), (.int (0 : Int32)), (.int (1 : Int32)), (.int (0 : Int32)), (.int (0 : Int32)), (.int (0 : Int32))] := (A_64.other W_66 ne_52)
  refine E_iaload (v := (.int (0 : Int32))) (pc' := 73) X A_77 (by decide) rfl d8_72 rfl ?_
  refine E_iaload (v := (.int (0 : Int32))) (pc' := 74) X Aa_68 (by decide) rfl d8_73 rfl ?_
  refine E_iconst (v := (1 : Int32)) (pc' := 75) X d8_74 rfl rfl ?_
  refine E_iadd (pc' := 76) X d8_75 rfl ?_
  refine E_eqI (z := (1 : Int32)) (by decide) ?_
  refine E_iastore (vs' := [(.int (0 : Int32)), (.int (1 : Int32)), (.int (1 : Int32)), (.int (0 : Int32))]) (pc' := 77) X Aa_68 (by decide) (Nat.le_of_ble_eq_true rfl) rfl fr_50 d8_76 rfl (fun T h_79 X W_78 Aa_80 => ?_)
  have K_81 : Keep h0 h_79 [a] := K_69.wr W_78 (Or.inr b_48)
  refine E_iloadN (pc' := 78) X d8_77 rfl rfl ?_
  refine E_aloadN (v := (.ref a)) (pc' := 79) X d8_78 rfl rfl rfl ?_
  have F_82 : Fld Z h_79 a "com/example/nimble_calculus/nimblecalculus/equivalence/Splits" "height" "[I" (.ref o40) := (F_70.other W_78 (Or.inl ne_53))
  refine E_getF (pc' := 82) X (host := "") (Or.inl (w_54 hw)) Via.refl F_82 d8_79 rfl (fun T X => ?_)
  refine E_iloadN (pc' := 83) X d8_82 rfl rfl ?_
  refine E_iaload (v := (.int (1 : Int32))) (pc' := 84) X Aa_80 (by decide) rfl d8_83 rfl ?_
  refine E_callS (pc' := 87) (W := 0) (cells' := 2) (slots' := 6) (argsL := [(.int (1 : Int32)), (.int (1 : Int32))]) (rest := []) X (rm5 l Z a0 hw (1 : Int32) (1 : Int32) (1 : Int32) h_79 X.ext (by decide)) (w_28 hw) (w_29 hw) (w_17 hw) (w_30 hw) (by decide) rfl rfl pd_1 rfl rfl d8_84 rfl (Nat.le_refl _) (by decide) (by decide) rfl rfl (by decide) (by decide) (fun v83 T h_84 X hQ85 => ?_)
  obtain ⟨rfl, rfl⟩ := hQ85
  show End Z p e below s _ _ _ _ (mkF m 87 #[.val (.ref a), .val (.ref t), .val (.int (1 : Int32)), .val (.int (2 : Int32)), .unset, .unset, .unset, .unset] [(.int (1 : Int32))])
  refine E_istoreN (Ls' := #[.val (.ref a), .val (.ref t), .val (.int (1 : Int32)), .val (.int (2 : Int32)), .unset, .unset, .unset, .unset]) (pc' := 88) X d8_87 rfl rfl ?_
  refine E_iinc (x := (2 : Int32)) (z := (3 : Int32)) (Ls' := #[.val (.ref a), .val (.ref t), .val (.int (1 : Int32)), .val (.int (3 : Int32)), .unset, .unset, .unset, .unset]) (pc' := 91) X d8_88 rfl rfl rfl rfl ?_
  refine E_goto (pc' := 50) X d8_91 (by decide) rfl ?_
  refine E_iloadN (pc' := 51) X d8_50 rfl rfl ?_
  refine E_aloadN (v := (.ref a)) (pc' := 52) X d8_51 rfl rfl rfl ?_
  have F_87 : Fld Z h_79 a "com/example/nimble_calculus/nimblecalculus/equivalence/Splits" "nodeCount" "I" (.int (4 : Int32)) := (F_75.other W_78 (Or.inl ne_53))
  refine E_getF (pc' := 55) X (host := "") (Or.inl (w_11 hw)) Via.refl F_87 d8_52 rfl (fun T X => ?_)
  refine E_icmp (pcY := 94) (pcN := 58) X (ic_ge _ _) d8_55 (by decide) rfl rfl (fun hc55_2 => absurd hc55_2 (by decide)) (fun hc55_2 => ?_)
  refine E_aloadN (v := (.ref a)) (pc' := 59) X d8_58 rfl rfl rfl ?_
  refine E_getF (pc' := 62) X (host := "") (Or.inl (w_54 hw)) Via.refl F_82 d8_59 rfl (fun T X => ?_)
  refine E_iloadN (pc' := 63) X d8_62 rfl rfl ?_
  refine E_aloadN (v := (.ref a)) (pc' := 64) X d8_63 rfl rfl rfl ?_
  refine E_getF (pc' := 67) X (host := "") (Or.inl (w_54 hw)) Via.refl F_82 d8_64 rfl (fun T X => ?_)
  refine E_aloadN (v := (.ref a)) (pc' := 68) X d8_67 rfl rfl rfl ?_
  have F_88 : Fld Z h_79 a "com/example/nimble_calculus/nimblecalculus/equivalence/Splits" "parent" "[I" (.ref P) := (F_76.other W_78 (Or.inl ne_53))
  refine E_getF (pc' := 71) X (host := "") (Or.inl (w_22 hw)) Via.refl F_88 d8_68 rfl (fun T X => ?_)
  refine E_iloadN (pc' := 72) X d8_71 rfl rfl ?_
  have A_89 : Ar Z h_79 P .int [(.int (0 : Int32)), (.int (0 : Int32)), (.int (0 : Int32)), (.int (1 : Int32)), (.int (0 : Int32)), (.int (0 : Int32)), (.int (0 : Int32))] := (A_77.other W_78 ne_52)
  refine E_iaload (v := (.int (1 : Int32))) (pc' := 73) X A_89 (by decide) rfl d8_72 rfl ?_
  refine E_iaload (v := (.int (1 : Int32))) (pc' := 74) X Aa_80 (by decide) rfl d8_73 rfl ?_
  refine E_iconst (v := (1 : Int32)) (pc' := 75) X d8_74 rfl rfl ?_
  refine E_iadd (pc' := 76) X d8_75 rfl ?_
  refine E_eqI (z := (2 : Int32)) (by decide) ?_
  refine E_iastore (vs' := [(.int (0 : Int32)), (.int (1 : Int32)), (.int (1 : Int32)), (.int (2 : Int32))]) (pc' := 77) X Aa_80 (by decide) (Nat.le_of_ble_eq_true rfl) rfl fr_50 d8_76 rfl (fun T h_91 X W_90 Aa_92 => ?_)
  have K_93 : Keep h0 h_91 [a] := K_81.wr W_90 (Or.inr b_48)
  refine E_iloadN (pc' := 78) X d8_77 rfl rfl ?_
  refine E_aloadN (v := (.ref a)) (pc' := 79) X d8_78 rfl rfl rfl ?_
  have F_94 : Fld Z h_91 a "com/example/nimble_calculus/nimblecalculus/equivalence/Splits" "height" "[I" (.ref o40) := (F_82.other W_90 (Or.inl ne_53))
  refine E_getF (pc' := 82) X (host := "") (Or.inl (w_54 hw)) Via.refl F_94 d8_79 rfl (fun T X => ?_)
  refine E_iloadN (pc' := 83) X d8_82 rfl rfl ?_
  refine E_iaload (v := (.int (2 : Int32))) (pc' := 84) X Aa_92 (by decide) rfl d8_83 rfl ?_
  refine E_callS (pc' := 87) (W := 0) (cells' := 2) (slots' := 6) (argsL := [(.int (1 : Int32)), (.int (2 : Int32))]) (rest := []) X (rm5 l Z a0 hw (1 : Int32) (2 : Int32) (2 : Int32) h_91 X.ext (by decide)) (w_28 hw) (w_29 hw) (w_17 hw) (w_30 hw) (by decide) rfl rfl pd_1 rfl rfl d8_84 rfl (Nat.le_refl _) (by decide) (by decide) rfl rfl (by decide) (by decide) (fun v95 T h_96 X hQ97 => ?_)
  obtain ⟨rfl, rfl⟩ := hQ97
  show End Z p e below s _ _ _ _ (mkF m 87 #[.val (.ref a), .val (.ref t), .val (.int (1 : Int32)), .val (.int (3 : Int32)), .unset, .unset, .unset, .unset] [(.int (2 : Int32))])
  refine E_istoreN (Ls' := #[.val (.ref a), .val (.ref t), .val (.int (2 : Int32)), .val (.int (3 : Int32)), .unset, .unset, .unset, .unset]) (pc' := 88) X d8_87 rfl rfl ?_
  refine E_iinc (x := (3 : Int32)) (z := (4 : Int32)) (Ls' := #[.val (.ref a), .val (.ref t), .val (.int (2 : Int32)), .val (.int (4 : Int32)), .unset, .unset, .unset, .unset]) (pc' := 91) X d8_88 rfl rfl rfl rfl ?_
  refine E_goto (pc' := 50) X d8_91 (by decide) rfl ?_
  refine E_iloadN (pc' := 51) X d8_50 rfl rfl ?_
  refine E_aloadN (v := (.ref a)) (pc' := 52) X d8_51 rfl rfl rfl ?_
  have F_99 : Fld Z h_91 a "com/example/nimble_calculus/nimblecalculus/equivalence/Splits" "nodeCount" "I" (.int (4 : Int32)) := (F_87.other W_90 (Or.inl ne_53))
  refine E_getF (pc' := 55) X (host := "") (Or.inl (w_11 hw)) Via.refl F_99 d8_52 rfl (fun T X => ?_)
  refine E_icmp (pcY := 94) (pcN := 58) X (ic_ge _ _) d8_55 (by decide) rfl rfl (fun hc55_3 => ?_) (fun hc55_3 => absurd (by decide) hc55_3)
  refine E_bipush (v := (32 : Int32)) (pc' := 96) X d8_94 rfl rfl ?_
  refine E_iconst (v := (1 : Int32)) (pc' := 97) X d8_96 rfl rfl ?_
  refine E_iloadN (pc' := 98) X d8_97 rfl rfl ?_
  refine E_callS (pc' := 101) (W := 1) (cells' := 2) (slots' := 6) (argsL := [(.int (1 : Int32)), (.int (2 : Int32))]) (rest := [(.int (32 : Int32))]) X (rm5 l Z a0 hw (1 : Int32) (2 : Int32) (2 : Int32) h_91 X.ext (by decide)) (w_28 hw) (w_29 hw) (w_17 hw) (w_30 hw) (by decide) rfl rfl pd_1 rfl rfl d8_98 rfl (Nat.le_refl _) (by decide) (by decide) rfl rfl (by decide) (by decide) (fun v100 T h_101 X hQ102 => ?_)
  obtain ⟨rfl, rfl⟩ := hQ102
  show End Z p e below s _ _ _ _ (mkF m 101 #[.val (.ref a), .val (.ref t), .val (.int (2 : Int32)), .val (.int (4 : Int32)), .unset, .unset, .unset, .unset] [(.int (2 : Int32)), (.int (32 : Int32))])
  refine E_callS (pc' := 104) (W := 1) (cells' := 2) (slots' := 6) (argsL := [(.int (2 : Int32))]) (rest := [(.int (32 : Int32))]) X (rm_nlz2 l Z a0 hw h_91 X.ext) (w_56 hw) (w_57 hw) (w_58 hw) (w_59 hw) (by decide) rfl rfl pd_2 rfl rfl d8_101 rfl (Nat.le_refl _) (by decide) (by decide) rfl rfl (by decide) (by decide) (fun v104 T h_105 X hQ106 => ?_)
  obtain ⟨rfl, rfl⟩ := hQ106
  show End Z p e below s _ _ _ _ (mkF m 104 #[.val (.ref a), .val (.ref t), .val (.int (2 : Int32)), .val (.int (4 : Int32)), .unset, .unset, .unset, .unset] [(.int (30 : Int32)), (.int (32 : Int32))])
  refine E_isub (pc' := 105) X d8_104 rfl ?_
  refine E_eqI (z := (2 : Int32)) (by decide) ?_
  refine E_istoreN (Ls' := #[.val (.ref a), .val (.ref t), .val (.int (2 : Int32)), .val (.int (2 : Int32)), .unset, .unset, .unset, .unset]) (pc' := 106) X d8_105 rfl rfl ?_
  refine E_aloadN (v := (.ref a)) (pc' := 107) X d8_106 rfl rfl rfl ?_
  refine E_iloadN (pc' := 108) X d8_107 rfl rfl ?_
  have A_113 : Ar Z h_91 NB .int [(.int (3 : Int32)), (.int (0 : Int32)), (.int (0 : Int32)), (.int (2 : Int32))] := (((((A_45.ext Ex_42).other W_58 ne_1).other W_66 ne_51).other W_78 ne_51).other W_90 ne_51)
  have A_114 : Ar Z h_91 P .int [(.int (0 : Int32)), (.int (0 : Int32)), (.int (0 : Int32)), (.int (1 : Int32)), (.int (0 : Int32)), (.int (0 : Int32)), (.int (0 : Int32))] := (A_89.other W_90 ne_52)
  have E_115 : Exa Z h_91 a "com/example/nimble_calculus/nimblecalculus/equivalence/Splits" := ((((E_57.wr W_58).wr W_66).wr W_78).wr W_90)
  have A_116 : Ar Z h_91 o4 .int [(.int (3 : Int32)), (.int (2 : Int32))] := (((((Aa_36.ext Ex_42).other W_58 (Ne.symm ne_14)).other W_66 ne_54).other W_78 ne_54).other W_90 ne_54)
  have A_117 : Ar Z h_91 t .int [(.int (0 : Int32)), (.int (3 : Int32))] := (((((A_38.ext Ex_42).other W_58 (Ne.symm ne_3)).other W_66 ne_55).other W_78 ne_55).other W_90 ne_55)
  have le_o108 := X.le
  refine E_newRA (pc' := 111) X (n := (2 : Int32)) (cap := 2) (vs := [.null, .null]) (cells' := 3) (slots' := 8) (by decide) (w_61 hw) (w_62 hw) d8_108 rfl (by decide) (by decide) (by decide) rfl rfl rfl (by decide) (by decide) (fun T h_109 o108 g_112 X Ex_110 Aa_111 => ?_)
  have b_118 : h0.size ≤ o108 := by rw [g_112]; exact K_93.1
  have K_119 : Keep h0 h_109 [a] := K_93.ext Ex_110
  have fr_120 : Z.heap.size ≤ o108 := by rw [g_112]; exact le_o108
  have ne_121 : NB ≠ o108 := Nat.ne_of_lt (by rw [g_112]; exact A_113.lt)
  have ne_122 : P ≠ o108 := Nat.ne_of_lt (by rw [g_112]; exact A_114.lt)
  have ne_123 : a ≠ o108 := Nat.ne_of_lt (by rw [g_112]; exact E_115.lt)
  have ne_124 : o4 ≠ o108 := Nat.ne_of_lt (by rw [g_112]; exact A_116.lt)
  have ne_125 : o40 ≠ o108 := Nat.ne_of_lt (by rw [g_112]; exact Aa_92.lt)
  have ne_126 : t ≠ o108 := Nat.ne_of_lt (by rw [g_112]; exact A_117.lt)
  have F_127 : Fld Z h_109 a "com/example/nimble_calculus/nimblecalculus/equivalence/Splits" "jumps" "[[I" .null := ((((((((((hF10.ext Ex_6).other W_18 (Or.inr (slot_ne (Or.inl (w_64 hw)) (Or.inl (w_53 hw)) (by decide) (t := (.array (.array .int))) (t' := (.array .int)) (by decide) (by decide)))).other W_26 (Or.inl ne_14)).other W_34 (Or.inl ne_14)).ext Ex_42).other W_58 (Or.inr (slot_ne (Or.inl (w_64 hw)) (Or.inl (w_55 hw)) (by decide) (t := (.array (.array .int))) (t' := (.array .int)) (by decide) (by decide)))).other W_66 (Or.inl ne_53)).other W_78 (Or.inl ne_53)).other W_90 (Or.inl ne_53)).ext Ex_110)
  have E_128 : Exa Z h_109 a "com/example/nimble_calculus/nimblecalculus/equivalence/Splits" := (E_115.ext Ex_110)
  refine E_putF (pc' := 114) X (host := "") (Or.inl (w_63 hw)) Via.refl F_127 E_128 (Or.inl (w_64 hw)) (w_3 hw) (ty := (.array (.array .int))) (by decide) rfl rfl hfr14 d8_111 rfl (fun T h_130 X W_129 => ?_)
  have K_131 : Keep h0 h_130 [a] := K_119.wr W_129 (Or.inl (List.mem_of_getElem? (i := 0) rfl))
  refine E_aloadN (v := (.ref a)) (pc' := 115) X d8_114 rfl rfl rfl ?_
  have F_132 : Fld Z h_130 a "com/example/nimble_calculus/nimblecalculus/equivalence/Splits" "jumps" "[[I" (.ref o108) := (F_127.same W_129)
  refine E_getF (pc' := 118) X (host := "") (Or.inl (w_63 hw)) Via.refl F_132 d8_115 rfl (fun T X => ?_)
  refine E_iconst (v := (0 : Int32)) (pc' := 119) X d8_118 rfl rfl ?_
  refine E_aloadN (v := (.ref a)) (pc' := 120) X d8_119 rfl rfl rfl ?_
  have F_133 : Fld Z h_130 a "com/example/nimble_calculus/nimblecalculus/equivalence/Splits" "parent" "[I" (.ref P) := (((F_88.other W_90 (Or.inl ne_53)).ext Ex_110).other W_129 (Or.inr (slot_ne (Or.inr (w_23 hw)) (Or.inl (w_64 hw)) (by decide) (t := (.array .int)) (t' := (.array (.array .int))) (by decide) (by decide))))
  refine E_getF (pc' := 123) X (host := "") (Or.inl (w_22 hw)) Via.refl F_133 d8_120 rfl (fun T X => ?_)
  refine E_aloadN (v := (.ref a)) (pc' := 124) X d8_123 rfl rfl rfl ?_
  have F_134 : Fld Z h_130 a "com/example/nimble_calculus/nimblecalculus/equivalence/Splits" "nodeCount" "I" (.int (4 : Int32)) := ((F_99.ext Ex_110).other W_129 (Or.inr (slot_ne (Or.inl (w_12 hw)) (Or.inl (w_64 hw)) (by decide) (t := .int) (t' := (.array (.array .int))) (by decide) (by decide))))
  refine E_getF (pc' := 127) X (host := "") (Or.inl (w_11 hw)) Via.refl F_134 d8_124 rfl (fun T X => ?_)
  have A_135 : Ar Z h_130 P .int [(.int (0 : Int32)), (.int (0 : Int32)), (.int (0 : Int32)), (.int (1 : Int32)), (.int (0 : Int32)), (.int (0 : Int32)), (.int (0 : Int32))] := ((A_114.ext Ex_110).other W_129 ne_2)
  have A_139 : Ar Z h_130 NB .int [(.int (3 : Int32)), (.int (0 : Int32)), (.int (0 : Int32)), (.int (2 : Int32))] := ((A_113.ext Ex_110).other W_129 ne_1)
  have E_140 : Exa Z h_130 a "com/example/nimble_calculus/nimblecalculus/equivalence/Splits" := (E_128.wr W_129)
  have A_141 : ArR Z h_130 o108 (.array .int) "[I" [.null, .null] := (Aa_111.other W_129 (Ne.symm ne_123))
  have A_142 : Ar Z h_130 o4 .int [(.int (3 : Int32)), (.int (2 : Int32))] := ((A_116.ext Ex_110).other W_129 (Ne.symm ne_14))
  have A_143 : Ar Z h_130 o40 .int [(.int (0 : Int32)), (.int (1 : Int32)), (.int (1 : Int32)), (.int (2 : Int32))] := ((Aa_92.ext Ex_110).other W_129 (Ne.symm ne_53))
  have A_144 : Ar Z h_130 t .int [(.int (0 : Int32)), (.int (3 : Int32))] := ((A_117.ext Ex_110).other W_129 (Ne.symm ne_3))
  have le_145 := X.le
  refine E_callS (pc' := 130) (W := 2) (cells' := 4) (slots' := 12) (argsL := [(.ref P), (.int (4 : Int32))]) (rest := [(.int (0 : Int32)), (.ref o108)]) X (rm10 l Z a0 hw P (0 : Int32) (0 : Int32) (0 : Int32) (1 : Int32) (0 : Int32) (0 : Int32) (0 : Int32) h_130 X.ext A_135) (w_65 hw) (w_66 hw) (w_67 hw) (w_68 hw) (by decide) rfl rfl pd_3 rfl rfl d8_127 rfl (Nat.le_refl _) (by decide) (by decide) rfl rfl (by decide) (by decide) (fun v136 T h_137 X hQ138 => ?_)
  obtain ⟨r_146, rfl, Kc_147, nw_148, A_149, E_150⟩ := hQ138
  have K_151 : Keep h0 h_137 [a] := K_131.trans Kc_147 all0
  have ne_152 : NB ≠ r_146 := Nat.ne_of_lt (Nat.lt_of_lt_of_le A_139.lt nw_148)
  have ne_153 : P ≠ r_146 := Nat.ne_of_lt (Nat.lt_of_lt_of_le A_135.lt nw_148)
  have ne_154 : a ≠ r_146 := Nat.ne_of_lt (Nat.lt_of_lt_of_le E_140.lt nw_148)
  have ne_155 : o108 ≠ r_146 := Nat.ne_of_lt (Nat.lt_of_lt_of_le A_141.lt nw_148)
  have ne_156 : o4 ≠ r_146 := Nat.ne_of_lt (Nat.lt_of_lt_of_le A_142.lt nw_148)
  have ne_157 : o40 ≠ r_146 := Nat.ne_of_lt (Nat.lt_of_lt_of_le A_143.lt nw_148)
  have ne_158 : t ≠ r_146 := Nat.ne_of_lt (Nat.lt_of_lt_of_le A_144.lt nw_148)
  have fr_159 : Z.heap.size ≤ r_146 := Nat.le_trans le_145 nw_148
  show End Z p e below s _ _ _ _ (mkF m 130 #[.val (.ref a), .val (.ref t), .val (.int (2 : Int32)), .val (.int (2 : Int32)), .unset, .unset, .unset, .unset] [(.ref r_146), (.int (0 : Int32)), (.ref o108)])
  have A_160 : ArR Z h_137 o108 (.array .int) "[I" [.null, .null] := (A_141.keep Kc_147 nin0)
  refine E_aastore (vs' := [(.ref r_146), .null]) (pc' := 131) X A_160 (Ins.self E_150) rfl (by decide) (Nat.le_of_ble_eq_true rfl) rfl fr_120 d8_130 rfl (fun T h_162 X W_161 Aa_163 => ?_)
  have K_164 : Keep h0 h_162 [a] := K_151.wr W_161 (Or.inr b_118)
  refine E_iconst (v := (1 : Int32)) (pc' := 132) X d8_131 rfl rfl ?_
  refine E_istore (Ls' := #[.val (.ref a), .val (.ref t), .val (.int (2 : Int32)), .val (.int (2 : Int32)), .val (.int (1 : Int32)), .unset, .unset, .unset]) (pc' := 134) X d8_132 rfl rfl ?_
  refine E_iload (pc' := 136) X d8_134 rfl rfl ?_
  refine E_iloadN (pc' := 137) X d8_136 rfl rfl ?_
  refine E_icmp (pcY := 205) (pcN := 140) X (ic_ge _ _) d8_137 (by decide) rfl rfl (fun hc137_0 => absurd hc137_0 (by decide)) (fun hc137_0 => ?_)
  refine E_aloadN (v := (.ref a)) (pc' := 141) X d8_140 rfl rfl rfl ?_
  have F_165 : Fld Z h_162 a "com/example/nimble_calculus/nimblecalculus/equivalence/Splits" "jumps" "[[I" (.ref o108) := ((F_132.keep Kc_147 nin0).other W_161 (Or.inl ne_123))
  refine E_getF (pc' := 144) X (host := "") (Or.inl (w_63 hw)) Via.refl F_165 d8_141 rfl (fun T X => ?_)
  refine E_iload (pc' := 146) X d8_144 rfl rfl ?_
  refine E_iconst (v := (1 : Int32)) (pc' := 147) X d8_146 rfl rfl ?_
  refine E_isub (pc' := 148) X d8_147 rfl ?_
  refine E_eqI (z := (0 : Int32)) (by decide) ?_
  refine E_aaload (v := (.ref r_146)) (pc' := 149) X Aa_163.ar rfl (by decide) rfl d8_148 rfl ?_
  refine E_astore (Ls' := #[.val (.ref a), .val (.ref t), .val (.int (2 : Int32)), .val (.int (2 : Int32)), .val (.int (1 : Int32)), .val (.ref r_146), .unset, .unset]) (pc' := 151) X d8_149 rfl rfl rfl ?_
  refine E_aloadN (v := (.ref a)) (pc' := 152) X d8_151 rfl rfl rfl ?_
  have F_166 : Fld Z h_162 a "com/example/nimble_calculus/nimblecalculus/equivalence/Splits" "nodeCount" "I" (.int (4 : Int32)) := ((F_134.keep Kc_147 nin0).other W_161 (Or.inl ne_123))
  refine E_getF (pc' := 155) X (host := "") (Or.inl (w_11 hw)) Via.refl F_166 d8_152 rfl (fun T X => ?_)
  have A_172 : Ar Z h_162 NB .int [(.int (3 : Int32)), (.int (0 : Int32)), (.int (0 : Int32)), (.int (2 : Int32))] := ((A_139.keep Kc_147 nin0).other W_161 ne_121)
  have A_173 : Ar Z h_162 P .int [(.int (0 : Int32)), (.int (0 : Int32)), (.int (0 : Int32)), (.int (1 : Int32)), (.int (0 : Int32)), (.int (0 : Int32)), (.int (0 : Int32))] := ((A_135.keep Kc_147 nin0).other W_161 ne_122)
  have E_174 : Exa Z h_162 a "com/example/nimble_calculus/nimblecalculus/equivalence/Splits" := ((E_140.keep Kc_147).wr W_161)
  have A_175 : Ar Z h_162 o4 .int [(.int (3 : Int32)), (.int (2 : Int32))] := ((A_142.keep Kc_147 nin0).other W_161 ne_124)
  have A_176 : Ar Z h_162 o40 .int [(.int (0 : Int32)), (.int (1 : Int32)), (.int (1 : Int32)), (.int (2 : Int32))] := ((A_143.keep Kc_147 nin0).other W_161 ne_125)
  have E_177 : Exa Z h_162 r_146 "[I" := (E_150.wr W_161)
  have A_178 : Ar Z h_162 t .int [(.int (0 : Int32)), (.int (3 : Int32))] := ((A_144.keep Kc_147 nin0).other W_161 ne_126)
  have le_o167 := X.le
  refine E_newAE (pc' := 157) X (aty := .int) (n := (4 : Int32)) (cap := 4) (vs := [(.int (0 : Int32)), (.int (0 : Int32)), (.int (0 : Int32)), (.int (0 : Int32))]) (cells' := 5) (slots' := 16) (ad := "[I") (by decide) (w_1 hw) d8_155 rfl (by decide) (by decide) (by decide) rfl rfl rfl (by decide) (by decide) (fun T h_168 o167 g_171 X Ex_169 Aa_170 EaAa_170 => ?_)
  have b_179 : h0.size ≤ o167 := by rw [g_171]; exact K_164.1
  have K_180 : Keep h0 h_168 [a] := K_164.ext Ex_169
  have fr_181 : Z.heap.size ≤ o167 := by rw [g_171]; exact le_o167
  have ne_182 : NB ≠ o167 := Nat.ne_of_lt (by rw [g_171]; exact A_172.lt)
  have ne_183 : P ≠ o167 := Nat.ne_of_lt (by rw [g_171]; exact A_173.lt)
  have ne_184 : a ≠ o167 := Nat.ne_of_lt (by rw [g_171]; exact E_174.lt)
  have ne_185 : o108 ≠ o167 := Nat.ne_of_lt (by rw [g_171]; exact Aa_163.lt)
  have ne_186 : o4 ≠ o167 := Nat.ne_of_lt (by rw [g_171]; exact A_175.lt)
  have ne_187 : o40 ≠ o167 := Nat.ne_of_lt (by rw [g_171]; exact A_176.lt)
  have ne_188 : r_146 ≠ o167 := Nat.ne_of_lt (by rw [g_171]; exact E_177.lt)
  have ne_189 : t ≠ o167 := Nat.ne_of_lt (by rw [g_171]; exact A_178.lt)
  refine E_astore (Ls' := #[.val (.ref a), .val (.ref t), .val (.int (2 : Int32)), .val (.int (2 : Int32)), .val (.int (1 : Int32)), .val (.ref r_146), .val (.ref o167), .unset]) (pc' := 159) X d8_157 rfl rfl rfl ?_
  refine E_iconst (v := (0 : Int32)) (pc' := 160) X d8_159 rfl rfl ?_
  refine E_istore (Ls' := #[.val (.ref a), .val (.ref t), .val (.int (2 : Int32)), .val (.int (2 : Int32)), .val (.int (1 : Int32)), .val (.ref r_146), .val (.ref o167), .val (.int (0 : Int32))]) (pc' := 162) X d8_160 rfl rfl ?_
  refine E_iload (pc' := 164) X d8_162 rfl rfl ?_
  refine E_aloadN (v := (.ref a)) (pc' := 165) X d8_164 rfl rfl rfl ?_
  have F_190 : Fld Z h_168 a "com/example/nimble_calculus/nimblecalculus/equivalence/Splits" "nodeCount" "I" (.int (4 : Int32)) := (F_166.ext Ex_169)
  refine E_getF (pc' := 168) X (host := "") (Or.inl (w_11 hw)) Via.refl F_190 d8_165 rfl (fun T X => ?_)
  refine E_icmp (pcY := 190) (pcN := 171) X (ic_ge _ _) d8_168 (by decide) rfl rfl (fun hc168_0 => absurd hc168_0 (by decide)) (fun hc168_0 => ?_)
  refine E_aload (v := (.ref o167)) (pc' := 173) X d8_171 rfl rfl rfl ?_
  refine E_iload (pc' := 175) X d8_173 rfl rfl ?_
  refine E_aload (v := (.ref r_146)) (pc' := 177) X d8_175 rfl rfl rfl ?_
  refine E_aload (v := (.ref r_146)) (pc' := 179) X d8_177 rfl rfl rfl ?_
  refine E_iload (pc' := 181) X d8_179 rfl rfl ?_
  have A_191 : Ar Z h_168 r_146 .int [(.int (0 : Int32)), (.int (0 : Int32)), (.int (0 : Int32)), (.int (1 : Int32))] := ((A_149.other W_161 (Ne.symm ne_155)).ext Ex_169)
  refine E_iaload (v := (.int (0 : Int32))) (pc' := 182) X A_191 (by decide) rfl d8_181 rfl ?_
  refine E_iaload (v := (.int (0 : Int32))) (pc' := 183) X A_191 (by decide) rfl d8_182 rfl ?_
  refine E_iastore (vs' := [(.int (0 : Int32)), (.int (0 : Int32)), (.int (0 : Int32)), (.int (0 : Int32))]) (pc' := 184) X Aa_170 (by decide) (Nat.le_of_ble_eq_true rfl) rfl fr_181 d8_183 rfl (fun T h_193 X W_192 Aa_194 => ?_)
  have K_195 : Keep h0 h_193 [a] := K_180.wr W_192 (Or.inr b_179)
  refine E_iinc (x := (0 : Int32)) (z := (1 : Int32)) (Ls' := #[.val (.ref a), .val (.ref t), .val (.int (2 : Int32)), .val (.int (2 : Int32)), .val (.int (1 : Int32)), .val (.ref r_146), .val (.ref o167), .val (.int (1 : Int32))]) (pc' := 187) X d8_184 rfl rfl rfl rfl ?_
  refine E_goto (pc' := 162) X d8_187 (by decide) rfl ?_
  refine E_iload (pc' := 164) X d8_162 rfl rfl ?_
  refine E_aloadN (v := (.ref a)) (pc' := 165) X d8_164 rfl rfl rfl ?_
  have F_196 : Fld Z h_193 a "com/example/nimble_calculus/nimblecalculus/equivalence/Splits" "nodeCount" "I" (.int (4 : Int32)) := (F_190.other W_192 (Or.inl ne_184))
  refine E_getF (pc' := 168) X (host := "") (Or.inl (w_11 hw)) Via.refl F_196 d8_165 rfl (fun T X => ?_)
  refine E_icmp (pcY := 190) (pcN := 171) X (ic_ge _ _) d8_168 (by decide) rfl rfl (fun hc168_1 => absurd hc168_1 (by decide)) (fun hc168_1 => ?_)
  refine E_aload (v := (.ref o167)) (pc' := 173) X d8_171 rfl rfl rfl ?_
  refine E_iload (pc' := 175) X d8_173 rfl rfl ?_
  refine E_aload (v := (.ref r_146)) (pc' := 177) X d8_175 rfl rfl rfl ?_
  refine E_aload (v := (.ref r_146)) (pc' := 179) X d8_177 rfl rfl rfl ?_
  refine E_iload (pc' := 181) X d8_179 rfl rfl ?_
  have A_197 : Ar Z h_193 r_146 .int [(.int (0 : Int32)), (.int (0 : Int32)), (.int (0 : Int32)), (.int (1 : Int32))] := (A_191.other W_192 ne_188)
  refine E_iaload (v := (.int (0 : Int32))) (pc' := 182) X A_197 (by decide) rfl d8_181 rfl ?_
  refine E_iaload (v := (.int (0 : Int32))) (pc' := 183) X A_197 (by decide) rfl d8_182 rfl ?_
  refine E_iastore (vs' := [(.int (0 : Int32)), (.int (0 : Int32)), (.int (0 : Int32)), (.int (0 : Int32))]) (pc' := 184) X Aa_194 (by decide) (Nat.le_of_ble_eq_true rfl) rfl fr_181 d8_183 rfl (fun T h_199 X W_198 Aa_200 => ?_)
  have K_201 : Keep h0 h_199 [a] := K_195.wr W_198 (Or.inr b_179)
  refine E_iinc (x := (1 : Int32)) (z := (2 : Int32)) (Ls' := #[.val (.ref a), .val (.ref t), .val (.int (2 : Int32)), .val (.int (2 : Int32)), .val (.int (1 : Int32)), .val (.ref r_146), .val (.ref o167), .val (.int (2 : Int32))]) (pc' := 187) X d8_184 rfl rfl rfl rfl ?_
  refine E_goto (pc' := 162) X d8_187 (by decide) rfl ?_
  refine E_iload (pc' := 164) X d8_162 rfl rfl ?_
  refine E_aloadN (v := (.ref a)) (pc' := 165) X d8_164 rfl rfl rfl ?_
  have F_202 : Fld Z h_199 a "com/example/nimble_calculus/nimblecalculus/equivalence/Splits" "nodeCount" "I" (.int (4 : Int32)) := (F_196.other W_198 (Or.inl ne_184))
  refine E_getF (pc' := 168) X (host := "") (Or.inl (w_11 hw)) Via.refl F_202 d8_165 rfl (fun T X => ?_)
  refine E_icmp (pcY := 190) (pcN := 171) X (ic_ge _ _) d8_168 (by decide) rfl rfl (fun hc168_2 => absurd hc168_2 (by decide)) (fun hc168_2 => ?_)
  refine E_aload (v := (.ref o167)) (pc' := 173) X d8_171 rfl rfl rfl ?_
  refine E_iload (pc' := 175) X d8_173 rfl rfl ?_
  refine E_aload (v := (.ref r_146)) (pc' := 177) X d8_175 rfl rfl rfl ?_
  refine E_aload (v := (.ref r_146)) (pc' := 179) X d8_177 rfl rfl rfl ?_
  refine E_iload (pc' := 181) X d8_179 rfl rfl ?_
  have A_203 : Ar Z h_199 r_146 .int [(.int (0 : Int32)), (.int (0 : Int32)), (.int (0 : Int32)), (.int (1 : Int32))] := (A_197.other W_198 ne_188)
  refine E_iaload (v := (.int (0 : Int32))) (pc' := 182) X A_203 (by decide) rfl d8_181 rfl ?_
  refine E_iaload (v := (.int (0 : Int32))) (pc' := 183) X A_203 (by decide) rfl d8_182 rfl ?_
  refine E_iastore (vs' := [(.int (0 : Int32)), (.int (0 : Int32)), (.int (0 : Int32)), (.int (0 : Int32))]) (pc' := 184) X Aa_200 (by decide) (Nat.le_of_ble_eq_true rfl) rfl fr_181 d8_183 rfl (fun T h_205 X W_204 Aa_206 => ?_)
  have K_207 : Keep h0 h_205 [a] := K_201.wr W_204 (Or.inr b_179)
  refine E_iinc (x := (2 : Int32)) (z := (3 : Int32)) (Ls' := #[.val (.ref a), .val (.ref t), .val (.int (2 : Int32)), .val (.int (2 : Int32)), .val (.int (1 : Int32)), .val (.ref r_146), .val (.ref o167), .val (.int (3 : Int32))]) (pc' := 187) X d8_184 rfl rfl rfl rfl ?_
  refine E_goto (pc' := 162) X d8_187 (by decide) rfl ?_
  refine E_iload (pc' := 164) X d8_162 rfl rfl ?_
  refine E_aloadN (v := (.ref a)) (pc' := 165) X d8_164 rfl rfl rfl ?_
  have F_208 : Fld Z h_205 a "com/example/nimble_calculus/nimblecalculus/equivalence/Splits" "nodeCount" "I" (.int (4 : Int32)) := (F_202.other W_204 (Or.inl ne_184))
  refine E_getF (pc' := 168) X (host := "") (Or.inl (w_11 hw)) Via.refl F_208 d8_165 rfl (fun T X => ?_)
  refine E_icmp (pcY := 190) (pcN := 171) X (ic_ge _ _) d8_168 (by decide) rfl rfl (fun hc168_3 => absurd hc168_3 (by decide)) (fun hc168_3 => ?_)
  refine E_aload (v := (.ref o167)) (pc' := 173) X d8_171 rfl rfl rfl ?_
  refine E_iload (pc' := 175) X d8_173 rfl rfl ?_
  refine E_aload (v := (.ref r_146)) (pc' := 177) X d8_175 rfl rfl rfl ?_
  refine E_aload (v := (.ref r_146)) (pc' := 179) X d8_177 rfl rfl rfl ?_
  refine E_iload (pc' := 181) X d8_179 rfl rfl ?_
  have A_209 : Ar Z h_205 r_146 .int [(.int (0 : Int32)), (.int (0 : Int32)), (.int (0 : Int32)), (.int (1 : Int32))] := (A_203.other W_204 ne_188)
  refine E_iaload (v := (.int (1 : Int32))) (pc' := 182) X A_209 (by decide) rfl d8_181 rfl ?_
  refine E_iaload (v := (.int (0 : Int32))) (pc' := 183) X A_209 (by decide) rfl d8_182 rfl ?_
  refine E_iastore (vs' := [(.int (0 : Int32)), (.int (0 : Int32)), (.int (0 : Int32)), (.int (0 : Int32))]) (pc' := 184) X Aa_206 (by decide) (Nat.le_of_ble_eq_true rfl) rfl fr_181 d8_183 rfl (fun T h_211 X W_210 Aa_212 => ?_)
  have K_213 : Keep h0 h_211 [a] := K_207.wr W_210 (Or.inr b_179)
  refine E_iinc (x := (3 : Int32)) (z := (4 : Int32)) (Ls' := #[.val (.ref a), .val (.ref t), .val (.int (2 : Int32)), .val (.int (2 : Int32)), .val (.int (1 : Int32)), .val (.ref r_146), .val (.ref o167), .val (.int (4 : Int32))]) (pc' := 187) X d8_184 rfl rfl rfl rfl ?_
  refine E_goto (pc' := 162) X d8_187 (by decide) rfl ?_
  refine E_iload (pc' := 164) X d8_162 rfl rfl ?_
  refine E_aloadN (v := (.ref a)) (pc' := 165) X d8_164 rfl rfl rfl ?_
  have F_214 : Fld Z h_211 a "com/example/nimble_calculus/nimblecalculus/equivalence/Splits" "nodeCount" "I" (.int (4 : Int32)) := (F_208.other W_210 (Or.inl ne_184))
  refine E_getF (pc' := 168) X (host := "") (Or.inl (w_11 hw)) Via.refl F_214 d8_165 rfl (fun T X => ?_)
  refine E_icmp (pcY := 190) (pcN := 171) X (ic_ge _ _) d8_168 (by decide) rfl rfl (fun hc168_4 => ?_) (fun hc168_4 => absurd (by decide) hc168_4)
  refine E_aloadN (v := (.ref a)) (pc' := 191) X d8_190 rfl rfl rfl ?_
  have F_215 : Fld Z h_211 a "com/example/nimble_calculus/nimblecalculus/equivalence/Splits" "jumps" "[[I" (.ref o108) := (((((F_165.ext Ex_169).other W_192 (Or.inl ne_184)).other W_198 (Or.inl ne_184)).other W_204 (Or.inl ne_184)).other W_210 (Or.inl ne_184))
  refine E_getF (pc' := 194) X (host := "") (Or.inl (w_63 hw)) Via.refl F_215 d8_191 rfl (fun T X => ?_)
  refine E_iload (pc' := 196) X d8_194 rfl rfl ?_
  refine E_aload (v := (.ref o167)) (pc' := 198) X d8_196 rfl rfl rfl ?_
  have A_216 : ArR Z h_211 o108 (.array .int) "[I" [(.ref r_146), .null] := (((((Aa_163.ext Ex_169).other W_192 ne_185).other W_198 ne_185).other W_204 ne_185).other W_210 ne_185)
  have E_217 : Exa Z h_211 o167 "[I" := ((((EaAa_170.wr W_192).wr W_198).wr W_204).wr W_210)
  refine E_aastore (vs' := [(.ref r_146), (.ref o167)]) (pc' := 199) X A_216 (Ins.self E_217) rfl (by decide) (Nat.le_of_ble_eq_true rfl) rfl fr_120 d8_198 rfl (fun T h_219 X W_218 Aa_220 => ?_)
  have K_221 : Keep h0 h_219 [a] := K_213.wr W_218 (Or.inr b_118)
  refine E_iinc (x := (1 : Int32)) (z := (2 : Int32)) (Ls' := #[.val (.ref a), .val (.ref t), .val (.int (2 : Int32)), .val (.int (2 : Int32)), .val (.int (2 : Int32)), .val (.ref r_146), .val (.ref o167), .val (.int (4 : Int32))]) (pc' := 202) X d8_199 rfl rfl rfl rfl ?_
  refine E_goto (pc' := 134) X d8_202 (by decide) rfl ?_
  refine E_iload (pc' := 136) X d8_134 rfl rfl ?_
  refine E_iloadN (pc' := 137) X d8_136 rfl rfl ?_
  refine E_icmp (pcY := 205) (pcN := 140) X (ic_ge _ _) d8_137 (by decide) rfl rfl (fun hc137_1 => ?_) (fun hc137_1 => absurd (by decide) hc137_1)
  have E_222 : Exa Z h_219 a "com/example/nimble_calculus/nimblecalculus/equivalence/Splits" := ((((((E_174.ext Ex_169).wr W_192).wr W_198).wr W_204).wr W_210).wr W_218)
  have F_223 : Fld Z h_219 a "com/example/nimble_calculus/nimblecalculus/equivalence/Splits" "leaf" "[I" (.ref o4) := ((((((((((((((((F_31.other W_34 (Or.inl ne_14)).ext Ex_42).other W_58 (Or.inr (slot_ne (Or.inl (w_53 hw)) (Or.inl (w_55 hw)) (by decide) (t := (.array .int)) (t' := (.array .int)) (by decide) (by decide)))).other W_66 (Or.inl ne_53)).other W_78 (Or.inl ne_53)).other W_90 (Or.inl ne_53)).ext Ex_110).other W_129 (Or.inr (slot_ne (Or.inl (w_53 hw)) (Or.inl (w_64 hw)) (by decide) (t := (.array .int)) (t' := (.array (.array .int))) (by decide) (by decide)))).keep Kc_147 nin0).other W_161 (Or.inl ne_123)).ext Ex_169).other W_192 (Or.inl ne_184)).other W_198 (Or.inl ne_184)).other W_204 (Or.inl ne_184)).other W_210 (Or.inl ne_184)).other W_218 (Or.inl ne_123))
  have F_224 : Fld Z h_219 a "com/example/nimble_calculus/nimblecalculus/equivalence/Splits" "height" "[I" (.ref o40) := ((((((((((F_94.ext Ex_110).other W_129 (Or.inr (slot_ne (Or.inl (w_55 hw)) (Or.inl (w_64 hw)) (by decide) (t := (.array .int)) (t' := (.array (.array .int))) (by decide) (by decide)))).keep Kc_147 nin0).other W_161 (Or.inl ne_123)).ext Ex_169).other W_192 (Or.inl ne_184)).other W_198 (Or.inl ne_184)).other W_204 (Or.inl ne_184)).other W_210 (Or.inl ne_184)).other W_218 (Or.inl ne_123))
  have F_225 : Fld Z h_219 a "com/example/nimble_calculus/nimblecalculus/equivalence/Splits" "jumps" "[[I" (.ref o108) := (F_215.other W_218 (Or.inl ne_123))
  have F_226 : Fld Z h_219 a "com/example/nimble_calculus/nimblecalculus/equivalence/Splits" "parent" "[I" (.ref P) := ((((((((F_133.keep Kc_147 nin0).other W_161 (Or.inl ne_123)).ext Ex_169).other W_192 (Or.inl ne_184)).other W_198 (Or.inl ne_184)).other W_204 (Or.inl ne_184)).other W_210 (Or.inl ne_184)).other W_218 (Or.inl ne_123))
  have F_227 : Fld Z h_219 a "com/example/nimble_calculus/nimblecalculus/equivalence/Splits" "born" "[I" (.ref B) := (((((((((((((((((((hF5.ext Ex_6).other W_18 (Or.inr (slot_ne (Or.inr (w_25 hw)) (Or.inl (w_53 hw)) (by decide) (t := (.array .int)) (t' := (.array .int)) (by decide) (by decide)))).other W_26 (Or.inl ne_14)).other W_34 (Or.inl ne_14)).ext Ex_42).other W_58 (Or.inr (slot_ne (Or.inr (w_25 hw)) (Or.inl (w_55 hw)) (by decide) (t := (.array .int)) (t' := (.array .int)) (by decide) (by decide)))).other W_66 (Or.inl ne_53)).other W_78 (Or.inl ne_53)).other W_90 (Or.inl ne_53)).ext Ex_110).other W_129 (Or.inr (slot_ne (Or.inr (w_25 hw)) (Or.inl (w_64 hw)) (by decide) (t := (.array .int)) (t' := (.array (.array .int))) (by decide) (by decide)))).keep Kc_147 nin0).other W_161 (Or.inl ne_123)).ext Ex_169).other W_192 (Or.inl ne_184)).other W_198 (Or.inl ne_184)).other W_204 (Or.inl ne_184)).other W_210 (Or.inl ne_184)).other W_218 (Or.inl ne_123))
  have F_228 : Fld Z h_219 a "com/example/nimble_calculus/nimblecalculus/equivalence/Splits" "representative" "[I" (.ref RR) := (((((((((((((((((((hF6.ext Ex_6).other W_18 (Or.inr (slot_ne (Or.inr (w_27 hw)) (Or.inl (w_53 hw)) (by decide) (t := (.array .int)) (t' := (.array .int)) (by decide) (by decide)))).other W_26 (Or.inl ne_14)).other W_34 (Or.inl ne_14)).ext Ex_42).other W_58 (Or.inr (slot_ne (Or.inr (w_27 hw)) (Or.inl (w_55 hw)) (by decide) (t := (.array .int)) (t' := (.array .int)) (by decide) (by decide)))).other W_66 (Or.inl ne_53)).other W_78 (Or.inl ne_53)).other W_90 (Or.inl ne_53)).ext Ex_110).other W_129 (Or.inr (slot_ne (Or.inr (w_27 hw)) (Or.inl (w_64 hw)) (by decide) (t := (.array .int)) (t' := (.array (.array .int))) (by decide) (by decide)))).keep Kc_147 nin0).other W_161 (Or.inl ne_123)).ext Ex_169).other W_192 (Or.inl ne_184)).other W_198 (Or.inl ne_184)).other W_204 (Or.inl ne_184)).other W_210 (Or.inl ne_184)).other W_218 (Or.inl ne_123))
  have A_229 : Ar Z h_219 o4 .int [(.int (3 : Int32)), (.int (2 : Int32))] := ((((((A_175.ext Ex_169).other W_192 ne_186).other W_198 ne_186).other W_204 ne_186).other W_210 ne_186).other W_218 ne_124)
  have A_230 : Ar Z h_219 o40 .int [(.int (0 : Int32)), (.int (1 : Int32)), (.int (1 : Int32)), (.int (2 : Int32))] := ((((((A_176.ext Ex_169).other W_192 ne_187).other W_198 ne_187).other W_204 ne_187).other W_210 ne_187).other W_218 ne_125)
  have A_231 : Ar Z h_219 r_146 .int [(.int (0 : Int32)), (.int (0 : Int32)), (.int (0 : Int32)), (.int (1 : Int32))] := ((A_209.other W_210 ne_188).other W_218 (Ne.symm ne_155))
  have A_232 : Ar Z h_219 o167 .int [(.int (0 : Int32)), (.int (0 : Int32)), (.int (0 : Int32)), (.int (0 : Int32))] := (Aa_212.other W_218 (Ne.symm ne_185))
  exact E_ret0 X d8_205 (by decide) (by decide) ⟨o4, o108, o40, r_146, o167, rfl, K_221, b_9, b_118, b_48, (Nat.le_trans K_131.1 nw_148), b_179, E_222, F_223, F_224, F_225, F_226, F_227, F_228, A_229, A_230, Aa_220.ar, A_231, A_232⟩
theorem ef_rm_bb1 (m : MethodId) (x0 : Addr) (x1 : Int32) (x2 : Int32) : entryFrame m #[(.ref x0), (.int x1), (.int x2)] 6 = mkF m 0 #[.val (.ref x0), .val (.int x1), .val (.int x2), .unset, .unset, .unset] [] := by first | (simp [entryFrame, mkF, argsToLocals, Value.category]; done) | (simp [entryFrame, mkF, argsToLocals, *]; done) | rfl
set_option maxRecDepth 65536 in
set_option maxHeartbeats 2000000 in
theorem rm_bb1 (l : Launch) (Z : State) (a0 : Array Value) (hw : ∀ d ∈ tables_1, d.before a0 Z = true) (a : Addr) (lf : Addr) (jp : Addr) (P : Addr) (B : Addr) (j0 : Addr) (j1 : Addr) (h0 : Heap) (hE : Ext Z.heap h0) (hF0 : Fld Z h0 a "com/example/nimble_calculus/nimblecalculus/equivalence/Splits" "leaf" "[I" (.ref lf)) (hF1 : Fld Z h0 a "com/example/nimble_calculus/nimblecalculus/equivalence/Splits" "jumps" "[[I" (.ref jp)) (hF2 : Fld Z h0 a "com/example/nimble_calculus/nimblecalculus/equivalence/Splits" "parent" "[I" (.ref P)) (hF3 : Fld Z h0 a "com/example/nimble_calculus/nimblecalculus/equivalence/Splits" "born" "[I" (.ref B)) (hA4 : Ar Z h0 P .int [(.int (0 : Int32)), (.int (0 : Int32)), (.int (0 : Int32)), (.int (1 : Int32)), (.int (0 : Int32)), (.int (0 : Int32)), (.int (0 : Int32))]) (hA5 : Ar Z h0 B .int [(.int (0 : Int32)), (.int (1 : Int32)), (.int (1 : Int32)), (.int (2 : Int32)), (.int (0 : Int32)), (.int (0 : Int32)), (.int (0 : Int32))]) (hA6 : Ar Z h0 lf .int [(.int (3 : Int32)), (.int (2 : Int32))]) (hA7 : Ar Z h0 jp (.array .int) [(.ref j0), (.ref j1)]) (hA8 : Ar Z h0 j0 .int [(.int (0 : Int32)), (.int (0 : Int32)), (.int (0 : Int32)), (.int (1 : Int32))]) (hA9 : Ar Z h0 j1 .int [(.int (0 : Int32)), (.int (0 : Int32)), (.int (0 : Int32)), (.int (0 : Int32))]) :
    Con l Z (⟨"com/example/nimble_calculus/nimblecalculus/equivalence/Splits", "blockBefore", "(II)I"⟩ : MethodName) prog_61_method_8_code 6 (some .int) ({ frames := 0, cells := 0, slots := 0, locals := 0 } : Room) #[(.ref a), (.int (0 : Int32)), (.int (2 : Int32))] h0 (fun vv hh => vv = some (.int (1 : Int32)) ∧ h0 = hh) := by
  refine Con.of (plainFor_of_name (by first | (simp [plainName, overriddenIn]; done) | decide +kernel)) hE ?_
  intro p e s m below T (X : Sd l Z "com/example/nimble_calculus/nimblecalculus/equivalence/Splits" "blockBefore" prog_61_method_8_code 6 (some .int) ({ frames := 0, cells := 0, slots := 0, locals := 0 } : Room) p e s m #[(.ref a), (.int (0 : Int32)), (.int (2 : Int32))] below T h0 0 0)
  refine End.frame (ef_rm_bb1 m a (0 : Int32) (2 : Int32)) ?_
  show End Z p e below s _ _ _ _ (mkF m 0 #[.val (.ref a), .val (.int (0 : Int32)), .val (.int (2 : Int32)), .unset, .unset, .unset] [])
  refine E_aloadN (v := (.ref a)) (pc' := 1) X d15_0 rfl rfl rfl ?_
  refine E_getF (pc' := 4) X (host := "") (Or.inl (w_52 hw)) Via.refl hF0 d15_1 rfl (fun T X => ?_)
  refine E_iloadN (pc' := 5) X d15_4 rfl rfl ?_
  refine E_iaload (v := (.int (3 : Int32))) (pc' := 6) X hA6 (by decide) rfl d15_5 rfl ?_
  refine E_istoreN (Ls' := #[.val (.ref a), .val (.int (0 : Int32)), .val (.int (2 : Int32)), .val (.int (3 : Int32)), .unset, .unset]) (pc' := 7) X d15_6 rfl rfl ?_
  refine E_aloadN (v := (.ref a)) (pc' := 8) X d15_7 rfl rfl rfl ?_
  refine E_getF (pc' := 11) X (host := "") (Or.inl (w_24 hw)) Via.refl hF3 d15_8 rfl (fun T X => ?_)
  refine E_iloadN (pc' := 12) X d15_11 rfl rfl ?_
  refine E_iaload (v := (.int (2 : Int32))) (pc' := 13) X hA5 (by decide) rfl d15_12 rfl ?_
  refine E_iloadN (pc' := 14) X d15_13 rfl rfl ?_
  refine E_icmp (pcY := 19) (pcN := 17) X (ic_ge _ _) d15_14 (by decide) rfl rfl (fun hc14_0 => ?_) (fun hc14_0 => absurd (by decide) hc14_0)
  refine E_aloadN (v := (.ref a)) (pc' := 20) X d15_19 rfl rfl rfl ?_
  refine E_getF (pc' := 23) X (host := "") (Or.inl (w_63 hw)) Via.refl hF1 d15_20 rfl (fun T X => ?_)
  refine E_alen (n := (2 : Int32)) (pc' := 24) X hA7 rfl d15_23 rfl ?_
  refine E_iconst (v := (1 : Int32)) (pc' := 25) X d15_24 rfl rfl ?_
  refine E_isub (pc' := 26) X d15_25 rfl ?_
  refine E_eqI (z := (1 : Int32)) (by decide) ?_
  refine E_istore (Ls' := #[.val (.ref a), .val (.int (0 : Int32)), .val (.int (2 : Int32)), .val (.int (3 : Int32)), .val (.int (1 : Int32)), .unset]) (pc' := 28) X d15_26 rfl rfl ?_
  refine E_iload (pc' := 30) X d15_28 rfl rfl ?_
  refine E_if (pcY := 64) (pcN := 33) X (i0_lt _) d15_30 (by decide) rfl rfl (fun hc30_0 => absurd hc30_0 (by decide)) (fun hc30_0 => ?_)
  refine E_aloadN (v := (.ref a)) (pc' := 34) X d15_33 rfl rfl rfl ?_
  refine E_getF (pc' := 37) X (host := "") (Or.inl (w_63 hw)) Via.refl hF1 d15_34 rfl (fun T X => ?_)
  refine E_iload (pc' := 39) X d15_37 rfl rfl ?_
  refine E_aaload (v := (.ref j1)) (pc' := 40) X hA7 rfl (by decide) rfl d15_39 rfl ?_
  refine E_iloadN (pc' := 41) X d15_40 rfl rfl ?_
  refine E_iaload (v := (.int (0 : Int32))) (pc' := 42) X hA9 (by decide) rfl d15_41 rfl ?_
  refine E_istore (Ls' := #[.val (.ref a), .val (.int (0 : Int32)), .val (.int (2 : Int32)), .val (.int (3 : Int32)), .val (.int (1 : Int32)), .val (.int (0 : Int32))]) (pc' := 44) X d15_42 rfl rfl ?_
  refine E_aloadN (v := (.ref a)) (pc' := 45) X d15_44 rfl rfl rfl ?_
  refine E_getF (pc' := 48) X (host := "") (Or.inl (w_24 hw)) Via.refl hF3 d15_45 rfl (fun T X => ?_)
  refine E_iload (pc' := 50) X d15_48 rfl rfl ?_
  refine E_iaload (v := (.int (0 : Int32))) (pc' := 51) X hA5 (by decide) rfl d15_50 rfl ?_
  refine E_iloadN (pc' := 52) X d15_51 rfl rfl ?_
  refine E_icmp (pcY := 58) (pcN := 55) X (ic_lt _ _) d15_52 (by decide) rfl rfl (fun hc52_0 => ?_) (fun hc52_0 => absurd (by decide) hc52_0)
  refine E_iinc (x := (1 : Int32)) (z := (0 : Int32)) (Ls' := #[.val (.ref a), .val (.int (0 : Int32)), .val (.int (2 : Int32)), .val (.int (3 : Int32)), .val (.int (0 : Int32)), .val (.int (0 : Int32))]) (pc' := 61) X d15_58 rfl rfl rfl rfl ?_
  refine E_goto (pc' := 28) X d15_61 (by decide) rfl ?_
  refine E_iload (pc' := 30) X d15_28 rfl rfl ?_
  refine E_if (pcY := 64) (pcN := 33) X (i0_lt _) d15_30 (by decide) rfl rfl (fun hc30_1 => absurd hc30_1 (by decide)) (fun hc30_1 => ?_)
  refine E_aloadN (v := (.ref a)) (pc' := 34) X d15_33 rfl rfl rfl ?_
  refine E_getF (pc' := 37) X (host := "") (Or.inl (w_63 hw)) Via.refl hF1 d15_34 rfl (fun T X => ?_)
  refine E_iload (pc' := 39) X d15_37 rfl rfl ?_
  refine E_aaload (v := (.ref j0)) (pc' := 40) X hA7 rfl (by decide) rfl d15_39 rfl ?_
  refine E_iloadN (pc' := 41) X d15_40 rfl rfl ?_
  refine E_iaload (v := (.int (1 : Int32))) (pc' := 42) X hA8 (by decide) rfl d15_41 rfl ?_
  refine E_istore (Ls' := #[.val (.ref a), .val (.int (0 : Int32)), .val (.int (2 : Int32)), .val (.int (3 : Int32)), .val (.int (0 : Int32)), .val (.int (1 : Int32))]) (pc' := 44) X d15_42 rfl rfl ?_
  refine E_aloadN (v := (.ref a)) (pc' := 45) X d15_44 rfl rfl rfl ?_
  refine E_getF (pc' := 48) X (host := "") (Or.inl (w_24 hw)) Via.refl hF3 d15_45 rfl (fun T X => ?_)
  refine E_iload (pc' := 50) X d15_48 rfl rfl ?_
  refine E_iaload (v := (.int (1 : Int32))) (pc' := 51) X hA5 (by decide) rfl d15_50 rfl ?_
  refine E_iloadN (pc' := 52) X d15_51 rfl rfl ?_
  refine E_icmp (pcY := 58) (pcN := 55) X (ic_lt _ _) d15_52 (by decide) rfl rfl (fun hc52_1 => ?_) (fun hc52_1 => absurd (by decide) hc52_1)
  refine E_iinc (x := (0 : Int32)) (z := (-1 : Int32)) (Ls' := #[.val (.ref a), .val (.int (0 : Int32)), .val (.int (2 : Int32)), .val (.int (3 : Int32)), .val (.int (-1 : Int32)), .val (.int (1 : Int32))]) (pc' := 61) X d15_58 rfl rfl rfl rfl ?_
  refine E_goto (pc' := 28) X d15_61 (by decide) rfl ?_
  refine E_iload (pc' := 30) X d15_28 rfl rfl ?_
  refine E_if (pcY := 64) (pcN := 33) X (i0_lt _) d15_30 (by decide) rfl rfl (fun hc30_2 => ?_) (fun hc30_2 => absurd (by decide) hc30_2)
  refine E_aloadN (v := (.ref a)) (pc' := 65) X d15_64 rfl rfl rfl ?_
  refine E_getF (pc' := 68) X (host := "") (Or.inl (w_22 hw)) Via.refl hF2 d15_65 rfl (fun T X => ?_)
  refine E_iloadN (pc' := 69) X d15_68 rfl rfl ?_
  refine E_iaload (v := (.int (1 : Int32))) (pc' := 70) X hA4 (by decide) rfl d15_69 rfl ?_
  exact E_retI X d15_70 (by decide) (by decide) ⟨rfl, rfl⟩
theorem d16_40 : decode prog_61_method_9_code 40 = .ok (.aload_n 0, 1) := by decide +kernel
theorem d16_41 : decode prog_61_method_9_code 41 = .ok (.getfield 61, 3) := by decide +kernel
theorem d16_44 : decode prog_61_method_9_code 44 = .ok (.iload 5, 2) := by decide +kernel
theorem d16_46 : decode prog_61_method_9_code 46 = .ok (.aaload, 1) := by decide +kernel
theorem d16_47 : decode prog_61_method_9_code 47 = .ok (.iload_n 3, 1) := by decide +kernel
theorem d16_48 : decode prog_61_method_9_code 48 = .ok (.iaload, 1) := by decide +kernel
theorem d16_49 : decode prog_61_method_9_code 49 = .ok (.istore_n 3, 1) := by decide +kernel
theorem ef_rm_ca1 (m : MethodId) (x0 : Addr) (x1 : Int32) (x2 : Int32) : entryFrame m #[(.ref x0), (.int x1), (.int x2)] 6 = mkF m 0 #[.val (.ref x0), .val (.int x1), .val (.int x2), .unset, .unset, .unset] [] := by first | (simp [entryFrame, mkF, argsToLocals, Value.category]; done) | (simp [entryFrame, mkF, argsToLocals, *]; done) | rfl
set_option maxRecDepth 65536 in
set_option maxHeartbeats 2000000 in
theorem rm_ca1 (l : Launch) (Z : State) (a0 : Array Value) (hw : ∀ d ∈ tables_1, d.before a0 Z = true) (a : Addr) (hg : Addr) (jp : Addr) (j0 : Addr) (j1 : Addr) (h0 : Heap) (hE : Ext Z.heap h0) (hF0 : Fld Z h0 a "com/example/nimble_calculus/nimblecalculus/equivalence/Splits" "jumps" "[[I" (.ref jp)) (hF1 : Fld Z h0 a "com/example/nimble_calculus/nimblecalculus/equivalence/Splits" "height" "[I" (.ref hg)) (hA2 : Ar Z h0 hg .int [(.int (0 : Int32)), (.int (1 : Int32)), (.int (1 : Int32)), (.int (2 : Int32))]) (hA3 : Ar Z h0 jp (.array .int) [(.ref j0), (.ref j1)]) (hA4 : Ar Z h0 j0 .int [(.int (0 : Int32)), (.int (0 : Int32)), (.int (0 : Int32)), (.int (1 : Int32))]) (hA5 : Ar Z h0 j1 .int [(.int (0 : Int32)), (.int (0 : Int32)), (.int (0 : Int32)), (.int (0 : Int32))]) :
    Con l Z (⟨"com/example/nimble_calculus/nimblecalculus/equivalence/Splits", "childrenApart", "(II)J"⟩ : MethodName) prog_61_method_9_code 6 (some .long) ({ frames := 1, cells := 0, slots := 0, locals := 13 } : Room) #[(.ref a), (.int (3 : Int32)), (.int (2 : Int32))] h0 (fun vv hh => vv = some (.long (4294967298 : Int64)) ∧ h0 = hh) := by
  refine Con.of (plainFor_of_name (by first | (simp [plainName, overriddenIn]; done) | decide +kernel)) hE ?_
  intro p e s m below T (X : Sd l Z "com/example/nimble_calculus/nimblecalculus/equivalence/Splits" "childrenApart" prog_61_method_9_code 6 (some .long) ({ frames := 1, cells := 0, slots := 0, locals := 13 } : Room) p e s m #[(.ref a), (.int (3 : Int32)), (.int (2 : Int32))] below T h0 0 0)
  refine End.frame (ef_rm_ca1 m a (3 : Int32) (2 : Int32)) ?_
  show End Z p e below s _ _ _ _ (mkF m 0 #[.val (.ref a), .val (.int (3 : Int32)), .val (.int (2 : Int32)), .unset, .unset, .unset] [])
  refine E_iloadN (pc' := 1) X d16_0 rfl rfl ?_
  refine E_istoreN (Ls' := #[.val (.ref a), .val (.int (3 : Int32)), .val (.int (2 : Int32)), .val (.int (3 : Int32)), .unset, .unset]) (pc' := 2) X d16_1 rfl rfl ?_
  refine E_iloadN (pc' := 3) X d16_2 rfl rfl ?_
  refine E_istore (Ls' := #[.val (.ref a), .val (.int (3 : Int32)), .val (.int (2 : Int32)), .val (.int (3 : Int32)), .val (.int (2 : Int32)), .unset]) (pc' := 5) X d16_3 rfl rfl ?_
  refine E_aloadN (v := (.ref a)) (pc' := 6) X d16_5 rfl rfl rfl ?_
  refine E_getF (pc' := 9) X (host := "") (Or.inl (w_63 hw)) Via.refl hF0 d16_6 rfl (fun T X => ?_)
  refine E_alen (n := (2 : Int32)) (pc' := 10) X hA3 rfl d16_9 rfl ?_
  refine E_iconst (v := (1 : Int32)) (pc' := 11) X d16_10 rfl rfl ?_
  refine E_isub (pc' := 12) X d16_11 rfl ?_
  refine E_eqI (z := (1 : Int32)) (by decide) ?_
  refine E_istore (Ls' := #[.val (.ref a), .val (.int (3 : Int32)), .val (.int (2 : Int32)), .val (.int (3 : Int32)), .val (.int (2 : Int32)), .val (.int (1 : Int32))]) (pc' := 14) X d16_12 rfl rfl ?_
  refine E_iload (pc' := 16) X d16_14 rfl rfl ?_
  refine E_if (pcY := 89) (pcN := 19) X (i0_lt _) d16_16 (by decide) rfl rfl (fun hc16_0 => absurd hc16_0 (by decide)) (fun hc16_0 => ?_)
  refine E_aloadN (v := (.ref a)) (pc' := 20) X d16_19 rfl rfl rfl ?_
  refine E_getF (pc' := 23) X (host := "") (Or.inl (w_54 hw)) Via.refl hF1 d16_20 rfl (fun T X => ?_)
  refine E_iloadN (pc' := 24) X d16_23 rfl rfl ?_
  refine E_iaload (v := (.int (2 : Int32))) (pc' := 25) X hA2 (by decide) rfl d16_24 rfl ?_
  refine E_iconst (v := (1 : Int32)) (pc' := 26) X d16_25 rfl rfl ?_
  refine E_iload (pc' := 28) X d16_26 rfl rfl ?_
  refine E_ishl (pc' := 29) X d16_28 rfl ?_
  refine E_eqI (z := (2 : Int32)) (by decide) ?_
  refine E_isub (pc' := 30) X d16_29 rfl ?_
  refine E_eqI (z := (0 : Int32)) (by decide) ?_
  refine E_aloadN (v := (.ref a)) (pc' := 31) X d16_30 rfl rfl rfl ?_
  refine E_getF (pc' := 34) X (host := "") (Or.inl (w_54 hw)) Via.refl hF1 d16_31 rfl (fun T X => ?_)
  refine E_iload (pc' := 36) X d16_34 rfl rfl ?_
  refine E_iaload (v := (.int (1 : Int32))) (pc' := 37) X hA2 (by decide) rfl d16_36 rfl ?_
  refine E_icmp (pcY := 50) (pcN := 40) X (ic_lt _ _) d16_37 (by decide) rfl rfl (fun hc37_0 => ?_) (fun hc37_0 => absurd (by decide) hc37_0)
  refine E_aloadN (v := (.ref a)) (pc' := 51) X d16_50 rfl rfl rfl ?_
  refine E_getF (pc' := 54) X (host := "") (Or.inl (w_54 hw)) Via.refl hF1 d16_51 rfl (fun T X => ?_)
  refine E_iload (pc' := 56) X d16_54 rfl rfl ?_
  refine E_iaload (v := (.int (1 : Int32))) (pc' := 57) X hA2 (by decide) rfl d16_56 rfl ?_
  refine E_iconst (v := (1 : Int32)) (pc' := 58) X d16_57 rfl rfl ?_
  refine E_iload (pc' := 60) X d16_58 rfl rfl ?_
  refine E_ishl (pc' := 61) X d16_60 rfl ?_
  refine E_eqI (z := (2 : Int32)) (by decide) ?_
  refine E_isub (pc' := 62) X d16_61 rfl ?_
  refine E_eqI (z := (-1 : Int32)) (by decide) ?_
  refine E_aloadN (v := (.ref a)) (pc' := 63) X d16_62 rfl rfl rfl ?_
  refine E_getF (pc' := 66) X (host := "") (Or.inl (w_54 hw)) Via.refl hF1 d16_63 rfl (fun T X => ?_)
  refine E_iloadN (pc' := 67) X d16_66 rfl rfl ?_
  refine E_iaload (v := (.int (2 : Int32))) (pc' := 68) X hA2 (by decide) rfl d16_67 rfl ?_
  refine E_icmp (pcY := 83) (pcN := 71) X (ic_lt _ _) d16_68 (by decide) rfl rfl (fun hc68_0 => ?_) (fun hc68_0 => absurd (by decide) hc68_0)
  refine E_iinc (x := (1 : Int32)) (z := (0 : Int32)) (Ls' := #[.val (.ref a), .val (.int (3 : Int32)), .val (.int (2 : Int32)), .val (.int (3 : Int32)), .val (.int (2 : Int32)), .val (.int (0 : Int32))]) (pc' := 86) X d16_83 rfl rfl rfl rfl ?_
  refine E_goto (pc' := 14) X d16_86 (by decide) rfl ?_
  refine E_iload (pc' := 16) X d16_14 rfl rfl ?_
  refine E_if (pcY := 89) (pcN := 19) X (i0_lt _) d16_16 (by decide) rfl rfl (fun hc16_1 => absurd hc16_1 (by decide)) (fun hc16_1 => ?_)
  refine E_aloadN (v := (.ref a)) (pc' := 20) X d16_19 rfl rfl rfl ?_
  refine E_getF (pc' := 23) X (host := "") (Or.inl (w_54 hw)) Via.refl hF1 d16_20 rfl (fun T X => ?_)
  refine E_iloadN (pc' := 24) X d16_23 rfl rfl ?_
  refine E_iaload (v := (.int (2 : Int32))) (pc' := 25) X hA2 (by decide) rfl d16_24 rfl ?_
  refine E_iconst (v := (1 : Int32)) (pc' := 26) X d16_25 rfl rfl ?_
  refine E_iload (pc' := 28) X d16_26 rfl rfl ?_
  refine E_ishl (pc' := 29) X d16_28 rfl ?_
  refine E_eqI (z := (1 : Int32)) (by decide) ?_
  refine E_isub (pc' := 30) X d16_29 rfl ?_
  refine E_eqI (z := (1 : Int32)) (by decide) ?_
  refine E_aloadN (v := (.ref a)) (pc' := 31) X d16_30 rfl rfl rfl ?_
  refine E_getF (pc' := 34) X (host := "") (Or.inl (w_54 hw)) Via.refl hF1 d16_31 rfl (fun T X => ?_)
  refine E_iload (pc' := 36) X d16_34 rfl rfl ?_
  refine E_iaload (v := (.int (1 : Int32))) (pc' := 37) X hA2 (by decide) rfl d16_36 rfl ?_
  refine E_icmp (pcY := 50) (pcN := 40) X (ic_lt _ _) d16_37 (by decide) rfl rfl (fun hc37_1 => absurd hc37_1 (by decide)) (fun hc37_1 => ?_)
  refine E_aloadN (v := (.ref a)) (pc' := 41) X d16_40 rfl rfl rfl ?_
  refine E_getF (pc' := 44) X (host := "") (Or.inl (w_63 hw)) Via.refl hF0 d16_41 rfl (fun T X => ?_)
  refine E_iload (pc' := 46) X d16_44 rfl rfl ?_
  refine E_aaload (v := (.ref j0)) (pc' := 47) X hA3 rfl (by decide) rfl d16_46 rfl ?_
  refine E_iloadN (pc' := 48) X d16_47 rfl rfl ?_
  refine E_iaload (v := (.int (1 : Int32))) (pc' := 49) X hA4 (by decide) rfl d16_48 rfl ?_
  refine E_istoreN (Ls' := #[.val (.ref a), .val (.int (3 : Int32)), .val (.int (2 : Int32)), .val (.int (1 : Int32)), .val (.int (2 : Int32)), .val (.int (0 : Int32))]) (pc' := 50) X d16_49 rfl rfl ?_
  refine E_aloadN (v := (.ref a)) (pc' := 51) X d16_50 rfl rfl rfl ?_
  refine E_getF (pc' := 54) X (host := "") (Or.inl (w_54 hw)) Via.refl hF1 d16_51 rfl (fun T X => ?_)
  refine E_iload (pc' := 56) X d16_54 rfl rfl ?_
  refine E_iaload (v := (.int (1 : Int32))) (pc' := 57) X hA2 (by decide) rfl d16_56 rfl ?_
  refine E_iconst (v := (1 : Int32)) (pc' := 58) X d16_57 rfl rfl ?_
  refine E_iload (pc' := 60) X d16_58 rfl rfl ?_
  refine E_ishl (pc' := 61) X d16_60 rfl ?_
  refine E_eqI (z := (1 : Int32)) (by decide) ?_
  refine E_isub (pc' := 62) X d16_61 rfl ?_
  refine E_eqI (z := (0 : Int32)) (by decide) ?_
  refine E_aloadN (v := (.ref a)) (pc' := 63) X d16_62 rfl rfl rfl ?_
  refine E_getF (pc' := 66) X (host := "") (Or.inl (w_54 hw)) Via.refl hF1 d16_63 rfl (fun T X => ?_)
  refine E_iloadN (pc' := 67) X d16_66 rfl rfl ?_
  refine E_iaload (v := (.int (1 : Int32))) (pc' := 68) X hA2 (by decide) rfl d16_67 rfl ?_
  refine E_icmp (pcY := 83) (pcN := 71) X (ic_lt _ _) d16_68 (by decide) rfl rfl (fun hc68_1 => ?_) (fun hc68_1 => absurd (by decide) hc68_1)
  refine E_iinc (x := (0 : Int32)) (z := (-1 : Int32)) (Ls' := #[.val (.ref a), .val (.int (3 : Int32)), .val (.int (2 : Int32)), .val (.int (1 : Int32)), .val (.int (2 : Int32)), .val (.int (-1 : Int32))]) (pc' := 86) X d16_83 rfl rfl rfl rfl ?_
  refine E_goto (pc' := 14) X d16_86 (by decide) rfl ?_
  refine E_iload (pc' := 16) X d16_14 rfl rfl ?_
  refine E_if (pcY := 89) (pcN := 19) X (i0_lt _) d16_16 (by decide) rfl rfl (fun hc16_2 => ?_) (fun hc16_2 => absurd (by decide) hc16_2)
  refine E_iloadN (pc' := 90) X d16_89 rfl rfl ?_
  refine E_iload (pc' := 92) X d16_90 rfl rfl ?_
  refine E_icmp (pcY := 110) (pcN := 95) X (ic_ne _ _) d16_92 (by decide) rfl rfl (fun hc92_0 => ?_) (fun hc92_0 => absurd (by decide) hc92_0)
  refine E_aloadN (v := (.ref a)) (pc' := 111) X d16_110 rfl rfl rfl ?_
  refine E_getF (pc' := 114) X (host := "") (Or.inl (w_63 hw)) Via.refl hF0 d16_111 rfl (fun T X => ?_)
  refine E_alen (n := (2 : Int32)) (pc' := 115) X hA3 rfl d16_114 rfl ?_
  refine E_iconst (v := (1 : Int32)) (pc' := 116) X d16_115 rfl rfl ?_
  refine E_isub (pc' := 117) X d16_116 rfl ?_
  refine E_eqI (z := (1 : Int32)) (by decide) ?_
  refine E_istore (Ls' := #[.val (.ref a), .val (.int (3 : Int32)), .val (.int (2 : Int32)), .val (.int (1 : Int32)), .val (.int (2 : Int32)), .val (.int (1 : Int32))]) (pc' := 119) X d16_117 rfl rfl ?_
  refine E_iload (pc' := 121) X d16_119 rfl rfl ?_
  refine E_if (pcY := 174) (pcN := 124) X (i0_lt _) d16_121 (by decide) rfl rfl (fun hc121_0 => absurd hc121_0 (by decide)) (fun hc121_0 => ?_)
  refine E_aloadN (v := (.ref a)) (pc' := 125) X d16_124 rfl rfl rfl ?_
  refine E_getF (pc' := 128) X (host := "") (Or.inl (w_63 hw)) Via.refl hF0 d16_125 rfl (fun T X => ?_)
  refine E_iload (pc' := 130) X d16_128 rfl rfl ?_
  refine E_aaload (v := (.ref j1)) (pc' := 131) X hA3 rfl (by decide) rfl d16_130 rfl ?_
  refine E_iloadN (pc' := 132) X d16_131 rfl rfl ?_
  refine E_iaload (v := (.int (0 : Int32))) (pc' := 133) X hA5 (by decide) rfl d16_132 rfl ?_
  refine E_aloadN (v := (.ref a)) (pc' := 134) X d16_133 rfl rfl rfl ?_
  refine E_getF (pc' := 137) X (host := "") (Or.inl (w_63 hw)) Via.refl hF0 d16_134 rfl (fun T X => ?_)
  refine E_iload (pc' := 139) X d16_137 rfl rfl ?_
  refine E_aaload (v := (.ref j1)) (pc' := 140) X hA3 rfl (by decide) rfl d16_139 rfl ?_
  refine E_iload (pc' := 142) X d16_140 rfl rfl ?_
  refine E_iaload (v := (.int (0 : Int32))) (pc' := 143) X hA5 (by decide) rfl d16_142 rfl ?_
  refine E_icmp (pcY := 168) (pcN := 146) X (ic_eq _ _) d16_143 (by decide) rfl rfl (fun hc143_0 => ?_) (fun hc143_0 => absurd (by decide) hc143_0)
  refine E_iinc (x := (1 : Int32)) (z := (0 : Int32)) (Ls' := #[.val (.ref a), .val (.int (3 : Int32)), .val (.int (2 : Int32)), .val (.int (1 : Int32)), .val (.int (2 : Int32)), .val (.int (0 : Int32))]) (pc' := 171) X d16_168 rfl rfl rfl rfl ?_
  refine E_goto (pc' := 119) X d16_171 (by decide) rfl ?_
  refine E_iload (pc' := 121) X d16_119 rfl rfl ?_
  refine E_if (pcY := 174) (pcN := 124) X (i0_lt _) d16_121 (by decide) rfl rfl (fun hc121_1 => absurd hc121_1 (by decide)) (fun hc121_1 => ?_)
  refine E_aloadN (v := (.ref a)) (pc' := 125) X d16_124 rfl rfl rfl ?_
  refine E_getF (pc' := 128) X (host := "") (Or.inl (w_63 hw)) Via.refl hF0 d16_125 rfl (fun T X => ?_)
  refine E_iload (pc' := 130) X d16_128 rfl rfl ?_
  refine E_aaload (v := (.ref j0)) (pc' := 131) X hA3 rfl (by decide) rfl d16_130 rfl ?_
  refine E_iloadN (pc' := 132) X d16_131 rfl rfl ?_
  refine E_iaload (v := (.int (0 : Int32))) (pc' := 133) X hA4 (by decide) rfl d16_132 rfl ?_
  refine E_aloadN (v := (.ref a)) (pc' := 134) X d16_133 rfl rfl rfl ?_
  refine E_getF (pc' := 137) X (host := "") (Or.inl (w_63 hw)) Via.refl hF0 d16_134 rfl (fun T X => ?_)
  refine E_iload (pc' := 139) X d16_137 rfl rfl ?_
  refine E_aaload (v := (.ref j0)) (pc' := 140) X hA3 rfl (by decide) rfl d16_139 rfl ?_
  refine E_iload (pc' := 142) X d16_140 rfl rfl ?_
  refine E_iaload (v := (.int (0 : Int32))) (pc' := 143) X hA4 (by decide) rfl d16_142 rfl ?_
  refine E_icmp (pcY := 168) (pcN := 146) X (ic_eq _ _) d16_143 (by decide) rfl rfl (fun hc143_1 => ?_) (fun hc143_1 => absurd (by decide) hc143_1)
  refine E_iinc (x := (0 : Int32)) (z := (-1 : Int32)) (Ls' := #[.val (.ref a), .val (.int (3 : Int32)), .val (.int (2 : Int32)), .val (.int (1 : Int32)), .val (.int (2 : Int32)), .val (.int (-1 : Int32))]) (pc' := 171) X d16_168 rfl rfl rfl rfl ?_
  refine E_goto (pc' := 119) X d16_171 (by decide) rfl ?_
  refine E_iload (pc' := 121) X d16_119 rfl rfl ?_
  refine E_if (pcY := 174) (pcN := 124) X (i0_lt _) d16_121 (by decide) rfl rfl (fun hc121_2 => ?_) (fun hc121_2 => absurd (by decide) hc121_2)
  refine E_iloadN (pc' := 175) X d16_174 rfl rfl ?_
  refine E_iload (pc' := 177) X d16_175 rfl rfl ?_
  refine E_callS (pc' := 180) (W := 0) (cells' := 0) (slots' := 0) (argsL := [(.int (1 : Int32)), (.int (2 : Int32))]) (rest := []) X (rm17 l Z a0 hw h0 X.ext) (w_102 hw) (w_103 hw) (w_4 hw) (w_104 hw) (by decide) rfl rfl pd_4 rfl rfl d16_177 rfl (Nat.le_refl _) (by decide) (by decide) rfl rfl (by decide) (by decide) (fun v1 T h_2 X hQ3 => ?_)
  obtain ⟨rfl, rfl⟩ := hQ3
  show End Z p e below s _ _ _ _ (mkF m 180 #[.val (.ref a), .val (.int (3 : Int32)), .val (.int (2 : Int32)), .val (.int (1 : Int32)), .val (.int (2 : Int32)), .val (.int (-1 : Int32))] [(.long (4294967298 : Int64))])
  exact E_retL X d16_180 (by decide) (by decide) ⟨rfl, rfl⟩
theorem d12_0 : decode prog_61_method_5_code 0 = .ok (.aload_n 0, 1) := by decide +kernel
theorem d12_1 : decode prog_61_method_5_code 1 = .ok (.getfield 50, 3) := by decide +kernel
theorem d12_4 : decode prog_61_method_5_code 4 = .ok (.iload_n 1, 1) := by decide +kernel
theorem d12_5 : decode prog_61_method_5_code 5 = .ok (.iaload, 1) := by decide +kernel
theorem d12_6 : decode prog_61_method_5_code 6 = .ok (.ireturn, 1) := by decide +kernel
theorem ef_rm12 (m : MethodId) (x0 : Addr) (x1 : Int32) : entryFrame m #[(.ref x0), (.int x1)] 2 = mkF m 0 #[.val (.ref x0), .val (.int x1)] [] := by first | (simp [entryFrame, mkF, argsToLocals, Value.category]; done) | (simp [entryFrame, mkF, argsToLocals, *]; done) | rfl
set_option maxRecDepth 65536 in
set_option maxHeartbeats 2000000 in
theorem rm12 (l : Launch) (Z : State) (a0 : Array Value) (hw : ∀ d ∈ tables_1, d.before a0 Z = true) (a : Addr) (j : Int32) (t : Addr) (vs : List Value) (r : Int32) (h0 : Heap) (hE : Ext Z.heap h0) (hF0 : Fld Z h0 a "com/example/nimble_calculus/nimblecalculus/equivalence/Splits" "leaf" "[I" (.ref t)) (hA1 : Ar Z h0 t .int vs) (hj : ¬ j < 0) (hv : vs[j.toNatClampNeg]? = some (.int r)) :
    Con l Z (⟨"com/example/nimble_calculus/nimblecalculus/equivalence/Splits", "leaf", "(I)I"⟩ : MethodName) prog_61_method_5_code 2 (some .int) ({ frames := 0, cells := 0, slots := 0, locals := 0 } : Room) #[(.ref a), (.int j)] h0 (fun vv hh => vv = some (.int r) ∧ h0 = hh) := by
  refine Con.of (plainFor_of_name (by first | (simp [plainName, overriddenIn]; done) | decide +kernel)) hE ?_
  intro p e s m below T (X : Sd l Z "com/example/nimble_calculus/nimblecalculus/equivalence/Splits" "leaf" prog_61_method_5_code 2 (some .int) ({ frames := 0, cells := 0, slots := 0, locals := 0 } : Room) p e s m #[(.ref a), (.int j)] below T h0 0 0)
  refine End.frame (ef_rm12 m a j) ?_
  show End Z p e below s _ _ _ _ (mkF m 0 #[.val (.ref a), .val (.int j)] [])
  refine E_aloadN (v := (.ref a)) (pc' := 1) X d12_0 rfl rfl rfl ?_
  refine E_getF (pc' := 4) X (host := "") (Or.inl (w_52 hw)) Via.refl hF0 d12_1 rfl (fun T X => ?_)
  refine E_iloadN (pc' := 5) X d12_4 rfl rfl ?_
  refine E_iaload (v := (.int r)) (pc' := 6) X hA1 hj hv d12_5 rfl ?_
  exact E_retI X d12_6 (by decide) (by decide) ⟨rfl, rfl⟩
theorem d13_0 : decode prog_61_method_6_code 0 = .ok (.aload_n 0, 1) := by decide +kernel
theorem d13_1 : decode prog_61_method_6_code 1 = .ok (.getfield 32, 3) := by decide +kernel
theorem d13_4 : decode prog_61_method_6_code 4 = .ok (.iload_n 1, 1) := by decide +kernel
theorem d13_5 : decode prog_61_method_6_code 5 = .ok (.iaload, 1) := by decide +kernel
theorem d13_6 : decode prog_61_method_6_code 6 = .ok (.ireturn, 1) := by decide +kernel
theorem ef_rm13 (m : MethodId) (x0 : Addr) (x1 : Int32) : entryFrame m #[(.ref x0), (.int x1)] 2 = mkF m 0 #[.val (.ref x0), .val (.int x1)] [] := by first | (simp [entryFrame, mkF, argsToLocals, Value.category]; done) | (simp [entryFrame, mkF, argsToLocals, *]; done) | rfl
set_option maxRecDepth 65536 in
set_option maxHeartbeats 2000000 in
theorem rm13 (l : Launch) (Z : State) (a0 : Array Value) (hw : ∀ d ∈ tables_1, d.before a0 Z = true) (a : Addr) (j : Int32) (t : Addr) (vs : List Value) (r : Int32) (h0 : Heap) (hE : Ext Z.heap h0) (hF0 : Fld Z h0 a "com/example/nimble_calculus/nimblecalculus/equivalence/Splits" "born" "[I" (.ref t)) (hA1 : Ar Z h0 t .int vs) (hj : ¬ j < 0) (hv : vs[j.toNatClampNeg]? = some (.int r)) :
    Con l Z (⟨"com/example/nimble_calculus/nimblecalculus/equivalence/Splits", "born", "(I)I"⟩ : MethodName) prog_61_method_6_code 2 (some .int) ({ frames := 0, cells := 0, slots := 0, locals := 0 } : Room) #[(.ref a), (.int j)] h0 (fun vv hh => vv = some (.int r) ∧ h0 = hh) := by
  refine Con.of (plainFor_of_name (by first | (simp [plainName, overriddenIn]; done) | decide +kernel)) hE ?_
  intro p e s m below T (X : Sd l Z "com/example/nimble_calculus/nimblecalculus/equivalence/Splits" "born" prog_61_method_6_code 2 (some .int) ({ frames := 0, cells := 0, slots := 0, locals := 0 } : Room) p e s m #[(.ref a), (.int j)] below T h0 0 0)
  refine End.frame (ef_rm13 m a j) ?_
  show End Z p e below s _ _ _ _ (mkF m 0 #[.val (.ref a), .val (.int j)] [])
  refine E_aloadN (v := (.ref a)) (pc' := 1) X d13_0 rfl rfl rfl ?_
  refine E_getF (pc' := 4) X (host := "") (Or.inl (w_24 hw)) Via.refl hF0 d13_1 rfl (fun T X => ?_)
  refine E_iloadN (pc' := 5) X d13_4 rfl rfl ?_
  refine E_iaload (v := (.int r)) (pc' := 6) X hA1 hj hv d13_5 rfl ?_
  exact E_retI X d13_6 (by decide) (by decide) ⟨rfl, rfl⟩
theorem d14_0 : decode prog_61_method_7_code 0 = .ok (.aload_n 0, 1) := by decide +kernel
theorem d14_1 : decode prog_61_method_7_code 1 = .ok (.getfield 35, 3) := by decide +kernel
theorem d14_4 : decode prog_61_method_7_code 4 = .ok (.iload_n 1, 1) := by decide +kernel
theorem d14_5 : decode prog_61_method_7_code 5 = .ok (.iaload, 1) := by decide +kernel
theorem d14_6 : decode prog_61_method_7_code 6 = .ok (.ireturn, 1) := by decide +kernel
theorem ef_rm14 (m : MethodId) (x0 : Addr) (x1 : Int32) : entryFrame m #[(.ref x0), (.int x1)] 2 = mkF m 0 #[.val (.ref x0), .val (.int x1)] [] := by first | (simp [entryFrame, mkF, argsToLocals, Value.category]; done) | (simp [entryFrame, mkF, argsToLocals, *]; done) | rfl
set_option maxRecDepth 65536 in
set_option maxHeartbeats 2000000 in
theorem rm14 (l : Launch) (Z : State) (a0 : Array Value) (hw : ∀ d ∈ tables_1, d.before a0 Z = true) (a : Addr) (j : Int32) (t : Addr) (vs : List Value) (r : Int32) (h0 : Heap) (hE : Ext Z.heap h0) (hF0 : Fld Z h0 a "com/example/nimble_calculus/nimblecalculus/equivalence/Splits" "representative" "[I" (.ref t)) (hA1 : Ar Z h0 t .int vs) (hj : ¬ j < 0) (hv : vs[j.toNatClampNeg]? = some (.int r)) :
    Con l Z (⟨"com/example/nimble_calculus/nimblecalculus/equivalence/Splits", "representative", "(I)I"⟩ : MethodName) prog_61_method_7_code 2 (some .int) ({ frames := 0, cells := 0, slots := 0, locals := 0 } : Room) #[(.ref a), (.int j)] h0 (fun vv hh => vv = some (.int r) ∧ h0 = hh) := by
  refine Con.of (plainFor_of_name (by first | (simp [plainName, overriddenIn]; done) | decide +kernel)) hE ?_
  intro p e s m below T (X : Sd l Z "com/example/nimble_calculus/nimblecalculus/equivalence/Splits" "representative" prog_61_method_7_code 2 (some .int) ({ frames := 0, cells := 0, slots := 0, locals := 0 } : Room) p e s m #[(.ref a), (.int j)] below T h0 0 0)
  refine End.frame (ef_rm14 m a j) ?_
  show End Z p e below s _ _ _ _ (mkF m 0 #[.val (.ref a), .val (.int j)] [])
  refine E_aloadN (v := (.ref a)) (pc' := 1) X d14_0 rfl rfl rfl ?_
  refine E_getF (pc' := 4) X (host := "") (Or.inl (w_26 hw)) Via.refl hF0 d14_1 rfl (fun T X => ?_)
  refine E_iloadN (pc' := 5) X d14_4 rfl rfl ?_
  refine E_iaload (v := (.int r)) (pc' := 6) X hA1 hj hv d14_5 rfl ?_
  exact E_retI X d14_6 (by decide) (by decide) ⟨rfl, rfl⟩
theorem pd_5 : parseMethodDescriptor "(I)V" = some ⟨[.int], none⟩ := by decide +kernel
theorem pd_6 : parseMethodDescriptor "(II)V" = some ⟨[.int, .int], none⟩ := by decide +kernel
theorem pd_7 : parseMethodDescriptor "([I)V" = some ⟨[(.array .int)], none⟩ := by decide +kernel
theorem ef_rm0 (m : MethodId) (x0 : Int32) (x1 : Int32) (x2 : Int32) (x3 : Int32) (x4 : Int32) : entryFrame m #[(.int x0), (.int x1), (.int x2), (.int x3), (.int x4)] 14 = mkF m 0 #[.val (.int x0), .val (.int x1), .val (.int x2), .val (.int x3), .val (.int x4), .unset, .unset, .unset, .unset, .unset, .unset, .unset, .unset, .unset] [] := by first | (simp [entryFrame, mkF, argsToLocals, Value.category]; done) | (simp [entryFrame, mkF, argsToLocals, *]; done) | rfl
set_option maxRecDepth 65536 in
set_option maxHeartbeats 2000000 in
theorem rm0 (l : Launch) (Z : State) (a0 : Array Value) (hw : ∀ d ∈ tables_1, d.before a0 Z = true) (i0 : Int32) (i1 : Int32) (i2 : Int32) (i3 : Int32) (i4 : Int32) (h0 : Heap) (hE : Ext Z.heap h0) :
    Con l Z x code maxLocals ret room_1 #[(.int i0), (.int i1), (.int i2), (.int i3), (.int i4)] h0 (fun vv hh => vv = some (.int (1 : Int32))) := by
  refine Con.of (plainFor_of_name (by first | (simp [plainName, overriddenIn]; done) | decide +kernel)) hE ?_
  intro p e s m below T (X : Sd l Z "com/example/nimble_calculus/nimblecalculus/equivalence/SplitsAddPartPinLaw" "law" code 14 (some .boolean) room_1 p e s m #[(.int i0), (.int i1), (.int i2), (.int i3), (.int i4)] below T h0 0 0)
  refine End.frame (ef_rm0 m i0 i1 i2 i3 i4) ?_
  show End Z p e below s _ _ _ _ (mkF m 0 #[.val (.int i0), .val (.int i1), .val (.int i2), .val (.int i3), .val (.int i4), .unset, .unset, .unset, .unset, .unset, .unset, .unset, .unset, .unset] [])
  refine E_iconst (v := (1 : Int32)) (pc' := 1) X at_0 rfl rfl ?_
  refine E_iloadN (pc' := 2) X at_1 rfl rfl ?_
  refine E_ldcI (v := (2147483647 : Int32)) (pc' := 4) X (w_0 hw) at_2 rfl ?_
  refine E_iand (pc' := 5) X at_4 rfl ?_
  refine E_iconst (v := (3 : Int32)) (pc' := 6) X at_5 rfl rfl ?_
  refine E_irem (pc' := 7) X at_6 rfl (by decide) ?_
  refine E_iadd (pc' := 8) X at_7 rfl ?_
  obtain ⟨bb, q_bb⟩ : ∃ z : Int32, ((1 : Int32) + ((i0 &&& (2147483647 : Int32)) % (3 : Int32))) = z := ⟨_, rfl⟩
  refine E_eqI (z := bb) q_bb ?_
  refine E_istore (Ls' := #[.val (.int i0), .val (.int i1), .val (.int i2), .val (.int i3), .val (.int i4), .val (.int bb), .unset, .unset, .unset, .unset, .unset, .unset, .unset, .unset]) (pc' := 10) X at_8 rfl rfl ?_
  refine E_iloadN (pc' := 11) X at_10 rfl rfl ?_
  refine E_iconst (v := (1 : Int32)) (pc' := 12) X at_11 rfl rfl ?_
  refine E_iand (pc' := 13) X at_12 rfl ?_
  refine E_if (pcY := 20) (pcN := 16) X (i0_eq _) at_13 (by decide) rfl rfl (fun hc13_0 => ?_) (fun hc13_0 => ?_)
  · skip
    refine E_iconst (v := (0 : Int32)) (pc' := 21) X at_20 rfl rfl ?_
    refine E_istore (Ls' := #[.val (.int i0), .val (.int i1), .val (.int i2), .val (.int i3), .val (.int i4), .val (.int bb), .val (.int (0 : Int32)), .unset, .unset, .unset, .unset, .unset, .unset, .unset]) (pc' := 23) X at_21 rfl rfl ?_
    refine E_iload (pc' := 25) X at_23 rfl rfl ?_
    refine E_if (pcY := 32) (pcN := 28) X (i0_eq _) at_25 (by decide) rfl rfl (fun hc25_0 => ?_) (fun hc25_0 => absurd (by decide) hc25_0)
    refine E_iload (pc' := 34) X at_32 rfl rfl ?_
    refine E_istore (Ls' := #[.val (.int i0), .val (.int i1), .val (.int i2), .val (.int i3), .val (.int i4), .val (.int bb), .val (.int (0 : Int32)), .val (.int bb), .unset, .unset, .unset, .unset, .unset, .unset]) (pc' := 36) X at_34 rfl rfl ?_
    refine E_iconst (v := (2 : Int32)) (pc' := 37) X at_36 rfl rfl ?_
    have le_o1 := X.le
    refine E_newA (pc' := 39) X (aty := .int) (n := (2 : Int32)) (cap := 2) (vs := [(.int (0 : Int32)), (.int (0 : Int32))]) (cells' := 1) (slots' := 2) (w_1 hw) at_37 rfl (by decide) (by decide) (by decide) rfl rfl rfl (by decide) (by decide) (fun T h_2 o1 g_5 X Ex_3 Aa_4 => ?_)
    have fr_6 : Z.heap.size ≤ o1 := by rw [g_5]; exact le_o1
    refine E_astore (Ls' := #[.val (.int i0), .val (.int i1), .val (.int i2), .val (.int i3), .val (.int i4), .val (.int bb), .val (.int (0 : Int32)), .val (.int bb), .val (.ref o1), .unset, .unset, .unset, .unset, .unset]) (pc' := 41) X at_39 rfl rfl rfl ?_
    refine E_aload (v := (.ref o1)) (pc' := 43) X at_41 rfl rfl rfl ?_
    refine E_iconst (v := (0 : Int32)) (pc' := 44) X at_43 rfl rfl ?_
    refine E_iconst (v := (0 : Int32)) (pc' := 45) X at_44 rfl rfl ?_
    refine E_iastore (vs' := [(.int (0 : Int32)), (.int (0 : Int32))]) (pc' := 46) X Aa_4 (by decide) (Nat.le_of_ble_eq_true rfl) rfl fr_6 at_45 rfl (fun T h_8 X W_7 Aa_9 => ?_)
    refine E_aload (v := (.ref o1)) (pc' := 48) X at_46 rfl rfl rfl ?_
    refine E_iconst (v := (1 : Int32)) (pc' := 49) X at_48 rfl rfl ?_
    refine E_iload (pc' := 51) X at_49 rfl rfl ?_
    refine E_iastore (vs' := [(.int (0 : Int32)), (.int bb)]) (pc' := 52) X Aa_9 (by decide) (Nat.le_of_ble_eq_true rfl) rfl fr_6 at_51 rfl (fun T h_11 X W_10 Aa_12 => ?_)
    have le_o13 := X.le
    refine E_new (pc' := 55) X (cells' := 2) (slots' := 12) (w_2 hw) (w_3 hw) (w_4 hw) at_52 rfl rfl rfl (by decide) (by decide) (fun T h_14 o13 g_18 X Ex_15 Ea_16 D_17 => ?_)
    have fr_19 : Z.heap.size ≤ o13 := by rw [g_18]; exact le_o13
    have ne_20 : o1 ≠ o13 := Nat.ne_of_lt (by rw [g_18]; exact Aa_12.lt)
    refine E_dup (pc' := 56) X at_55 rfl rfl ?_
    refine E_iconst (v := (4 : Int32)) (pc' := 57) X at_56 rfl rfl ?_
    have F_21 : Fld Z h_14 o13 "com/example/nimble_calculus/nimblecalculus/equivalence/Splits" "nodeCount" "I" (.int (0 : Int32)) := (D_17 (Or.inl (w_12 hw)) (ty := .int) (by decide))
    have F_22 : Fld Z h_14 o13 "com/example/nimble_calculus/nimblecalculus/equivalence/Splits" "splitCount" "I" (.int (0 : Int32)) := (D_17 (Or.inl (w_39 hw)) (ty := .int) (by decide))
    have F_23 : Fld Z h_14 o13 "com/example/nimble_calculus/nimblecalculus/equivalence/Splits" "splitting" "I" (.int (0 : Int32)) := (D_17 (Or.inl (w_41 hw)) (ty := .int) (by decide))
    have F_24 : Fld Z h_14 o13 "com/example/nimble_calculus/nimblecalculus/equivalence/Splits" "parent" "[I" .null := (D_17 (Or.inr (w_23 hw)) (ty := (.array .int)) (by decide))
    have F_25 : Fld Z h_14 o13 "com/example/nimble_calculus/nimblecalculus/equivalence/Splits" "born" "[I" .null := (D_17 (Or.inr (w_25 hw)) (ty := (.array .int)) (by decide))
    have F_26 : Fld Z h_14 o13 "com/example/nimble_calculus/nimblecalculus/equivalence/Splits" "representative" "[I" .null := (D_17 (Or.inr (w_27 hw)) (ty := (.array .int)) (by decide))
    have F_27 : Fld Z h_14 o13 "com/example/nimble_calculus/nimblecalculus/equivalence/Splits" "nodeOfBlock" "[I" .null := (D_17 (Or.inr (w_32 hw)) (ty := (.array .int)) (by decide))
    have F_28 : Fld Z h_14 o13 "com/example/nimble_calculus/nimblecalculus/equivalence/Splits" "leaf" "[I" .null := (D_17 (Or.inl (w_53 hw)) (ty := (.array .int)) (by decide))
    have F_29 : Fld Z h_14 o13 "com/example/nimble_calculus/nimblecalculus/equivalence/Splits" "height" "[I" .null := (D_17 (Or.inl (w_55 hw)) (ty := (.array .int)) (by decide))
    have F_30 : Fld Z h_14 o13 "com/example/nimble_calculus/nimblecalculus/equivalence/Splits" "jumps" "[[I" .null := (D_17 (Or.inl (w_64 hw)) (ty := (.array (.array .int))) (by decide))
    have A_34 : Ar Z h_14 o1 .int [(.int (0 : Int32)), (.int bb)] := (Aa_12.ext Ex_15)
    have le_35 := X.le
    refine E_callI (a := o13) (pc' := 60) (W := 1) (cells' := 6) (slots' := 37) (argsL := [(.int (4 : Int32))]) (rest := [(.ref o13)]) X (rm1 l Z a0 hw o13 h_14 X.ext Ea_16 F_21 F_22 F_23 F_24 F_25 F_26 F_27 F_28 F_29 F_30 fr_19) (w_5 hw) (w_6 hw) (w_4 hw) (w_7 hw) rfl (by decide) rfl rfl pd_5 rfl rfl at_57 rfl (Nat.le_refl _) (by decide) (by decide) rfl rfl (by decide) (by decide) (fun v31 T h_32 X hQ33 => ?_)
    obtain ⟨P_36, B_37, RR_38, NB_39, rfl, Kc_40, nw_41, nw_42, nw_43, nw_44, E_45, F_46, F_47, F_48, F_49, F_50, F_51, F_52, F_53, F_54, F_55, A_56, A_57, A_58, A_59, E_60, P_61, P_62, P_63, P_64, P_65, P_66⟩ := hQ33
    have ne_67 : o1 ≠ P_36 := Nat.ne_of_lt (Nat.lt_of_lt_of_le A_34.lt nw_41)
    have ne_68 : o13 ≠ P_36 := Nat.ne_of_lt (Nat.lt_of_lt_of_le Ea_16.lt nw_41)
    have fr_69 : Z.heap.size ≤ P_36 := Nat.le_trans le_35 nw_41
    have ne_70 : o1 ≠ B_37 := Nat.ne_of_lt (Nat.lt_of_lt_of_le A_34.lt nw_42)
    have ne_71 : o13 ≠ B_37 := Nat.ne_of_lt (Nat.lt_of_lt_of_le Ea_16.lt nw_42)
    have fr_72 : Z.heap.size ≤ B_37 := Nat.le_trans le_35 nw_42
    have ne_73 : o1 ≠ RR_38 := Nat.ne_of_lt (Nat.lt_of_lt_of_le A_34.lt nw_43)
    have ne_74 : o13 ≠ RR_38 := Nat.ne_of_lt (Nat.lt_of_lt_of_le Ea_16.lt nw_43)
    have fr_75 : Z.heap.size ≤ RR_38 := Nat.le_trans le_35 nw_43
    have ne_76 : o1 ≠ NB_39 := Nat.ne_of_lt (Nat.lt_of_lt_of_le A_34.lt nw_44)
    have ne_77 : o13 ≠ NB_39 := Nat.ne_of_lt (Nat.lt_of_lt_of_le Ea_16.lt nw_44)
    have fr_78 : Z.heap.size ≤ NB_39 := Nat.le_trans le_35 nw_44
    show End Z p e below s _ _ _ _ (mkF m 60 #[.val (.int i0), .val (.int i1), .val (.int i2), .val (.int i3), .val (.int i4), .val (.int bb), .val (.int (0 : Int32)), .val (.int bb), .val (.ref o1), .unset, .unset, .unset, .unset, .unset] [(.ref o13)])
    refine E_astore (Ls' := #[.val (.int i0), .val (.int i1), .val (.int i2), .val (.int i3), .val (.int i4), .val (.int bb), .val (.int (0 : Int32)), .val (.int bb), .val (.ref o1), .val (.ref o13), .unset, .unset, .unset, .unset]) (pc' := 62) X at_60 rfl rfl rfl ?_
    rcases (by rw [← q_bb]; exact own_b i0 : bb = (1 : Int32) ∨ bb = (2 : Int32) ∨ bb = (3 : Int32)) with rfl | rfl | rfl
    · skip
      refine E_aload (v := (.ref o13)) (pc' := 64) X at_62 rfl rfl rfl ?_
      refine E_iconst (v := (0 : Int32)) (pc' := 65) X at_64 rfl rfl ?_
      refine E_callV (a := o13) (pc' := 68) (W := 0) (cells' := 6) (slots' := 37) (argsL := [(.int (0 : Int32))]) (rest := []) X (rm6 l Z a0 hw o13 (0 : Int32) (1 : Int32) (0 : Int32) (0 : Int32) P_36 B_37 RR_38 NB_39 [(.int (0 : Int32)), (.int (0 : Int32)), (.int (0 : Int32)), (.int (0 : Int32))] (1 : Int32) (0 : Int32) h_32 X.ext E_45 F_46 F_47 F_48 F_49 F_50 F_51 F_52 F_53 F_54 F_55 A_59 fr_19 (by decide) rfl (by decide)) E_45 (w_33 hw) (w_34 hw) (w_36 hw) (w_35 hw) (w_4 hw) (w_37 hw) rfl (by decide) rfl rfl pd_5 rfl rfl at_65 rfl (Nat.le_refl _) (by decide) (by decide) rfl rfl (by decide) (by decide) (fun v79 T h_80 X hQ81 => ?_)
      obtain ⟨rfl, Kc_82, E_83, F_84, F_85, F_86, F_87, F_88, F_89, F_90, F_91, F_92, F_93⟩ := hQ81
      show End Z p e below s _ _ _ _ (mkF m 68 #[.val (.int i0), .val (.int i1), .val (.int i2), .val (.int i3), .val (.int i4), .val (.int (1 : Int32)), .val (.int (0 : Int32)), .val (.int (1 : Int32)), .val (.ref o1), .val (.ref o13), .unset, .unset, .unset, .unset] [])
      refine E_aload (v := (.ref o13)) (pc' := 70) X at_68 rfl rfl rfl ?_
      refine E_iconst (v := (0 : Int32)) (pc' := 71) X at_70 rfl rfl ?_
      refine E_iloadN (pc' := 72) X at_71 rfl rfl ?_
      have A_94 : Ar Z h_80 P_36 .int [(.int (0 : Int32)), (.int (0 : Int32)), (.int (0 : Int32)), (.int (0 : Int32)), (.int (0 : Int32)), (.int (0 : Int32)), (.int (0 : Int32))] := (A_56.keep Kc_82 (ninS (Ne.symm ne_68) nin0))
      have A_95 : Ar Z h_80 B_37 .int [(.int (0 : Int32)), (.int (0 : Int32)), (.int (0 : Int32)), (.int (0 : Int32)), (.int (0 : Int32)), (.int (0 : Int32)), (.int (0 : Int32))] := (A_57.keep Kc_82 (ninS (Ne.symm ne_71) nin0))
      have A_96 : Ar Z h_80 RR_38 .int [(.int (0 : Int32)), (.int (0 : Int32)), (.int (0 : Int32)), (.int (0 : Int32)), (.int (0 : Int32)), (.int (0 : Int32)), (.int (0 : Int32))] := (A_58.keep Kc_82 (ninS (Ne.symm ne_74) nin0))
      have A_97 : Ar Z h_80 NB_39 .int [(.int (0 : Int32)), (.int (0 : Int32)), (.int (0 : Int32)), (.int (0 : Int32))] := (A_59.keep Kc_82 (ninS (Ne.symm ne_77) nin0))
      refine E_callV (a := o13) (pc' := 75) (W := 0) (cells' := 6) (slots' := 37) (argsL := [(.int (0 : Int32)), (.int i2)]) (rest := []) X (rm7 l Z a0 hw o13 (0 : Int32) i2 (1 : Int32) (1 : Int32) (0 : Int32) P_36 B_37 RR_38 NB_39 [(.int (0 : Int32)), (.int (0 : Int32)), (.int (0 : Int32)), (.int (0 : Int32)), (.int (0 : Int32)), (.int (0 : Int32)), (.int (0 : Int32))] [(.int (0 : Int32)), (.int (0 : Int32)), (.int (0 : Int32)), (.int (0 : Int32)), (.int (0 : Int32)), (.int (0 : Int32)), (.int (0 : Int32))] [(.int (0 : Int32)), (.int (0 : Int32)), (.int (0 : Int32)), (.int (0 : Int32)), (.int (0 : Int32)), (.int (0 : Int32)), (.int (0 : Int32))] [(.int (0 : Int32)), (.int (0 : Int32)), (.int (0 : Int32)), (.int (0 : Int32))] [(.int (0 : Int32)), (.int (0 : Int32)), (.int (0 : Int32)), (.int (0 : Int32)), (.int (0 : Int32)), (.int (0 : Int32)), (.int (0 : Int32))] [(.int (0 : Int32)), (.int (1 : Int32)), (.int (0 : Int32)), (.int (0 : Int32)), (.int (0 : Int32)), (.int (0 : Int32)), (.int (0 : Int32))] [(.int (0 : Int32)), (.int i2), (.int (0 : Int32)), (.int (0 : Int32)), (.int (0 : Int32)), (.int (0 : Int32)), (.int (0 : Int32))] [(.int (1 : Int32)), (.int (0 : Int32)), (.int (0 : Int32)), (.int (0 : Int32))] (2 : Int32) h_80 X.ext E_83 F_84 F_85 F_86 F_87 F_88 F_89 F_90 F_91 F_92 F_93 A_94 A_95 A_96 A_97 fr_19 fr_69 fr_72 fr_75 fr_78 P_61 P_62 P_63 P_64 P_65 P_66 (by decide) (by decide) (Nat.le_of_ble_eq_true rfl) (Nat.le_of_ble_eq_true rfl) (Nat.le_of_ble_eq_true rfl) (Nat.le_of_ble_eq_true rfl) rfl rfl rfl rfl (by decide)) E_83 (w_42 hw) (w_43 hw) (w_45 hw) (w_44 hw) (w_4 hw) (w_46 hw) rfl (by decide) rfl rfl pd_6 rfl rfl at_72 rfl (Nat.le_refl _) (by decide) (by decide) rfl rfl (by decide) (by decide) (fun v98 T h_99 X hQ100 => ?_)
      obtain ⟨rfl, Kc_101, E_102, F_103, F_104, F_105, F_106, F_107, F_108, F_109, F_110, F_111, F_112, A_113, A_114, A_115, A_116⟩ := hQ100
      show End Z p e below s _ _ _ _ (mkF m 75 #[.val (.int i0), .val (.int i1), .val (.int i2), .val (.int i3), .val (.int i4), .val (.int (1 : Int32)), .val (.int (0 : Int32)), .val (.int (1 : Int32)), .val (.ref o1), .val (.ref o13), .unset, .unset, .unset, .unset] [])
      refine E_aload (v := (.ref o13)) (pc' := 77) X at_75 rfl rfl rfl ?_
      refine E_iload (pc' := 79) X at_77 rfl rfl ?_
      refine E_iloadN (pc' := 80) X at_79 rfl rfl ?_
      refine E_callV (a := o13) (pc' := 83) (W := 0) (cells' := 6) (slots' := 37) (argsL := [(.int (1 : Int32)), (.int i3)]) (rest := []) X (rm7 l Z a0 hw o13 (1 : Int32) i3 (2 : Int32) (1 : Int32) (0 : Int32) P_36 B_37 RR_38 NB_39 [(.int (0 : Int32)), (.int (0 : Int32)), (.int (0 : Int32)), (.int (0 : Int32)), (.int (0 : Int32)), (.int (0 : Int32)), (.int (0 : Int32))] [(.int (0 : Int32)), (.int (1 : Int32)), (.int (0 : Int32)), (.int (0 : Int32)), (.int (0 : Int32)), (.int (0 : Int32)), (.int (0 : Int32))] [(.int (0 : Int32)), (.int i2), (.int (0 : Int32)), (.int (0 : Int32)), (.int (0 : Int32)), (.int (0 : Int32)), (.int (0 : Int32))] [(.int (1 : Int32)), (.int (0 : Int32)), (.int (0 : Int32)), (.int (0 : Int32))] [(.int (0 : Int32)), (.int (0 : Int32)), (.int (0 : Int32)), (.int (0 : Int32)), (.int (0 : Int32)), (.int (0 : Int32)), (.int (0 : Int32))] [(.int (0 : Int32)), (.int (1 : Int32)), (.int (1 : Int32)), (.int (0 : Int32)), (.int (0 : Int32)), (.int (0 : Int32)), (.int (0 : Int32))] [(.int (0 : Int32)), (.int i2), (.int i3), (.int (0 : Int32)), (.int (0 : Int32)), (.int (0 : Int32)), (.int (0 : Int32))] [(.int (1 : Int32)), (.int (2 : Int32)), (.int (0 : Int32)), (.int (0 : Int32))] (3 : Int32) h_99 X.ext E_102 F_103 F_104 F_105 F_106 F_107 F_108 F_109 F_110 F_111 F_112 A_113 A_114 A_115 A_116 fr_19 fr_69 fr_72 fr_75 fr_78 P_61 P_62 P_63 P_64 P_65 P_66 (by decide) (by decide) (Nat.le_of_ble_eq_true rfl) (Nat.le_of_ble_eq_true rfl) (Nat.le_of_ble_eq_true rfl) (Nat.le_of_ble_eq_true rfl) rfl rfl rfl rfl (by decide)) E_102 (w_42 hw) (w_43 hw) (w_45 hw) (w_44 hw) (w_4 hw) (w_46 hw) rfl (by decide) rfl rfl pd_6 rfl rfl at_80 rfl (Nat.le_refl _) (by decide) (by decide) rfl rfl (by decide) (by decide) (fun v117 T h_118 X hQ119 => ?_)
      obtain ⟨rfl, Kc_120, E_121, F_122, F_123, F_124, F_125, F_126, F_127, F_128, F_129, F_130, F_131, A_132, A_133, A_134, A_135⟩ := hQ119
      show End Z p e below s _ _ _ _ (mkF m 83 #[.val (.int i0), .val (.int i1), .val (.int i2), .val (.int i3), .val (.int i4), .val (.int (1 : Int32)), .val (.int (0 : Int32)), .val (.int (1 : Int32)), .val (.ref o1), .val (.ref o13), .unset, .unset, .unset, .unset] [])
      refine E_aload (v := (.ref o13)) (pc' := 85) X at_83 rfl rfl rfl ?_
      refine E_iload (pc' := 87) X at_85 rfl rfl ?_
      refine E_callV (a := o13) (pc' := 90) (W := 0) (cells' := 6) (slots' := 37) (argsL := [(.int (1 : Int32))]) (rest := []) X (rm6 l Z a0 hw o13 (1 : Int32) (3 : Int32) (1 : Int32) (0 : Int32) P_36 B_37 RR_38 NB_39 [(.int (1 : Int32)), (.int (2 : Int32)), (.int (0 : Int32)), (.int (0 : Int32))] (2 : Int32) (2 : Int32) h_118 X.ext E_121 F_122 F_123 F_124 F_125 F_126 F_127 F_128 F_129 F_130 F_131 A_135 fr_19 (by decide) rfl (by decide)) E_121 (w_33 hw) (w_34 hw) (w_36 hw) (w_35 hw) (w_4 hw) (w_37 hw) rfl (by decide) rfl rfl pd_5 rfl rfl at_87 rfl (Nat.le_refl _) (by decide) (by decide) rfl rfl (by decide) (by decide) (fun v136 T h_137 X hQ138 => ?_)
      obtain ⟨rfl, Kc_139, E_140, F_141, F_142, F_143, F_144, F_145, F_146, F_147, F_148, F_149, F_150⟩ := hQ138
      show End Z p e below s _ _ _ _ (mkF m 90 #[.val (.int i0), .val (.int i1), .val (.int i2), .val (.int i3), .val (.int i4), .val (.int (1 : Int32)), .val (.int (0 : Int32)), .val (.int (1 : Int32)), .val (.ref o1), .val (.ref o13), .unset, .unset, .unset, .unset] [])
      refine E_aload (v := (.ref o13)) (pc' := 92) X at_90 rfl rfl rfl ?_
      refine E_iload (pc' := 94) X at_92 rfl rfl ?_
      refine E_iload (pc' := 96) X at_94 rfl rfl ?_
      have A_151 : Ar Z h_137 P_36 .int [(.int (0 : Int32)), (.int (0 : Int32)), (.int (0 : Int32)), (.int (0 : Int32)), (.int (0 : Int32)), (.int (0 : Int32)), (.int (0 : Int32))] := (A_132.keep Kc_139 (ninS (Ne.symm ne_68) nin0))
      have A_152 : Ar Z h_137 B_37 .int [(.int (0 : Int32)), (.int (1 : Int32)), (.int (1 : Int32)), (.int (0 : Int32)), (.int (0 : Int32)), (.int (0 : Int32)), (.int (0 : Int32))] := (A_133.keep Kc_139 (ninS (Ne.symm ne_71) nin0))
      have A_153 : Ar Z h_137 RR_38 .int [(.int (0 : Int32)), (.int i2), (.int i3), (.int (0 : Int32)), (.int (0 : Int32)), (.int (0 : Int32)), (.int (0 : Int32))] := (A_134.keep Kc_139 (ninS (Ne.symm ne_74) nin0))
      have A_154 : Ar Z h_137 NB_39 .int [(.int (1 : Int32)), (.int (2 : Int32)), (.int (0 : Int32)), (.int (0 : Int32))] := (A_135.keep Kc_139 (ninS (Ne.symm ne_77) nin0))
      refine E_callV (a := o13) (pc' := 99) (W := 0) (cells' := 6) (slots' := 37) (argsL := [(.int (1 : Int32)), (.int i4)]) (rest := []) X (rm7 l Z a0 hw o13 (1 : Int32) i4 (3 : Int32) (2 : Int32) (2 : Int32) P_36 B_37 RR_38 NB_39 [(.int (0 : Int32)), (.int (0 : Int32)), (.int (0 : Int32)), (.int (0 : Int32)), (.int (0 : Int32)), (.int (0 : Int32)), (.int (0 : Int32))] [(.int (0 : Int32)), (.int (1 : Int32)), (.int (1 : Int32)), (.int (0 : Int32)), (.int (0 : Int32)), (.int (0 : Int32)), (.int (0 : Int32))] [(.int (0 : Int32)), (.int i2), (.int i3), (.int (0 : Int32)), (.int (0 : Int32)), (.int (0 : Int32)), (.int (0 : Int32))] [(.int (1 : Int32)), (.int (2 : Int32)), (.int (0 : Int32)), (.int (0 : Int32))] [(.int (0 : Int32)), (.int (0 : Int32)), (.int (0 : Int32)), (.int (2 : Int32)), (.int (0 : Int32)), (.int (0 : Int32)), (.int (0 : Int32))] [(.int (0 : Int32)), (.int (1 : Int32)), (.int (1 : Int32)), (.int (2 : Int32)), (.int (0 : Int32)), (.int (0 : Int32)), (.int (0 : Int32))] [(.int (0 : Int32)), (.int i2), (.int i3), (.int i4), (.int (0 : Int32)), (.int (0 : Int32)), (.int (0 : Int32))] [(.int (1 : Int32)), (.int (3 : Int32)), (.int (0 : Int32)), (.int (0 : Int32))] (4 : Int32) h_137 X.ext E_140 F_141 F_142 F_143 F_144 F_145 F_146 F_147 F_148 F_149 F_150 A_151 A_152 A_153 A_154 fr_19 fr_69 fr_72 fr_75 fr_78 P_61 P_62 P_63 P_64 P_65 P_66 (by decide) (by decide) (Nat.le_of_ble_eq_true rfl) (Nat.le_of_ble_eq_true rfl) (Nat.le_of_ble_eq_true rfl) (Nat.le_of_ble_eq_true rfl) rfl rfl rfl rfl (by decide)) E_140 (w_42 hw) (w_43 hw) (w_45 hw) (w_44 hw) (w_4 hw) (w_46 hw) rfl (by decide) rfl rfl pd_6 rfl rfl at_96 rfl (Nat.le_refl _) (by decide) (by decide) rfl rfl (by decide) (by decide) (fun v155 T h_156 X hQ157 => ?_)
      obtain ⟨rfl, Kc_158, E_159, F_160, F_161, F_162, F_163, F_164, F_165, F_166, F_167, F_168, F_169, A_170, A_171, A_172, A_173⟩ := hQ157
      show End Z p e below s _ _ _ _ (mkF m 99 #[.val (.int i0), .val (.int i1), .val (.int i2), .val (.int i3), .val (.int i4), .val (.int (1 : Int32)), .val (.int (0 : Int32)), .val (.int (1 : Int32)), .val (.ref o1), .val (.ref o13), .unset, .unset, .unset, .unset] [])
      refine E_aload (v := (.ref o13)) (pc' := 101) X at_99 rfl rfl rfl ?_
      refine E_aload (v := (.ref o1)) (pc' := 103) X at_101 rfl rfl rfl ?_
      have A_174 : Ar Z h_156 o1 .int [(.int (0 : Int32)), (.int (1 : Int32))] := ((((((A_34.keep Kc_40 (ninS ne_20 nin0)).keep Kc_82 (ninS ne_20 nin0)).keep Kc_101 (ninS ne_20 (ninS ne_67 (ninS ne_70 (ninS ne_73 (ninS ne_76 nin0)))))).keep Kc_120 (ninS ne_20 (ninS ne_67 (ninS ne_70 (ninS ne_73 (ninS ne_76 nin0)))))).keep Kc_139 (ninS ne_20 nin0)).keep Kc_158 (ninS ne_20 (ninS ne_67 (ninS ne_70 (ninS ne_73 (ninS ne_76 nin0))))))
      have E_178 : Exa Z h_156 P_36 "[I" := (((((E_60.keep Kc_82).keep Kc_101).keep Kc_120).keep Kc_139).keep Kc_158)
      have le_179 := X.le
      refine E_callV (a := o13) (pc' := 106) (W := 0) (cells' := 11) (slots' := 53) (argsL := [(.ref o1)]) (rest := []) X (rm_fin01 l Z a0 hw o13 o1 P_36 B_37 RR_38 NB_39 h_156 X.ext E_159 F_160 F_161 F_162 F_163 F_164 F_165 F_166 F_167 F_168 F_169 A_170 A_173 A_174 fr_19) E_159 (w_47 hw) (w_48 hw) (w_50 hw) (w_49 hw) (w_4 hw) (w_51 hw) rfl (by decide) rfl rfl pd_7 rfl rfl at_103 rfl (Nat.le_refl _) (by decide) (by decide) rfl rfl (by decide) (by decide) (fun v175 T h_176 X hQ177 => ?_)
      obtain ⟨lf_180, jp_181, hg_182, j0_183, j1_184, rfl, Kc_185, nw_186, nw_187, nw_188, nw_189, nw_190, E_191, F_192, F_193, F_194, F_195, F_196, F_197, A_198, A_199, A_200, A_201, A_202⟩ := hQ177
      have ne_203 : B_37 ≠ lf_180 := Nat.ne_of_lt (Nat.lt_of_lt_of_le A_171.lt nw_186)
      have ne_204 : NB_39 ≠ lf_180 := Nat.ne_of_lt (Nat.lt_of_lt_of_le A_173.lt nw_186)
      have ne_205 : P_36 ≠ lf_180 := Nat.ne_of_lt (Nat.lt_of_lt_of_le E_178.lt nw_186)
      have ne_206 : RR_38 ≠ lf_180 := Nat.ne_of_lt (Nat.lt_of_lt_of_le A_172.lt nw_186)
      have ne_207 : o1 ≠ lf_180 := Nat.ne_of_lt (Nat.lt_of_lt_of_le A_174.lt nw_186)
      have ne_208 : o13 ≠ lf_180 := Nat.ne_of_lt (Nat.lt_of_lt_of_le E_159.lt nw_186)
      have fr_209 : Z.heap.size ≤ lf_180 := Nat.le_trans le_179 nw_186
      have ne_210 : B_37 ≠ jp_181 := Nat.ne_of_lt (Nat.lt_of_lt_of_le A_171.lt nw_187)
      have ne_211 : NB_39 ≠ jp_181 := Nat.ne_of_lt (Nat.lt_of_lt_of_le A_173.lt nw_187)
      have ne_212 : P_36 ≠ jp_181 := Nat.ne_of_lt (Nat.lt_of_lt_of_le E_178.lt nw_187)
      have ne_213 : RR_38 ≠ jp_181 := Nat.ne_of_lt (Nat.lt_of_lt_of_le A_172.lt nw_187)
      have ne_214 : o1 ≠ jp_181 := Nat.ne_of_lt (Nat.lt_of_lt_of_le A_174.lt nw_187)
      have ne_215 : o13 ≠ jp_181 := Nat.ne_of_lt (Nat.lt_of_lt_of_le E_159.lt nw_187)
      have fr_216 : Z.heap.size ≤ jp_181 := Nat.le_trans le_179 nw_187
      have ne_217 : B_37 ≠ hg_182 := Nat.ne_of_lt (Nat.lt_of_lt_of_le A_171.lt nw_188)
      have ne_218 : NB_39 ≠ hg_182 := Nat.ne_of_lt (Nat.lt_of_lt_of_le A_173.lt nw_188)
      have ne_219 : P_36 ≠ hg_182 := Nat.ne_of_lt (Nat.lt_of_lt_of_le E_178.lt nw_188)
      have ne_220 : RR_38 ≠ hg_182 := Nat.ne_of_lt (Nat.lt_of_lt_of_le A_172.lt nw_188)
      have ne_221 : o1 ≠ hg_182 := Nat.ne_of_lt (Nat.lt_of_lt_of_le A_174.lt nw_188)
      have ne_222 : o13 ≠ hg_182 := Nat.ne_of_lt (Nat.lt_of_lt_of_le E_159.lt nw_188)
      have fr_223 : Z.heap.size ≤ hg_182 := Nat.le_trans le_179 nw_188
      have ne_224 : B_37 ≠ j0_183 := Nat.ne_of_lt (Nat.lt_of_lt_of_le A_171.lt nw_189)
      have ne_225 : NB_39 ≠ j0_183 := Nat.ne_of_lt (Nat.lt_of_lt_of_le A_173.lt nw_189)
      have ne_226 : P_36 ≠ j0_183 := Nat.ne_of_lt (Nat.lt_of_lt_of_le E_178.lt nw_189)
      have ne_227 : RR_38 ≠ j0_183 := Nat.ne_of_lt (Nat.lt_of_lt_of_le A_172.lt nw_189)
      have ne_228 : o1 ≠ j0_183 := Nat.ne_of_lt (Nat.lt_of_lt_of_le A_174.lt nw_189)
      have ne_229 : o13 ≠ j0_183 := Nat.ne_of_lt (Nat.lt_of_lt_of_le E_159.lt nw_189)
      have fr_230 : Z.heap.size ≤ j0_183 := Nat.le_trans le_179 nw_189
      have ne_231 : B_37 ≠ j1_184 := Nat.ne_of_lt (Nat.lt_of_lt_of_le A_171.lt nw_190)
      have ne_232 : NB_39 ≠ j1_184 := Nat.ne_of_lt (Nat.lt_of_lt_of_le A_173.lt nw_190)
      have ne_233 : P_36 ≠ j1_184 := Nat.ne_of_lt (Nat.lt_of_lt_of_le E_178.lt nw_190)
      have ne_234 : RR_38 ≠ j1_184 := Nat.ne_of_lt (Nat.lt_of_lt_of_le A_172.lt nw_190)
      have ne_235 : o1 ≠ j1_184 := Nat.ne_of_lt (Nat.lt_of_lt_of_le A_174.lt nw_190)
      have ne_236 : o13 ≠ j1_184 := Nat.ne_of_lt (Nat.lt_of_lt_of_le E_159.lt nw_190)
      have fr_237 : Z.heap.size ≤ j1_184 := Nat.le_trans le_179 nw_190
      show End Z p e below s _ _ _ _ (mkF m 106 #[.val (.int i0), .val (.int i1), .val (.int i2), .val (.int i3), .val (.int i4), .val (.int (1 : Int32)), .val (.int (0 : Int32)), .val (.int (1 : Int32)), .val (.ref o1), .val (.ref o13), .unset, .unset, .unset, .unset] [])
      refine E_aload (v := (.ref o13)) (pc' := 108) X at_106 rfl rfl rfl ?_
      refine E_iconst (v := (0 : Int32)) (pc' := 109) X at_108 rfl rfl ?_
      refine E_callV (a := o13) (pc' := 112) (W := 0) (cells' := 11) (slots' := 53) (argsL := [(.int (0 : Int32))]) (rest := []) X (rm12 l Z a0 hw o13 (0 : Int32) lf_180 [(.int (1 : Int32)), (.int (3 : Int32))] (1 : Int32) h_176 X.ext F_192 A_198 (by decide) rfl) E_191 (w_77 hw) (w_78 hw) (w_80 hw) (w_79 hw) (w_4 hw) (w_81 hw) rfl (by decide) rfl rfl pd_2 rfl rfl at_109 rfl (Nat.le_refl _) (by decide) (by decide) rfl rfl (by decide) (by decide) (fun v238 T h_239 X hQ240 => ?_)
      obtain ⟨rfl, rfl⟩ := hQ240
      show End Z p e below s _ _ _ _ (mkF m 112 #[.val (.int i0), .val (.int i1), .val (.int i2), .val (.int i3), .val (.int i4), .val (.int (1 : Int32)), .val (.int (0 : Int32)), .val (.int (1 : Int32)), .val (.ref o1), .val (.ref o13), .unset, .unset, .unset, .unset] [(.int (1 : Int32))])
      refine E_istore (Ls' := #[.val (.int i0), .val (.int i1), .val (.int i2), .val (.int i3), .val (.int i4), .val (.int (1 : Int32)), .val (.int (0 : Int32)), .val (.int (1 : Int32)), .val (.ref o1), .val (.ref o13), .val (.int (1 : Int32)), .unset, .unset, .unset]) (pc' := 114) X at_112 rfl rfl ?_
      refine E_aload (v := (.ref o13)) (pc' := 116) X at_114 rfl rfl rfl ?_
      refine E_iconst (v := (1 : Int32)) (pc' := 117) X at_116 rfl rfl ?_
      refine E_callV (a := o13) (pc' := 120) (W := 0) (cells' := 11) (slots' := 53) (argsL := [(.int (1 : Int32))]) (rest := []) X (rm12 l Z a0 hw o13 (1 : Int32) lf_180 [(.int (1 : Int32)), (.int (3 : Int32))] (3 : Int32) h_176 X.ext F_192 A_198 (by decide) rfl) E_191 (w_77 hw) (w_78 hw) (w_80 hw) (w_79 hw) (w_4 hw) (w_81 hw) rfl (by decide) rfl rfl pd_2 rfl rfl at_117 rfl (Nat.le_refl _) (by decide) (by decide) rfl rfl (by decide) (by decide) (fun v242 T h_243 X hQ244 => ?_)
      obtain ⟨rfl, rfl⟩ := hQ244
      show End Z p e below s _ _ _ _ (mkF m 120 #[.val (.int i0), .val (.int i1), .val (.int i2), .val (.int i3), .val (.int i4), .val (.int (1 : Int32)), .val (.int (0 : Int32)), .val (.int (1 : Int32)), .val (.ref o1), .val (.ref o13), .val (.int (1 : Int32)), .unset, .unset, .unset] [(.int (3 : Int32))])
      refine E_istore (Ls' := #[.val (.int i0), .val (.int i1), .val (.int i2), .val (.int i3), .val (.int i4), .val (.int (1 : Int32)), .val (.int (0 : Int32)), .val (.int (1 : Int32)), .val (.ref o1), .val (.ref o13), .val (.int (1 : Int32)), .val (.int (3 : Int32)), .unset, .unset]) (pc' := 122) X at_120 rfl rfl ?_
      refine E_iload (pc' := 124) X at_122 rfl rfl ?_
      refine E_iload (pc' := 126) X at_124 rfl rfl ?_
      refine E_if (pcY := 133) (pcN := 129) X (i0_eq _) at_126 (by decide) rfl rfl (fun hc126_0 => ?_) (fun hc126_0 => absurd (by decide) hc126_0)
      refine E_iconst (v := (1 : Int32)) (pc' := 134) X at_133 rfl rfl ?_
      refine E_icmp (pcY := 156) (pcN := 137) X (ic_ne _ _) at_134 (by decide) rfl rfl (fun hc134_0 => absurd hc134_0 (by decide)) (fun hc134_0 => ?_)
      refine E_iload (pc' := 139) X at_137 rfl rfl ?_
      refine E_iload (pc' := 141) X at_139 rfl rfl ?_
      refine E_if (pcY := 148) (pcN := 144) X (i0_eq _) at_141 (by decide) rfl rfl (fun hc141_0 => ?_) (fun hc141_0 => absurd (by decide) hc141_0)
      refine E_iconst (v := (3 : Int32)) (pc' := 149) X at_148 rfl rfl ?_
      refine E_icmp (pcY := 156) (pcN := 152) X (ic_ne _ _) at_149 (by decide) rfl rfl (fun hc149_0 => absurd hc149_0 (by decide)) (fun hc149_0 => ?_)
      refine E_iconst (v := (1 : Int32)) (pc' := 153) X at_152 rfl rfl ?_
      refine E_goto (pc' := 157) X at_153 (by decide) rfl ?_
      refine E_istore (Ls' := #[.val (.int i0), .val (.int i1), .val (.int i2), .val (.int i3), .val (.int i4), .val (.int (1 : Int32)), .val (.int (0 : Int32)), .val (.int (1 : Int32)), .val (.ref o1), .val (.ref o13), .val (.int (1 : Int32)), .val (.int (3 : Int32)), .val (.int (1 : Int32)), .unset]) (pc' := 159) X at_157 rfl rfl ?_
      refine E_iload (pc' := 161) X at_159 rfl rfl ?_
      refine E_if (pcY := 188) (pcN := 164) X (i0_eq _) at_161 (by decide) rfl rfl (fun hc161_0 => absurd hc161_0 (by decide)) (fun hc161_0 => ?_)
      refine E_aload (v := (.ref o13)) (pc' := 166) X at_164 rfl rfl rfl ?_
      refine E_iconst (v := (1 : Int32)) (pc' := 167) X at_166 rfl rfl ?_
      have A_246 : Ar Z h_176 B_37 .int [(.int (0 : Int32)), (.int (1 : Int32)), (.int (1 : Int32)), (.int (2 : Int32)), (.int (0 : Int32)), (.int (0 : Int32)), (.int (0 : Int32))] := (A_171.keep Kc_185 (ninS (Ne.symm ne_71) nin0))
      refine E_callV (a := o13) (pc' := 170) (W := 0) (cells' := 11) (slots' := 53) (argsL := [(.int (1 : Int32))]) (rest := []) X (rm13 l Z a0 hw o13 (1 : Int32) B_37 [(.int (0 : Int32)), (.int (1 : Int32)), (.int (1 : Int32)), (.int (2 : Int32)), (.int (0 : Int32)), (.int (0 : Int32)), (.int (0 : Int32))] (1 : Int32) h_176 X.ext F_196 A_246 (by decide) rfl) E_191 (w_82 hw) (w_83 hw) (w_85 hw) (w_84 hw) (w_4 hw) (w_86 hw) rfl (by decide) rfl rfl pd_2 rfl rfl at_167 rfl (Nat.le_refl _) (by decide) (by decide) rfl rfl (by decide) (by decide) (fun v247 T h_248 X hQ249 => ?_)
      obtain ⟨rfl, rfl⟩ := hQ249
      show End Z p e below s _ _ _ _ (mkF m 170 #[.val (.int i0), .val (.int i1), .val (.int i2), .val (.int i3), .val (.int i4), .val (.int (1 : Int32)), .val (.int (0 : Int32)), .val (.int (1 : Int32)), .val (.ref o1), .val (.ref o13), .val (.int (1 : Int32)), .val (.int (3 : Int32)), .val (.int (1 : Int32)), .unset] [(.int (1 : Int32))])
      refine E_iconst (v := (1 : Int32)) (pc' := 171) X at_170 rfl rfl ?_
      refine E_icmp (pcY := 188) (pcN := 174) X (ic_ne _ _) at_171 (by decide) rfl rfl (fun hc171_0 => absurd hc171_0 (by decide)) (fun hc171_0 => ?_)
      refine E_aload (v := (.ref o13)) (pc' := 176) X at_174 rfl rfl rfl ?_
      refine E_iconst (v := (3 : Int32)) (pc' := 177) X at_176 rfl rfl ?_
      refine E_callV (a := o13) (pc' := 180) (W := 0) (cells' := 11) (slots' := 53) (argsL := [(.int (3 : Int32))]) (rest := []) X (rm13 l Z a0 hw o13 (3 : Int32) B_37 [(.int (0 : Int32)), (.int (1 : Int32)), (.int (1 : Int32)), (.int (2 : Int32)), (.int (0 : Int32)), (.int (0 : Int32)), (.int (0 : Int32))] (2 : Int32) h_176 X.ext F_196 A_246 (by decide) rfl) E_191 (w_82 hw) (w_83 hw) (w_85 hw) (w_84 hw) (w_4 hw) (w_86 hw) rfl (by decide) rfl rfl pd_2 rfl rfl at_177 rfl (Nat.le_refl _) (by decide) (by decide) rfl rfl (by decide) (by decide) (fun v251 T h_252 X hQ253 => ?_)
      obtain ⟨rfl, rfl⟩ := hQ253
      show End Z p e below s _ _ _ _ (mkF m 180 #[.val (.int i0), .val (.int i1), .val (.int i2), .val (.int i3), .val (.int i4), .val (.int (1 : Int32)), .val (.int (0 : Int32)), .val (.int (1 : Int32)), .val (.ref o1), .val (.ref o13), .val (.int (1 : Int32)), .val (.int (3 : Int32)), .val (.int (1 : Int32)), .unset] [(.int (2 : Int32))])
      refine E_iconst (v := (2 : Int32)) (pc' := 181) X at_180 rfl rfl ?_
      refine E_icmp (pcY := 188) (pcN := 184) X (ic_ne _ _) at_181 (by decide) rfl rfl (fun hc181_0 => absurd hc181_0 (by decide)) (fun hc181_0 => ?_)
      refine E_iconst (v := (1 : Int32)) (pc' := 185) X at_184 rfl rfl ?_
      refine E_goto (pc' := 189) X at_185 (by decide) rfl ?_
      refine E_istore (Ls' := #[.val (.int i0), .val (.int i1), .val (.int i2), .val (.int i3), .val (.int i4), .val (.int (1 : Int32)), .val (.int (0 : Int32)), .val (.int (1 : Int32)), .val (.ref o1), .val (.ref o13), .val (.int (1 : Int32)), .val (.int (3 : Int32)), .val (.int (1 : Int32)), .unset]) (pc' := 191) X at_189 rfl rfl ?_
      refine E_iload (pc' := 193) X at_191 rfl rfl ?_
      refine E_if (pcY := 231) (pcN := 196) X (i0_eq _) at_193 (by decide) rfl rfl (fun hc193_0 => absurd hc193_0 (by decide)) (fun hc193_0 => ?_)
      refine E_aload (v := (.ref o13)) (pc' := 198) X at_196 rfl rfl rfl ?_
      refine E_iconst (v := (1 : Int32)) (pc' := 199) X at_198 rfl rfl ?_
      have A_255 : Ar Z h_176 RR_38 .int [(.int (0 : Int32)), (.int i2), (.int i3), (.int i4), (.int (0 : Int32)), (.int (0 : Int32)), (.int (0 : Int32))] := (A_172.keep Kc_185 (ninS (Ne.symm ne_74) nin0))
      refine E_callV (a := o13) (pc' := 202) (W := 0) (cells' := 11) (slots' := 53) (argsL := [(.int (1 : Int32))]) (rest := []) X (rm14 l Z a0 hw o13 (1 : Int32) RR_38 [(.int (0 : Int32)), (.int i2), (.int i3), (.int i4), (.int (0 : Int32)), (.int (0 : Int32)), (.int (0 : Int32))] i2 h_176 X.ext F_197 A_255 (by decide) rfl) E_191 (w_87 hw) (w_88 hw) (w_90 hw) (w_89 hw) (w_4 hw) (w_91 hw) rfl (by decide) rfl rfl pd_2 rfl rfl at_199 rfl (Nat.le_refl _) (by decide) (by decide) rfl rfl (by decide) (by decide) (fun v256 T h_257 X hQ258 => ?_)
      obtain ⟨rfl, rfl⟩ := hQ258
      show End Z p e below s _ _ _ _ (mkF m 202 #[.val (.int i0), .val (.int i1), .val (.int i2), .val (.int i3), .val (.int i4), .val (.int (1 : Int32)), .val (.int (0 : Int32)), .val (.int (1 : Int32)), .val (.ref o1), .val (.ref o13), .val (.int (1 : Int32)), .val (.int (3 : Int32)), .val (.int (1 : Int32)), .unset] [(.int i2)])
      refine E_iloadN (pc' := 203) X at_202 rfl rfl ?_
      refine E_icmp (pcY := 231) (pcN := 206) X (ic_ne _ _) at_203 (by decide) rfl rfl (fun hc203_0 => absurd hc203_0 (fun q => q rfl)) (fun hc203_0 => ?_)
      refine E_aload (v := (.ref o13)) (pc' := 208) X at_206 rfl rfl rfl ?_
      refine E_iconst (v := (2 : Int32)) (pc' := 209) X at_208 rfl rfl ?_
      refine E_callV (a := o13) (pc' := 212) (W := 0) (cells' := 11) (slots' := 53) (argsL := [(.int (2 : Int32))]) (rest := []) X (rm14 l Z a0 hw o13 (2 : Int32) RR_38 [(.int (0 : Int32)), (.int i2), (.int i3), (.int i4), (.int (0 : Int32)), (.int (0 : Int32)), (.int (0 : Int32))] i3 h_176 X.ext F_197 A_255 (by decide) rfl) E_191 (w_87 hw) (w_88 hw) (w_90 hw) (w_89 hw) (w_4 hw) (w_91 hw) rfl (by decide) rfl rfl pd_2 rfl rfl at_209 rfl (Nat.le_refl _) (by decide) (by decide) rfl rfl (by decide) (by decide) (fun v260 T h_261 X hQ262 => ?_)
      obtain ⟨rfl, rfl⟩ := hQ262
      show End Z p e below s _ _ _ _ (mkF m 212 #[.val (.int i0), .val (.int i1), .val (.int i2), .val (.int i3), .val (.int i4), .val (.int (1 : Int32)), .val (.int (0 : Int32)), .val (.int (1 : Int32)), .val (.ref o1), .val (.ref o13), .val (.int (1 : Int32)), .val (.int (3 : Int32)), .val (.int (1 : Int32)), .unset] [(.int i3)])
      refine E_iloadN (pc' := 213) X at_212 rfl rfl ?_
      refine E_icmp (pcY := 231) (pcN := 216) X (ic_ne _ _) at_213 (by decide) rfl rfl (fun hc213_0 => absurd hc213_0 (fun q => q rfl)) (fun hc213_0 => ?_)
      refine E_aload (v := (.ref o13)) (pc' := 218) X at_216 rfl rfl rfl ?_
      refine E_iconst (v := (3 : Int32)) (pc' := 219) X at_218 rfl rfl ?_
      refine E_callV (a := o13) (pc' := 222) (W := 0) (cells' := 11) (slots' := 53) (argsL := [(.int (3 : Int32))]) (rest := []) X (rm14 l Z a0 hw o13 (3 : Int32) RR_38 [(.int (0 : Int32)), (.int i2), (.int i3), (.int i4), (.int (0 : Int32)), (.int (0 : Int32)), (.int (0 : Int32))] i4 h_176 X.ext F_197 A_255 (by decide) rfl) E_191 (w_87 hw) (w_88 hw) (w_90 hw) (w_89 hw) (w_4 hw) (w_91 hw) rfl (by decide) rfl rfl pd_2 rfl rfl at_219 rfl (Nat.le_refl _) (by decide) (by decide) rfl rfl (by decide) (by decide) (fun v264 T h_265 X hQ266 => ?_)
      obtain ⟨rfl, rfl⟩ := hQ266
      show End Z p e below s _ _ _ _ (mkF m 222 #[.val (.int i0), .val (.int i1), .val (.int i2), .val (.int i3), .val (.int i4), .val (.int (1 : Int32)), .val (.int (0 : Int32)), .val (.int (1 : Int32)), .val (.ref o1), .val (.ref o13), .val (.int (1 : Int32)), .val (.int (3 : Int32)), .val (.int (1 : Int32)), .unset] [(.int i4)])
      refine E_iload (pc' := 224) X at_222 rfl rfl ?_
      refine E_icmp (pcY := 231) (pcN := 227) X (ic_ne _ _) at_224 (by decide) rfl rfl (fun hc224_0 => absurd hc224_0 (fun q => q rfl)) (fun hc224_0 => ?_)
      refine E_iconst (v := (1 : Int32)) (pc' := 228) X at_227 rfl rfl ?_
      refine E_goto (pc' := 232) X at_228 (by decide) rfl ?_
      refine E_istore (Ls' := #[.val (.int i0), .val (.int i1), .val (.int i2), .val (.int i3), .val (.int i4), .val (.int (1 : Int32)), .val (.int (0 : Int32)), .val (.int (1 : Int32)), .val (.ref o1), .val (.ref o13), .val (.int (1 : Int32)), .val (.int (3 : Int32)), .val (.int (1 : Int32)), .unset]) (pc' := 234) X at_232 rfl rfl ?_
      refine E_iload (pc' := 236) X at_234 rfl rfl ?_
      refine E_if (pcY := 243) (pcN := 239) X (i0_eq _) at_236 (by decide) rfl rfl (fun hc236_0 => ?_) (fun hc236_0 => absurd (by decide) hc236_0)
      refine E_iconst (v := (1 : Int32)) (pc' := 244) X at_243 rfl rfl ?_
      refine E_istore (Ls' := #[.val (.int i0), .val (.int i1), .val (.int i2), .val (.int i3), .val (.int i4), .val (.int (1 : Int32)), .val (.int (0 : Int32)), .val (.int (1 : Int32)), .val (.ref o1), .val (.ref o13), .val (.int (1 : Int32)), .val (.int (3 : Int32)), .val (.int (1 : Int32)), .val (.int (1 : Int32))]) (pc' := 246) X at_244 rfl rfl ?_
      refine E_iload (pc' := 248) X at_246 rfl rfl ?_
      refine E_if (pcY := 276) (pcN := 251) X (i0_eq _) at_248 (by decide) rfl rfl (fun hc248_0 => absurd hc248_0 (by decide)) (fun hc248_0 => ?_)
      refine E_aload (v := (.ref o13)) (pc' := 253) X at_251 rfl rfl rfl ?_
      refine E_iload (pc' := 255) X at_253 rfl rfl ?_
      refine E_iconst (v := (2 : Int32)) (pc' := 256) X at_255 rfl rfl ?_
      have A_268 : Ar Z h_176 P_36 .int [(.int (0 : Int32)), (.int (0 : Int32)), (.int (0 : Int32)), (.int (2 : Int32)), (.int (0 : Int32)), (.int (0 : Int32)), (.int (0 : Int32))] := (A_170.keep Kc_185 (ninS (Ne.symm ne_68) nin0))
      refine E_callV (a := o13) (pc' := 259) (W := 0) (cells' := 11) (slots' := 53) (argsL := [(.int (1 : Int32)), (.int (2 : Int32))]) (rest := []) X (rm_bb0 l Z a0 hw o13 lf_180 jp_181 P_36 B_37 j0_183 j1_184 h_176 X.ext F_192 F_194 F_195 F_196 A_268 A_246 A_198 A_200 A_201 A_202) E_191 (w_92 hw) (w_93 hw) (w_95 hw) (w_94 hw) (w_4 hw) (w_96 hw) rfl (by decide) rfl rfl pd_1 rfl rfl at_256 rfl (Nat.le_refl _) (by decide) (by decide) rfl rfl (by decide) (by decide) (fun v269 T h_270 X hQ271 => ?_)
      obtain ⟨rfl, rfl⟩ := hQ271
      show End Z p e below s _ _ _ _ (mkF m 259 #[.val (.int i0), .val (.int i1), .val (.int i2), .val (.int i3), .val (.int i4), .val (.int (1 : Int32)), .val (.int (0 : Int32)), .val (.int (1 : Int32)), .val (.ref o1), .val (.ref o13), .val (.int (1 : Int32)), .val (.int (3 : Int32)), .val (.int (1 : Int32)), .val (.int (1 : Int32))] [(.int (2 : Int32))])
      refine E_iload (pc' := 261) X at_259 rfl rfl ?_
      refine E_if (pcY := 268) (pcN := 264) X (i0_eq _) at_261 (by decide) rfl rfl (fun hc261_0 => ?_) (fun hc261_0 => absurd (by decide) hc261_0)
      refine E_iconst (v := (2 : Int32)) (pc' := 269) X at_268 rfl rfl ?_
      refine E_icmp (pcY := 276) (pcN := 272) X (ic_ne _ _) at_269 (by decide) rfl rfl (fun hc269_0 => absurd hc269_0 (by decide)) (fun hc269_0 => ?_)
      refine E_iconst (v := (1 : Int32)) (pc' := 273) X at_272 rfl rfl ?_
      refine E_goto (pc' := 277) X at_273 (by decide) rfl ?_
      refine E_istore (Ls' := #[.val (.int i0), .val (.int i1), .val (.int i2), .val (.int i3), .val (.int i4), .val (.int (1 : Int32)), .val (.int (0 : Int32)), .val (.int (1 : Int32)), .val (.ref o1), .val (.ref o13), .val (.int (1 : Int32)), .val (.int (3 : Int32)), .val (.int (1 : Int32)), .val (.int (1 : Int32))]) (pc' := 279) X at_277 rfl rfl ?_
      refine E_iload (pc' := 281) X at_279 rfl rfl ?_
      refine E_if (pcY := 304) (pcN := 284) X (i0_eq _) at_281 (by decide) rfl rfl (fun hc281_0 => absurd hc281_0 (by decide)) (fun hc281_0 => ?_)
      refine E_aload (v := (.ref o13)) (pc' := 286) X at_284 rfl rfl rfl ?_
      refine E_iload (pc' := 288) X at_286 rfl rfl ?_
      refine E_iload (pc' := 290) X at_288 rfl rfl ?_
      refine E_callV (a := o13) (pc' := 293) (W := 0) (cells' := 11) (slots' := 53) (argsL := [(.int (1 : Int32)), (.int (3 : Int32))]) (rest := []) X (rm_ca0 l Z a0 hw o13 hg_182 jp_181 j0_183 j1_184 h_176 X.ext F_194 F_193 A_199 A_200 A_201 A_202) E_191 (w_97 hw) (w_98 hw) (w_100 hw) (w_99 hw) (w_4 hw) (w_101 hw) rfl (by decide) rfl rfl pd_4 rfl rfl at_290 rfl (Nat.le_refl _) (by decide) (by decide) rfl rfl (by decide) (by decide) (fun v273 T h_274 X hQ275 => ?_)
      obtain ⟨rfl, rfl⟩ := hQ275
      show End Z p e below s _ _ _ _ (mkF m 293 #[.val (.int i0), .val (.int i1), .val (.int i2), .val (.int i3), .val (.int i4), .val (.int (1 : Int32)), .val (.int (0 : Int32)), .val (.int (1 : Int32)), .val (.ref o1), .val (.ref o13), .val (.int (1 : Int32)), .val (.int (3 : Int32)), .val (.int (1 : Int32)), .val (.int (1 : Int32))] [(.long (4294967298 : Int64))])
      refine E_ldcJ (v := (4294967298 : Int64)) (pc' := 296) X (w_105 hw) at_293 rfl ?_
      refine E_lcmp (pc' := 297) X at_296 rfl ?_
      refine E_if (pcY := 304) (pcN := 300) X (il_ne _ _) at_297 (by decide) rfl rfl (fun hc297_0 => absurd hc297_0 (by decide)) (fun hc297_0 => ?_)
      refine E_iconst (v := (1 : Int32)) (pc' := 301) X at_300 rfl rfl ?_
      refine E_goto (pc' := 305) X at_301 (by decide) rfl ?_
      refine E_istore (Ls' := #[.val (.int i0), .val (.int i1), .val (.int i2), .val (.int i3), .val (.int i4), .val (.int (1 : Int32)), .val (.int (0 : Int32)), .val (.int (1 : Int32)), .val (.ref o1), .val (.ref o13), .val (.int (1 : Int32)), .val (.int (3 : Int32)), .val (.int (1 : Int32)), .val (.int (1 : Int32))]) (pc' := 307) X at_305 rfl rfl ?_
      refine E_iload (pc' := 309) X at_307 rfl rfl ?_
      exact E_retZ (Or.inr rfl) X at_309 (by decide) (by decide) rfl
    · skip
      refine E_aload (v := (.ref o13)) (pc' := 64) X at_62 rfl rfl rfl ?_
      refine E_iconst (v := (0 : Int32)) (pc' := 65) X at_64 rfl rfl ?_
      refine E_callV (a := o13) (pc' := 68) (W := 0) (cells' := 6) (slots' := 37) (argsL := [(.int (0 : Int32))]) (rest := []) X (rm6 l Z a0 hw o13 (0 : Int32) (1 : Int32) (0 : Int32) (0 : Int32) P_36 B_37 RR_38 NB_39 [(.int (0 : Int32)), (.int (0 : Int32)), (.int (0 : Int32)), (.int (0 : Int32))] (1 : Int32) (0 : Int32) h_32 X.ext E_45 F_46 F_47 F_48 F_49 F_50 F_51 F_52 F_53 F_54 F_55 A_59 fr_19 (by decide) rfl (by decide)) E_45 (w_33 hw) (w_34 hw) (w_36 hw) (w_35 hw) (w_4 hw) (w_37 hw) rfl (by decide) rfl rfl pd_5 rfl rfl at_65 rfl (Nat.le_refl _) (by decide) (by decide) rfl rfl (by decide) (by decide) (fun v277 T h_278 X hQ279 => ?_)
      obtain ⟨rfl, Kc_280, E_281, F_282, F_283, F_284, F_285, F_286, F_287, F_288, F_289, F_290, F_291⟩ := hQ279
      show End Z p e below s _ _ _ _ (mkF m 68 #[.val (.int i0), .val (.int i1), .val (.int i2), .val (.int i3), .val (.int i4), .val (.int (2 : Int32)), .val (.int (0 : Int32)), .val (.int (2 : Int32)), .val (.ref o1), .val (.ref o13), .unset, .unset, .unset, .unset] [])
      refine E_aload (v := (.ref o13)) (pc' := 70) X at_68 rfl rfl rfl ?_
      refine E_iconst (v := (0 : Int32)) (pc' := 71) X at_70 rfl rfl ?_
      refine E_iloadN (pc' := 72) X at_71 rfl rfl ?_
      have A_292 : Ar Z h_278 P_36 .int [(.int (0 : Int32)), (.int (0 : Int32)), (.int (0 : Int32)), (.int (0 : Int32)), (.int (0 : Int32)), (.int (0 : Int32)), (.int (0 : Int32))] := (A_56.keep Kc_280 (ninS (Ne.symm ne_68) nin0))
      have A_293 : Ar Z h_278 B_37 .int [(.int (0 : Int32)), (.int (0 : Int32)), (.int (0 : Int32)), (.int (0 : Int32)), (.int (0 : Int32)), (.int (0 : Int32)), (.int (0 : Int32))] := (A_57.keep Kc_280 (ninS (Ne.symm ne_71) nin0))
      have A_294 : Ar Z h_278 RR_38 .int [(.int (0 : Int32)), (.int (0 : Int32)), (.int (0 : Int32)), (.int (0 : Int32)), (.int (0 : Int32)), (.int (0 : Int32)), (.int (0 : Int32))] := (A_58.keep Kc_280 (ninS (Ne.symm ne_74) nin0))
      have A_295 : Ar Z h_278 NB_39 .int [(.int (0 : Int32)), (.int (0 : Int32)), (.int (0 : Int32)), (.int (0 : Int32))] := (A_59.keep Kc_280 (ninS (Ne.symm ne_77) nin0))
      refine E_callV (a := o13) (pc' := 75) (W := 0) (cells' := 6) (slots' := 37) (argsL := [(.int (0 : Int32)), (.int i2)]) (rest := []) X (rm7 l Z a0 hw o13 (0 : Int32) i2 (1 : Int32) (1 : Int32) (0 : Int32) P_36 B_37 RR_38 NB_39 [(.int (0 : Int32)), (.int (0 : Int32)), (.int (0 : Int32)), (.int (0 : Int32)), (.int (0 : Int32)), (.int (0 : Int32)), (.int (0 : Int32))] [(.int (0 : Int32)), (.int (0 : Int32)), (.int (0 : Int32)), (.int (0 : Int32)), (.int (0 : Int32)), (.int (0 : Int32)), (.int (0 : Int32))] [(.int (0 : Int32)), (.int (0 : Int32)), (.int (0 : Int32)), (.int (0 : Int32)), (.int (0 : Int32)), (.int (0 : Int32)), (.int (0 : Int32))] [(.int (0 : Int32)), (.int (0 : Int32)), (.int (0 : Int32)), (.int (0 : Int32))] [(.int (0 : Int32)), (.int (0 : Int32)), (.int (0 : Int32)), (.int (0 : Int32)), (.int (0 : Int32)), (.int (0 : Int32)), (.int (0 : Int32))] [(.int (0 : Int32)), (.int (1 : Int32)), (.int (0 : Int32)), (.int (0 : Int32)), (.int (0 : Int32)), (.int (0 : Int32)), (.int (0 : Int32))] [(.int (0 : Int32)), (.int i2), (.int (0 : Int32)), (.int (0 : Int32)), (.int (0 : Int32)), (.int (0 : Int32)), (.int (0 : Int32))] [(.int (1 : Int32)), (.int (0 : Int32)), (.int (0 : Int32)), (.int (0 : Int32))] (2 : Int32) h_278 X.ext E_281 F_282 F_283 F_284 F_285 F_286 F_287 F_288 F_289 F_290 F_291 A_292 A_293 A_294 A_295 fr_19 fr_69 fr_72 fr_75 fr_78 P_61 P_62 P_63 P_64 P_65 P_66 (by decide) (by decide) (Nat.le_of_ble_eq_true rfl) (Nat.le_of_ble_eq_true rfl) (Nat.le_of_ble_eq_true rfl) (Nat.le_of_ble_eq_true rfl) rfl rfl rfl rfl (by decide)) E_281 (w_42 hw) (w_43 hw) (w_45 hw) (w_44 hw) (w_4 hw) (w_46 hw) rfl (by decide) rfl rfl pd_6 rfl rfl at_72 rfl (Nat.le_refl _) (by decide) (by decide) rfl rfl (by decide) (by decide) (fun v296 T h_297 X hQ298 => ?_)
      obtain ⟨rfl, Kc_299, E_300, F_301, F_302, F_303, F_304, F_305, F_306, F_307, F_308, F_309, F_310, A_311, A_312, A_313, A_314⟩ := hQ298
      show End Z p e below s _ _ _ _ (mkF m 75 #[.val (.int i0), .val (.int i1), .val (.int i2), .val (.int i3), .val (.int i4), .val (.int (2 : Int32)), .val (.int (0 : Int32)), .val (.int (2 : Int32)), .val (.ref o1), .val (.ref o13), .unset, .unset, .unset, .unset] [])
      refine E_aload (v := (.ref o13)) (pc' := 77) X at_75 rfl rfl rfl ?_
      refine E_iload (pc' := 79) X at_77 rfl rfl ?_
      refine E_iloadN (pc' := 80) X at_79 rfl rfl ?_
      refine E_callV (a := o13) (pc' := 83) (W := 0) (cells' := 6) (slots' := 37) (argsL := [(.int (2 : Int32)), (.int i3)]) (rest := []) X (rm7 l Z a0 hw o13 (2 : Int32) i3 (2 : Int32) (1 : Int32) (0 : Int32) P_36 B_37 RR_38 NB_39 [(.int (0 : Int32)), (.int (0 : Int32)), (.int (0 : Int32)), (.int (0 : Int32)), (.int (0 : Int32)), (.int (0 : Int32)), (.int (0 : Int32))] [(.int (0 : Int32)), (.int (1 : Int32)), (.int (0 : Int32)), (.int (0 : Int32)), (.int (0 : Int32)), (.int (0 : Int32)), (.int (0 : Int32))] [(.int (0 : Int32)), (.int i2), (.int (0 : Int32)), (.int (0 : Int32)), (.int (0 : Int32)), (.int (0 : Int32)), (.int (0 : Int32))] [(.int (1 : Int32)), (.int (0 : Int32)), (.int (0 : Int32)), (.int (0 : Int32))] [(.int (0 : Int32)), (.int (0 : Int32)), (.int (0 : Int32)), (.int (0 : Int32)), (.int (0 : Int32)), (.int (0 : Int32)), (.int (0 : Int32))] [(.int (0 : Int32)), (.int (1 : Int32)), (.int (1 : Int32)), (.int (0 : Int32)), (.int (0 : Int32)), (.int (0 : Int32)), (.int (0 : Int32))] [(.int (0 : Int32)), (.int i2), (.int i3), (.int (0 : Int32)), (.int (0 : Int32)), (.int (0 : Int32)), (.int (0 : Int32))] [(.int (1 : Int32)), (.int (0 : Int32)), (.int (2 : Int32)), (.int (0 : Int32))] (3 : Int32) h_297 X.ext E_300 F_301 F_302 F_303 F_304 F_305 F_306 F_307 F_308 F_309 F_310 A_311 A_312 A_313 A_314 fr_19 fr_69 fr_72 fr_75 fr_78 P_61 P_62 P_63 P_64 P_65 P_66 (by decide) (by decide) (Nat.le_of_ble_eq_true rfl) (Nat.le_of_ble_eq_true rfl) (Nat.le_of_ble_eq_true rfl) (Nat.le_of_ble_eq_true rfl) rfl rfl rfl rfl (by decide)) E_300 (w_42 hw) (w_43 hw) (w_45 hw) (w_44 hw) (w_4 hw) (w_46 hw) rfl (by decide) rfl rfl pd_6 rfl rfl at_80 rfl (Nat.le_refl _) (by decide) (by decide) rfl rfl (by decide) (by decide) (fun v315 T h_316 X hQ317 => ?_)
      obtain ⟨rfl, Kc_318, E_319, F_320, F_321, F_322, F_323, F_324, F_325, F_326, F_327, F_328, F_329, A_330, A_331, A_332, A_333⟩ := hQ317
      show End Z p e below s _ _ _ _ (mkF m 83 #[.val (.int i0), .val (.int i1), .val (.int i2), .val (.int i3), .val (.int i4), .val (.int (2 : Int32)), .val (.int (0 : Int32)), .val (.int (2 : Int32)), .val (.ref o1), .val (.ref o13), .unset, .unset, .unset, .unset] [])
      refine E_aload (v := (.ref o13)) (pc' := 85) X at_83 rfl rfl rfl ?_
      refine E_iload (pc' := 87) X at_85 rfl rfl ?_
      refine E_callV (a := o13) (pc' := 90) (W := 0) (cells' := 6) (slots' := 37) (argsL := [(.int (2 : Int32))]) (rest := []) X (rm6 l Z a0 hw o13 (2 : Int32) (3 : Int32) (1 : Int32) (0 : Int32) P_36 B_37 RR_38 NB_39 [(.int (1 : Int32)), (.int (0 : Int32)), (.int (2 : Int32)), (.int (0 : Int32))] (2 : Int32) (2 : Int32) h_316 X.ext E_319 F_320 F_321 F_322 F_323 F_324 F_325 F_326 F_327 F_328 F_329 A_333 fr_19 (by decide) rfl (by decide)) E_319 (w_33 hw) (w_34 hw) (w_36 hw) (w_35 hw) (w_4 hw) (w_37 hw) rfl (by decide) rfl rfl pd_5 rfl rfl at_87 rfl (Nat.le_refl _) (by decide) (by decide) rfl rfl (by decide) (by decide) (fun v334 T h_335 X hQ336 => ?_)
      obtain ⟨rfl, Kc_337, E_338, F_339, F_340, F_341, F_342, F_343, F_344, F_345, F_346, F_347, F_348⟩ := hQ336
      show End Z p e below s _ _ _ _ (mkF m 90 #[.val (.int i0), .val (.int i1), .val (.int i2), .val (.int i3), .val (.int i4), .val (.int (2 : Int32)), .val (.int (0 : Int32)), .val (.int (2 : Int32)), .val (.ref o1), .val (.ref o13), .unset, .unset, .unset, .unset] [])
      refine E_aload (v := (.ref o13)) (pc' := 92) X at_90 rfl rfl rfl ?_
      refine E_iload (pc' := 94) X at_92 rfl rfl ?_
      refine E_iload (pc' := 96) X at_94 rfl rfl ?_
      have A_349 : Ar Z h_335 P_36 .int [(.int (0 : Int32)), (.int (0 : Int32)), (.int (0 : Int32)), (.int (0 : Int32)), (.int (0 : Int32)), (.int (0 : Int32)), (.int (0 : Int32))] := (A_330.keep Kc_337 (ninS (Ne.symm ne_68) nin0))
      have A_350 : Ar Z h_335 B_37 .int [(.int (0 : Int32)), (.int (1 : Int32)), (.int (1 : Int32)), (.int (0 : Int32)), (.int (0 : Int32)), (.int (0 : Int32)), (.int (0 : Int32))] := (A_331.keep Kc_337 (ninS (Ne.symm ne_71) nin0))
      have A_351 : Ar Z h_335 RR_38 .int [(.int (0 : Int32)), (.int i2), (.int i3), (.int (0 : Int32)), (.int (0 : Int32)), (.int (0 : Int32)), (.int (0 : Int32))] := (A_332.keep Kc_337 (ninS (Ne.symm ne_74) nin0))
      have A_352 : Ar Z h_335 NB_39 .int [(.int (1 : Int32)), (.int (0 : Int32)), (.int (2 : Int32)), (.int (0 : Int32))] := (A_333.keep Kc_337 (ninS (Ne.symm ne_77) nin0))
      refine E_callV (a := o13) (pc' := 99) (W := 0) (cells' := 6) (slots' := 37) (argsL := [(.int (2 : Int32)), (.int i4)]) (rest := []) X (rm7 l Z a0 hw o13 (2 : Int32) i4 (3 : Int32) (2 : Int32) (2 : Int32) P_36 B_37 RR_38 NB_39 [(.int (0 : Int32)), (.int (0 : Int32)), (.int (0 : Int32)), (.int (0 : Int32)), (.int (0 : Int32)), (.int (0 : Int32)), (.int (0 : Int32))] [(.int (0 : Int32)), (.int (1 : Int32)), (.int (1 : Int32)), (.int (0 : Int32)), (.int (0 : Int32)), (.int (0 : Int32)), (.int (0 : Int32))] [(.int (0 : Int32)), (.int i2), (.int i3), (.int (0 : Int32)), (.int (0 : Int32)), (.int (0 : Int32)), (.int (0 : Int32))] [(.int (1 : Int32)), (.int (0 : Int32)), (.int (2 : Int32)), (.int (0 : Int32))] [(.int (0 : Int32)), (.int (0 : Int32)), (.int (0 : Int32)), (.int (2 : Int32)), (.int (0 : Int32)), (.int (0 : Int32)), (.int (0 : Int32))] [(.int (0 : Int32)), (.int (1 : Int32)), (.int (1 : Int32)), (.int (2 : Int32)), (.int (0 : Int32)), (.int (0 : Int32)), (.int (0 : Int32))] [(.int (0 : Int32)), (.int i2), (.int i3), (.int i4), (.int (0 : Int32)), (.int (0 : Int32)), (.int (0 : Int32))] [(.int (1 : Int32)), (.int (0 : Int32)), (.int (3 : Int32)), (.int (0 : Int32))] (4 : Int32) h_335 X.ext E_338 F_339 F_340 F_341 F_342 F_343 F_344 F_345 F_346 F_347 F_348 A_349 A_350 A_351 A_352 fr_19 fr_69 fr_72 fr_75 fr_78 P_61 P_62 P_63 P_64 P_65 P_66 (by decide) (by decide) (Nat.le_of_ble_eq_true rfl) (Nat.le_of_ble_eq_true rfl) (Nat.le_of_ble_eq_true rfl) (Nat.le_of_ble_eq_true rfl) rfl rfl rfl rfl (by decide)) E_338 (w_42 hw) (w_43 hw) (w_45 hw) (w_44 hw) (w_4 hw) (w_46 hw) rfl (by decide) rfl rfl pd_6 rfl rfl at_96 rfl (Nat.le_refl _) (by decide) (by decide) rfl rfl (by decide) (by decide) (fun v353 T h_354 X hQ355 => ?_)
      obtain ⟨rfl, Kc_356, E_357, F_358, F_359, F_360, F_361, F_362, F_363, F_364, F_365, F_366, F_367, A_368, A_369, A_370, A_371⟩ := hQ355
      show End Z p e below s _ _ _ _ (mkF m 99 #[.val (.int i0), .val (.int i1), .val (.int i2), .val (.int i3), .val (.int i4), .val (.int (2 : Int32)), .val (.int (0 : Int32)), .val (.int (2 : Int32)), .val (.ref o1), .val (.ref o13), .unset, .unset, .unset, .unset] [])
      refine E_aload (v := (.ref o13)) (pc' := 101) X at_99 rfl rfl rfl ?_
      refine E_aload (v := (.ref o1)) (pc' := 103) X at_101 rfl rfl rfl ?_
      have A_372 : Ar Z h_354 o1 .int [(.int (0 : Int32)), (.int (2 : Int32))] := ((((((A_34.keep Kc_40 (ninS ne_20 nin0)).keep Kc_280 (ninS ne_20 nin0)).keep Kc_299 (ninS ne_20 (ninS ne_67 (ninS ne_70 (ninS ne_73 (ninS ne_76 nin0)))))).keep Kc_318 (ninS ne_20 (ninS ne_67 (ninS ne_70 (ninS ne_73 (ninS ne_76 nin0)))))).keep Kc_337 (ninS ne_20 nin0)).keep Kc_356 (ninS ne_20 (ninS ne_67 (ninS ne_70 (ninS ne_73 (ninS ne_76 nin0))))))
      have E_376 : Exa Z h_354 P_36 "[I" := (((((E_60.keep Kc_280).keep Kc_299).keep Kc_318).keep Kc_337).keep Kc_356)
      have le_377 := X.le
      refine E_callV (a := o13) (pc' := 106) (W := 0) (cells' := 11) (slots' := 53) (argsL := [(.ref o1)]) (rest := []) X (rm_fin02 l Z a0 hw o13 o1 P_36 B_37 RR_38 NB_39 h_354 X.ext E_357 F_358 F_359 F_360 F_361 F_362 F_363 F_364 F_365 F_366 F_367 A_368 A_371 A_372 fr_19) E_357 (w_47 hw) (w_48 hw) (w_50 hw) (w_49 hw) (w_4 hw) (w_51 hw) rfl (by decide) rfl rfl pd_7 rfl rfl at_103 rfl (Nat.le_refl _) (by decide) (by decide) rfl rfl (by decide) (by decide) (fun v373 T h_374 X hQ375 => ?_)
      obtain ⟨lf_378, jp_379, hg_380, j0_381, j1_382, rfl, Kc_383, nw_384, nw_385, nw_386, nw_387, nw_388, E_389, F_390, F_391, F_392, F_393, F_394, F_395, A_396, A_397, A_398, A_399, A_400⟩ := hQ375
      have ne_401 : B_37 ≠ lf_378 := Nat.ne_of_lt (Nat.lt_of_lt_of_le A_369.lt nw_384)
      have ne_402 : NB_39 ≠ lf_378 := Nat.ne_of_lt (Nat.lt_of_lt_of_le A_371.lt nw_384)
      have ne_403 : P_36 ≠ lf_378 := Nat.ne_of_lt (Nat.lt_of_lt_of_le E_376.lt nw_384)
      have ne_404 : RR_38 ≠ lf_378 := Nat.ne_of_lt (Nat.lt_of_lt_of_le A_370.lt nw_384)
      have ne_405 : o1 ≠ lf_378 := Nat.ne_of_lt (Nat.lt_of_lt_of_le A_372.lt nw_384)
      have ne_406 : o13 ≠ lf_378 := Nat.ne_of_lt (Nat.lt_of_lt_of_le E_357.lt nw_384)
      have fr_407 : Z.heap.size ≤ lf_378 := Nat.le_trans le_377 nw_384
      have ne_408 : B_37 ≠ jp_379 := Nat.ne_of_lt (Nat.lt_of_lt_of_le A_369.lt nw_385)
      have ne_409 : NB_39 ≠ jp_379 := Nat.ne_of_lt (Nat.lt_of_lt_of_le A_371.lt nw_385)
      have ne_410 : P_36 ≠ jp_379 := Nat.ne_of_lt (Nat.lt_of_lt_of_le E_376.lt nw_385)
      have ne_411 : RR_38 ≠ jp_379 := Nat.ne_of_lt (Nat.lt_of_lt_of_le A_370.lt nw_385)
      have ne_412 : o1 ≠ jp_379 := Nat.ne_of_lt (Nat.lt_of_lt_of_le A_372.lt nw_385)
      have ne_413 : o13 ≠ jp_379 := Nat.ne_of_lt (Nat.lt_of_lt_of_le E_357.lt nw_385)
      have fr_414 : Z.heap.size ≤ jp_379 := Nat.le_trans le_377 nw_385
      have ne_415 : B_37 ≠ hg_380 := Nat.ne_of_lt (Nat.lt_of_lt_of_le A_369.lt nw_386)
      have ne_416 : NB_39 ≠ hg_380 := Nat.ne_of_lt (Nat.lt_of_lt_of_le A_371.lt nw_386)
      have ne_417 : P_36 ≠ hg_380 := Nat.ne_of_lt (Nat.lt_of_lt_of_le E_376.lt nw_386)
      have ne_418 : RR_38 ≠ hg_380 := Nat.ne_of_lt (Nat.lt_of_lt_of_le A_370.lt nw_386)
      have ne_419 : o1 ≠ hg_380 := Nat.ne_of_lt (Nat.lt_of_lt_of_le A_372.lt nw_386)
      have ne_420 : o13 ≠ hg_380 := Nat.ne_of_lt (Nat.lt_of_lt_of_le E_357.lt nw_386)
      have fr_421 : Z.heap.size ≤ hg_380 := Nat.le_trans le_377 nw_386
      have ne_422 : B_37 ≠ j0_381 := Nat.ne_of_lt (Nat.lt_of_lt_of_le A_369.lt nw_387)
      have ne_423 : NB_39 ≠ j0_381 := Nat.ne_of_lt (Nat.lt_of_lt_of_le A_371.lt nw_387)
      have ne_424 : P_36 ≠ j0_381 := Nat.ne_of_lt (Nat.lt_of_lt_of_le E_376.lt nw_387)
      have ne_425 : RR_38 ≠ j0_381 := Nat.ne_of_lt (Nat.lt_of_lt_of_le A_370.lt nw_387)
      have ne_426 : o1 ≠ j0_381 := Nat.ne_of_lt (Nat.lt_of_lt_of_le A_372.lt nw_387)
      have ne_427 : o13 ≠ j0_381 := Nat.ne_of_lt (Nat.lt_of_lt_of_le E_357.lt nw_387)
      have fr_428 : Z.heap.size ≤ j0_381 := Nat.le_trans le_377 nw_387
      have ne_429 : B_37 ≠ j1_382 := Nat.ne_of_lt (Nat.lt_of_lt_of_le A_369.lt nw_388)
      have ne_430 : NB_39 ≠ j1_382 := Nat.ne_of_lt (Nat.lt_of_lt_of_le A_371.lt nw_388)
      have ne_431 : P_36 ≠ j1_382 := Nat.ne_of_lt (Nat.lt_of_lt_of_le E_376.lt nw_388)
      have ne_432 : RR_38 ≠ j1_382 := Nat.ne_of_lt (Nat.lt_of_lt_of_le A_370.lt nw_388)
      have ne_433 : o1 ≠ j1_382 := Nat.ne_of_lt (Nat.lt_of_lt_of_le A_372.lt nw_388)
      have ne_434 : o13 ≠ j1_382 := Nat.ne_of_lt (Nat.lt_of_lt_of_le E_357.lt nw_388)
      have fr_435 : Z.heap.size ≤ j1_382 := Nat.le_trans le_377 nw_388
      show End Z p e below s _ _ _ _ (mkF m 106 #[.val (.int i0), .val (.int i1), .val (.int i2), .val (.int i3), .val (.int i4), .val (.int (2 : Int32)), .val (.int (0 : Int32)), .val (.int (2 : Int32)), .val (.ref o1), .val (.ref o13), .unset, .unset, .unset, .unset] [])
      refine E_aload (v := (.ref o13)) (pc' := 108) X at_106 rfl rfl rfl ?_
      refine E_iconst (v := (0 : Int32)) (pc' := 109) X at_108 rfl rfl ?_
      refine E_callV (a := o13) (pc' := 112) (W := 0) (cells' := 11) (slots' := 53) (argsL := [(.int (0 : Int32))]) (rest := []) X (rm12 l Z a0 hw o13 (0 : Int32) lf_378 [(.int (1 : Int32)), (.int (3 : Int32))] (1 : Int32) h_374 X.ext F_390 A_396 (by decide) rfl) E_389 (w_77 hw) (w_78 hw) (w_80 hw) (w_79 hw) (w_4 hw) (w_81 hw) rfl (by decide) rfl rfl pd_2 rfl rfl at_109 rfl (Nat.le_refl _) (by decide) (by decide) rfl rfl (by decide) (by decide) (fun v436 T h_437 X hQ438 => ?_)
      obtain ⟨rfl, rfl⟩ := hQ438
      show End Z p e below s _ _ _ _ (mkF m 112 #[.val (.int i0), .val (.int i1), .val (.int i2), .val (.int i3), .val (.int i4), .val (.int (2 : Int32)), .val (.int (0 : Int32)), .val (.int (2 : Int32)), .val (.ref o1), .val (.ref o13), .unset, .unset, .unset, .unset] [(.int (1 : Int32))])
      refine E_istore (Ls' := #[.val (.int i0), .val (.int i1), .val (.int i2), .val (.int i3), .val (.int i4), .val (.int (2 : Int32)), .val (.int (0 : Int32)), .val (.int (2 : Int32)), .val (.ref o1), .val (.ref o13), .val (.int (1 : Int32)), .unset, .unset, .unset]) (pc' := 114) X at_112 rfl rfl ?_
      refine E_aload (v := (.ref o13)) (pc' := 116) X at_114 rfl rfl rfl ?_
      refine E_iconst (v := (1 : Int32)) (pc' := 117) X at_116 rfl rfl ?_
      refine E_callV (a := o13) (pc' := 120) (W := 0) (cells' := 11) (slots' := 53) (argsL := [(.int (1 : Int32))]) (rest := []) X (rm12 l Z a0 hw o13 (1 : Int32) lf_378 [(.int (1 : Int32)), (.int (3 : Int32))] (3 : Int32) h_374 X.ext F_390 A_396 (by decide) rfl) E_389 (w_77 hw) (w_78 hw) (w_80 hw) (w_79 hw) (w_4 hw) (w_81 hw) rfl (by decide) rfl rfl pd_2 rfl rfl at_117 rfl (Nat.le_refl _) (by decide) (by decide) rfl rfl (by decide) (by decide) (fun v440 T h_441 X hQ442 => ?_)
      obtain ⟨rfl, rfl⟩ := hQ442
      show End Z p e below s _ _ _ _ (mkF m 120 #[.val (.int i0), .val (.int i1), .val (.int i2), .val (.int i3), .val (.int i4), .val (.int (2 : Int32)), .val (.int (0 : Int32)), .val (.int (2 : Int32)), .val (.ref o1), .val (.ref o13), .val (.int (1 : Int32)), .unset, .unset, .unset] [(.int (3 : Int32))])
      refine E_istore (Ls' := #[.val (.int i0), .val (.int i1), .val (.int i2), .val (.int i3), .val (.int i4), .val (.int (2 : Int32)), .val (.int (0 : Int32)), .val (.int (2 : Int32)), .val (.ref o1), .val (.ref o13), .val (.int (1 : Int32)), .val (.int (3 : Int32)), .unset, .unset]) (pc' := 122) X at_120 rfl rfl ?_
      refine E_iload (pc' := 124) X at_122 rfl rfl ?_
      refine E_iload (pc' := 126) X at_124 rfl rfl ?_
      refine E_if (pcY := 133) (pcN := 129) X (i0_eq _) at_126 (by decide) rfl rfl (fun hc126_0 => ?_) (fun hc126_0 => absurd (by decide) hc126_0)
      refine E_iconst (v := (1 : Int32)) (pc' := 134) X at_133 rfl rfl ?_
      refine E_icmp (pcY := 156) (pcN := 137) X (ic_ne _ _) at_134 (by decide) rfl rfl (fun hc134_0 => absurd hc134_0 (by decide)) (fun hc134_0 => ?_)
      refine E_iload (pc' := 139) X at_137 rfl rfl ?_
      refine E_iload (pc' := 141) X at_139 rfl rfl ?_
      refine E_if (pcY := 148) (pcN := 144) X (i0_eq _) at_141 (by decide) rfl rfl (fun hc141_0 => ?_) (fun hc141_0 => absurd (by decide) hc141_0)
      refine E_iconst (v := (3 : Int32)) (pc' := 149) X at_148 rfl rfl ?_
      refine E_icmp (pcY := 156) (pcN := 152) X (ic_ne _ _) at_149 (by decide) rfl rfl (fun hc149_0 => absurd hc149_0 (by decide)) (fun hc149_0 => ?_)
      refine E_iconst (v := (1 : Int32)) (pc' := 153) X at_152 rfl rfl ?_
      refine E_goto (pc' := 157) X at_153 (by decide) rfl ?_
      refine E_istore (Ls' := #[.val (.int i0), .val (.int i1), .val (.int i2), .val (.int i3), .val (.int i4), .val (.int (2 : Int32)), .val (.int (0 : Int32)), .val (.int (2 : Int32)), .val (.ref o1), .val (.ref o13), .val (.int (1 : Int32)), .val (.int (3 : Int32)), .val (.int (1 : Int32)), .unset]) (pc' := 159) X at_157 rfl rfl ?_
      refine E_iload (pc' := 161) X at_159 rfl rfl ?_
      refine E_if (pcY := 188) (pcN := 164) X (i0_eq _) at_161 (by decide) rfl rfl (fun hc161_0 => absurd hc161_0 (by decide)) (fun hc161_0 => ?_)
      refine E_aload (v := (.ref o13)) (pc' := 166) X at_164 rfl rfl rfl ?_
      refine E_iconst (v := (1 : Int32)) (pc' := 167) X at_166 rfl rfl ?_
      have A_444 : Ar Z h_374 B_37 .int [(.int (0 : Int32)), (.int (1 : Int32)), (.int (1 : Int32)), (.int (2 : Int32)), (.int (0 : Int32)), (.int (0 : Int32)), (.int (0 : Int32))] := (A_369.keep Kc_383 (ninS (Ne.symm ne_71) nin0))
      refine E_callV (a := o13) (pc' := 170) (W := 0) (cells' := 11) (slots' := 53) (argsL := [(.int (1 : Int32))]) (rest := []) X (rm13 l Z a0 hw o13 (1 : Int32) B_37 [(.int (0 : Int32)), (.int (1 : Int32)), (.int (1 : Int32)), (.int (2 : Int32)), (.int (0 : Int32)), (.int (0 : Int32)), (.int (0 : Int32))] (1 : Int32) h_374 X.ext F_394 A_444 (by decide) rfl) E_389 (w_82 hw) (w_83 hw) (w_85 hw) (w_84 hw) (w_4 hw) (w_86 hw) rfl (by decide) rfl rfl pd_2 rfl rfl at_167 rfl (Nat.le_refl _) (by decide) (by decide) rfl rfl (by decide) (by decide) (fun v445 T h_446 X hQ447 => ?_)
      obtain ⟨rfl, rfl⟩ := hQ447
      show End Z p e below s _ _ _ _ (mkF m 170 #[.val (.int i0), .val (.int i1), .val (.int i2), .val (.int i3), .val (.int i4), .val (.int (2 : Int32)), .val (.int (0 : Int32)), .val (.int (2 : Int32)), .val (.ref o1), .val (.ref o13), .val (.int (1 : Int32)), .val (.int (3 : Int32)), .val (.int (1 : Int32)), .unset] [(.int (1 : Int32))])
      refine E_iconst (v := (1 : Int32)) (pc' := 171) X at_170 rfl rfl ?_
      refine E_icmp (pcY := 188) (pcN := 174) X (ic_ne _ _) at_171 (by decide) rfl rfl (fun hc171_0 => absurd hc171_0 (by decide)) (fun hc171_0 => ?_)
      refine E_aload (v := (.ref o13)) (pc' := 176) X at_174 rfl rfl rfl ?_
      refine E_iconst (v := (3 : Int32)) (pc' := 177) X at_176 rfl rfl ?_
      refine E_callV (a := o13) (pc' := 180) (W := 0) (cells' := 11) (slots' := 53) (argsL := [(.int (3 : Int32))]) (rest := []) X (rm13 l Z a0 hw o13 (3 : Int32) B_37 [(.int (0 : Int32)), (.int (1 : Int32)), (.int (1 : Int32)), (.int (2 : Int32)), (.int (0 : Int32)), (.int (0 : Int32)), (.int (0 : Int32))] (2 : Int32) h_374 X.ext F_394 A_444 (by decide) rfl) E_389 (w_82 hw) (w_83 hw) (w_85 hw) (w_84 hw) (w_4 hw) (w_86 hw) rfl (by decide) rfl rfl pd_2 rfl rfl at_177 rfl (Nat.le_refl _) (by decide) (by decide) rfl rfl (by decide) (by decide) (fun v449 T h_450 X hQ451 => ?_)
      obtain ⟨rfl, rfl⟩ := hQ451
      show End Z p e below s _ _ _ _ (mkF m 180 #[.val (.int i0), .val (.int i1), .val (.int i2), .val (.int i3), .val (.int i4), .val (.int (2 : Int32)), .val (.int (0 : Int32)), .val (.int (2 : Int32)), .val (.ref o1), .val (.ref o13), .val (.int (1 : Int32)), .val (.int (3 : Int32)), .val (.int (1 : Int32)), .unset] [(.int (2 : Int32))])
      refine E_iconst (v := (2 : Int32)) (pc' := 181) X at_180 rfl rfl ?_
      refine E_icmp (pcY := 188) (pcN := 184) X (ic_ne _ _) at_181 (by decide) rfl rfl (fun hc181_0 => absurd hc181_0 (by decide)) (fun hc181_0 => ?_)
      refine E_iconst (v := (1 : Int32)) (pc' := 185) X at_184 rfl rfl ?_
      refine E_goto (pc' := 189) X at_185 (by decide) rfl ?_
      refine E_istore (Ls' := #[.val (.int i0), .val (.int i1), .val (.int i2), .val (.int i3), .val (.int i4), .val (.int (2 : Int32)), .val (.int (0 : Int32)), .val (.int (2 : Int32)), .val (.ref o1), .val (.ref o13), .val (.int (1 : Int32)), .val (.int (3 : Int32)), .val (.int (1 : Int32)), .unset]) (pc' := 191) X at_189 rfl rfl ?_
      refine E_iload (pc' := 193) X at_191 rfl rfl ?_
      refine E_if (pcY := 231) (pcN := 196) X (i0_eq _) at_193 (by decide) rfl rfl (fun hc193_0 => absurd hc193_0 (by decide)) (fun hc193_0 => ?_)
      refine E_aload (v := (.ref o13)) (pc' := 198) X at_196 rfl rfl rfl ?_
      refine E_iconst (v := (1 : Int32)) (pc' := 199) X at_198 rfl rfl ?_
      have A_453 : Ar Z h_374 RR_38 .int [(.int (0 : Int32)), (.int i2), (.int i3), (.int i4), (.int (0 : Int32)), (.int (0 : Int32)), (.int (0 : Int32))] := (A_370.keep Kc_383 (ninS (Ne.symm ne_74) nin0))
      refine E_callV (a := o13) (pc' := 202) (W := 0) (cells' := 11) (slots' := 53) (argsL := [(.int (1 : Int32))]) (rest := []) X (rm14 l Z a0 hw o13 (1 : Int32) RR_38 [(.int (0 : Int32)), (.int i2), (.int i3), (.int i4), (.int (0 : Int32)), (.int (0 : Int32)), (.int (0 : Int32))] i2 h_374 X.ext F_395 A_453 (by decide) rfl) E_389 (w_87 hw) (w_88 hw) (w_90 hw) (w_89 hw) (w_4 hw) (w_91 hw) rfl (by decide) rfl rfl pd_2 rfl rfl at_199 rfl (Nat.le_refl _) (by decide) (by decide) rfl rfl (by decide) (by decide) (fun v454 T h_455 X hQ456 => ?_)
      obtain ⟨rfl, rfl⟩ := hQ456
      show End Z p e below s _ _ _ _ (mkF m 202 #[.val (.int i0), .val (.int i1), .val (.int i2), .val (.int i3), .val (.int i4), .val (.int (2 : Int32)), .val (.int (0 : Int32)), .val (.int (2 : Int32)), .val (.ref o1), .val (.ref o13), .val (.int (1 : Int32)), .val (.int (3 : Int32)), .val (.int (1 : Int32)), .unset] [(.int i2)])
      refine E_iloadN (pc' := 203) X at_202 rfl rfl ?_
      refine E_icmp (pcY := 231) (pcN := 206) X (ic_ne _ _) at_203 (by decide) rfl rfl (fun hc203_0 => absurd hc203_0 (fun q => q rfl)) (fun hc203_0 => ?_)
      refine E_aload (v := (.ref o13)) (pc' := 208) X at_206 rfl rfl rfl ?_
      refine E_iconst (v := (2 : Int32)) (pc' := 209) X at_208 rfl rfl ?_
      refine E_callV (a := o13) (pc' := 212) (W := 0) (cells' := 11) (slots' := 53) (argsL := [(.int (2 : Int32))]) (rest := []) X (rm14 l Z a0 hw o13 (2 : Int32) RR_38 [(.int (0 : Int32)), (.int i2), (.int i3), (.int i4), (.int (0 : Int32)), (.int (0 : Int32)), (.int (0 : Int32))] i3 h_374 X.ext F_395 A_453 (by decide) rfl) E_389 (w_87 hw) (w_88 hw) (w_90 hw) (w_89 hw) (w_4 hw) (w_91 hw) rfl (by decide) rfl rfl pd_2 rfl rfl at_209 rfl (Nat.le_refl _) (by decide) (by decide) rfl rfl (by decide) (by decide) (fun v458 T h_459 X hQ460 => ?_)
      obtain ⟨rfl, rfl⟩ := hQ460
      show End Z p e below s _ _ _ _ (mkF m 212 #[.val (.int i0), .val (.int i1), .val (.int i2), .val (.int i3), .val (.int i4), .val (.int (2 : Int32)), .val (.int (0 : Int32)), .val (.int (2 : Int32)), .val (.ref o1), .val (.ref o13), .val (.int (1 : Int32)), .val (.int (3 : Int32)), .val (.int (1 : Int32)), .unset] [(.int i3)])
      refine E_iloadN (pc' := 213) X at_212 rfl rfl ?_
      refine E_icmp (pcY := 231) (pcN := 216) X (ic_ne _ _) at_213 (by decide) rfl rfl (fun hc213_0 => absurd hc213_0 (fun q => q rfl)) (fun hc213_0 => ?_)
      refine E_aload (v := (.ref o13)) (pc' := 218) X at_216 rfl rfl rfl ?_
      refine E_iconst (v := (3 : Int32)) (pc' := 219) X at_218 rfl rfl ?_
      refine E_callV (a := o13) (pc' := 222) (W := 0) (cells' := 11) (slots' := 53) (argsL := [(.int (3 : Int32))]) (rest := []) X (rm14 l Z a0 hw o13 (3 : Int32) RR_38 [(.int (0 : Int32)), (.int i2), (.int i3), (.int i4), (.int (0 : Int32)), (.int (0 : Int32)), (.int (0 : Int32))] i4 h_374 X.ext F_395 A_453 (by decide) rfl) E_389 (w_87 hw) (w_88 hw) (w_90 hw) (w_89 hw) (w_4 hw) (w_91 hw) rfl (by decide) rfl rfl pd_2 rfl rfl at_219 rfl (Nat.le_refl _) (by decide) (by decide) rfl rfl (by decide) (by decide) (fun v462 T h_463 X hQ464 => ?_)
      obtain ⟨rfl, rfl⟩ := hQ464
      show End Z p e below s _ _ _ _ (mkF m 222 #[.val (.int i0), .val (.int i1), .val (.int i2), .val (.int i3), .val (.int i4), .val (.int (2 : Int32)), .val (.int (0 : Int32)), .val (.int (2 : Int32)), .val (.ref o1), .val (.ref o13), .val (.int (1 : Int32)), .val (.int (3 : Int32)), .val (.int (1 : Int32)), .unset] [(.int i4)])
      refine E_iload (pc' := 224) X at_222 rfl rfl ?_
      refine E_icmp (pcY := 231) (pcN := 227) X (ic_ne _ _) at_224 (by decide) rfl rfl (fun hc224_0 => absurd hc224_0 (fun q => q rfl)) (fun hc224_0 => ?_)
      refine E_iconst (v := (1 : Int32)) (pc' := 228) X at_227 rfl rfl ?_
      refine E_goto (pc' := 232) X at_228 (by decide) rfl ?_
      refine E_istore (Ls' := #[.val (.int i0), .val (.int i1), .val (.int i2), .val (.int i3), .val (.int i4), .val (.int (2 : Int32)), .val (.int (0 : Int32)), .val (.int (2 : Int32)), .val (.ref o1), .val (.ref o13), .val (.int (1 : Int32)), .val (.int (3 : Int32)), .val (.int (1 : Int32)), .unset]) (pc' := 234) X at_232 rfl rfl ?_
      refine E_iload (pc' := 236) X at_234 rfl rfl ?_
      refine E_if (pcY := 243) (pcN := 239) X (i0_eq _) at_236 (by decide) rfl rfl (fun hc236_0 => ?_) (fun hc236_0 => absurd (by decide) hc236_0)
      refine E_iconst (v := (1 : Int32)) (pc' := 244) X at_243 rfl rfl ?_
      refine E_istore (Ls' := #[.val (.int i0), .val (.int i1), .val (.int i2), .val (.int i3), .val (.int i4), .val (.int (2 : Int32)), .val (.int (0 : Int32)), .val (.int (2 : Int32)), .val (.ref o1), .val (.ref o13), .val (.int (1 : Int32)), .val (.int (3 : Int32)), .val (.int (1 : Int32)), .val (.int (1 : Int32))]) (pc' := 246) X at_244 rfl rfl ?_
      refine E_iload (pc' := 248) X at_246 rfl rfl ?_
      refine E_if (pcY := 276) (pcN := 251) X (i0_eq _) at_248 (by decide) rfl rfl (fun hc248_0 => absurd hc248_0 (by decide)) (fun hc248_0 => ?_)
      refine E_aload (v := (.ref o13)) (pc' := 253) X at_251 rfl rfl rfl ?_
      refine E_iload (pc' := 255) X at_253 rfl rfl ?_
      refine E_iconst (v := (2 : Int32)) (pc' := 256) X at_255 rfl rfl ?_
      have A_466 : Ar Z h_374 P_36 .int [(.int (0 : Int32)), (.int (0 : Int32)), (.int (0 : Int32)), (.int (2 : Int32)), (.int (0 : Int32)), (.int (0 : Int32)), (.int (0 : Int32))] := (A_368.keep Kc_383 (ninS (Ne.symm ne_68) nin0))
      refine E_callV (a := o13) (pc' := 259) (W := 0) (cells' := 11) (slots' := 53) (argsL := [(.int (1 : Int32)), (.int (2 : Int32))]) (rest := []) X (rm_bb0 l Z a0 hw o13 lf_378 jp_379 P_36 B_37 j0_381 j1_382 h_374 X.ext F_390 F_392 F_393 F_394 A_466 A_444 A_396 A_398 A_399 A_400) E_389 (w_92 hw) (w_93 hw) (w_95 hw) (w_94 hw) (w_4 hw) (w_96 hw) rfl (by decide) rfl rfl pd_1 rfl rfl at_256 rfl (Nat.le_refl _) (by decide) (by decide) rfl rfl (by decide) (by decide) (fun v467 T h_468 X hQ469 => ?_)
      obtain ⟨rfl, rfl⟩ := hQ469
      show End Z p e below s _ _ _ _ (mkF m 259 #[.val (.int i0), .val (.int i1), .val (.int i2), .val (.int i3), .val (.int i4), .val (.int (2 : Int32)), .val (.int (0 : Int32)), .val (.int (2 : Int32)), .val (.ref o1), .val (.ref o13), .val (.int (1 : Int32)), .val (.int (3 : Int32)), .val (.int (1 : Int32)), .val (.int (1 : Int32))] [(.int (2 : Int32))])
      refine E_iload (pc' := 261) X at_259 rfl rfl ?_
      refine E_if (pcY := 268) (pcN := 264) X (i0_eq _) at_261 (by decide) rfl rfl (fun hc261_0 => ?_) (fun hc261_0 => absurd (by decide) hc261_0)
      refine E_iconst (v := (2 : Int32)) (pc' := 269) X at_268 rfl rfl ?_
      refine E_icmp (pcY := 276) (pcN := 272) X (ic_ne _ _) at_269 (by decide) rfl rfl (fun hc269_0 => absurd hc269_0 (by decide)) (fun hc269_0 => ?_)
      refine E_iconst (v := (1 : Int32)) (pc' := 273) X at_272 rfl rfl ?_
      refine E_goto (pc' := 277) X at_273 (by decide) rfl ?_
      refine E_istore (Ls' := #[.val (.int i0), .val (.int i1), .val (.int i2), .val (.int i3), .val (.int i4), .val (.int (2 : Int32)), .val (.int (0 : Int32)), .val (.int (2 : Int32)), .val (.ref o1), .val (.ref o13), .val (.int (1 : Int32)), .val (.int (3 : Int32)), .val (.int (1 : Int32)), .val (.int (1 : Int32))]) (pc' := 279) X at_277 rfl rfl ?_
      refine E_iload (pc' := 281) X at_279 rfl rfl ?_
      refine E_if (pcY := 304) (pcN := 284) X (i0_eq _) at_281 (by decide) rfl rfl (fun hc281_0 => absurd hc281_0 (by decide)) (fun hc281_0 => ?_)
      refine E_aload (v := (.ref o13)) (pc' := 286) X at_284 rfl rfl rfl ?_
      refine E_iload (pc' := 288) X at_286 rfl rfl ?_
      refine E_iload (pc' := 290) X at_288 rfl rfl ?_
      refine E_callV (a := o13) (pc' := 293) (W := 0) (cells' := 11) (slots' := 53) (argsL := [(.int (1 : Int32)), (.int (3 : Int32))]) (rest := []) X (rm_ca0 l Z a0 hw o13 hg_380 jp_379 j0_381 j1_382 h_374 X.ext F_392 F_391 A_397 A_398 A_399 A_400) E_389 (w_97 hw) (w_98 hw) (w_100 hw) (w_99 hw) (w_4 hw) (w_101 hw) rfl (by decide) rfl rfl pd_4 rfl rfl at_290 rfl (Nat.le_refl _) (by decide) (by decide) rfl rfl (by decide) (by decide) (fun v471 T h_472 X hQ473 => ?_)
      obtain ⟨rfl, rfl⟩ := hQ473
      show End Z p e below s _ _ _ _ (mkF m 293 #[.val (.int i0), .val (.int i1), .val (.int i2), .val (.int i3), .val (.int i4), .val (.int (2 : Int32)), .val (.int (0 : Int32)), .val (.int (2 : Int32)), .val (.ref o1), .val (.ref o13), .val (.int (1 : Int32)), .val (.int (3 : Int32)), .val (.int (1 : Int32)), .val (.int (1 : Int32))] [(.long (4294967298 : Int64))])
      refine E_ldcJ (v := (4294967298 : Int64)) (pc' := 296) X (w_105 hw) at_293 rfl ?_
      refine E_lcmp (pc' := 297) X at_296 rfl ?_
      refine E_if (pcY := 304) (pcN := 300) X (il_ne _ _) at_297 (by decide) rfl rfl (fun hc297_0 => absurd hc297_0 (by decide)) (fun hc297_0 => ?_)
      refine E_iconst (v := (1 : Int32)) (pc' := 301) X at_300 rfl rfl ?_
      refine E_goto (pc' := 305) X at_301 (by decide) rfl ?_
      refine E_istore (Ls' := #[.val (.int i0), .val (.int i1), .val (.int i2), .val (.int i3), .val (.int i4), .val (.int (2 : Int32)), .val (.int (0 : Int32)), .val (.int (2 : Int32)), .val (.ref o1), .val (.ref o13), .val (.int (1 : Int32)), .val (.int (3 : Int32)), .val (.int (1 : Int32)), .val (.int (1 : Int32))]) (pc' := 307) X at_305 rfl rfl ?_
      refine E_iload (pc' := 309) X at_307 rfl rfl ?_
      exact E_retZ (Or.inr rfl) X at_309 (by decide) (by decide) rfl
    · skip
      refine E_aload (v := (.ref o13)) (pc' := 64) X at_62 rfl rfl rfl ?_
      refine E_iconst (v := (0 : Int32)) (pc' := 65) X at_64 rfl rfl ?_
      refine E_callV (a := o13) (pc' := 68) (W := 0) (cells' := 6) (slots' := 37) (argsL := [(.int (0 : Int32))]) (rest := []) X (rm6 l Z a0 hw o13 (0 : Int32) (1 : Int32) (0 : Int32) (0 : Int32) P_36 B_37 RR_38 NB_39 [(.int (0 : Int32)), (.int (0 : Int32)), (.int (0 : Int32)), (.int (0 : Int32))] (1 : Int32) (0 : Int32) h_32 X.ext E_45 F_46 F_47 F_48 F_49 F_50 F_51 F_52 F_53 F_54 F_55 A_59 fr_19 (by decide) rfl (by decide)) E_45 (w_33 hw) (w_34 hw) (w_36 hw) (w_35 hw) (w_4 hw) (w_37 hw) rfl (by decide) rfl rfl pd_5 rfl rfl at_65 rfl (Nat.le_refl _) (by decide) (by decide) rfl rfl (by decide) (by decide) (fun v475 T h_476 X hQ477 => ?_)
      obtain ⟨rfl, Kc_478, E_479, F_480, F_481, F_482, F_483, F_484, F_485, F_486, F_487, F_488, F_489⟩ := hQ477
      show End Z p e below s _ _ _ _ (mkF m 68 #[.val (.int i0), .val (.int i1), .val (.int i2), .val (.int i3), .val (.int i4), .val (.int (3 : Int32)), .val (.int (0 : Int32)), .val (.int (3 : Int32)), .val (.ref o1), .val (.ref o13), .unset, .unset, .unset, .unset] [])
      refine E_aload (v := (.ref o13)) (pc' := 70) X at_68 rfl rfl rfl ?_
      refine E_iconst (v := (0 : Int32)) (pc' := 71) X at_70 rfl rfl ?_
      refine E_iloadN (pc' := 72) X at_71 rfl rfl ?_
      have A_490 : Ar Z h_476 P_36 .int [(.int (0 : Int32)), (.int (0 : Int32)), (.int (0 : Int32)), (.int (0 : Int32)), (.int (0 : Int32)), (.int (0 : Int32)), (.int (0 : Int32))] := (A_56.keep Kc_478 (ninS (Ne.symm ne_68) nin0))
      have A_491 : Ar Z h_476 B_37 .int [(.int (0 : Int32)), (.int (0 : Int32)), (.int (0 : Int32)), (.int (0 : Int32)), (.int (0 : Int32)), (.int (0 : Int32)), (.int (0 : Int32))] := (A_57.keep Kc_478 (ninS (Ne.symm ne_71) nin0))
      have A_492 : Ar Z h_476 RR_38 .int [(.int (0 : Int32)), (.int (0 : Int32)), (.int (0 : Int32)), (.int (0 : Int32)), (.int (0 : Int32)), (.int (0 : Int32)), (.int (0 : Int32))] := (A_58.keep Kc_478 (ninS (Ne.symm ne_74) nin0))
      have A_493 : Ar Z h_476 NB_39 .int [(.int (0 : Int32)), (.int (0 : Int32)), (.int (0 : Int32)), (.int (0 : Int32))] := (A_59.keep Kc_478 (ninS (Ne.symm ne_77) nin0))
      refine E_callV (a := o13) (pc' := 75) (W := 0) (cells' := 6) (slots' := 37) (argsL := [(.int (0 : Int32)), (.int i2)]) (rest := []) X (rm7 l Z a0 hw o13 (0 : Int32) i2 (1 : Int32) (1 : Int32) (0 : Int32) P_36 B_37 RR_38 NB_39 [(.int (0 : Int32)), (.int (0 : Int32)), (.int (0 : Int32)), (.int (0 : Int32)), (.int (0 : Int32)), (.int (0 : Int32)), (.int (0 : Int32))] [(.int (0 : Int32)), (.int (0 : Int32)), (.int (0 : Int32)), (.int (0 : Int32)), (.int (0 : Int32)), (.int (0 : Int32)), (.int (0 : Int32))] [(.int (0 : Int32)), (.int (0 : Int32)), (.int (0 : Int32)), (.int (0 : Int32)), (.int (0 : Int32)), (.int (0 : Int32)), (.int (0 : Int32))] [(.int (0 : Int32)), (.int (0 : Int32)), (.int (0 : Int32)), (.int (0 : Int32))] [(.int (0 : Int32)), (.int (0 : Int32)), (.int (0 : Int32)), (.int (0 : Int32)), (.int (0 : Int32)), (.int (0 : Int32)), (.int (0 : Int32))] [(.int (0 : Int32)), (.int (1 : Int32)), (.int (0 : Int32)), (.int (0 : Int32)), (.int (0 : Int32)), (.int (0 : Int32)), (.int (0 : Int32))] [(.int (0 : Int32)), (.int i2), (.int (0 : Int32)), (.int (0 : Int32)), (.int (0 : Int32)), (.int (0 : Int32)), (.int (0 : Int32))] [(.int (1 : Int32)), (.int (0 : Int32)), (.int (0 : Int32)), (.int (0 : Int32))] (2 : Int32) h_476 X.ext E_479 F_480 F_481 F_482 F_483 F_484 F_485 F_486 F_487 F_488 F_489 A_490 A_491 A_492 A_493 fr_19 fr_69 fr_72 fr_75 fr_78 P_61 P_62 P_63 P_64 P_65 P_66 (by decide) (by decide) (Nat.le_of_ble_eq_true rfl) (Nat.le_of_ble_eq_true rfl) (Nat.le_of_ble_eq_true rfl) (Nat.le_of_ble_eq_true rfl) rfl rfl rfl rfl (by decide)) E_479 (w_42 hw) (w_43 hw) (w_45 hw) (w_44 hw) (w_4 hw) (w_46 hw) rfl (by decide) rfl rfl pd_6 rfl rfl at_72 rfl (Nat.le_refl _) (by decide) (by decide) rfl rfl (by decide) (by decide) (fun v494 T h_495 X hQ496 => ?_)
      obtain ⟨rfl, Kc_497, E_498, F_499, F_500, F_501, F_502, F_503, F_504, F_505, F_506, F_507, F_508, A_509, A_510, A_511, A_512⟩ := hQ496
      show End Z p e below s _ _ _ _ (mkF m 75 #[.val (.int i0), .val (.int i1), .val (.int i2), .val (.int i3), .val (.int i4), .val (.int (3 : Int32)), .val (.int (0 : Int32)), .val (.int (3 : Int32)), .val (.ref o1), .val (.ref o13), .unset, .unset, .unset, .unset] [])
      refine E_aload (v := (.ref o13)) (pc' := 77) X at_75 rfl rfl rfl ?_
      refine E_iload (pc' := 79) X at_77 rfl rfl ?_
      refine E_iloadN (pc' := 80) X at_79 rfl rfl ?_
      refine E_callV (a := o13) (pc' := 83) (W := 0) (cells' := 6) (slots' := 37) (argsL := [(.int (3 : Int32)), (.int i3)]) (rest := []) X (rm7 l Z a0 hw o13 (3 : Int32) i3 (2 : Int32) (1 : Int32) (0 : Int32) P_36 B_37 RR_38 NB_39 [(.int (0 : Int32)), (.int (0 : Int32)), (.int (0 : Int32)), (.int (0 : Int32)), (.int (0 : Int32)), (.int (0 : Int32)), (.int (0 : Int32))] [(.int (0 : Int32)), (.int (1 : Int32)), (.int (0 : Int32)), (.int (0 : Int32)), (.int (0 : Int32)), (.int (0 : Int32)), (.int (0 : Int32))] [(.int (0 : Int32)), (.int i2), (.int (0 : Int32)), (.int (0 : Int32)), (.int (0 : Int32)), (.int (0 : Int32)), (.int (0 : Int32))] [(.int (1 : Int32)), (.int (0 : Int32)), (.int (0 : Int32)), (.int (0 : Int32))] [(.int (0 : Int32)), (.int (0 : Int32)), (.int (0 : Int32)), (.int (0 : Int32)), (.int (0 : Int32)), (.int (0 : Int32)), (.int (0 : Int32))] [(.int (0 : Int32)), (.int (1 : Int32)), (.int (1 : Int32)), (.int (0 : Int32)), (.int (0 : Int32)), (.int (0 : Int32)), (.int (0 : Int32))] [(.int (0 : Int32)), (.int i2), (.int i3), (.int (0 : Int32)), (.int (0 : Int32)), (.int (0 : Int32)), (.int (0 : Int32))] [(.int (1 : Int32)), (.int (0 : Int32)), (.int (0 : Int32)), (.int (2 : Int32))] (3 : Int32) h_495 X.ext E_498 F_499 F_500 F_501 F_502 F_503 F_504 F_505 F_506 F_507 F_508 A_509 A_510 A_511 A_512 fr_19 fr_69 fr_72 fr_75 fr_78 P_61 P_62 P_63 P_64 P_65 P_66 (by decide) (by decide) (Nat.le_of_ble_eq_true rfl) (Nat.le_of_ble_eq_true rfl) (Nat.le_of_ble_eq_true rfl) (Nat.le_of_ble_eq_true rfl) rfl rfl rfl rfl (by decide)) E_498 (w_42 hw) (w_43 hw) (w_45 hw) (w_44 hw) (w_4 hw) (w_46 hw) rfl (by decide) rfl rfl pd_6 rfl rfl at_80 rfl (Nat.le_refl _) (by decide) (by decide) rfl rfl (by decide) (by decide) (fun v513 T h_514 X hQ515 => ?_)
      obtain ⟨rfl, Kc_516, E_517, F_518, F_519, F_520, F_521, F_522, F_523, F_524, F_525, F_526, F_527, A_528, A_529, A_530, A_531⟩ := hQ515
      show End Z p e below s _ _ _ _ (mkF m 83 #[.val (.int i0), .val (.int i1), .val (.int i2), .val (.int i3), .val (.int i4), .val (.int (3 : Int32)), .val (.int (0 : Int32)), .val (.int (3 : Int32)), .val (.ref o1), .val (.ref o13), .unset, .unset, .unset, .unset] [])
      refine E_aload (v := (.ref o13)) (pc' := 85) X at_83 rfl rfl rfl ?_
      refine E_iload (pc' := 87) X at_85 rfl rfl ?_
      refine E_callV (a := o13) (pc' := 90) (W := 0) (cells' := 6) (slots' := 37) (argsL := [(.int (3 : Int32))]) (rest := []) X (rm6 l Z a0 hw o13 (3 : Int32) (3 : Int32) (1 : Int32) (0 : Int32) P_36 B_37 RR_38 NB_39 [(.int (1 : Int32)), (.int (0 : Int32)), (.int (0 : Int32)), (.int (2 : Int32))] (2 : Int32) (2 : Int32) h_514 X.ext E_517 F_518 F_519 F_520 F_521 F_522 F_523 F_524 F_525 F_526 F_527 A_531 fr_19 (by decide) rfl (by decide)) E_517 (w_33 hw) (w_34 hw) (w_36 hw) (w_35 hw) (w_4 hw) (w_37 hw) rfl (by decide) rfl rfl pd_5 rfl rfl at_87 rfl (Nat.le_refl _) (by decide) (by decide) rfl rfl (by decide) (by decide) (fun v532 T h_533 X hQ534 => ?_)
      obtain ⟨rfl, Kc_535, E_536, F_537, F_538, F_539, F_540, F_541, F_542, F_543, F_544, F_545, F_546⟩ := hQ534
      show End Z p e below s _ _ _ _ (mkF m 90 #[.val (.int i0), .val (.int i1), .val (.int i2), .val (.int i3), .val (.int i4), .val (.int (3 : Int32)), .val (.int (0 : Int32)), .val (.int (3 : Int32)), .val (.ref o1), .val (.ref o13), .unset, .unset, .unset, .unset] [])
      refine E_aload (v := (.ref o13)) (pc' := 92) X at_90 rfl rfl rfl ?_
      refine E_iload (pc' := 94) X at_92 rfl rfl ?_
      refine E_iload (pc' := 96) X at_94 rfl rfl ?_
      have A_547 : Ar Z h_533 P_36 .int [(.int (0 : Int32)), (.int (0 : Int32)), (.int (0 : Int32)), (.int (0 : Int32)), (.int (0 : Int32)), (.int (0 : Int32)), (.int (0 : Int32))] := (A_528.keep Kc_535 (ninS (Ne.symm ne_68) nin0))
      have A_548 : Ar Z h_533 B_37 .int [(.int (0 : Int32)), (.int (1 : Int32)), (.int (1 : Int32)), (.int (0 : Int32)), (.int (0 : Int32)), (.int (0 : Int32)), (.int (0 : Int32))] := (A_529.keep Kc_535 (ninS (Ne.symm ne_71) nin0))
      have A_549 : Ar Z h_533 RR_38 .int [(.int (0 : Int32)), (.int i2), (.int i3), (.int (0 : Int32)), (.int (0 : Int32)), (.int (0 : Int32)), (.int (0 : Int32))] := (A_530.keep Kc_535 (ninS (Ne.symm ne_74) nin0))
      have A_550 : Ar Z h_533 NB_39 .int [(.int (1 : Int32)), (.int (0 : Int32)), (.int (0 : Int32)), (.int (2 : Int32))] := (A_531.keep Kc_535 (ninS (Ne.symm ne_77) nin0))
      refine E_callV (a := o13) (pc' := 99) (W := 0) (cells' := 6) (slots' := 37) (argsL := [(.int (3 : Int32)), (.int i4)]) (rest := []) X (rm7 l Z a0 hw o13 (3 : Int32) i4 (3 : Int32) (2 : Int32) (2 : Int32) P_36 B_37 RR_38 NB_39 [(.int (0 : Int32)), (.int (0 : Int32)), (.int (0 : Int32)), (.int (0 : Int32)), (.int (0 : Int32)), (.int (0 : Int32)), (.int (0 : Int32))] [(.int (0 : Int32)), (.int (1 : Int32)), (.int (1 : Int32)), (.int (0 : Int32)), (.int (0 : Int32)), (.int (0 : Int32)), (.int (0 : Int32))] [(.int (0 : Int32)), (.int i2), (.int i3), (.int (0 : Int32)), (.int (0 : Int32)), (.int (0 : Int32)), (.int (0 : Int32))] [(.int (1 : Int32)), (.int (0 : Int32)), (.int (0 : Int32)), (.int (2 : Int32))] [(.int (0 : Int32)), (.int (0 : Int32)), (.int (0 : Int32)), (.int (2 : Int32)), (.int (0 : Int32)), (.int (0 : Int32)), (.int (0 : Int32))] [(.int (0 : Int32)), (.int (1 : Int32)), (.int (1 : Int32)), (.int (2 : Int32)), (.int (0 : Int32)), (.int (0 : Int32)), (.int (0 : Int32))] [(.int (0 : Int32)), (.int i2), (.int i3), (.int i4), (.int (0 : Int32)), (.int (0 : Int32)), (.int (0 : Int32))] [(.int (1 : Int32)), (.int (0 : Int32)), (.int (0 : Int32)), (.int (3 : Int32))] (4 : Int32) h_533 X.ext E_536 F_537 F_538 F_539 F_540 F_541 F_542 F_543 F_544 F_545 F_546 A_547 A_548 A_549 A_550 fr_19 fr_69 fr_72 fr_75 fr_78 P_61 P_62 P_63 P_64 P_65 P_66 (by decide) (by decide) (Nat.le_of_ble_eq_true rfl) (Nat.le_of_ble_eq_true rfl) (Nat.le_of_ble_eq_true rfl) (Nat.le_of_ble_eq_true rfl) rfl rfl rfl rfl (by decide)) E_536 (w_42 hw) (w_43 hw) (w_45 hw) (w_44 hw) (w_4 hw) (w_46 hw) rfl (by decide) rfl rfl pd_6 rfl rfl at_96 rfl (Nat.le_refl _) (by decide) (by decide) rfl rfl (by decide) (by decide) (fun v551 T h_552 X hQ553 => ?_)
      obtain ⟨rfl, Kc_554, E_555, F_556, F_557, F_558, F_559, F_560, F_561, F_562, F_563, F_564, F_565, A_566, A_567, A_568, A_569⟩ := hQ553
      show End Z p e below s _ _ _ _ (mkF m 99 #[.val (.int i0), .val (.int i1), .val (.int i2), .val (.int i3), .val (.int i4), .val (.int (3 : Int32)), .val (.int (0 : Int32)), .val (.int (3 : Int32)), .val (.ref o1), .val (.ref o13), .unset, .unset, .unset, .unset] [])
      refine E_aload (v := (.ref o13)) (pc' := 101) X at_99 rfl rfl rfl ?_
      refine E_aload (v := (.ref o1)) (pc' := 103) X at_101 rfl rfl rfl ?_
      have A_570 : Ar Z h_552 o1 .int [(.int (0 : Int32)), (.int (3 : Int32))] := ((((((A_34.keep Kc_40 (ninS ne_20 nin0)).keep Kc_478 (ninS ne_20 nin0)).keep Kc_497 (ninS ne_20 (ninS ne_67 (ninS ne_70 (ninS ne_73 (ninS ne_76 nin0)))))).keep Kc_516 (ninS ne_20 (ninS ne_67 (ninS ne_70 (ninS ne_73 (ninS ne_76 nin0)))))).keep Kc_535 (ninS ne_20 nin0)).keep Kc_554 (ninS ne_20 (ninS ne_67 (ninS ne_70 (ninS ne_73 (ninS ne_76 nin0))))))
      have E_574 : Exa Z h_552 P_36 "[I" := (((((E_60.keep Kc_478).keep Kc_497).keep Kc_516).keep Kc_535).keep Kc_554)
      have le_575 := X.le
      refine E_callV (a := o13) (pc' := 106) (W := 0) (cells' := 11) (slots' := 53) (argsL := [(.ref o1)]) (rest := []) X (rm_fin03 l Z a0 hw o13 o1 P_36 B_37 RR_38 NB_39 h_552 X.ext E_555 F_556 F_557 F_558 F_559 F_560 F_561 F_562 F_563 F_564 F_565 A_566 A_569 A_570 fr_19) E_555 (w_47 hw) (w_48 hw) (w_50 hw) (w_49 hw) (w_4 hw) (w_51 hw) rfl (by decide) rfl rfl pd_7 rfl rfl at_103 rfl (Nat.le_refl _) (by decide) (by decide) rfl rfl (by decide) (by decide) (fun v571 T h_572 X hQ573 => ?_)
      obtain ⟨lf_576, jp_577, hg_578, j0_579, j1_580, rfl, Kc_581, nw_582, nw_583, nw_584, nw_585, nw_586, E_587, F_588, F_589, F_590, F_591, F_592, F_593, A_594, A_595, A_596, A_597, A_598⟩ := hQ573
      have ne_599 : B_37 ≠ lf_576 := Nat.ne_of_lt (Nat.lt_of_lt_of_le A_567.lt nw_582)
      have ne_600 : NB_39 ≠ lf_576 := Nat.ne_of_lt (Nat.lt_of_lt_of_le A_569.lt nw_582)
      have ne_601 : P_36 ≠ lf_576 := Nat.ne_of_lt (Nat.lt_of_lt_of_le E_574.lt nw_582)
      have ne_602 : RR_38 ≠ lf_576 := Nat.ne_of_lt (Nat.lt_of_lt_of_le A_568.lt nw_582)
      have ne_603 : o1 ≠ lf_576 := Nat.ne_of_lt (Nat.lt_of_lt_of_le A_570.lt nw_582)
      have ne_604 : o13 ≠ lf_576 := Nat.ne_of_lt (Nat.lt_of_lt_of_le E_555.lt nw_582)
      have fr_605 : Z.heap.size ≤ lf_576 := Nat.le_trans le_575 nw_582
      have ne_606 : B_37 ≠ jp_577 := Nat.ne_of_lt (Nat.lt_of_lt_of_le A_567.lt nw_583)
      have ne_607 : NB_39 ≠ jp_577 := Nat.ne_of_lt (Nat.lt_of_lt_of_le A_569.lt nw_583)
      have ne_608 : P_36 ≠ jp_577 := Nat.ne_of_lt (Nat.lt_of_lt_of_le E_574.lt nw_583)
      have ne_609 : RR_38 ≠ jp_577 := Nat.ne_of_lt (Nat.lt_of_lt_of_le A_568.lt nw_583)
      have ne_610 : o1 ≠ jp_577 := Nat.ne_of_lt (Nat.lt_of_lt_of_le A_570.lt nw_583)
      have ne_611 : o13 ≠ jp_577 := Nat.ne_of_lt (Nat.lt_of_lt_of_le E_555.lt nw_583)
      have fr_612 : Z.heap.size ≤ jp_577 := Nat.le_trans le_575 nw_583
      have ne_613 : B_37 ≠ hg_578 := Nat.ne_of_lt (Nat.lt_of_lt_of_le A_567.lt nw_584)
      have ne_614 : NB_39 ≠ hg_578 := Nat.ne_of_lt (Nat.lt_of_lt_of_le A_569.lt nw_584)
      have ne_615 : P_36 ≠ hg_578 := Nat.ne_of_lt (Nat.lt_of_lt_of_le E_574.lt nw_584)
      have ne_616 : RR_38 ≠ hg_578 := Nat.ne_of_lt (Nat.lt_of_lt_of_le A_568.lt nw_584)
      have ne_617 : o1 ≠ hg_578 := Nat.ne_of_lt (Nat.lt_of_lt_of_le A_570.lt nw_584)
      have ne_618 : o13 ≠ hg_578 := Nat.ne_of_lt (Nat.lt_of_lt_of_le E_555.lt nw_584)
      have fr_619 : Z.heap.size ≤ hg_578 := Nat.le_trans le_575 nw_584
      have ne_620 : B_37 ≠ j0_579 := Nat.ne_of_lt (Nat.lt_of_lt_of_le A_567.lt nw_585)
      have ne_621 : NB_39 ≠ j0_579 := Nat.ne_of_lt (Nat.lt_of_lt_of_le A_569.lt nw_585)
      have ne_622 : P_36 ≠ j0_579 := Nat.ne_of_lt (Nat.lt_of_lt_of_le E_574.lt nw_585)
      have ne_623 : RR_38 ≠ j0_579 := Nat.ne_of_lt (Nat.lt_of_lt_of_le A_568.lt nw_585)
      have ne_624 : o1 ≠ j0_579 := Nat.ne_of_lt (Nat.lt_of_lt_of_le A_570.lt nw_585)
      have ne_625 : o13 ≠ j0_579 := Nat.ne_of_lt (Nat.lt_of_lt_of_le E_555.lt nw_585)
      have fr_626 : Z.heap.size ≤ j0_579 := Nat.le_trans le_575 nw_585
      have ne_627 : B_37 ≠ j1_580 := Nat.ne_of_lt (Nat.lt_of_lt_of_le A_567.lt nw_586)
      have ne_628 : NB_39 ≠ j1_580 := Nat.ne_of_lt (Nat.lt_of_lt_of_le A_569.lt nw_586)
      have ne_629 : P_36 ≠ j1_580 := Nat.ne_of_lt (Nat.lt_of_lt_of_le E_574.lt nw_586)
      have ne_630 : RR_38 ≠ j1_580 := Nat.ne_of_lt (Nat.lt_of_lt_of_le A_568.lt nw_586)
      have ne_631 : o1 ≠ j1_580 := Nat.ne_of_lt (Nat.lt_of_lt_of_le A_570.lt nw_586)
      have ne_632 : o13 ≠ j1_580 := Nat.ne_of_lt (Nat.lt_of_lt_of_le E_555.lt nw_586)
      have fr_633 : Z.heap.size ≤ j1_580 := Nat.le_trans le_575 nw_586
      show End Z p e below s _ _ _ _ (mkF m 106 #[.val (.int i0), .val (.int i1), .val (.int i2), .val (.int i3), .val (.int i4), .val (.int (3 : Int32)), .val (.int (0 : Int32)), .val (.int (3 : Int32)), .val (.ref o1), .val (.ref o13), .unset, .unset, .unset, .unset] [])
      refine E_aload (v := (.ref o13)) (pc' := 108) X at_106 rfl rfl rfl ?_
      refine E_iconst (v := (0 : Int32)) (pc' := 109) X at_108 rfl rfl ?_
      refine E_callV (a := o13) (pc' := 112) (W := 0) (cells' := 11) (slots' := 53) (argsL := [(.int (0 : Int32))]) (rest := []) X (rm12 l Z a0 hw o13 (0 : Int32) lf_576 [(.int (1 : Int32)), (.int (3 : Int32))] (1 : Int32) h_572 X.ext F_588 A_594 (by decide) rfl) E_587 (w_77 hw) (w_78 hw) (w_80 hw) (w_79 hw) (w_4 hw) (w_81 hw) rfl (by decide) rfl rfl pd_2 rfl rfl at_109 rfl (Nat.le_refl _) (by decide) (by decide) rfl rfl (by decide) (by decide) (fun v634 T h_635 X hQ636 => ?_)
      obtain ⟨rfl, rfl⟩ := hQ636
      show End Z p e below s _ _ _ _ (mkF m 112 #[.val (.int i0), .val (.int i1), .val (.int i2), .val (.int i3), .val (.int i4), .val (.int (3 : Int32)), .val (.int (0 : Int32)), .val (.int (3 : Int32)), .val (.ref o1), .val (.ref o13), .unset, .unset, .unset, .unset] [(.int (1 : Int32))])
      refine E_istore (Ls' := #[.val (.int i0), .val (.int i1), .val (.int i2), .val (.int i3), .val (.int i4), .val (.int (3 : Int32)), .val (.int (0 : Int32)), .val (.int (3 : Int32)), .val (.ref o1), .val (.ref o13), .val (.int (1 : Int32)), .unset, .unset, .unset]) (pc' := 114) X at_112 rfl rfl ?_
      refine E_aload (v := (.ref o13)) (pc' := 116) X at_114 rfl rfl rfl ?_
      refine E_iconst (v := (1 : Int32)) (pc' := 117) X at_116 rfl rfl ?_
      refine E_callV (a := o13) (pc' := 120) (W := 0) (cells' := 11) (slots' := 53) (argsL := [(.int (1 : Int32))]) (rest := []) X (rm12 l Z a0 hw o13 (1 : Int32) lf_576 [(.int (1 : Int32)), (.int (3 : Int32))] (3 : Int32) h_572 X.ext F_588 A_594 (by decide) rfl) E_587 (w_77 hw) (w_78 hw) (w_80 hw) (w_79 hw) (w_4 hw) (w_81 hw) rfl (by decide) rfl rfl pd_2 rfl rfl at_117 rfl (Nat.le_refl _) (by decide) (by decide) rfl rfl (by decide) (by decide) (fun v638 T h_639 X hQ640 => ?_)
      obtain ⟨rfl, rfl⟩ := hQ640
      show End Z p e below s _ _ _ _ (mkF m 120 #[.val (.int i0), .val (.int i1), .val (.int i2), .val (.int i3), .val (.int i4), .val (.int (3 : Int32)), .val (.int (0 : Int32)), .val (.int (3 : Int32)), .val (.ref o1), .val (.ref o13), .val (.int (1 : Int32)), .unset, .unset, .unset] [(.int (3 : Int32))])
      refine E_istore (Ls' := #[.val (.int i0), .val (.int i1), .val (.int i2), .val (.int i3), .val (.int i4), .val (.int (3 : Int32)), .val (.int (0 : Int32)), .val (.int (3 : Int32)), .val (.ref o1), .val (.ref o13), .val (.int (1 : Int32)), .val (.int (3 : Int32)), .unset, .unset]) (pc' := 122) X at_120 rfl rfl ?_
      refine E_iload (pc' := 124) X at_122 rfl rfl ?_
      refine E_iload (pc' := 126) X at_124 rfl rfl ?_
      refine E_if (pcY := 133) (pcN := 129) X (i0_eq _) at_126 (by decide) rfl rfl (fun hc126_0 => ?_) (fun hc126_0 => absurd (by decide) hc126_0)
      refine E_iconst (v := (1 : Int32)) (pc' := 134) X at_133 rfl rfl ?_
      refine E_icmp (pcY := 156) (pcN := 137) X (ic_ne _ _) at_134 (by decide) rfl rfl (fun hc134_0 => absurd hc134_0 (by decide)) (fun hc134_0 => ?_)
      refine E_iload (pc' := 139) X at_137 rfl rfl ?_
      refine E_iload (pc' := 141) X at_139 rfl rfl ?_
      refine E_if (pcY := 148) (pcN := 144) X (i0_eq _) at_141 (by decide) rfl rfl (fun hc141_0 => ?_) (fun hc141_0 => absurd (by decide) hc141_0)
      refine E_iconst (v := (3 : Int32)) (pc' := 149) X at_148 rfl rfl ?_
      refine E_icmp (pcY := 156) (pcN := 152) X (ic_ne _ _) at_149 (by decide) rfl rfl (fun hc149_0 => absurd hc149_0 (by decide)) (fun hc149_0 => ?_)
      refine E_iconst (v := (1 : Int32)) (pc' := 153) X at_152 rfl rfl ?_
      refine E_goto (pc' := 157) X at_153 (by decide) rfl ?_
      refine E_istore (Ls' := #[.val (.int i0), .val (.int i1), .val (.int i2), .val (.int i3), .val (.int i4), .val (.int (3 : Int32)), .val (.int (0 : Int32)), .val (.int (3 : Int32)), .val (.ref o1), .val (.ref o13), .val (.int (1 : Int32)), .val (.int (3 : Int32)), .val (.int (1 : Int32)), .unset]) (pc' := 159) X at_157 rfl rfl ?_
      refine E_iload (pc' := 161) X at_159 rfl rfl ?_
      refine E_if (pcY := 188) (pcN := 164) X (i0_eq _) at_161 (by decide) rfl rfl (fun hc161_0 => absurd hc161_0 (by decide)) (fun hc161_0 => ?_)
      refine E_aload (v := (.ref o13)) (pc' := 166) X at_164 rfl rfl rfl ?_
      refine E_iconst (v := (1 : Int32)) (pc' := 167) X at_166 rfl rfl ?_
      have A_642 : Ar Z h_572 B_37 .int [(.int (0 : Int32)), (.int (1 : Int32)), (.int (1 : Int32)), (.int (2 : Int32)), (.int (0 : Int32)), (.int (0 : Int32)), (.int (0 : Int32))] := (A_567.keep Kc_581 (ninS (Ne.symm ne_71) nin0))
      refine E_callV (a := o13) (pc' := 170) (W := 0) (cells' := 11) (slots' := 53) (argsL := [(.int (1 : Int32))]) (rest := []) X (rm13 l Z a0 hw o13 (1 : Int32) B_37 [(.int (0 : Int32)), (.int (1 : Int32)), (.int (1 : Int32)), (.int (2 : Int32)), (.int (0 : Int32)), (.int (0 : Int32)), (.int (0 : Int32))] (1 : Int32) h_572 X.ext F_592 A_642 (by decide) rfl) E_587 (w_82 hw) (w_83 hw) (w_85 hw) (w_84 hw) (w_4 hw) (w_86 hw) rfl (by decide) rfl rfl pd_2 rfl rfl at_167 rfl (Nat.le_refl _) (by decide) (by decide) rfl rfl (by decide) (by decide) (fun v643 T h_644 X hQ645 => ?_)
      obtain ⟨rfl, rfl⟩ := hQ645
      show End Z p e below s _ _ _ _ (mkF m 170 #[.val (.int i0), .val (.int i1), .val (.int i2), .val (.int i3), .val (.int i4), .val (.int (3 : Int32)), .val (.int (0 : Int32)), .val (.int (3 : Int32)), .val (.ref o1), .val (.ref o13), .val (.int (1 : Int32)), .val (.int (3 : Int32)), .val (.int (1 : Int32)), .unset] [(.int (1 : Int32))])
      refine E_iconst (v := (1 : Int32)) (pc' := 171) X at_170 rfl rfl ?_
      refine E_icmp (pcY := 188) (pcN := 174) X (ic_ne _ _) at_171 (by decide) rfl rfl (fun hc171_0 => absurd hc171_0 (by decide)) (fun hc171_0 => ?_)
      refine E_aload (v := (.ref o13)) (pc' := 176) X at_174 rfl rfl rfl ?_
      refine E_iconst (v := (3 : Int32)) (pc' := 177) X at_176 rfl rfl ?_
      refine E_callV (a := o13) (pc' := 180) (W := 0) (cells' := 11) (slots' := 53) (argsL := [(.int (3 : Int32))]) (rest := []) X (rm13 l Z a0 hw o13 (3 : Int32) B_37 [(.int (0 : Int32)), (.int (1 : Int32)), (.int (1 : Int32)), (.int (2 : Int32)), (.int (0 : Int32)), (.int (0 : Int32)), (.int (0 : Int32))] (2 : Int32) h_572 X.ext F_592 A_642 (by decide) rfl) E_587 (w_82 hw) (w_83 hw) (w_85 hw) (w_84 hw) (w_4 hw) (w_86 hw) rfl (by decide) rfl rfl pd_2 rfl rfl at_177 rfl (Nat.le_refl _) (by decide) (by decide) rfl rfl (by decide) (by decide) (fun v647 T h_648 X hQ649 => ?_)
      obtain ⟨rfl, rfl⟩ := hQ649
      show End Z p e below s _ _ _ _ (mkF m 180 #[.val (.int i0), .val (.int i1), .val (.int i2), .val (.int i3), .val (.int i4), .val (.int (3 : Int32)), .val (.int (0 : Int32)), .val (.int (3 : Int32)), .val (.ref o1), .val (.ref o13), .val (.int (1 : Int32)), .val (.int (3 : Int32)), .val (.int (1 : Int32)), .unset] [(.int (2 : Int32))])
      refine E_iconst (v := (2 : Int32)) (pc' := 181) X at_180 rfl rfl ?_
      refine E_icmp (pcY := 188) (pcN := 184) X (ic_ne _ _) at_181 (by decide) rfl rfl (fun hc181_0 => absurd hc181_0 (by decide)) (fun hc181_0 => ?_)
      refine E_iconst (v := (1 : Int32)) (pc' := 185) X at_184 rfl rfl ?_
      refine E_goto (pc' := 189) X at_185 (by decide) rfl ?_
      refine E_istore (Ls' := #[.val (.int i0), .val (.int i1), .val (.int i2), .val (.int i3), .val (.int i4), .val (.int (3 : Int32)), .val (.int (0 : Int32)), .val (.int (3 : Int32)), .val (.ref o1), .val (.ref o13), .val (.int (1 : Int32)), .val (.int (3 : Int32)), .val (.int (1 : Int32)), .unset]) (pc' := 191) X at_189 rfl rfl ?_
      refine E_iload (pc' := 193) X at_191 rfl rfl ?_
      refine E_if (pcY := 231) (pcN := 196) X (i0_eq _) at_193 (by decide) rfl rfl (fun hc193_0 => absurd hc193_0 (by decide)) (fun hc193_0 => ?_)
      refine E_aload (v := (.ref o13)) (pc' := 198) X at_196 rfl rfl rfl ?_
      refine E_iconst (v := (1 : Int32)) (pc' := 199) X at_198 rfl rfl ?_
      have A_651 : Ar Z h_572 RR_38 .int [(.int (0 : Int32)), (.int i2), (.int i3), (.int i4), (.int (0 : Int32)), (.int (0 : Int32)), (.int (0 : Int32))] := (A_568.keep Kc_581 (ninS (Ne.symm ne_74) nin0))
      refine E_callV (a := o13) (pc' := 202) (W := 0) (cells' := 11) (slots' := 53) (argsL := [(.int (1 : Int32))]) (rest := []) X (rm14 l Z a0 hw o13 (1 : Int32) RR_38 [(.int (0 : Int32)), (.int i2), (.int i3), (.int i4), (.int (0 : Int32)), (.int (0 : Int32)), (.int (0 : Int32))] i2 h_572 X.ext F_593 A_651 (by decide) rfl) E_587 (w_87 hw) (w_88 hw) (w_90 hw) (w_89 hw) (w_4 hw) (w_91 hw) rfl (by decide) rfl rfl pd_2 rfl rfl at_199 rfl (Nat.le_refl _) (by decide) (by decide) rfl rfl (by decide) (by decide) (fun v652 T h_653 X hQ654 => ?_)
      obtain ⟨rfl, rfl⟩ := hQ654
      show End Z p e below s _ _ _ _ (mkF m 202 #[.val (.int i0), .val (.int i1), .val (.int i2), .val (.int i3), .val (.int i4), .val (.int (3 : Int32)), .val (.int (0 : Int32)), .val (.int (3 : Int32)), .val (.ref o1), .val (.ref o13), .val (.int (1 : Int32)), .val (.int (3 : Int32)), .val (.int (1 : Int32)), .unset] [(.int i2)])
      refine E_iloadN (pc' := 203) X at_202 rfl rfl ?_
      refine E_icmp (pcY := 231) (pcN := 206) X (ic_ne _ _) at_203 (by decide) rfl rfl (fun hc203_0 => absurd hc203_0 (fun q => q rfl)) (fun hc203_0 => ?_)
      refine E_aload (v := (.ref o13)) (pc' := 208) X at_206 rfl rfl rfl ?_
      refine E_iconst (v := (2 : Int32)) (pc' := 209) X at_208 rfl rfl ?_
      refine E_callV (a := o13) (pc' := 212) (W := 0) (cells' := 11) (slots' := 53) (argsL := [(.int (2 : Int32))]) (rest := []) X (rm14 l Z a0 hw o13 (2 : Int32) RR_38 [(.int (0 : Int32)), (.int i2), (.int i3), (.int i4), (.int (0 : Int32)), (.int (0 : Int32)), (.int (0 : Int32))] i3 h_572 X.ext F_593 A_651 (by decide) rfl) E_587 (w_87 hw) (w_88 hw) (w_90 hw) (w_89 hw) (w_4 hw) (w_91 hw) rfl (by decide) rfl rfl pd_2 rfl rfl at_209 rfl (Nat.le_refl _) (by decide) (by decide) rfl rfl (by decide) (by decide) (fun v656 T h_657 X hQ658 => ?_)
      obtain ⟨rfl, rfl⟩ := hQ658
      show End Z p e below s _ _ _ _ (mkF m 212 #[.val (.int i0), .val (.int i1), .val (.int i2), .val (.int i3), .val (.int i4), .val (.int (3 : Int32)), .val (.int (0 : Int32)), .val (.int (3 : Int32)), .val (.ref o1), .val (.ref o13), .val (.int (1 : Int32)), .val (.int (3 : Int32)), .val (.int (1 : Int32)), .unset] [(.int i3)])
      refine E_iloadN (pc' := 213) X at_212 rfl rfl ?_
      refine E_icmp (pcY := 231) (pcN := 216) X (ic_ne _ _) at_213 (by decide) rfl rfl (fun hc213_0 => absurd hc213_0 (fun q => q rfl)) (fun hc213_0 => ?_)
      refine E_aload (v := (.ref o13)) (pc' := 218) X at_216 rfl rfl rfl ?_
      refine E_iconst (v := (3 : Int32)) (pc' := 219) X at_218 rfl rfl ?_
      refine E_callV (a := o13) (pc' := 222) (W := 0) (cells' := 11) (slots' := 53) (argsL := [(.int (3 : Int32))]) (rest := []) X (rm14 l Z a0 hw o13 (3 : Int32) RR_38 [(.int (0 : Int32)), (.int i2), (.int i3), (.int i4), (.int (0 : Int32)), (.int (0 : Int32)), (.int (0 : Int32))] i4 h_572 X.ext F_593 A_651 (by decide) rfl) E_587 (w_87 hw) (w_88 hw) (w_90 hw) (w_89 hw) (w_4 hw) (w_91 hw) rfl (by decide) rfl rfl pd_2 rfl rfl at_219 rfl (Nat.le_refl _) (by decide) (by decide) rfl rfl (by decide) (by decide) (fun v660 T h_661 X hQ662 => ?_)
      obtain ⟨rfl, rfl⟩ := hQ662
      show End Z p e below s _ _ _ _ (mkF m 222 #[.val (.int i0), .val (.int i1), .val (.int i2), .val (.int i3), .val (.int i4), .val (.int (3 : Int32)), .val (.int (0 : Int32)), .val (.int (3 : Int32)), .val (.ref o1), .val (.ref o13), .val (.int (1 : Int32)), .val (.int (3 : Int32)), .val (.int (1 : Int32)), .unset] [(.int i4)])
      refine E_iload (pc' := 224) X at_222 rfl rfl ?_
      refine E_icmp (pcY := 231) (pcN := 227) X (ic_ne _ _) at_224 (by decide) rfl rfl (fun hc224_0 => absurd hc224_0 (fun q => q rfl)) (fun hc224_0 => ?_)
      refine E_iconst (v := (1 : Int32)) (pc' := 228) X at_227 rfl rfl ?_
      refine E_goto (pc' := 232) X at_228 (by decide) rfl ?_
      refine E_istore (Ls' := #[.val (.int i0), .val (.int i1), .val (.int i2), .val (.int i3), .val (.int i4), .val (.int (3 : Int32)), .val (.int (0 : Int32)), .val (.int (3 : Int32)), .val (.ref o1), .val (.ref o13), .val (.int (1 : Int32)), .val (.int (3 : Int32)), .val (.int (1 : Int32)), .unset]) (pc' := 234) X at_232 rfl rfl ?_
      refine E_iload (pc' := 236) X at_234 rfl rfl ?_
      refine E_if (pcY := 243) (pcN := 239) X (i0_eq _) at_236 (by decide) rfl rfl (fun hc236_0 => ?_) (fun hc236_0 => absurd (by decide) hc236_0)
      refine E_iconst (v := (1 : Int32)) (pc' := 244) X at_243 rfl rfl ?_
      refine E_istore (Ls' := #[.val (.int i0), .val (.int i1), .val (.int i2), .val (.int i3), .val (.int i4), .val (.int (3 : Int32)), .val (.int (0 : Int32)), .val (.int (3 : Int32)), .val (.ref o1), .val (.ref o13), .val (.int (1 : Int32)), .val (.int (3 : Int32)), .val (.int (1 : Int32)), .val (.int (1 : Int32))]) (pc' := 246) X at_244 rfl rfl ?_
      refine E_iload (pc' := 248) X at_246 rfl rfl ?_
      refine E_if (pcY := 276) (pcN := 251) X (i0_eq _) at_248 (by decide) rfl rfl (fun hc248_0 => absurd hc248_0 (by decide)) (fun hc248_0 => ?_)
      refine E_aload (v := (.ref o13)) (pc' := 253) X at_251 rfl rfl rfl ?_
      refine E_iload (pc' := 255) X at_253 rfl rfl ?_
      refine E_iconst (v := (2 : Int32)) (pc' := 256) X at_255 rfl rfl ?_
      have A_664 : Ar Z h_572 P_36 .int [(.int (0 : Int32)), (.int (0 : Int32)), (.int (0 : Int32)), (.int (2 : Int32)), (.int (0 : Int32)), (.int (0 : Int32)), (.int (0 : Int32))] := (A_566.keep Kc_581 (ninS (Ne.symm ne_68) nin0))
      refine E_callV (a := o13) (pc' := 259) (W := 0) (cells' := 11) (slots' := 53) (argsL := [(.int (1 : Int32)), (.int (2 : Int32))]) (rest := []) X (rm_bb0 l Z a0 hw o13 lf_576 jp_577 P_36 B_37 j0_579 j1_580 h_572 X.ext F_588 F_590 F_591 F_592 A_664 A_642 A_594 A_596 A_597 A_598) E_587 (w_92 hw) (w_93 hw) (w_95 hw) (w_94 hw) (w_4 hw) (w_96 hw) rfl (by decide) rfl rfl pd_1 rfl rfl at_256 rfl (Nat.le_refl _) (by decide) (by decide) rfl rfl (by decide) (by decide) (fun v665 T h_666 X hQ667 => ?_)
      obtain ⟨rfl, rfl⟩ := hQ667
      show End Z p e below s _ _ _ _ (mkF m 259 #[.val (.int i0), .val (.int i1), .val (.int i2), .val (.int i3), .val (.int i4), .val (.int (3 : Int32)), .val (.int (0 : Int32)), .val (.int (3 : Int32)), .val (.ref o1), .val (.ref o13), .val (.int (1 : Int32)), .val (.int (3 : Int32)), .val (.int (1 : Int32)), .val (.int (1 : Int32))] [(.int (2 : Int32))])
      refine E_iload (pc' := 261) X at_259 rfl rfl ?_
      refine E_if (pcY := 268) (pcN := 264) X (i0_eq _) at_261 (by decide) rfl rfl (fun hc261_0 => ?_) (fun hc261_0 => absurd (by decide) hc261_0)
      refine E_iconst (v := (2 : Int32)) (pc' := 269) X at_268 rfl rfl ?_
      refine E_icmp (pcY := 276) (pcN := 272) X (ic_ne _ _) at_269 (by decide) rfl rfl (fun hc269_0 => absurd hc269_0 (by decide)) (fun hc269_0 => ?_)
      refine E_iconst (v := (1 : Int32)) (pc' := 273) X at_272 rfl rfl ?_
      refine E_goto (pc' := 277) X at_273 (by decide) rfl ?_
      refine E_istore (Ls' := #[.val (.int i0), .val (.int i1), .val (.int i2), .val (.int i3), .val (.int i4), .val (.int (3 : Int32)), .val (.int (0 : Int32)), .val (.int (3 : Int32)), .val (.ref o1), .val (.ref o13), .val (.int (1 : Int32)), .val (.int (3 : Int32)), .val (.int (1 : Int32)), .val (.int (1 : Int32))]) (pc' := 279) X at_277 rfl rfl ?_
      refine E_iload (pc' := 281) X at_279 rfl rfl ?_
      refine E_if (pcY := 304) (pcN := 284) X (i0_eq _) at_281 (by decide) rfl rfl (fun hc281_0 => absurd hc281_0 (by decide)) (fun hc281_0 => ?_)
      refine E_aload (v := (.ref o13)) (pc' := 286) X at_284 rfl rfl rfl ?_
      refine E_iload (pc' := 288) X at_286 rfl rfl ?_
      refine E_iload (pc' := 290) X at_288 rfl rfl ?_
      refine E_callV (a := o13) (pc' := 293) (W := 0) (cells' := 11) (slots' := 53) (argsL := [(.int (1 : Int32)), (.int (3 : Int32))]) (rest := []) X (rm_ca0 l Z a0 hw o13 hg_578 jp_577 j0_579 j1_580 h_572 X.ext F_590 F_589 A_595 A_596 A_597 A_598) E_587 (w_97 hw) (w_98 hw) (w_100 hw) (w_99 hw) (w_4 hw) (w_101 hw) rfl (by decide) rfl rfl pd_4 rfl rfl at_290 rfl (Nat.le_refl _) (by decide) (by decide) rfl rfl (by decide) (by decide) (fun v669 T h_670 X hQ671 => ?_)
      obtain ⟨rfl, rfl⟩ := hQ671
      show End Z p e below s _ _ _ _ (mkF m 293 #[.val (.int i0), .val (.int i1), .val (.int i2), .val (.int i3), .val (.int i4), .val (.int (3 : Int32)), .val (.int (0 : Int32)), .val (.int (3 : Int32)), .val (.ref o1), .val (.ref o13), .val (.int (1 : Int32)), .val (.int (3 : Int32)), .val (.int (1 : Int32)), .val (.int (1 : Int32))] [(.long (4294967298 : Int64))])
      refine E_ldcJ (v := (4294967298 : Int64)) (pc' := 296) X (w_105 hw) at_293 rfl ?_
      refine E_lcmp (pc' := 297) X at_296 rfl ?_
      refine E_if (pcY := 304) (pcN := 300) X (il_ne _ _) at_297 (by decide) rfl rfl (fun hc297_0 => absurd hc297_0 (by decide)) (fun hc297_0 => ?_)
      refine E_iconst (v := (1 : Int32)) (pc' := 301) X at_300 rfl rfl ?_
      refine E_goto (pc' := 305) X at_301 (by decide) rfl ?_
      refine E_istore (Ls' := #[.val (.int i0), .val (.int i1), .val (.int i2), .val (.int i3), .val (.int i4), .val (.int (3 : Int32)), .val (.int (0 : Int32)), .val (.int (3 : Int32)), .val (.ref o1), .val (.ref o13), .val (.int (1 : Int32)), .val (.int (3 : Int32)), .val (.int (1 : Int32)), .val (.int (1 : Int32))]) (pc' := 307) X at_305 rfl rfl ?_
      refine E_iload (pc' := 309) X at_307 rfl rfl ?_
      exact E_retZ (Or.inr rfl) X at_309 (by decide) (by decide) rfl
  · skip
    refine E_iconst (v := (1 : Int32)) (pc' := 17) X at_16 rfl rfl ?_
    refine E_goto (pc' := 21) X at_17 (by decide) rfl ?_
    refine E_istore (Ls' := #[.val (.int i0), .val (.int i1), .val (.int i2), .val (.int i3), .val (.int i4), .val (.int bb), .val (.int (1 : Int32)), .unset, .unset, .unset, .unset, .unset, .unset, .unset]) (pc' := 23) X at_21 rfl rfl ?_
    refine E_iload (pc' := 25) X at_23 rfl rfl ?_
    refine E_if (pcY := 32) (pcN := 28) X (i0_eq _) at_25 (by decide) rfl rfl (fun hc25_0 => absurd hc25_0 (by decide)) (fun hc25_0 => ?_)
    refine E_iconst (v := (0 : Int32)) (pc' := 29) X at_28 rfl rfl ?_
    refine E_goto (pc' := 34) X at_29 (by decide) rfl ?_
    refine E_istore (Ls' := #[.val (.int i0), .val (.int i1), .val (.int i2), .val (.int i3), .val (.int i4), .val (.int bb), .val (.int (1 : Int32)), .val (.int (0 : Int32)), .unset, .unset, .unset, .unset, .unset, .unset]) (pc' := 36) X at_34 rfl rfl ?_
    refine E_iconst (v := (2 : Int32)) (pc' := 37) X at_36 rfl rfl ?_
    have le_o673 := X.le
    refine E_newA (pc' := 39) X (aty := .int) (n := (2 : Int32)) (cap := 2) (vs := [(.int (0 : Int32)), (.int (0 : Int32))]) (cells' := 1) (slots' := 2) (w_1 hw) at_37 rfl (by decide) (by decide) (by decide) rfl rfl rfl (by decide) (by decide) (fun T h_674 o673 g_677 X Ex_675 Aa_676 => ?_)
    have fr_678 : Z.heap.size ≤ o673 := by rw [g_677]; exact le_o673
    refine E_astore (Ls' := #[.val (.int i0), .val (.int i1), .val (.int i2), .val (.int i3), .val (.int i4), .val (.int bb), .val (.int (1 : Int32)), .val (.int (0 : Int32)), .val (.ref o673), .unset, .unset, .unset, .unset, .unset]) (pc' := 41) X at_39 rfl rfl rfl ?_
    refine E_aload (v := (.ref o673)) (pc' := 43) X at_41 rfl rfl rfl ?_
    refine E_iconst (v := (0 : Int32)) (pc' := 44) X at_43 rfl rfl ?_
    refine E_iconst (v := (0 : Int32)) (pc' := 45) X at_44 rfl rfl ?_
    refine E_iastore (vs' := [(.int (0 : Int32)), (.int (0 : Int32))]) (pc' := 46) X Aa_676 (by decide) (Nat.le_of_ble_eq_true rfl) rfl fr_678 at_45 rfl (fun T h_680 X W_679 Aa_681 => ?_)
    refine E_aload (v := (.ref o673)) (pc' := 48) X at_46 rfl rfl rfl ?_
    refine E_iconst (v := (1 : Int32)) (pc' := 49) X at_48 rfl rfl ?_
    refine E_iload (pc' := 51) X at_49 rfl rfl ?_
    refine E_iastore (vs' := [(.int (0 : Int32)), (.int bb)]) (pc' := 52) X Aa_681 (by decide) (Nat.le_of_ble_eq_true rfl) rfl fr_678 at_51 rfl (fun T h_683 X W_682 Aa_684 => ?_)
    have le_o685 := X.le
    refine E_new (pc' := 55) X (cells' := 2) (slots' := 12) (w_2 hw) (w_3 hw) (w_4 hw) at_52 rfl rfl rfl (by decide) (by decide) (fun T h_686 o685 g_690 X Ex_687 Ea_688 D_689 => ?_)
    have fr_691 : Z.heap.size ≤ o685 := by rw [g_690]; exact le_o685
    have ne_692 : o673 ≠ o685 := Nat.ne_of_lt (by rw [g_690]; exact Aa_684.lt)
    refine E_dup (pc' := 56) X at_55 rfl rfl ?_
    refine E_iconst (v := (4 : Int32)) (pc' := 57) X at_56 rfl rfl ?_
    have F_693 : Fld Z h_686 o685 "com/example/nimble_calculus/nimblecalculus/equivalence/Splits" "nodeCount" "I" (.int (0 : Int32)) := (D_689 (Or.inl (w_12 hw)) (ty := .int) (by decide))
    have F_694 : Fld Z h_686 o685 "com/example/nimble_calculus/nimblecalculus/equivalence/Splits" "splitCount" "I" (.int (0 : Int32)) := (D_689 (Or.inl (w_39 hw)) (ty := .int) (by decide))
    have F_695 : Fld Z h_686 o685 "com/example/nimble_calculus/nimblecalculus/equivalence/Splits" "splitting" "I" (.int (0 : Int32)) := (D_689 (Or.inl (w_41 hw)) (ty := .int) (by decide))
    have F_696 : Fld Z h_686 o685 "com/example/nimble_calculus/nimblecalculus/equivalence/Splits" "parent" "[I" .null := (D_689 (Or.inr (w_23 hw)) (ty := (.array .int)) (by decide))
    have F_697 : Fld Z h_686 o685 "com/example/nimble_calculus/nimblecalculus/equivalence/Splits" "born" "[I" .null := (D_689 (Or.inr (w_25 hw)) (ty := (.array .int)) (by decide))
    have F_698 : Fld Z h_686 o685 "com/example/nimble_calculus/nimblecalculus/equivalence/Splits" "representative" "[I" .null := (D_689 (Or.inr (w_27 hw)) (ty := (.array .int)) (by decide))
    have F_699 : Fld Z h_686 o685 "com/example/nimble_calculus/nimblecalculus/equivalence/Splits" "nodeOfBlock" "[I" .null := (D_689 (Or.inr (w_32 hw)) (ty := (.array .int)) (by decide))
    have F_700 : Fld Z h_686 o685 "com/example/nimble_calculus/nimblecalculus/equivalence/Splits" "leaf" "[I" .null := (D_689 (Or.inl (w_53 hw)) (ty := (.array .int)) (by decide))
    have F_701 : Fld Z h_686 o685 "com/example/nimble_calculus/nimblecalculus/equivalence/Splits" "height" "[I" .null := (D_689 (Or.inl (w_55 hw)) (ty := (.array .int)) (by decide))
    have F_702 : Fld Z h_686 o685 "com/example/nimble_calculus/nimblecalculus/equivalence/Splits" "jumps" "[[I" .null := (D_689 (Or.inl (w_64 hw)) (ty := (.array (.array .int))) (by decide))
    have A_706 : Ar Z h_686 o673 .int [(.int (0 : Int32)), (.int bb)] := (Aa_684.ext Ex_687)
    have le_707 := X.le
    refine E_callI (a := o685) (pc' := 60) (W := 1) (cells' := 6) (slots' := 37) (argsL := [(.int (4 : Int32))]) (rest := [(.ref o685)]) X (rm1 l Z a0 hw o685 h_686 X.ext Ea_688 F_693 F_694 F_695 F_696 F_697 F_698 F_699 F_700 F_701 F_702 fr_691) (w_5 hw) (w_6 hw) (w_4 hw) (w_7 hw) rfl (by decide) rfl rfl pd_5 rfl rfl at_57 rfl (Nat.le_refl _) (by decide) (by decide) rfl rfl (by decide) (by decide) (fun v703 T h_704 X hQ705 => ?_)
    obtain ⟨P_708, B_709, RR_710, NB_711, rfl, Kc_712, nw_713, nw_714, nw_715, nw_716, E_717, F_718, F_719, F_720, F_721, F_722, F_723, F_724, F_725, F_726, F_727, A_728, A_729, A_730, A_731, E_732, P_733, P_734, P_735, P_736, P_737, P_738⟩ := hQ705
    have ne_739 : o673 ≠ P_708 := Nat.ne_of_lt (Nat.lt_of_lt_of_le A_706.lt nw_713)
    have ne_740 : o685 ≠ P_708 := Nat.ne_of_lt (Nat.lt_of_lt_of_le Ea_688.lt nw_713)
    have fr_741 : Z.heap.size ≤ P_708 := Nat.le_trans le_707 nw_713
    have ne_742 : o673 ≠ B_709 := Nat.ne_of_lt (Nat.lt_of_lt_of_le A_706.lt nw_714)
    have ne_743 : o685 ≠ B_709 := Nat.ne_of_lt (Nat.lt_of_lt_of_le Ea_688.lt nw_714)
    have fr_744 : Z.heap.size ≤ B_709 := Nat.le_trans le_707 nw_714
    have ne_745 : o673 ≠ RR_710 := Nat.ne_of_lt (Nat.lt_of_lt_of_le A_706.lt nw_715)
    have ne_746 : o685 ≠ RR_710 := Nat.ne_of_lt (Nat.lt_of_lt_of_le Ea_688.lt nw_715)
    have fr_747 : Z.heap.size ≤ RR_710 := Nat.le_trans le_707 nw_715
    have ne_748 : o673 ≠ NB_711 := Nat.ne_of_lt (Nat.lt_of_lt_of_le A_706.lt nw_716)
    have ne_749 : o685 ≠ NB_711 := Nat.ne_of_lt (Nat.lt_of_lt_of_le Ea_688.lt nw_716)
    have fr_750 : Z.heap.size ≤ NB_711 := Nat.le_trans le_707 nw_716
    show End Z p e below s _ _ _ _ (mkF m 60 #[.val (.int i0), .val (.int i1), .val (.int i2), .val (.int i3), .val (.int i4), .val (.int bb), .val (.int (1 : Int32)), .val (.int (0 : Int32)), .val (.ref o673), .unset, .unset, .unset, .unset, .unset] [(.ref o685)])
    refine E_astore (Ls' := #[.val (.int i0), .val (.int i1), .val (.int i2), .val (.int i3), .val (.int i4), .val (.int bb), .val (.int (1 : Int32)), .val (.int (0 : Int32)), .val (.ref o673), .val (.ref o685), .unset, .unset, .unset, .unset]) (pc' := 62) X at_60 rfl rfl rfl ?_
    rcases (by rw [← q_bb]; exact own_b i0 : bb = (1 : Int32) ∨ bb = (2 : Int32) ∨ bb = (3 : Int32)) with rfl | rfl | rfl
    · skip
      refine E_aload (v := (.ref o685)) (pc' := 64) X at_62 rfl rfl rfl ?_
      refine E_iconst (v := (0 : Int32)) (pc' := 65) X at_64 rfl rfl ?_
      refine E_callV (a := o685) (pc' := 68) (W := 0) (cells' := 6) (slots' := 37) (argsL := [(.int (0 : Int32))]) (rest := []) X (rm6 l Z a0 hw o685 (0 : Int32) (1 : Int32) (0 : Int32) (0 : Int32) P_708 B_709 RR_710 NB_711 [(.int (0 : Int32)), (.int (0 : Int32)), (.int (0 : Int32)), (.int (0 : Int32))] (1 : Int32) (0 : Int32) h_704 X.ext E_717 F_718 F_719 F_720 F_721 F_722 F_723 F_724 F_725 F_726 F_727 A_731 fr_691 (by decide) rfl (by decide)) E_717 (w_33 hw) (w_34 hw) (w_36 hw) (w_35 hw) (w_4 hw) (w_37 hw) rfl (by decide) rfl rfl pd_5 rfl rfl at_65 rfl (Nat.le_refl _) (by decide) (by decide) rfl rfl (by decide) (by decide) (fun v751 T h_752 X hQ753 => ?_)
      obtain ⟨rfl, Kc_754, E_755, F_756, F_757, F_758, F_759, F_760, F_761, F_762, F_763, F_764, F_765⟩ := hQ753
      show End Z p e below s _ _ _ _ (mkF m 68 #[.val (.int i0), .val (.int i1), .val (.int i2), .val (.int i3), .val (.int i4), .val (.int (1 : Int32)), .val (.int (1 : Int32)), .val (.int (0 : Int32)), .val (.ref o673), .val (.ref o685), .unset, .unset, .unset, .unset] [])
      refine E_aload (v := (.ref o685)) (pc' := 70) X at_68 rfl rfl rfl ?_
      refine E_iconst (v := (0 : Int32)) (pc' := 71) X at_70 rfl rfl ?_
      refine E_iloadN (pc' := 72) X at_71 rfl rfl ?_
      have A_766 : Ar Z h_752 P_708 .int [(.int (0 : Int32)), (.int (0 : Int32)), (.int (0 : Int32)), (.int (0 : Int32)), (.int (0 : Int32)), (.int (0 : Int32)), (.int (0 : Int32))] := (A_728.keep Kc_754 (ninS (Ne.symm ne_740) nin0))
      have A_767 : Ar Z h_752 B_709 .int [(.int (0 : Int32)), (.int (0 : Int32)), (.int (0 : Int32)), (.int (0 : Int32)), (.int (0 : Int32)), (.int (0 : Int32)), (.int (0 : Int32))] := (A_729.keep Kc_754 (ninS (Ne.symm ne_743) nin0))
      have A_768 : Ar Z h_752 RR_710 .int [(.int (0 : Int32)), (.int (0 : Int32)), (.int (0 : Int32)), (.int (0 : Int32)), (.int (0 : Int32)), (.int (0 : Int32)), (.int (0 : Int32))] := (A_730.keep Kc_754 (ninS (Ne.symm ne_746) nin0))
      have A_769 : Ar Z h_752 NB_711 .int [(.int (0 : Int32)), (.int (0 : Int32)), (.int (0 : Int32)), (.int (0 : Int32))] := (A_731.keep Kc_754 (ninS (Ne.symm ne_749) nin0))
      refine E_callV (a := o685) (pc' := 75) (W := 0) (cells' := 6) (slots' := 37) (argsL := [(.int (0 : Int32)), (.int i2)]) (rest := []) X (rm7 l Z a0 hw o685 (0 : Int32) i2 (1 : Int32) (1 : Int32) (0 : Int32) P_708 B_709 RR_710 NB_711 [(.int (0 : Int32)), (.int (0 : Int32)), (.int (0 : Int32)), (.int (0 : Int32)), (.int (0 : Int32)), (.int (0 : Int32)), (.int (0 : Int32))] [(.int (0 : Int32)), (.int (0 : Int32)), (.int (0 : Int32)), (.int (0 : Int32)), (.int (0 : Int32)), (.int (0 : Int32)), (.int (0 : Int32))] [(.int (0 : Int32)), (.int (0 : Int32)), (.int (0 : Int32)), (.int (0 : Int32)), (.int (0 : Int32)), (.int (0 : Int32)), (.int (0 : Int32))] [(.int (0 : Int32)), (.int (0 : Int32)), (.int (0 : Int32)), (.int (0 : Int32))] [(.int (0 : Int32)), (.int (0 : Int32)), (.int (0 : Int32)), (.int (0 : Int32)), (.int (0 : Int32)), (.int (0 : Int32)), (.int (0 : Int32))] [(.int (0 : Int32)), (.int (1 : Int32)), (.int (0 : Int32)), (.int (0 : Int32)), (.int (0 : Int32)), (.int (0 : Int32)), (.int (0 : Int32))] [(.int (0 : Int32)), (.int i2), (.int (0 : Int32)), (.int (0 : Int32)), (.int (0 : Int32)), (.int (0 : Int32)), (.int (0 : Int32))] [(.int (1 : Int32)), (.int (0 : Int32)), (.int (0 : Int32)), (.int (0 : Int32))] (2 : Int32) h_752 X.ext E_755 F_756 F_757 F_758 F_759 F_760 F_761 F_762 F_763 F_764 F_765 A_766 A_767 A_768 A_769 fr_691 fr_741 fr_744 fr_747 fr_750 P_733 P_734 P_735 P_736 P_737 P_738 (by decide) (by decide) (Nat.le_of_ble_eq_true rfl) (Nat.le_of_ble_eq_true rfl) (Nat.le_of_ble_eq_true rfl) (Nat.le_of_ble_eq_true rfl) rfl rfl rfl rfl (by decide)) E_755 (w_42 hw) (w_43 hw) (w_45 hw) (w_44 hw) (w_4 hw) (w_46 hw) rfl (by decide) rfl rfl pd_6 rfl rfl at_72 rfl (Nat.le_refl _) (by decide) (by decide) rfl rfl (by decide) (by decide) (fun v770 T h_771 X hQ772 => ?_)
      obtain ⟨rfl, Kc_773, E_774, F_775, F_776, F_777, F_778, F_779, F_780, F_781, F_782, F_783, F_784, A_785, A_786, A_787, A_788⟩ := hQ772
      show End Z p e below s _ _ _ _ (mkF m 75 #[.val (.int i0), .val (.int i1), .val (.int i2), .val (.int i3), .val (.int i4), .val (.int (1 : Int32)), .val (.int (1 : Int32)), .val (.int (0 : Int32)), .val (.ref o673), .val (.ref o685), .unset, .unset, .unset, .unset] [])
      refine E_aload (v := (.ref o685)) (pc' := 77) X at_75 rfl rfl rfl ?_
      refine E_iload (pc' := 79) X at_77 rfl rfl ?_
      refine E_iloadN (pc' := 80) X at_79 rfl rfl ?_
      refine E_callV (a := o685) (pc' := 83) (W := 0) (cells' := 6) (slots' := 37) (argsL := [(.int (1 : Int32)), (.int i3)]) (rest := []) X (rm7 l Z a0 hw o685 (1 : Int32) i3 (2 : Int32) (1 : Int32) (0 : Int32) P_708 B_709 RR_710 NB_711 [(.int (0 : Int32)), (.int (0 : Int32)), (.int (0 : Int32)), (.int (0 : Int32)), (.int (0 : Int32)), (.int (0 : Int32)), (.int (0 : Int32))] [(.int (0 : Int32)), (.int (1 : Int32)), (.int (0 : Int32)), (.int (0 : Int32)), (.int (0 : Int32)), (.int (0 : Int32)), (.int (0 : Int32))] [(.int (0 : Int32)), (.int i2), (.int (0 : Int32)), (.int (0 : Int32)), (.int (0 : Int32)), (.int (0 : Int32)), (.int (0 : Int32))] [(.int (1 : Int32)), (.int (0 : Int32)), (.int (0 : Int32)), (.int (0 : Int32))] [(.int (0 : Int32)), (.int (0 : Int32)), (.int (0 : Int32)), (.int (0 : Int32)), (.int (0 : Int32)), (.int (0 : Int32)), (.int (0 : Int32))] [(.int (0 : Int32)), (.int (1 : Int32)), (.int (1 : Int32)), (.int (0 : Int32)), (.int (0 : Int32)), (.int (0 : Int32)), (.int (0 : Int32))] [(.int (0 : Int32)), (.int i2), (.int i3), (.int (0 : Int32)), (.int (0 : Int32)), (.int (0 : Int32)), (.int (0 : Int32))] [(.int (1 : Int32)), (.int (2 : Int32)), (.int (0 : Int32)), (.int (0 : Int32))] (3 : Int32) h_771 X.ext E_774 F_775 F_776 F_777 F_778 F_779 F_780 F_781 F_782 F_783 F_784 A_785 A_786 A_787 A_788 fr_691 fr_741 fr_744 fr_747 fr_750 P_733 P_734 P_735 P_736 P_737 P_738 (by decide) (by decide) (Nat.le_of_ble_eq_true rfl) (Nat.le_of_ble_eq_true rfl) (Nat.le_of_ble_eq_true rfl) (Nat.le_of_ble_eq_true rfl) rfl rfl rfl rfl (by decide)) E_774 (w_42 hw) (w_43 hw) (w_45 hw) (w_44 hw) (w_4 hw) (w_46 hw) rfl (by decide) rfl rfl pd_6 rfl rfl at_80 rfl (Nat.le_refl _) (by decide) (by decide) rfl rfl (by decide) (by decide) (fun v789 T h_790 X hQ791 => ?_)
      obtain ⟨rfl, Kc_792, E_793, F_794, F_795, F_796, F_797, F_798, F_799, F_800, F_801, F_802, F_803, A_804, A_805, A_806, A_807⟩ := hQ791
      show End Z p e below s _ _ _ _ (mkF m 83 #[.val (.int i0), .val (.int i1), .val (.int i2), .val (.int i3), .val (.int i4), .val (.int (1 : Int32)), .val (.int (1 : Int32)), .val (.int (0 : Int32)), .val (.ref o673), .val (.ref o685), .unset, .unset, .unset, .unset] [])
      refine E_aload (v := (.ref o685)) (pc' := 85) X at_83 rfl rfl rfl ?_
      refine E_iload (pc' := 87) X at_85 rfl rfl ?_
      refine E_callV (a := o685) (pc' := 90) (W := 0) (cells' := 6) (slots' := 37) (argsL := [(.int (0 : Int32))]) (rest := []) X (rm6 l Z a0 hw o685 (0 : Int32) (3 : Int32) (1 : Int32) (0 : Int32) P_708 B_709 RR_710 NB_711 [(.int (1 : Int32)), (.int (2 : Int32)), (.int (0 : Int32)), (.int (0 : Int32))] (2 : Int32) (1 : Int32) h_790 X.ext E_793 F_794 F_795 F_796 F_797 F_798 F_799 F_800 F_801 F_802 F_803 A_807 fr_691 (by decide) rfl (by decide)) E_793 (w_33 hw) (w_34 hw) (w_36 hw) (w_35 hw) (w_4 hw) (w_37 hw) rfl (by decide) rfl rfl pd_5 rfl rfl at_87 rfl (Nat.le_refl _) (by decide) (by decide) rfl rfl (by decide) (by decide) (fun v808 T h_809 X hQ810 => ?_)
      obtain ⟨rfl, Kc_811, E_812, F_813, F_814, F_815, F_816, F_817, F_818, F_819, F_820, F_821, F_822⟩ := hQ810
      show End Z p e below s _ _ _ _ (mkF m 90 #[.val (.int i0), .val (.int i1), .val (.int i2), .val (.int i3), .val (.int i4), .val (.int (1 : Int32)), .val (.int (1 : Int32)), .val (.int (0 : Int32)), .val (.ref o673), .val (.ref o685), .unset, .unset, .unset, .unset] [])
      refine E_aload (v := (.ref o685)) (pc' := 92) X at_90 rfl rfl rfl ?_
      refine E_iload (pc' := 94) X at_92 rfl rfl ?_
      refine E_iload (pc' := 96) X at_94 rfl rfl ?_
      have A_823 : Ar Z h_809 P_708 .int [(.int (0 : Int32)), (.int (0 : Int32)), (.int (0 : Int32)), (.int (0 : Int32)), (.int (0 : Int32)), (.int (0 : Int32)), (.int (0 : Int32))] := (A_804.keep Kc_811 (ninS (Ne.symm ne_740) nin0))
      have A_824 : Ar Z h_809 B_709 .int [(.int (0 : Int32)), (.int (1 : Int32)), (.int (1 : Int32)), (.int (0 : Int32)), (.int (0 : Int32)), (.int (0 : Int32)), (.int (0 : Int32))] := (A_805.keep Kc_811 (ninS (Ne.symm ne_743) nin0))
      have A_825 : Ar Z h_809 RR_710 .int [(.int (0 : Int32)), (.int i2), (.int i3), (.int (0 : Int32)), (.int (0 : Int32)), (.int (0 : Int32)), (.int (0 : Int32))] := (A_806.keep Kc_811 (ninS (Ne.symm ne_746) nin0))
      have A_826 : Ar Z h_809 NB_711 .int [(.int (1 : Int32)), (.int (2 : Int32)), (.int (0 : Int32)), (.int (0 : Int32))] := (A_807.keep Kc_811 (ninS (Ne.symm ne_749) nin0))
      refine E_callV (a := o685) (pc' := 99) (W := 0) (cells' := 6) (slots' := 37) (argsL := [(.int (0 : Int32)), (.int i4)]) (rest := []) X (rm7 l Z a0 hw o685 (0 : Int32) i4 (3 : Int32) (2 : Int32) (1 : Int32) P_708 B_709 RR_710 NB_711 [(.int (0 : Int32)), (.int (0 : Int32)), (.int (0 : Int32)), (.int (0 : Int32)), (.int (0 : Int32)), (.int (0 : Int32)), (.int (0 : Int32))] [(.int (0 : Int32)), (.int (1 : Int32)), (.int (1 : Int32)), (.int (0 : Int32)), (.int (0 : Int32)), (.int (0 : Int32)), (.int (0 : Int32))] [(.int (0 : Int32)), (.int i2), (.int i3), (.int (0 : Int32)), (.int (0 : Int32)), (.int (0 : Int32)), (.int (0 : Int32))] [(.int (1 : Int32)), (.int (2 : Int32)), (.int (0 : Int32)), (.int (0 : Int32))] [(.int (0 : Int32)), (.int (0 : Int32)), (.int (0 : Int32)), (.int (1 : Int32)), (.int (0 : Int32)), (.int (0 : Int32)), (.int (0 : Int32))] [(.int (0 : Int32)), (.int (1 : Int32)), (.int (1 : Int32)), (.int (2 : Int32)), (.int (0 : Int32)), (.int (0 : Int32)), (.int (0 : Int32))] [(.int (0 : Int32)), (.int i2), (.int i3), (.int i4), (.int (0 : Int32)), (.int (0 : Int32)), (.int (0 : Int32))] [(.int (3 : Int32)), (.int (2 : Int32)), (.int (0 : Int32)), (.int (0 : Int32))] (4 : Int32) h_809 X.ext E_812 F_813 F_814 F_815 F_816 F_817 F_818 F_819 F_820 F_821 F_822 A_823 A_824 A_825 A_826 fr_691 fr_741 fr_744 fr_747 fr_750 P_733 P_734 P_735 P_736 P_737 P_738 (by decide) (by decide) (Nat.le_of_ble_eq_true rfl) (Nat.le_of_ble_eq_true rfl) (Nat.le_of_ble_eq_true rfl) (Nat.le_of_ble_eq_true rfl) rfl rfl rfl rfl (by decide)) E_812 (w_42 hw) (w_43 hw) (w_45 hw) (w_44 hw) (w_4 hw) (w_46 hw) rfl (by decide) rfl rfl pd_6 rfl rfl at_96 rfl (Nat.le_refl _) (by decide) (by decide) rfl rfl (by decide) (by decide) (fun v827 T h_828 X hQ829 => ?_)
      obtain ⟨rfl, Kc_830, E_831, F_832, F_833, F_834, F_835, F_836, F_837, F_838, F_839, F_840, F_841, A_842, A_843, A_844, A_845⟩ := hQ829
      show End Z p e below s _ _ _ _ (mkF m 99 #[.val (.int i0), .val (.int i1), .val (.int i2), .val (.int i3), .val (.int i4), .val (.int (1 : Int32)), .val (.int (1 : Int32)), .val (.int (0 : Int32)), .val (.ref o673), .val (.ref o685), .unset, .unset, .unset, .unset] [])
      refine E_aload (v := (.ref o685)) (pc' := 101) X at_99 rfl rfl rfl ?_
      refine E_aload (v := (.ref o673)) (pc' := 103) X at_101 rfl rfl rfl ?_
      have A_846 : Ar Z h_828 o673 .int [(.int (0 : Int32)), (.int (1 : Int32))] := ((((((A_706.keep Kc_712 (ninS ne_692 nin0)).keep Kc_754 (ninS ne_692 nin0)).keep Kc_773 (ninS ne_692 (ninS ne_739 (ninS ne_742 (ninS ne_745 (ninS ne_748 nin0)))))).keep Kc_792 (ninS ne_692 (ninS ne_739 (ninS ne_742 (ninS ne_745 (ninS ne_748 nin0)))))).keep Kc_811 (ninS ne_692 nin0)).keep Kc_830 (ninS ne_692 (ninS ne_739 (ninS ne_742 (ninS ne_745 (ninS ne_748 nin0))))))
      have E_850 : Exa Z h_828 P_708 "[I" := (((((E_732.keep Kc_754).keep Kc_773).keep Kc_792).keep Kc_811).keep Kc_830)
      have le_851 := X.le
      refine E_callV (a := o685) (pc' := 106) (W := 0) (cells' := 11) (slots' := 53) (argsL := [(.ref o673)]) (rest := []) X (rm_fin11 l Z a0 hw o685 o673 P_708 B_709 RR_710 NB_711 h_828 X.ext E_831 F_832 F_833 F_834 F_835 F_836 F_837 F_838 F_839 F_840 F_841 A_842 A_845 A_846 fr_691) E_831 (w_47 hw) (w_48 hw) (w_50 hw) (w_49 hw) (w_4 hw) (w_51 hw) rfl (by decide) rfl rfl pd_7 rfl rfl at_103 rfl (Nat.le_refl _) (by decide) (by decide) rfl rfl (by decide) (by decide) (fun v847 T h_848 X hQ849 => ?_)
      obtain ⟨lf_852, jp_853, hg_854, j0_855, j1_856, rfl, Kc_857, nw_858, nw_859, nw_860, nw_861, nw_862, E_863, F_864, F_865, F_866, F_867, F_868, F_869, A_870, A_871, A_872, A_873, A_874⟩ := hQ849
      have ne_875 : B_709 ≠ lf_852 := Nat.ne_of_lt (Nat.lt_of_lt_of_le A_843.lt nw_858)
      have ne_876 : NB_711 ≠ lf_852 := Nat.ne_of_lt (Nat.lt_of_lt_of_le A_845.lt nw_858)
      have ne_877 : P_708 ≠ lf_852 := Nat.ne_of_lt (Nat.lt_of_lt_of_le E_850.lt nw_858)
      have ne_878 : RR_710 ≠ lf_852 := Nat.ne_of_lt (Nat.lt_of_lt_of_le A_844.lt nw_858)
      have ne_879 : o673 ≠ lf_852 := Nat.ne_of_lt (Nat.lt_of_lt_of_le A_846.lt nw_858)
      have ne_880 : o685 ≠ lf_852 := Nat.ne_of_lt (Nat.lt_of_lt_of_le E_831.lt nw_858)
      have fr_881 : Z.heap.size ≤ lf_852 := Nat.le_trans le_851 nw_858
      have ne_882 : B_709 ≠ jp_853 := Nat.ne_of_lt (Nat.lt_of_lt_of_le A_843.lt nw_859)
      have ne_883 : NB_711 ≠ jp_853 := Nat.ne_of_lt (Nat.lt_of_lt_of_le A_845.lt nw_859)
      have ne_884 : P_708 ≠ jp_853 := Nat.ne_of_lt (Nat.lt_of_lt_of_le E_850.lt nw_859)
      have ne_885 : RR_710 ≠ jp_853 := Nat.ne_of_lt (Nat.lt_of_lt_of_le A_844.lt nw_859)
      have ne_886 : o673 ≠ jp_853 := Nat.ne_of_lt (Nat.lt_of_lt_of_le A_846.lt nw_859)
      have ne_887 : o685 ≠ jp_853 := Nat.ne_of_lt (Nat.lt_of_lt_of_le E_831.lt nw_859)
      have fr_888 : Z.heap.size ≤ jp_853 := Nat.le_trans le_851 nw_859
      have ne_889 : B_709 ≠ hg_854 := Nat.ne_of_lt (Nat.lt_of_lt_of_le A_843.lt nw_860)
      have ne_890 : NB_711 ≠ hg_854 := Nat.ne_of_lt (Nat.lt_of_lt_of_le A_845.lt nw_860)
      have ne_891 : P_708 ≠ hg_854 := Nat.ne_of_lt (Nat.lt_of_lt_of_le E_850.lt nw_860)
      have ne_892 : RR_710 ≠ hg_854 := Nat.ne_of_lt (Nat.lt_of_lt_of_le A_844.lt nw_860)
      have ne_893 : o673 ≠ hg_854 := Nat.ne_of_lt (Nat.lt_of_lt_of_le A_846.lt nw_860)
      have ne_894 : o685 ≠ hg_854 := Nat.ne_of_lt (Nat.lt_of_lt_of_le E_831.lt nw_860)
      have fr_895 : Z.heap.size ≤ hg_854 := Nat.le_trans le_851 nw_860
      have ne_896 : B_709 ≠ j0_855 := Nat.ne_of_lt (Nat.lt_of_lt_of_le A_843.lt nw_861)
      have ne_897 : NB_711 ≠ j0_855 := Nat.ne_of_lt (Nat.lt_of_lt_of_le A_845.lt nw_861)
      have ne_898 : P_708 ≠ j0_855 := Nat.ne_of_lt (Nat.lt_of_lt_of_le E_850.lt nw_861)
      have ne_899 : RR_710 ≠ j0_855 := Nat.ne_of_lt (Nat.lt_of_lt_of_le A_844.lt nw_861)
      have ne_900 : o673 ≠ j0_855 := Nat.ne_of_lt (Nat.lt_of_lt_of_le A_846.lt nw_861)
      have ne_901 : o685 ≠ j0_855 := Nat.ne_of_lt (Nat.lt_of_lt_of_le E_831.lt nw_861)
      have fr_902 : Z.heap.size ≤ j0_855 := Nat.le_trans le_851 nw_861
      have ne_903 : B_709 ≠ j1_856 := Nat.ne_of_lt (Nat.lt_of_lt_of_le A_843.lt nw_862)
      have ne_904 : NB_711 ≠ j1_856 := Nat.ne_of_lt (Nat.lt_of_lt_of_le A_845.lt nw_862)
      have ne_905 : P_708 ≠ j1_856 := Nat.ne_of_lt (Nat.lt_of_lt_of_le E_850.lt nw_862)
      have ne_906 : RR_710 ≠ j1_856 := Nat.ne_of_lt (Nat.lt_of_lt_of_le A_844.lt nw_862)
      have ne_907 : o673 ≠ j1_856 := Nat.ne_of_lt (Nat.lt_of_lt_of_le A_846.lt nw_862)
      have ne_908 : o685 ≠ j1_856 := Nat.ne_of_lt (Nat.lt_of_lt_of_le E_831.lt nw_862)
      have fr_909 : Z.heap.size ≤ j1_856 := Nat.le_trans le_851 nw_862
      show End Z p e below s _ _ _ _ (mkF m 106 #[.val (.int i0), .val (.int i1), .val (.int i2), .val (.int i3), .val (.int i4), .val (.int (1 : Int32)), .val (.int (1 : Int32)), .val (.int (0 : Int32)), .val (.ref o673), .val (.ref o685), .unset, .unset, .unset, .unset] [])
      refine E_aload (v := (.ref o685)) (pc' := 108) X at_106 rfl rfl rfl ?_
      refine E_iconst (v := (0 : Int32)) (pc' := 109) X at_108 rfl rfl ?_
      refine E_callV (a := o685) (pc' := 112) (W := 0) (cells' := 11) (slots' := 53) (argsL := [(.int (0 : Int32))]) (rest := []) X (rm12 l Z a0 hw o685 (0 : Int32) lf_852 [(.int (3 : Int32)), (.int (2 : Int32))] (3 : Int32) h_848 X.ext F_864 A_870 (by decide) rfl) E_863 (w_77 hw) (w_78 hw) (w_80 hw) (w_79 hw) (w_4 hw) (w_81 hw) rfl (by decide) rfl rfl pd_2 rfl rfl at_109 rfl (Nat.le_refl _) (by decide) (by decide) rfl rfl (by decide) (by decide) (fun v910 T h_911 X hQ912 => ?_)
      obtain ⟨rfl, rfl⟩ := hQ912
      show End Z p e below s _ _ _ _ (mkF m 112 #[.val (.int i0), .val (.int i1), .val (.int i2), .val (.int i3), .val (.int i4), .val (.int (1 : Int32)), .val (.int (1 : Int32)), .val (.int (0 : Int32)), .val (.ref o673), .val (.ref o685), .unset, .unset, .unset, .unset] [(.int (3 : Int32))])
      refine E_istore (Ls' := #[.val (.int i0), .val (.int i1), .val (.int i2), .val (.int i3), .val (.int i4), .val (.int (1 : Int32)), .val (.int (1 : Int32)), .val (.int (0 : Int32)), .val (.ref o673), .val (.ref o685), .val (.int (3 : Int32)), .unset, .unset, .unset]) (pc' := 114) X at_112 rfl rfl ?_
      refine E_aload (v := (.ref o685)) (pc' := 116) X at_114 rfl rfl rfl ?_
      refine E_iconst (v := (1 : Int32)) (pc' := 117) X at_116 rfl rfl ?_
      refine E_callV (a := o685) (pc' := 120) (W := 0) (cells' := 11) (slots' := 53) (argsL := [(.int (1 : Int32))]) (rest := []) X (rm12 l Z a0 hw o685 (1 : Int32) lf_852 [(.int (3 : Int32)), (.int (2 : Int32))] (2 : Int32) h_848 X.ext F_864 A_870 (by decide) rfl) E_863 (w_77 hw) (w_78 hw) (w_80 hw) (w_79 hw) (w_4 hw) (w_81 hw) rfl (by decide) rfl rfl pd_2 rfl rfl at_117 rfl (Nat.le_refl _) (by decide) (by decide) rfl rfl (by decide) (by decide) (fun v914 T h_915 X hQ916 => ?_)
      obtain ⟨rfl, rfl⟩ := hQ916
      show End Z p e below s _ _ _ _ (mkF m 120 #[.val (.int i0), .val (.int i1), .val (.int i2), .val (.int i3), .val (.int i4), .val (.int (1 : Int32)), .val (.int (1 : Int32)), .val (.int (0 : Int32)), .val (.ref o673), .val (.ref o685), .val (.int (3 : Int32)), .unset, .unset, .unset] [(.int (2 : Int32))])
      refine E_istore (Ls' := #[.val (.int i0), .val (.int i1), .val (.int i2), .val (.int i3), .val (.int i4), .val (.int (1 : Int32)), .val (.int (1 : Int32)), .val (.int (0 : Int32)), .val (.ref o673), .val (.ref o685), .val (.int (3 : Int32)), .val (.int (2 : Int32)), .unset, .unset]) (pc' := 122) X at_120 rfl rfl ?_
      refine E_iload (pc' := 124) X at_122 rfl rfl ?_
      refine E_iload (pc' := 126) X at_124 rfl rfl ?_
      refine E_if (pcY := 133) (pcN := 129) X (i0_eq _) at_126 (by decide) rfl rfl (fun hc126_0 => absurd hc126_0 (by decide)) (fun hc126_0 => ?_)
      refine E_iconst (v := (3 : Int32)) (pc' := 130) X at_129 rfl rfl ?_
      refine E_goto (pc' := 134) X at_130 (by decide) rfl ?_
      refine E_icmp (pcY := 156) (pcN := 137) X (ic_ne _ _) at_134 (by decide) rfl rfl (fun hc134_0 => absurd hc134_0 (by decide)) (fun hc134_0 => ?_)
      refine E_iload (pc' := 139) X at_137 rfl rfl ?_
      refine E_iload (pc' := 141) X at_139 rfl rfl ?_
      refine E_if (pcY := 148) (pcN := 144) X (i0_eq _) at_141 (by decide) rfl rfl (fun hc141_0 => absurd hc141_0 (by decide)) (fun hc141_0 => ?_)
      refine E_iconst (v := (2 : Int32)) (pc' := 145) X at_144 rfl rfl ?_
      refine E_goto (pc' := 149) X at_145 (by decide) rfl ?_
      refine E_icmp (pcY := 156) (pcN := 152) X (ic_ne _ _) at_149 (by decide) rfl rfl (fun hc149_0 => absurd hc149_0 (by decide)) (fun hc149_0 => ?_)
      refine E_iconst (v := (1 : Int32)) (pc' := 153) X at_152 rfl rfl ?_
      refine E_goto (pc' := 157) X at_153 (by decide) rfl ?_
      refine E_istore (Ls' := #[.val (.int i0), .val (.int i1), .val (.int i2), .val (.int i3), .val (.int i4), .val (.int (1 : Int32)), .val (.int (1 : Int32)), .val (.int (0 : Int32)), .val (.ref o673), .val (.ref o685), .val (.int (3 : Int32)), .val (.int (2 : Int32)), .val (.int (1 : Int32)), .unset]) (pc' := 159) X at_157 rfl rfl ?_
      refine E_iload (pc' := 161) X at_159 rfl rfl ?_
      refine E_if (pcY := 188) (pcN := 164) X (i0_eq _) at_161 (by decide) rfl rfl (fun hc161_0 => absurd hc161_0 (by decide)) (fun hc161_0 => ?_)
      refine E_aload (v := (.ref o685)) (pc' := 166) X at_164 rfl rfl rfl ?_
      refine E_iconst (v := (1 : Int32)) (pc' := 167) X at_166 rfl rfl ?_
      have A_918 : Ar Z h_848 B_709 .int [(.int (0 : Int32)), (.int (1 : Int32)), (.int (1 : Int32)), (.int (2 : Int32)), (.int (0 : Int32)), (.int (0 : Int32)), (.int (0 : Int32))] := (A_843.keep Kc_857 (ninS (Ne.symm ne_743) nin0))
      refine E_callV (a := o685) (pc' := 170) (W := 0) (cells' := 11) (slots' := 53) (argsL := [(.int (1 : Int32))]) (rest := []) X (rm13 l Z a0 hw o685 (1 : Int32) B_709 [(.int (0 : Int32)), (.int (1 : Int32)), (.int (1 : Int32)), (.int (2 : Int32)), (.int (0 : Int32)), (.int (0 : Int32)), (.int (0 : Int32))] (1 : Int32) h_848 X.ext F_868 A_918 (by decide) rfl) E_863 (w_82 hw) (w_83 hw) (w_85 hw) (w_84 hw) (w_4 hw) (w_86 hw) rfl (by decide) rfl rfl pd_2 rfl rfl at_167 rfl (Nat.le_refl _) (by decide) (by decide) rfl rfl (by decide) (by decide) (fun v919 T h_920 X hQ921 => ?_)
      obtain ⟨rfl, rfl⟩ := hQ921
      show End Z p e below s _ _ _ _ (mkF m 170 #[.val (.int i0), .val (.int i1), .val (.int i2), .val (.int i3), .val (.int i4), .val (.int (1 : Int32)), .val (.int (1 : Int32)), .val (.int (0 : Int32)), .val (.ref o673), .val (.ref o685), .val (.int (3 : Int32)), .val (.int (2 : Int32)), .val (.int (1 : Int32)), .unset] [(.int (1 : Int32))])
      refine E_iconst (v := (1 : Int32)) (pc' := 171) X at_170 rfl rfl ?_
      refine E_icmp (pcY := 188) (pcN := 174) X (ic_ne _ _) at_171 (by decide) rfl rfl (fun hc171_0 => absurd hc171_0 (by decide)) (fun hc171_0 => ?_)
      refine E_aload (v := (.ref o685)) (pc' := 176) X at_174 rfl rfl rfl ?_
      refine E_iconst (v := (3 : Int32)) (pc' := 177) X at_176 rfl rfl ?_
      refine E_callV (a := o685) (pc' := 180) (W := 0) (cells' := 11) (slots' := 53) (argsL := [(.int (3 : Int32))]) (rest := []) X (rm13 l Z a0 hw o685 (3 : Int32) B_709 [(.int (0 : Int32)), (.int (1 : Int32)), (.int (1 : Int32)), (.int (2 : Int32)), (.int (0 : Int32)), (.int (0 : Int32)), (.int (0 : Int32))] (2 : Int32) h_848 X.ext F_868 A_918 (by decide) rfl) E_863 (w_82 hw) (w_83 hw) (w_85 hw) (w_84 hw) (w_4 hw) (w_86 hw) rfl (by decide) rfl rfl pd_2 rfl rfl at_177 rfl (Nat.le_refl _) (by decide) (by decide) rfl rfl (by decide) (by decide) (fun v923 T h_924 X hQ925 => ?_)
      obtain ⟨rfl, rfl⟩ := hQ925
      show End Z p e below s _ _ _ _ (mkF m 180 #[.val (.int i0), .val (.int i1), .val (.int i2), .val (.int i3), .val (.int i4), .val (.int (1 : Int32)), .val (.int (1 : Int32)), .val (.int (0 : Int32)), .val (.ref o673), .val (.ref o685), .val (.int (3 : Int32)), .val (.int (2 : Int32)), .val (.int (1 : Int32)), .unset] [(.int (2 : Int32))])
      refine E_iconst (v := (2 : Int32)) (pc' := 181) X at_180 rfl rfl ?_
      refine E_icmp (pcY := 188) (pcN := 184) X (ic_ne _ _) at_181 (by decide) rfl rfl (fun hc181_0 => absurd hc181_0 (by decide)) (fun hc181_0 => ?_)
      refine E_iconst (v := (1 : Int32)) (pc' := 185) X at_184 rfl rfl ?_
      refine E_goto (pc' := 189) X at_185 (by decide) rfl ?_
      refine E_istore (Ls' := #[.val (.int i0), .val (.int i1), .val (.int i2), .val (.int i3), .val (.int i4), .val (.int (1 : Int32)), .val (.int (1 : Int32)), .val (.int (0 : Int32)), .val (.ref o673), .val (.ref o685), .val (.int (3 : Int32)), .val (.int (2 : Int32)), .val (.int (1 : Int32)), .unset]) (pc' := 191) X at_189 rfl rfl ?_
      refine E_iload (pc' := 193) X at_191 rfl rfl ?_
      refine E_if (pcY := 231) (pcN := 196) X (i0_eq _) at_193 (by decide) rfl rfl (fun hc193_0 => absurd hc193_0 (by decide)) (fun hc193_0 => ?_)
      refine E_aload (v := (.ref o685)) (pc' := 198) X at_196 rfl rfl rfl ?_
      refine E_iconst (v := (1 : Int32)) (pc' := 199) X at_198 rfl rfl ?_
      have A_927 : Ar Z h_848 RR_710 .int [(.int (0 : Int32)), (.int i2), (.int i3), (.int i4), (.int (0 : Int32)), (.int (0 : Int32)), (.int (0 : Int32))] := (A_844.keep Kc_857 (ninS (Ne.symm ne_746) nin0))
      refine E_callV (a := o685) (pc' := 202) (W := 0) (cells' := 11) (slots' := 53) (argsL := [(.int (1 : Int32))]) (rest := []) X (rm14 l Z a0 hw o685 (1 : Int32) RR_710 [(.int (0 : Int32)), (.int i2), (.int i3), (.int i4), (.int (0 : Int32)), (.int (0 : Int32)), (.int (0 : Int32))] i2 h_848 X.ext F_869 A_927 (by decide) rfl) E_863 (w_87 hw) (w_88 hw) (w_90 hw) (w_89 hw) (w_4 hw) (w_91 hw) rfl (by decide) rfl rfl pd_2 rfl rfl at_199 rfl (Nat.le_refl _) (by decide) (by decide) rfl rfl (by decide) (by decide) (fun v928 T h_929 X hQ930 => ?_)
      obtain ⟨rfl, rfl⟩ := hQ930
      show End Z p e below s _ _ _ _ (mkF m 202 #[.val (.int i0), .val (.int i1), .val (.int i2), .val (.int i3), .val (.int i4), .val (.int (1 : Int32)), .val (.int (1 : Int32)), .val (.int (0 : Int32)), .val (.ref o673), .val (.ref o685), .val (.int (3 : Int32)), .val (.int (2 : Int32)), .val (.int (1 : Int32)), .unset] [(.int i2)])
      refine E_iloadN (pc' := 203) X at_202 rfl rfl ?_
      refine E_icmp (pcY := 231) (pcN := 206) X (ic_ne _ _) at_203 (by decide) rfl rfl (fun hc203_0 => absurd hc203_0 (fun q => q rfl)) (fun hc203_0 => ?_)
      refine E_aload (v := (.ref o685)) (pc' := 208) X at_206 rfl rfl rfl ?_
      refine E_iconst (v := (2 : Int32)) (pc' := 209) X at_208 rfl rfl ?_
      refine E_callV (a := o685) (pc' := 212) (W := 0) (cells' := 11) (slots' := 53) (argsL := [(.int (2 : Int32))]) (rest := []) X (rm14 l Z a0 hw o685 (2 : Int32) RR_710 [(.int (0 : Int32)), (.int i2), (.int i3), (.int i4), (.int (0 : Int32)), (.int (0 : Int32)), (.int (0 : Int32))] i3 h_848 X.ext F_869 A_927 (by decide) rfl) E_863 (w_87 hw) (w_88 hw) (w_90 hw) (w_89 hw) (w_4 hw) (w_91 hw) rfl (by decide) rfl rfl pd_2 rfl rfl at_209 rfl (Nat.le_refl _) (by decide) (by decide) rfl rfl (by decide) (by decide) (fun v932 T h_933 X hQ934 => ?_)
      obtain ⟨rfl, rfl⟩ := hQ934
      show End Z p e below s _ _ _ _ (mkF m 212 #[.val (.int i0), .val (.int i1), .val (.int i2), .val (.int i3), .val (.int i4), .val (.int (1 : Int32)), .val (.int (1 : Int32)), .val (.int (0 : Int32)), .val (.ref o673), .val (.ref o685), .val (.int (3 : Int32)), .val (.int (2 : Int32)), .val (.int (1 : Int32)), .unset] [(.int i3)])
      refine E_iloadN (pc' := 213) X at_212 rfl rfl ?_
      refine E_icmp (pcY := 231) (pcN := 216) X (ic_ne _ _) at_213 (by decide) rfl rfl (fun hc213_0 => absurd hc213_0 (fun q => q rfl)) (fun hc213_0 => ?_)
      refine E_aload (v := (.ref o685)) (pc' := 218) X at_216 rfl rfl rfl ?_
      refine E_iconst (v := (3 : Int32)) (pc' := 219) X at_218 rfl rfl ?_
      refine E_callV (a := o685) (pc' := 222) (W := 0) (cells' := 11) (slots' := 53) (argsL := [(.int (3 : Int32))]) (rest := []) X (rm14 l Z a0 hw o685 (3 : Int32) RR_710 [(.int (0 : Int32)), (.int i2), (.int i3), (.int i4), (.int (0 : Int32)), (.int (0 : Int32)), (.int (0 : Int32))] i4 h_848 X.ext F_869 A_927 (by decide) rfl) E_863 (w_87 hw) (w_88 hw) (w_90 hw) (w_89 hw) (w_4 hw) (w_91 hw) rfl (by decide) rfl rfl pd_2 rfl rfl at_219 rfl (Nat.le_refl _) (by decide) (by decide) rfl rfl (by decide) (by decide) (fun v936 T h_937 X hQ938 => ?_)
      obtain ⟨rfl, rfl⟩ := hQ938
      show End Z p e below s _ _ _ _ (mkF m 222 #[.val (.int i0), .val (.int i1), .val (.int i2), .val (.int i3), .val (.int i4), .val (.int (1 : Int32)), .val (.int (1 : Int32)), .val (.int (0 : Int32)), .val (.ref o673), .val (.ref o685), .val (.int (3 : Int32)), .val (.int (2 : Int32)), .val (.int (1 : Int32)), .unset] [(.int i4)])
      refine E_iload (pc' := 224) X at_222 rfl rfl ?_
      refine E_icmp (pcY := 231) (pcN := 227) X (ic_ne _ _) at_224 (by decide) rfl rfl (fun hc224_0 => absurd hc224_0 (fun q => q rfl)) (fun hc224_0 => ?_)
      refine E_iconst (v := (1 : Int32)) (pc' := 228) X at_227 rfl rfl ?_
      refine E_goto (pc' := 232) X at_228 (by decide) rfl ?_
      refine E_istore (Ls' := #[.val (.int i0), .val (.int i1), .val (.int i2), .val (.int i3), .val (.int i4), .val (.int (1 : Int32)), .val (.int (1 : Int32)), .val (.int (0 : Int32)), .val (.ref o673), .val (.ref o685), .val (.int (3 : Int32)), .val (.int (2 : Int32)), .val (.int (1 : Int32)), .unset]) (pc' := 234) X at_232 rfl rfl ?_
      refine E_iload (pc' := 236) X at_234 rfl rfl ?_
      refine E_if (pcY := 243) (pcN := 239) X (i0_eq _) at_236 (by decide) rfl rfl (fun hc236_0 => absurd hc236_0 (by decide)) (fun hc236_0 => ?_)
      refine E_iconst (v := (0 : Int32)) (pc' := 240) X at_239 rfl rfl ?_
      refine E_goto (pc' := 244) X at_240 (by decide) rfl ?_
      refine E_istore (Ls' := #[.val (.int i0), .val (.int i1), .val (.int i2), .val (.int i3), .val (.int i4), .val (.int (1 : Int32)), .val (.int (1 : Int32)), .val (.int (0 : Int32)), .val (.ref o673), .val (.ref o685), .val (.int (3 : Int32)), .val (.int (2 : Int32)), .val (.int (1 : Int32)), .val (.int (0 : Int32))]) (pc' := 246) X at_244 rfl rfl ?_
      refine E_iload (pc' := 248) X at_246 rfl rfl ?_
      refine E_if (pcY := 276) (pcN := 251) X (i0_eq _) at_248 (by decide) rfl rfl (fun hc248_0 => absurd hc248_0 (by decide)) (fun hc248_0 => ?_)
      refine E_aload (v := (.ref o685)) (pc' := 253) X at_251 rfl rfl rfl ?_
      refine E_iload (pc' := 255) X at_253 rfl rfl ?_
      refine E_iconst (v := (2 : Int32)) (pc' := 256) X at_255 rfl rfl ?_
      have A_940 : Ar Z h_848 P_708 .int [(.int (0 : Int32)), (.int (0 : Int32)), (.int (0 : Int32)), (.int (1 : Int32)), (.int (0 : Int32)), (.int (0 : Int32)), (.int (0 : Int32))] := (A_842.keep Kc_857 (ninS (Ne.symm ne_740) nin0))
      refine E_callV (a := o685) (pc' := 259) (W := 0) (cells' := 11) (slots' := 53) (argsL := [(.int (0 : Int32)), (.int (2 : Int32))]) (rest := []) X (rm_bb1 l Z a0 hw o685 lf_852 jp_853 P_708 B_709 j0_855 j1_856 h_848 X.ext F_864 F_866 F_867 F_868 A_940 A_918 A_870 A_872 A_873 A_874) E_863 (w_92 hw) (w_93 hw) (w_95 hw) (w_94 hw) (w_4 hw) (w_96 hw) rfl (by decide) rfl rfl pd_1 rfl rfl at_256 rfl (Nat.le_refl _) (by decide) (by decide) rfl rfl (by decide) (by decide) (fun v941 T h_942 X hQ943 => ?_)
      obtain ⟨rfl, rfl⟩ := hQ943
      show End Z p e below s _ _ _ _ (mkF m 259 #[.val (.int i0), .val (.int i1), .val (.int i2), .val (.int i3), .val (.int i4), .val (.int (1 : Int32)), .val (.int (1 : Int32)), .val (.int (0 : Int32)), .val (.ref o673), .val (.ref o685), .val (.int (3 : Int32)), .val (.int (2 : Int32)), .val (.int (1 : Int32)), .val (.int (0 : Int32))] [(.int (1 : Int32))])
      refine E_iload (pc' := 261) X at_259 rfl rfl ?_
      refine E_if (pcY := 268) (pcN := 264) X (i0_eq _) at_261 (by decide) rfl rfl (fun hc261_0 => absurd hc261_0 (by decide)) (fun hc261_0 => ?_)
      refine E_iconst (v := (1 : Int32)) (pc' := 265) X at_264 rfl rfl ?_
      refine E_goto (pc' := 269) X at_265 (by decide) rfl ?_
      refine E_icmp (pcY := 276) (pcN := 272) X (ic_ne _ _) at_269 (by decide) rfl rfl (fun hc269_0 => absurd hc269_0 (by decide)) (fun hc269_0 => ?_)
      refine E_iconst (v := (1 : Int32)) (pc' := 273) X at_272 rfl rfl ?_
      refine E_goto (pc' := 277) X at_273 (by decide) rfl ?_
      refine E_istore (Ls' := #[.val (.int i0), .val (.int i1), .val (.int i2), .val (.int i3), .val (.int i4), .val (.int (1 : Int32)), .val (.int (1 : Int32)), .val (.int (0 : Int32)), .val (.ref o673), .val (.ref o685), .val (.int (3 : Int32)), .val (.int (2 : Int32)), .val (.int (1 : Int32)), .val (.int (0 : Int32))]) (pc' := 279) X at_277 rfl rfl ?_
      refine E_iload (pc' := 281) X at_279 rfl rfl ?_
      refine E_if (pcY := 304) (pcN := 284) X (i0_eq _) at_281 (by decide) rfl rfl (fun hc281_0 => absurd hc281_0 (by decide)) (fun hc281_0 => ?_)
      refine E_aload (v := (.ref o685)) (pc' := 286) X at_284 rfl rfl rfl ?_
      refine E_iload (pc' := 288) X at_286 rfl rfl ?_
      refine E_iload (pc' := 290) X at_288 rfl rfl ?_
      refine E_callV (a := o685) (pc' := 293) (W := 0) (cells' := 11) (slots' := 53) (argsL := [(.int (3 : Int32)), (.int (2 : Int32))]) (rest := []) X (rm_ca1 l Z a0 hw o685 hg_854 jp_853 j0_855 j1_856 h_848 X.ext F_866 F_865 A_871 A_872 A_873 A_874) E_863 (w_97 hw) (w_98 hw) (w_100 hw) (w_99 hw) (w_4 hw) (w_101 hw) rfl (by decide) rfl rfl pd_4 rfl rfl at_290 rfl (Nat.le_refl _) (by decide) (by decide) rfl rfl (by decide) (by decide) (fun v945 T h_946 X hQ947 => ?_)
      obtain ⟨rfl, rfl⟩ := hQ947
      show End Z p e below s _ _ _ _ (mkF m 293 #[.val (.int i0), .val (.int i1), .val (.int i2), .val (.int i3), .val (.int i4), .val (.int (1 : Int32)), .val (.int (1 : Int32)), .val (.int (0 : Int32)), .val (.ref o673), .val (.ref o685), .val (.int (3 : Int32)), .val (.int (2 : Int32)), .val (.int (1 : Int32)), .val (.int (0 : Int32))] [(.long (4294967298 : Int64))])
      refine E_ldcJ (v := (4294967298 : Int64)) (pc' := 296) X (w_105 hw) at_293 rfl ?_
      refine E_lcmp (pc' := 297) X at_296 rfl ?_
      refine E_if (pcY := 304) (pcN := 300) X (il_ne _ _) at_297 (by decide) rfl rfl (fun hc297_0 => absurd hc297_0 (by decide)) (fun hc297_0 => ?_)
      refine E_iconst (v := (1 : Int32)) (pc' := 301) X at_300 rfl rfl ?_
      refine E_goto (pc' := 305) X at_301 (by decide) rfl ?_
      refine E_istore (Ls' := #[.val (.int i0), .val (.int i1), .val (.int i2), .val (.int i3), .val (.int i4), .val (.int (1 : Int32)), .val (.int (1 : Int32)), .val (.int (0 : Int32)), .val (.ref o673), .val (.ref o685), .val (.int (3 : Int32)), .val (.int (2 : Int32)), .val (.int (1 : Int32)), .val (.int (0 : Int32))]) (pc' := 307) X at_305 rfl rfl ?_
      refine E_iload (pc' := 309) X at_307 rfl rfl ?_
      exact E_retZ (Or.inr rfl) X at_309 (by decide) (by decide) rfl
    · skip
      refine E_aload (v := (.ref o685)) (pc' := 64) X at_62 rfl rfl rfl ?_
      refine E_iconst (v := (0 : Int32)) (pc' := 65) X at_64 rfl rfl ?_
      refine E_callV (a := o685) (pc' := 68) (W := 0) (cells' := 6) (slots' := 37) (argsL := [(.int (0 : Int32))]) (rest := []) X (rm6 l Z a0 hw o685 (0 : Int32) (1 : Int32) (0 : Int32) (0 : Int32) P_708 B_709 RR_710 NB_711 [(.int (0 : Int32)), (.int (0 : Int32)), (.int (0 : Int32)), (.int (0 : Int32))] (1 : Int32) (0 : Int32) h_704 X.ext E_717 F_718 F_719 F_720 F_721 F_722 F_723 F_724 F_725 F_726 F_727 A_731 fr_691 (by decide) rfl (by decide)) E_717 (w_33 hw) (w_34 hw) (w_36 hw) (w_35 hw) (w_4 hw) (w_37 hw) rfl (by decide) rfl rfl pd_5 rfl rfl at_65 rfl (Nat.le_refl _) (by decide) (by decide) rfl rfl (by decide) (by decide) (fun v949 T h_950 X hQ951 => ?_)
      obtain ⟨rfl, Kc_952, E_953, F_954, F_955, F_956, F_957, F_958, F_959, F_960, F_961, F_962, F_963⟩ := hQ951
      show End Z p e below s _ _ _ _ (mkF m 68 #[.val (.int i0), .val (.int i1), .val (.int i2), .val (.int i3), .val (.int i4), .val (.int (2 : Int32)), .val (.int (1 : Int32)), .val (.int (0 : Int32)), .val (.ref o673), .val (.ref o685), .unset, .unset, .unset, .unset] [])
      refine E_aload (v := (.ref o685)) (pc' := 70) X at_68 rfl rfl rfl ?_
      refine E_iconst (v := (0 : Int32)) (pc' := 71) X at_70 rfl rfl ?_
      refine E_iloadN (pc' := 72) X at_71 rfl rfl ?_
      have A_964 : Ar Z h_950 P_708 .int [(.int (0 : Int32)), (.int (0 : Int32)), (.int (0 : Int32)), (.int (0 : Int32)), (.int (0 : Int32)), (.int (0 : Int32)), (.int (0 : Int32))] := (A_728.keep Kc_952 (ninS (Ne.symm ne_740) nin0))
      have A_965 : Ar Z h_950 B_709 .int [(.int (0 : Int32)), (.int (0 : Int32)), (.int (0 : Int32)), (.int (0 : Int32)), (.int (0 : Int32)), (.int (0 : Int32)), (.int (0 : Int32))] := (A_729.keep Kc_952 (ninS (Ne.symm ne_743) nin0))
      have A_966 : Ar Z h_950 RR_710 .int [(.int (0 : Int32)), (.int (0 : Int32)), (.int (0 : Int32)), (.int (0 : Int32)), (.int (0 : Int32)), (.int (0 : Int32)), (.int (0 : Int32))] := (A_730.keep Kc_952 (ninS (Ne.symm ne_746) nin0))
      have A_967 : Ar Z h_950 NB_711 .int [(.int (0 : Int32)), (.int (0 : Int32)), (.int (0 : Int32)), (.int (0 : Int32))] := (A_731.keep Kc_952 (ninS (Ne.symm ne_749) nin0))
      refine E_callV (a := o685) (pc' := 75) (W := 0) (cells' := 6) (slots' := 37) (argsL := [(.int (0 : Int32)), (.int i2)]) (rest := []) X (rm7 l Z a0 hw o685 (0 : Int32) i2 (1 : Int32) (1 : Int32) (0 : Int32) P_708 B_709 RR_710 NB_711 [(.int (0 : Int32)), (.int (0 : Int32)), (.int (0 : Int32)), (.int (0 : Int32)), (.int (0 : Int32)), (.int (0 : Int32)), (.int (0 : Int32))] [(.int (0 : Int32)), (.int (0 : Int32)), (.int (0 : Int32)), (.int (0 : Int32)), (.int (0 : Int32)), (.int (0 : Int32)), (.int (0 : Int32))] [(.int (0 : Int32)), (.int (0 : Int32)), (.int (0 : Int32)), (.int (0 : Int32)), (.int (0 : Int32)), (.int (0 : Int32)), (.int (0 : Int32))] [(.int (0 : Int32)), (.int (0 : Int32)), (.int (0 : Int32)), (.int (0 : Int32))] [(.int (0 : Int32)), (.int (0 : Int32)), (.int (0 : Int32)), (.int (0 : Int32)), (.int (0 : Int32)), (.int (0 : Int32)), (.int (0 : Int32))] [(.int (0 : Int32)), (.int (1 : Int32)), (.int (0 : Int32)), (.int (0 : Int32)), (.int (0 : Int32)), (.int (0 : Int32)), (.int (0 : Int32))] [(.int (0 : Int32)), (.int i2), (.int (0 : Int32)), (.int (0 : Int32)), (.int (0 : Int32)), (.int (0 : Int32)), (.int (0 : Int32))] [(.int (1 : Int32)), (.int (0 : Int32)), (.int (0 : Int32)), (.int (0 : Int32))] (2 : Int32) h_950 X.ext E_953 F_954 F_955 F_956 F_957 F_958 F_959 F_960 F_961 F_962 F_963 A_964 A_965 A_966 A_967 fr_691 fr_741 fr_744 fr_747 fr_750 P_733 P_734 P_735 P_736 P_737 P_738 (by decide) (by decide) (Nat.le_of_ble_eq_true rfl) (Nat.le_of_ble_eq_true rfl) (Nat.le_of_ble_eq_true rfl) (Nat.le_of_ble_eq_true rfl) rfl rfl rfl rfl (by decide)) E_953 (w_42 hw) (w_43 hw) (w_45 hw) (w_44 hw) (w_4 hw) (w_46 hw) rfl (by decide) rfl rfl pd_6 rfl rfl at_72 rfl (Nat.le_refl _) (by decide) (by decide) rfl rfl (by decide) (by decide) (fun v968 T h_969 X hQ970 => ?_)
      obtain ⟨rfl, Kc_971, E_972, F_973, F_974, F_975, F_976, F_977, F_978, F_979, F_980, F_981, F_982, A_983, A_984, A_985, A_986⟩ := hQ970
      show End Z p e below s _ _ _ _ (mkF m 75 #[.val (.int i0), .val (.int i1), .val (.int i2), .val (.int i3), .val (.int i4), .val (.int (2 : Int32)), .val (.int (1 : Int32)), .val (.int (0 : Int32)), .val (.ref o673), .val (.ref o685), .unset, .unset, .unset, .unset] [])
      refine E_aload (v := (.ref o685)) (pc' := 77) X at_75 rfl rfl rfl ?_
      refine E_iload (pc' := 79) X at_77 rfl rfl ?_
      refine E_iloadN (pc' := 80) X at_79 rfl rfl ?_
      refine E_callV (a := o685) (pc' := 83) (W := 0) (cells' := 6) (slots' := 37) (argsL := [(.int (2 : Int32)), (.int i3)]) (rest := []) X (rm7 l Z a0 hw o685 (2 : Int32) i3 (2 : Int32) (1 : Int32) (0 : Int32) P_708 B_709 RR_710 NB_711 [(.int (0 : Int32)), (.int (0 : Int32)), (.int (0 : Int32)), (.int (0 : Int32)), (.int (0 : Int32)), (.int (0 : Int32)), (.int (0 : Int32))] [(.int (0 : Int32)), (.int (1 : Int32)), (.int (0 : Int32)), (.int (0 : Int32)), (.int (0 : Int32)), (.int (0 : Int32)), (.int (0 : Int32))] [(.int (0 : Int32)), (.int i2), (.int (0 : Int32)), (.int (0 : Int32)), (.int (0 : Int32)), (.int (0 : Int32)), (.int (0 : Int32))] [(.int (1 : Int32)), (.int (0 : Int32)), (.int (0 : Int32)), (.int (0 : Int32))] [(.int (0 : Int32)), (.int (0 : Int32)), (.int (0 : Int32)), (.int (0 : Int32)), (.int (0 : Int32)), (.int (0 : Int32)), (.int (0 : Int32))] [(.int (0 : Int32)), (.int (1 : Int32)), (.int (1 : Int32)), (.int (0 : Int32)), (.int (0 : Int32)), (.int (0 : Int32)), (.int (0 : Int32))] [(.int (0 : Int32)), (.int i2), (.int i3), (.int (0 : Int32)), (.int (0 : Int32)), (.int (0 : Int32)), (.int (0 : Int32))] [(.int (1 : Int32)), (.int (0 : Int32)), (.int (2 : Int32)), (.int (0 : Int32))] (3 : Int32) h_969 X.ext E_972 F_973 F_974 F_975 F_976 F_977 F_978 F_979 F_980 F_981 F_982 A_983 A_984 A_985 A_986 fr_691 fr_741 fr_744 fr_747 fr_750 P_733 P_734 P_735 P_736 P_737 P_738 (by decide) (by decide) (Nat.le_of_ble_eq_true rfl) (Nat.le_of_ble_eq_true rfl) (Nat.le_of_ble_eq_true rfl) (Nat.le_of_ble_eq_true rfl) rfl rfl rfl rfl (by decide)) E_972 (w_42 hw) (w_43 hw) (w_45 hw) (w_44 hw) (w_4 hw) (w_46 hw) rfl (by decide) rfl rfl pd_6 rfl rfl at_80 rfl (Nat.le_refl _) (by decide) (by decide) rfl rfl (by decide) (by decide) (fun v987 T h_988 X hQ989 => ?_)
      obtain ⟨rfl, Kc_990, E_991, F_992, F_993, F_994, F_995, F_996, F_997, F_998, F_999, F_1000, F_1001, A_1002, A_1003, A_1004, A_1005⟩ := hQ989
      show End Z p e below s _ _ _ _ (mkF m 83 #[.val (.int i0), .val (.int i1), .val (.int i2), .val (.int i3), .val (.int i4), .val (.int (2 : Int32)), .val (.int (1 : Int32)), .val (.int (0 : Int32)), .val (.ref o673), .val (.ref o685), .unset, .unset, .unset, .unset] [])
      refine E_aload (v := (.ref o685)) (pc' := 85) X at_83 rfl rfl rfl ?_
      refine E_iload (pc' := 87) X at_85 rfl rfl ?_
      refine E_callV (a := o685) (pc' := 90) (W := 0) (cells' := 6) (slots' := 37) (argsL := [(.int (0 : Int32))]) (rest := []) X (rm6 l Z a0 hw o685 (0 : Int32) (3 : Int32) (1 : Int32) (0 : Int32) P_708 B_709 RR_710 NB_711 [(.int (1 : Int32)), (.int (0 : Int32)), (.int (2 : Int32)), (.int (0 : Int32))] (2 : Int32) (1 : Int32) h_988 X.ext E_991 F_992 F_993 F_994 F_995 F_996 F_997 F_998 F_999 F_1000 F_1001 A_1005 fr_691 (by decide) rfl (by decide)) E_991 (w_33 hw) (w_34 hw) (w_36 hw) (w_35 hw) (w_4 hw) (w_37 hw) rfl (by decide) rfl rfl pd_5 rfl rfl at_87 rfl (Nat.le_refl _) (by decide) (by decide) rfl rfl (by decide) (by decide) (fun v1006 T h_1007 X hQ1008 => ?_)
      obtain ⟨rfl, Kc_1009, E_1010, F_1011, F_1012, F_1013, F_1014, F_1015, F_1016, F_1017, F_1018, F_1019, F_1020⟩ := hQ1008
      show End Z p e below s _ _ _ _ (mkF m 90 #[.val (.int i0), .val (.int i1), .val (.int i2), .val (.int i3), .val (.int i4), .val (.int (2 : Int32)), .val (.int (1 : Int32)), .val (.int (0 : Int32)), .val (.ref o673), .val (.ref o685), .unset, .unset, .unset, .unset] [])
      refine E_aload (v := (.ref o685)) (pc' := 92) X at_90 rfl rfl rfl ?_
      refine E_iload (pc' := 94) X at_92 rfl rfl ?_
      refine E_iload (pc' := 96) X at_94 rfl rfl ?_
      have A_1021 : Ar Z h_1007 P_708 .int [(.int (0 : Int32)), (.int (0 : Int32)), (.int (0 : Int32)), (.int (0 : Int32)), (.int (0 : Int32)), (.int (0 : Int32)), (.int (0 : Int32))] := (A_1002.keep Kc_1009 (ninS (Ne.symm ne_740) nin0))
      have A_1022 : Ar Z h_1007 B_709 .int [(.int (0 : Int32)), (.int (1 : Int32)), (.int (1 : Int32)), (.int (0 : Int32)), (.int (0 : Int32)), (.int (0 : Int32)), (.int (0 : Int32))] := (A_1003.keep Kc_1009 (ninS (Ne.symm ne_743) nin0))
      have A_1023 : Ar Z h_1007 RR_710 .int [(.int (0 : Int32)), (.int i2), (.int i3), (.int (0 : Int32)), (.int (0 : Int32)), (.int (0 : Int32)), (.int (0 : Int32))] := (A_1004.keep Kc_1009 (ninS (Ne.symm ne_746) nin0))
      have A_1024 : Ar Z h_1007 NB_711 .int [(.int (1 : Int32)), (.int (0 : Int32)), (.int (2 : Int32)), (.int (0 : Int32))] := (A_1005.keep Kc_1009 (ninS (Ne.symm ne_749) nin0))
      refine E_callV (a := o685) (pc' := 99) (W := 0) (cells' := 6) (slots' := 37) (argsL := [(.int (0 : Int32)), (.int i4)]) (rest := []) X (rm7 l Z a0 hw o685 (0 : Int32) i4 (3 : Int32) (2 : Int32) (1 : Int32) P_708 B_709 RR_710 NB_711 [(.int (0 : Int32)), (.int (0 : Int32)), (.int (0 : Int32)), (.int (0 : Int32)), (.int (0 : Int32)), (.int (0 : Int32)), (.int (0 : Int32))] [(.int (0 : Int32)), (.int (1 : Int32)), (.int (1 : Int32)), (.int (0 : Int32)), (.int (0 : Int32)), (.int (0 : Int32)), (.int (0 : Int32))] [(.int (0 : Int32)), (.int i2), (.int i3), (.int (0 : Int32)), (.int (0 : Int32)), (.int (0 : Int32)), (.int (0 : Int32))] [(.int (1 : Int32)), (.int (0 : Int32)), (.int (2 : Int32)), (.int (0 : Int32))] [(.int (0 : Int32)), (.int (0 : Int32)), (.int (0 : Int32)), (.int (1 : Int32)), (.int (0 : Int32)), (.int (0 : Int32)), (.int (0 : Int32))] [(.int (0 : Int32)), (.int (1 : Int32)), (.int (1 : Int32)), (.int (2 : Int32)), (.int (0 : Int32)), (.int (0 : Int32)), (.int (0 : Int32))] [(.int (0 : Int32)), (.int i2), (.int i3), (.int i4), (.int (0 : Int32)), (.int (0 : Int32)), (.int (0 : Int32))] [(.int (3 : Int32)), (.int (0 : Int32)), (.int (2 : Int32)), (.int (0 : Int32))] (4 : Int32) h_1007 X.ext E_1010 F_1011 F_1012 F_1013 F_1014 F_1015 F_1016 F_1017 F_1018 F_1019 F_1020 A_1021 A_1022 A_1023 A_1024 fr_691 fr_741 fr_744 fr_747 fr_750 P_733 P_734 P_735 P_736 P_737 P_738 (by decide) (by decide) (Nat.le_of_ble_eq_true rfl) (Nat.le_of_ble_eq_true rfl) (Nat.le_of_ble_eq_true rfl) (Nat.le_of_ble_eq_true rfl) rfl rfl rfl rfl (by decide)) E_1010 (w_42 hw) (w_43 hw) (w_45 hw) (w_44 hw) (w_4 hw) (w_46 hw) rfl (by decide) rfl rfl pd_6 rfl rfl at_96 rfl (Nat.le_refl _) (by decide) (by decide) rfl rfl (by decide) (by decide) (fun v1025 T h_1026 X hQ1027 => ?_)
      obtain ⟨rfl, Kc_1028, E_1029, F_1030, F_1031, F_1032, F_1033, F_1034, F_1035, F_1036, F_1037, F_1038, F_1039, A_1040, A_1041, A_1042, A_1043⟩ := hQ1027
      show End Z p e below s _ _ _ _ (mkF m 99 #[.val (.int i0), .val (.int i1), .val (.int i2), .val (.int i3), .val (.int i4), .val (.int (2 : Int32)), .val (.int (1 : Int32)), .val (.int (0 : Int32)), .val (.ref o673), .val (.ref o685), .unset, .unset, .unset, .unset] [])
      refine E_aload (v := (.ref o685)) (pc' := 101) X at_99 rfl rfl rfl ?_
      refine E_aload (v := (.ref o673)) (pc' := 103) X at_101 rfl rfl rfl ?_
      have A_1044 : Ar Z h_1026 o673 .int [(.int (0 : Int32)), (.int (2 : Int32))] := ((((((A_706.keep Kc_712 (ninS ne_692 nin0)).keep Kc_952 (ninS ne_692 nin0)).keep Kc_971 (ninS ne_692 (ninS ne_739 (ninS ne_742 (ninS ne_745 (ninS ne_748 nin0)))))).keep Kc_990 (ninS ne_692 (ninS ne_739 (ninS ne_742 (ninS ne_745 (ninS ne_748 nin0)))))).keep Kc_1009 (ninS ne_692 nin0)).keep Kc_1028 (ninS ne_692 (ninS ne_739 (ninS ne_742 (ninS ne_745 (ninS ne_748 nin0))))))
      have E_1048 : Exa Z h_1026 P_708 "[I" := (((((E_732.keep Kc_952).keep Kc_971).keep Kc_990).keep Kc_1009).keep Kc_1028)
      have le_1049 := X.le
      refine E_callV (a := o685) (pc' := 106) (W := 0) (cells' := 11) (slots' := 53) (argsL := [(.ref o673)]) (rest := []) X (rm_fin12 l Z a0 hw o685 o673 P_708 B_709 RR_710 NB_711 h_1026 X.ext E_1029 F_1030 F_1031 F_1032 F_1033 F_1034 F_1035 F_1036 F_1037 F_1038 F_1039 A_1040 A_1043 A_1044 fr_691) E_1029 (w_47 hw) (w_48 hw) (w_50 hw) (w_49 hw) (w_4 hw) (w_51 hw) rfl (by decide) rfl rfl pd_7 rfl rfl at_103 rfl (Nat.le_refl _) (by decide) (by decide) rfl rfl (by decide) (by decide) (fun v1045 T h_1046 X hQ1047 => ?_)
      obtain ⟨lf_1050, jp_1051, hg_1052, j0_1053, j1_1054, rfl, Kc_1055, nw_1056, nw_1057, nw_1058, nw_1059, nw_1060, E_1061, F_1062, F_1063, F_1064, F_1065, F_1066, F_1067, A_1068, A_1069, A_1070, A_1071, A_1072⟩ := hQ1047
      have ne_1073 : B_709 ≠ lf_1050 := Nat.ne_of_lt (Nat.lt_of_lt_of_le A_1041.lt nw_1056)
      have ne_1074 : NB_711 ≠ lf_1050 := Nat.ne_of_lt (Nat.lt_of_lt_of_le A_1043.lt nw_1056)
      have ne_1075 : P_708 ≠ lf_1050 := Nat.ne_of_lt (Nat.lt_of_lt_of_le E_1048.lt nw_1056)
      have ne_1076 : RR_710 ≠ lf_1050 := Nat.ne_of_lt (Nat.lt_of_lt_of_le A_1042.lt nw_1056)
      have ne_1077 : o673 ≠ lf_1050 := Nat.ne_of_lt (Nat.lt_of_lt_of_le A_1044.lt nw_1056)
      have ne_1078 : o685 ≠ lf_1050 := Nat.ne_of_lt (Nat.lt_of_lt_of_le E_1029.lt nw_1056)
      have fr_1079 : Z.heap.size ≤ lf_1050 := Nat.le_trans le_1049 nw_1056
      have ne_1080 : B_709 ≠ jp_1051 := Nat.ne_of_lt (Nat.lt_of_lt_of_le A_1041.lt nw_1057)
      have ne_1081 : NB_711 ≠ jp_1051 := Nat.ne_of_lt (Nat.lt_of_lt_of_le A_1043.lt nw_1057)
      have ne_1082 : P_708 ≠ jp_1051 := Nat.ne_of_lt (Nat.lt_of_lt_of_le E_1048.lt nw_1057)
      have ne_1083 : RR_710 ≠ jp_1051 := Nat.ne_of_lt (Nat.lt_of_lt_of_le A_1042.lt nw_1057)
      have ne_1084 : o673 ≠ jp_1051 := Nat.ne_of_lt (Nat.lt_of_lt_of_le A_1044.lt nw_1057)
      have ne_1085 : o685 ≠ jp_1051 := Nat.ne_of_lt (Nat.lt_of_lt_of_le E_1029.lt nw_1057)
      have fr_1086 : Z.heap.size ≤ jp_1051 := Nat.le_trans le_1049 nw_1057
      have ne_1087 : B_709 ≠ hg_1052 := Nat.ne_of_lt (Nat.lt_of_lt_of_le A_1041.lt nw_1058)
      have ne_1088 : NB_711 ≠ hg_1052 := Nat.ne_of_lt (Nat.lt_of_lt_of_le A_1043.lt nw_1058)
      have ne_1089 : P_708 ≠ hg_1052 := Nat.ne_of_lt (Nat.lt_of_lt_of_le E_1048.lt nw_1058)
      have ne_1090 : RR_710 ≠ hg_1052 := Nat.ne_of_lt (Nat.lt_of_lt_of_le A_1042.lt nw_1058)
      have ne_1091 : o673 ≠ hg_1052 := Nat.ne_of_lt (Nat.lt_of_lt_of_le A_1044.lt nw_1058)
      have ne_1092 : o685 ≠ hg_1052 := Nat.ne_of_lt (Nat.lt_of_lt_of_le E_1029.lt nw_1058)
      have fr_1093 : Z.heap.size ≤ hg_1052 := Nat.le_trans le_1049 nw_1058
      have ne_1094 : B_709 ≠ j0_1053 := Nat.ne_of_lt (Nat.lt_of_lt_of_le A_1041.lt nw_1059)
      have ne_1095 : NB_711 ≠ j0_1053 := Nat.ne_of_lt (Nat.lt_of_lt_of_le A_1043.lt nw_1059)
      have ne_1096 : P_708 ≠ j0_1053 := Nat.ne_of_lt (Nat.lt_of_lt_of_le E_1048.lt nw_1059)
      have ne_1097 : RR_710 ≠ j0_1053 := Nat.ne_of_lt (Nat.lt_of_lt_of_le A_1042.lt nw_1059)
      have ne_1098 : o673 ≠ j0_1053 := Nat.ne_of_lt (Nat.lt_of_lt_of_le A_1044.lt nw_1059)
      have ne_1099 : o685 ≠ j0_1053 := Nat.ne_of_lt (Nat.lt_of_lt_of_le E_1029.lt nw_1059)
      have fr_1100 : Z.heap.size ≤ j0_1053 := Nat.le_trans le_1049 nw_1059
      have ne_1101 : B_709 ≠ j1_1054 := Nat.ne_of_lt (Nat.lt_of_lt_of_le A_1041.lt nw_1060)
      have ne_1102 : NB_711 ≠ j1_1054 := Nat.ne_of_lt (Nat.lt_of_lt_of_le A_1043.lt nw_1060)
      have ne_1103 : P_708 ≠ j1_1054 := Nat.ne_of_lt (Nat.lt_of_lt_of_le E_1048.lt nw_1060)
      have ne_1104 : RR_710 ≠ j1_1054 := Nat.ne_of_lt (Nat.lt_of_lt_of_le A_1042.lt nw_1060)
      have ne_1105 : o673 ≠ j1_1054 := Nat.ne_of_lt (Nat.lt_of_lt_of_le A_1044.lt nw_1060)
      have ne_1106 : o685 ≠ j1_1054 := Nat.ne_of_lt (Nat.lt_of_lt_of_le E_1029.lt nw_1060)
      have fr_1107 : Z.heap.size ≤ j1_1054 := Nat.le_trans le_1049 nw_1060
      show End Z p e below s _ _ _ _ (mkF m 106 #[.val (.int i0), .val (.int i1), .val (.int i2), .val (.int i3), .val (.int i4), .val (.int (2 : Int32)), .val (.int (1 : Int32)), .val (.int (0 : Int32)), .val (.ref o673), .val (.ref o685), .unset, .unset, .unset, .unset] [])
      refine E_aload (v := (.ref o685)) (pc' := 108) X at_106 rfl rfl rfl ?_
      refine E_iconst (v := (0 : Int32)) (pc' := 109) X at_108 rfl rfl ?_
      refine E_callV (a := o685) (pc' := 112) (W := 0) (cells' := 11) (slots' := 53) (argsL := [(.int (0 : Int32))]) (rest := []) X (rm12 l Z a0 hw o685 (0 : Int32) lf_1050 [(.int (3 : Int32)), (.int (2 : Int32))] (3 : Int32) h_1046 X.ext F_1062 A_1068 (by decide) rfl) E_1061 (w_77 hw) (w_78 hw) (w_80 hw) (w_79 hw) (w_4 hw) (w_81 hw) rfl (by decide) rfl rfl pd_2 rfl rfl at_109 rfl (Nat.le_refl _) (by decide) (by decide) rfl rfl (by decide) (by decide) (fun v1108 T h_1109 X hQ1110 => ?_)
      obtain ⟨rfl, rfl⟩ := hQ1110
      show End Z p e below s _ _ _ _ (mkF m 112 #[.val (.int i0), .val (.int i1), .val (.int i2), .val (.int i3), .val (.int i4), .val (.int (2 : Int32)), .val (.int (1 : Int32)), .val (.int (0 : Int32)), .val (.ref o673), .val (.ref o685), .unset, .unset, .unset, .unset] [(.int (3 : Int32))])
      refine E_istore (Ls' := #[.val (.int i0), .val (.int i1), .val (.int i2), .val (.int i3), .val (.int i4), .val (.int (2 : Int32)), .val (.int (1 : Int32)), .val (.int (0 : Int32)), .val (.ref o673), .val (.ref o685), .val (.int (3 : Int32)), .unset, .unset, .unset]) (pc' := 114) X at_112 rfl rfl ?_
      refine E_aload (v := (.ref o685)) (pc' := 116) X at_114 rfl rfl rfl ?_
      refine E_iconst (v := (1 : Int32)) (pc' := 117) X at_116 rfl rfl ?_
      refine E_callV (a := o685) (pc' := 120) (W := 0) (cells' := 11) (slots' := 53) (argsL := [(.int (1 : Int32))]) (rest := []) X (rm12 l Z a0 hw o685 (1 : Int32) lf_1050 [(.int (3 : Int32)), (.int (2 : Int32))] (2 : Int32) h_1046 X.ext F_1062 A_1068 (by decide) rfl) E_1061 (w_77 hw) (w_78 hw) (w_80 hw) (w_79 hw) (w_4 hw) (w_81 hw) rfl (by decide) rfl rfl pd_2 rfl rfl at_117 rfl (Nat.le_refl _) (by decide) (by decide) rfl rfl (by decide) (by decide) (fun v1112 T h_1113 X hQ1114 => ?_)
      obtain ⟨rfl, rfl⟩ := hQ1114
      show End Z p e below s _ _ _ _ (mkF m 120 #[.val (.int i0), .val (.int i1), .val (.int i2), .val (.int i3), .val (.int i4), .val (.int (2 : Int32)), .val (.int (1 : Int32)), .val (.int (0 : Int32)), .val (.ref o673), .val (.ref o685), .val (.int (3 : Int32)), .unset, .unset, .unset] [(.int (2 : Int32))])
      refine E_istore (Ls' := #[.val (.int i0), .val (.int i1), .val (.int i2), .val (.int i3), .val (.int i4), .val (.int (2 : Int32)), .val (.int (1 : Int32)), .val (.int (0 : Int32)), .val (.ref o673), .val (.ref o685), .val (.int (3 : Int32)), .val (.int (2 : Int32)), .unset, .unset]) (pc' := 122) X at_120 rfl rfl ?_
      refine E_iload (pc' := 124) X at_122 rfl rfl ?_
      refine E_iload (pc' := 126) X at_124 rfl rfl ?_
      refine E_if (pcY := 133) (pcN := 129) X (i0_eq _) at_126 (by decide) rfl rfl (fun hc126_0 => absurd hc126_0 (by decide)) (fun hc126_0 => ?_)
      refine E_iconst (v := (3 : Int32)) (pc' := 130) X at_129 rfl rfl ?_
      refine E_goto (pc' := 134) X at_130 (by decide) rfl ?_
      refine E_icmp (pcY := 156) (pcN := 137) X (ic_ne _ _) at_134 (by decide) rfl rfl (fun hc134_0 => absurd hc134_0 (by decide)) (fun hc134_0 => ?_)
      refine E_iload (pc' := 139) X at_137 rfl rfl ?_
      refine E_iload (pc' := 141) X at_139 rfl rfl ?_
      refine E_if (pcY := 148) (pcN := 144) X (i0_eq _) at_141 (by decide) rfl rfl (fun hc141_0 => absurd hc141_0 (by decide)) (fun hc141_0 => ?_)
      refine E_iconst (v := (2 : Int32)) (pc' := 145) X at_144 rfl rfl ?_
      refine E_goto (pc' := 149) X at_145 (by decide) rfl ?_
      refine E_icmp (pcY := 156) (pcN := 152) X (ic_ne _ _) at_149 (by decide) rfl rfl (fun hc149_0 => absurd hc149_0 (by decide)) (fun hc149_0 => ?_)
      refine E_iconst (v := (1 : Int32)) (pc' := 153) X at_152 rfl rfl ?_
      refine E_goto (pc' := 157) X at_153 (by decide) rfl ?_
      refine E_istore (Ls' := #[.val (.int i0), .val (.int i1), .val (.int i2), .val (.int i3), .val (.int i4), .val (.int (2 : Int32)), .val (.int (1 : Int32)), .val (.int (0 : Int32)), .val (.ref o673), .val (.ref o685), .val (.int (3 : Int32)), .val (.int (2 : Int32)), .val (.int (1 : Int32)), .unset]) (pc' := 159) X at_157 rfl rfl ?_
      refine E_iload (pc' := 161) X at_159 rfl rfl ?_
      refine E_if (pcY := 188) (pcN := 164) X (i0_eq _) at_161 (by decide) rfl rfl (fun hc161_0 => absurd hc161_0 (by decide)) (fun hc161_0 => ?_)
      refine E_aload (v := (.ref o685)) (pc' := 166) X at_164 rfl rfl rfl ?_
      refine E_iconst (v := (1 : Int32)) (pc' := 167) X at_166 rfl rfl ?_
      have A_1116 : Ar Z h_1046 B_709 .int [(.int (0 : Int32)), (.int (1 : Int32)), (.int (1 : Int32)), (.int (2 : Int32)), (.int (0 : Int32)), (.int (0 : Int32)), (.int (0 : Int32))] := (A_1041.keep Kc_1055 (ninS (Ne.symm ne_743) nin0))
      refine E_callV (a := o685) (pc' := 170) (W := 0) (cells' := 11) (slots' := 53) (argsL := [(.int (1 : Int32))]) (rest := []) X (rm13 l Z a0 hw o685 (1 : Int32) B_709 [(.int (0 : Int32)), (.int (1 : Int32)), (.int (1 : Int32)), (.int (2 : Int32)), (.int (0 : Int32)), (.int (0 : Int32)), (.int (0 : Int32))] (1 : Int32) h_1046 X.ext F_1066 A_1116 (by decide) rfl) E_1061 (w_82 hw) (w_83 hw) (w_85 hw) (w_84 hw) (w_4 hw) (w_86 hw) rfl (by decide) rfl rfl pd_2 rfl rfl at_167 rfl (Nat.le_refl _) (by decide) (by decide) rfl rfl (by decide) (by decide) (fun v1117 T h_1118 X hQ1119 => ?_)
      obtain ⟨rfl, rfl⟩ := hQ1119
      show End Z p e below s _ _ _ _ (mkF m 170 #[.val (.int i0), .val (.int i1), .val (.int i2), .val (.int i3), .val (.int i4), .val (.int (2 : Int32)), .val (.int (1 : Int32)), .val (.int (0 : Int32)), .val (.ref o673), .val (.ref o685), .val (.int (3 : Int32)), .val (.int (2 : Int32)), .val (.int (1 : Int32)), .unset] [(.int (1 : Int32))])
      refine E_iconst (v := (1 : Int32)) (pc' := 171) X at_170 rfl rfl ?_
      refine E_icmp (pcY := 188) (pcN := 174) X (ic_ne _ _) at_171 (by decide) rfl rfl (fun hc171_0 => absurd hc171_0 (by decide)) (fun hc171_0 => ?_)
      refine E_aload (v := (.ref o685)) (pc' := 176) X at_174 rfl rfl rfl ?_
      refine E_iconst (v := (3 : Int32)) (pc' := 177) X at_176 rfl rfl ?_
      refine E_callV (a := o685) (pc' := 180) (W := 0) (cells' := 11) (slots' := 53) (argsL := [(.int (3 : Int32))]) (rest := []) X (rm13 l Z a0 hw o685 (3 : Int32) B_709 [(.int (0 : Int32)), (.int (1 : Int32)), (.int (1 : Int32)), (.int (2 : Int32)), (.int (0 : Int32)), (.int (0 : Int32)), (.int (0 : Int32))] (2 : Int32) h_1046 X.ext F_1066 A_1116 (by decide) rfl) E_1061 (w_82 hw) (w_83 hw) (w_85 hw) (w_84 hw) (w_4 hw) (w_86 hw) rfl (by decide) rfl rfl pd_2 rfl rfl at_177 rfl (Nat.le_refl _) (by decide) (by decide) rfl rfl (by decide) (by decide) (fun v1121 T h_1122 X hQ1123 => ?_)
      obtain ⟨rfl, rfl⟩ := hQ1123
      show End Z p e below s _ _ _ _ (mkF m 180 #[.val (.int i0), .val (.int i1), .val (.int i2), .val (.int i3), .val (.int i4), .val (.int (2 : Int32)), .val (.int (1 : Int32)), .val (.int (0 : Int32)), .val (.ref o673), .val (.ref o685), .val (.int (3 : Int32)), .val (.int (2 : Int32)), .val (.int (1 : Int32)), .unset] [(.int (2 : Int32))])
      refine E_iconst (v := (2 : Int32)) (pc' := 181) X at_180 rfl rfl ?_
      refine E_icmp (pcY := 188) (pcN := 184) X (ic_ne _ _) at_181 (by decide) rfl rfl (fun hc181_0 => absurd hc181_0 (by decide)) (fun hc181_0 => ?_)
      refine E_iconst (v := (1 : Int32)) (pc' := 185) X at_184 rfl rfl ?_
      refine E_goto (pc' := 189) X at_185 (by decide) rfl ?_
      refine E_istore (Ls' := #[.val (.int i0), .val (.int i1), .val (.int i2), .val (.int i3), .val (.int i4), .val (.int (2 : Int32)), .val (.int (1 : Int32)), .val (.int (0 : Int32)), .val (.ref o673), .val (.ref o685), .val (.int (3 : Int32)), .val (.int (2 : Int32)), .val (.int (1 : Int32)), .unset]) (pc' := 191) X at_189 rfl rfl ?_
      refine E_iload (pc' := 193) X at_191 rfl rfl ?_
      refine E_if (pcY := 231) (pcN := 196) X (i0_eq _) at_193 (by decide) rfl rfl (fun hc193_0 => absurd hc193_0 (by decide)) (fun hc193_0 => ?_)
      refine E_aload (v := (.ref o685)) (pc' := 198) X at_196 rfl rfl rfl ?_
      refine E_iconst (v := (1 : Int32)) (pc' := 199) X at_198 rfl rfl ?_
      have A_1125 : Ar Z h_1046 RR_710 .int [(.int (0 : Int32)), (.int i2), (.int i3), (.int i4), (.int (0 : Int32)), (.int (0 : Int32)), (.int (0 : Int32))] := (A_1042.keep Kc_1055 (ninS (Ne.symm ne_746) nin0))
      refine E_callV (a := o685) (pc' := 202) (W := 0) (cells' := 11) (slots' := 53) (argsL := [(.int (1 : Int32))]) (rest := []) X (rm14 l Z a0 hw o685 (1 : Int32) RR_710 [(.int (0 : Int32)), (.int i2), (.int i3), (.int i4), (.int (0 : Int32)), (.int (0 : Int32)), (.int (0 : Int32))] i2 h_1046 X.ext F_1067 A_1125 (by decide) rfl) E_1061 (w_87 hw) (w_88 hw) (w_90 hw) (w_89 hw) (w_4 hw) (w_91 hw) rfl (by decide) rfl rfl pd_2 rfl rfl at_199 rfl (Nat.le_refl _) (by decide) (by decide) rfl rfl (by decide) (by decide) (fun v1126 T h_1127 X hQ1128 => ?_)
      obtain ⟨rfl, rfl⟩ := hQ1128
      show End Z p e below s _ _ _ _ (mkF m 202 #[.val (.int i0), .val (.int i1), .val (.int i2), .val (.int i3), .val (.int i4), .val (.int (2 : Int32)), .val (.int (1 : Int32)), .val (.int (0 : Int32)), .val (.ref o673), .val (.ref o685), .val (.int (3 : Int32)), .val (.int (2 : Int32)), .val (.int (1 : Int32)), .unset] [(.int i2)])
      refine E_iloadN (pc' := 203) X at_202 rfl rfl ?_
      refine E_icmp (pcY := 231) (pcN := 206) X (ic_ne _ _) at_203 (by decide) rfl rfl (fun hc203_0 => absurd hc203_0 (fun q => q rfl)) (fun hc203_0 => ?_)
      refine E_aload (v := (.ref o685)) (pc' := 208) X at_206 rfl rfl rfl ?_
      refine E_iconst (v := (2 : Int32)) (pc' := 209) X at_208 rfl rfl ?_
      refine E_callV (a := o685) (pc' := 212) (W := 0) (cells' := 11) (slots' := 53) (argsL := [(.int (2 : Int32))]) (rest := []) X (rm14 l Z a0 hw o685 (2 : Int32) RR_710 [(.int (0 : Int32)), (.int i2), (.int i3), (.int i4), (.int (0 : Int32)), (.int (0 : Int32)), (.int (0 : Int32))] i3 h_1046 X.ext F_1067 A_1125 (by decide) rfl) E_1061 (w_87 hw) (w_88 hw) (w_90 hw) (w_89 hw) (w_4 hw) (w_91 hw) rfl (by decide) rfl rfl pd_2 rfl rfl at_209 rfl (Nat.le_refl _) (by decide) (by decide) rfl rfl (by decide) (by decide) (fun v1130 T h_1131 X hQ1132 => ?_)
      obtain ⟨rfl, rfl⟩ := hQ1132
      show End Z p e below s _ _ _ _ (mkF m 212 #[.val (.int i0), .val (.int i1), .val (.int i2), .val (.int i3), .val (.int i4), .val (.int (2 : Int32)), .val (.int (1 : Int32)), .val (.int (0 : Int32)), .val (.ref o673), .val (.ref o685), .val (.int (3 : Int32)), .val (.int (2 : Int32)), .val (.int (1 : Int32)), .unset] [(.int i3)])
      refine E_iloadN (pc' := 213) X at_212 rfl rfl ?_
      refine E_icmp (pcY := 231) (pcN := 216) X (ic_ne _ _) at_213 (by decide) rfl rfl (fun hc213_0 => absurd hc213_0 (fun q => q rfl)) (fun hc213_0 => ?_)
      refine E_aload (v := (.ref o685)) (pc' := 218) X at_216 rfl rfl rfl ?_
      refine E_iconst (v := (3 : Int32)) (pc' := 219) X at_218 rfl rfl ?_
      refine E_callV (a := o685) (pc' := 222) (W := 0) (cells' := 11) (slots' := 53) (argsL := [(.int (3 : Int32))]) (rest := []) X (rm14 l Z a0 hw o685 (3 : Int32) RR_710 [(.int (0 : Int32)), (.int i2), (.int i3), (.int i4), (.int (0 : Int32)), (.int (0 : Int32)), (.int (0 : Int32))] i4 h_1046 X.ext F_1067 A_1125 (by decide) rfl) E_1061 (w_87 hw) (w_88 hw) (w_90 hw) (w_89 hw) (w_4 hw) (w_91 hw) rfl (by decide) rfl rfl pd_2 rfl rfl at_219 rfl (Nat.le_refl _) (by decide) (by decide) rfl rfl (by decide) (by decide) (fun v1134 T h_1135 X hQ1136 => ?_)
      obtain ⟨rfl, rfl⟩ := hQ1136
      show End Z p e below s _ _ _ _ (mkF m 222 #[.val (.int i0), .val (.int i1), .val (.int i2), .val (.int i3), .val (.int i4), .val (.int (2 : Int32)), .val (.int (1 : Int32)), .val (.int (0 : Int32)), .val (.ref o673), .val (.ref o685), .val (.int (3 : Int32)), .val (.int (2 : Int32)), .val (.int (1 : Int32)), .unset] [(.int i4)])
      refine E_iload (pc' := 224) X at_222 rfl rfl ?_
      refine E_icmp (pcY := 231) (pcN := 227) X (ic_ne _ _) at_224 (by decide) rfl rfl (fun hc224_0 => absurd hc224_0 (fun q => q rfl)) (fun hc224_0 => ?_)
      refine E_iconst (v := (1 : Int32)) (pc' := 228) X at_227 rfl rfl ?_
      refine E_goto (pc' := 232) X at_228 (by decide) rfl ?_
      refine E_istore (Ls' := #[.val (.int i0), .val (.int i1), .val (.int i2), .val (.int i3), .val (.int i4), .val (.int (2 : Int32)), .val (.int (1 : Int32)), .val (.int (0 : Int32)), .val (.ref o673), .val (.ref o685), .val (.int (3 : Int32)), .val (.int (2 : Int32)), .val (.int (1 : Int32)), .unset]) (pc' := 234) X at_232 rfl rfl ?_
      refine E_iload (pc' := 236) X at_234 rfl rfl ?_
      refine E_if (pcY := 243) (pcN := 239) X (i0_eq _) at_236 (by decide) rfl rfl (fun hc236_0 => absurd hc236_0 (by decide)) (fun hc236_0 => ?_)
      refine E_iconst (v := (0 : Int32)) (pc' := 240) X at_239 rfl rfl ?_
      refine E_goto (pc' := 244) X at_240 (by decide) rfl ?_
      refine E_istore (Ls' := #[.val (.int i0), .val (.int i1), .val (.int i2), .val (.int i3), .val (.int i4), .val (.int (2 : Int32)), .val (.int (1 : Int32)), .val (.int (0 : Int32)), .val (.ref o673), .val (.ref o685), .val (.int (3 : Int32)), .val (.int (2 : Int32)), .val (.int (1 : Int32)), .val (.int (0 : Int32))]) (pc' := 246) X at_244 rfl rfl ?_
      refine E_iload (pc' := 248) X at_246 rfl rfl ?_
      refine E_if (pcY := 276) (pcN := 251) X (i0_eq _) at_248 (by decide) rfl rfl (fun hc248_0 => absurd hc248_0 (by decide)) (fun hc248_0 => ?_)
      refine E_aload (v := (.ref o685)) (pc' := 253) X at_251 rfl rfl rfl ?_
      refine E_iload (pc' := 255) X at_253 rfl rfl ?_
      refine E_iconst (v := (2 : Int32)) (pc' := 256) X at_255 rfl rfl ?_
      have A_1138 : Ar Z h_1046 P_708 .int [(.int (0 : Int32)), (.int (0 : Int32)), (.int (0 : Int32)), (.int (1 : Int32)), (.int (0 : Int32)), (.int (0 : Int32)), (.int (0 : Int32))] := (A_1040.keep Kc_1055 (ninS (Ne.symm ne_740) nin0))
      refine E_callV (a := o685) (pc' := 259) (W := 0) (cells' := 11) (slots' := 53) (argsL := [(.int (0 : Int32)), (.int (2 : Int32))]) (rest := []) X (rm_bb1 l Z a0 hw o685 lf_1050 jp_1051 P_708 B_709 j0_1053 j1_1054 h_1046 X.ext F_1062 F_1064 F_1065 F_1066 A_1138 A_1116 A_1068 A_1070 A_1071 A_1072) E_1061 (w_92 hw) (w_93 hw) (w_95 hw) (w_94 hw) (w_4 hw) (w_96 hw) rfl (by decide) rfl rfl pd_1 rfl rfl at_256 rfl (Nat.le_refl _) (by decide) (by decide) rfl rfl (by decide) (by decide) (fun v1139 T h_1140 X hQ1141 => ?_)
      obtain ⟨rfl, rfl⟩ := hQ1141
      show End Z p e below s _ _ _ _ (mkF m 259 #[.val (.int i0), .val (.int i1), .val (.int i2), .val (.int i3), .val (.int i4), .val (.int (2 : Int32)), .val (.int (1 : Int32)), .val (.int (0 : Int32)), .val (.ref o673), .val (.ref o685), .val (.int (3 : Int32)), .val (.int (2 : Int32)), .val (.int (1 : Int32)), .val (.int (0 : Int32))] [(.int (1 : Int32))])
      refine E_iload (pc' := 261) X at_259 rfl rfl ?_
      refine E_if (pcY := 268) (pcN := 264) X (i0_eq _) at_261 (by decide) rfl rfl (fun hc261_0 => absurd hc261_0 (by decide)) (fun hc261_0 => ?_)
      refine E_iconst (v := (1 : Int32)) (pc' := 265) X at_264 rfl rfl ?_
      refine E_goto (pc' := 269) X at_265 (by decide) rfl ?_
      refine E_icmp (pcY := 276) (pcN := 272) X (ic_ne _ _) at_269 (by decide) rfl rfl (fun hc269_0 => absurd hc269_0 (by decide)) (fun hc269_0 => ?_)
      refine E_iconst (v := (1 : Int32)) (pc' := 273) X at_272 rfl rfl ?_
      refine E_goto (pc' := 277) X at_273 (by decide) rfl ?_
      refine E_istore (Ls' := #[.val (.int i0), .val (.int i1), .val (.int i2), .val (.int i3), .val (.int i4), .val (.int (2 : Int32)), .val (.int (1 : Int32)), .val (.int (0 : Int32)), .val (.ref o673), .val (.ref o685), .val (.int (3 : Int32)), .val (.int (2 : Int32)), .val (.int (1 : Int32)), .val (.int (0 : Int32))]) (pc' := 279) X at_277 rfl rfl ?_
      refine E_iload (pc' := 281) X at_279 rfl rfl ?_
      refine E_if (pcY := 304) (pcN := 284) X (i0_eq _) at_281 (by decide) rfl rfl (fun hc281_0 => absurd hc281_0 (by decide)) (fun hc281_0 => ?_)
      refine E_aload (v := (.ref o685)) (pc' := 286) X at_284 rfl rfl rfl ?_
      refine E_iload (pc' := 288) X at_286 rfl rfl ?_
      refine E_iload (pc' := 290) X at_288 rfl rfl ?_
      refine E_callV (a := o685) (pc' := 293) (W := 0) (cells' := 11) (slots' := 53) (argsL := [(.int (3 : Int32)), (.int (2 : Int32))]) (rest := []) X (rm_ca1 l Z a0 hw o685 hg_1052 jp_1051 j0_1053 j1_1054 h_1046 X.ext F_1064 F_1063 A_1069 A_1070 A_1071 A_1072) E_1061 (w_97 hw) (w_98 hw) (w_100 hw) (w_99 hw) (w_4 hw) (w_101 hw) rfl (by decide) rfl rfl pd_4 rfl rfl at_290 rfl (Nat.le_refl _) (by decide) (by decide) rfl rfl (by decide) (by decide) (fun v1143 T h_1144 X hQ1145 => ?_)
      obtain ⟨rfl, rfl⟩ := hQ1145
      show End Z p e below s _ _ _ _ (mkF m 293 #[.val (.int i0), .val (.int i1), .val (.int i2), .val (.int i3), .val (.int i4), .val (.int (2 : Int32)), .val (.int (1 : Int32)), .val (.int (0 : Int32)), .val (.ref o673), .val (.ref o685), .val (.int (3 : Int32)), .val (.int (2 : Int32)), .val (.int (1 : Int32)), .val (.int (0 : Int32))] [(.long (4294967298 : Int64))])
      refine E_ldcJ (v := (4294967298 : Int64)) (pc' := 296) X (w_105 hw) at_293 rfl ?_
      refine E_lcmp (pc' := 297) X at_296 rfl ?_
      refine E_if (pcY := 304) (pcN := 300) X (il_ne _ _) at_297 (by decide) rfl rfl (fun hc297_0 => absurd hc297_0 (by decide)) (fun hc297_0 => ?_)
      refine E_iconst (v := (1 : Int32)) (pc' := 301) X at_300 rfl rfl ?_
      refine E_goto (pc' := 305) X at_301 (by decide) rfl ?_
      refine E_istore (Ls' := #[.val (.int i0), .val (.int i1), .val (.int i2), .val (.int i3), .val (.int i4), .val (.int (2 : Int32)), .val (.int (1 : Int32)), .val (.int (0 : Int32)), .val (.ref o673), .val (.ref o685), .val (.int (3 : Int32)), .val (.int (2 : Int32)), .val (.int (1 : Int32)), .val (.int (0 : Int32))]) (pc' := 307) X at_305 rfl rfl ?_
      refine E_iload (pc' := 309) X at_307 rfl rfl ?_
      exact E_retZ (Or.inr rfl) X at_309 (by decide) (by decide) rfl
    · skip
      refine E_aload (v := (.ref o685)) (pc' := 64) X at_62 rfl rfl rfl ?_
      refine E_iconst (v := (0 : Int32)) (pc' := 65) X at_64 rfl rfl ?_
      refine E_callV (a := o685) (pc' := 68) (W := 0) (cells' := 6) (slots' := 37) (argsL := [(.int (0 : Int32))]) (rest := []) X (rm6 l Z a0 hw o685 (0 : Int32) (1 : Int32) (0 : Int32) (0 : Int32) P_708 B_709 RR_710 NB_711 [(.int (0 : Int32)), (.int (0 : Int32)), (.int (0 : Int32)), (.int (0 : Int32))] (1 : Int32) (0 : Int32) h_704 X.ext E_717 F_718 F_719 F_720 F_721 F_722 F_723 F_724 F_725 F_726 F_727 A_731 fr_691 (by decide) rfl (by decide)) E_717 (w_33 hw) (w_34 hw) (w_36 hw) (w_35 hw) (w_4 hw) (w_37 hw) rfl (by decide) rfl rfl pd_5 rfl rfl at_65 rfl (Nat.le_refl _) (by decide) (by decide) rfl rfl (by decide) (by decide) (fun v1147 T h_1148 X hQ1149 => ?_)
      obtain ⟨rfl, Kc_1150, E_1151, F_1152, F_1153, F_1154, F_1155, F_1156, F_1157, F_1158, F_1159, F_1160, F_1161⟩ := hQ1149
      show End Z p e below s _ _ _ _ (mkF m 68 #[.val (.int i0), .val (.int i1), .val (.int i2), .val (.int i3), .val (.int i4), .val (.int (3 : Int32)), .val (.int (1 : Int32)), .val (.int (0 : Int32)), .val (.ref o673), .val (.ref o685), .unset, .unset, .unset, .unset] [])
      refine E_aload (v := (.ref o685)) (pc' := 70) X at_68 rfl rfl rfl ?_
      refine E_iconst (v := (0 : Int32)) (pc' := 71) X at_70 rfl rfl ?_
      refine E_iloadN (pc' := 72) X at_71 rfl rfl ?_
      have A_1162 : Ar Z h_1148 P_708 .int [(.int (0 : Int32)), (.int (0 : Int32)), (.int (0 : Int32)), (.int (0 : Int32)), (.int (0 : Int32)), (.int (0 : Int32)), (.int (0 : Int32))] := (A_728.keep Kc_1150 (ninS (Ne.symm ne_740) nin0))
      have A_1163 : Ar Z h_1148 B_709 .int [(.int (0 : Int32)), (.int (0 : Int32)), (.int (0 : Int32)), (.int (0 : Int32)), (.int (0 : Int32)), (.int (0 : Int32)), (.int (0 : Int32))] := (A_729.keep Kc_1150 (ninS (Ne.symm ne_743) nin0))
      have A_1164 : Ar Z h_1148 RR_710 .int [(.int (0 : Int32)), (.int (0 : Int32)), (.int (0 : Int32)), (.int (0 : Int32)), (.int (0 : Int32)), (.int (0 : Int32)), (.int (0 : Int32))] := (A_730.keep Kc_1150 (ninS (Ne.symm ne_746) nin0))
      have A_1165 : Ar Z h_1148 NB_711 .int [(.int (0 : Int32)), (.int (0 : Int32)), (.int (0 : Int32)), (.int (0 : Int32))] := (A_731.keep Kc_1150 (ninS (Ne.symm ne_749) nin0))
      refine E_callV (a := o685) (pc' := 75) (W := 0) (cells' := 6) (slots' := 37) (argsL := [(.int (0 : Int32)), (.int i2)]) (rest := []) X (rm7 l Z a0 hw o685 (0 : Int32) i2 (1 : Int32) (1 : Int32) (0 : Int32) P_708 B_709 RR_710 NB_711 [(.int (0 : Int32)), (.int (0 : Int32)), (.int (0 : Int32)), (.int (0 : Int32)), (.int (0 : Int32)), (.int (0 : Int32)), (.int (0 : Int32))] [(.int (0 : Int32)), (.int (0 : Int32)), (.int (0 : Int32)), (.int (0 : Int32)), (.int (0 : Int32)), (.int (0 : Int32)), (.int (0 : Int32))] [(.int (0 : Int32)), (.int (0 : Int32)), (.int (0 : Int32)), (.int (0 : Int32)), (.int (0 : Int32)), (.int (0 : Int32)), (.int (0 : Int32))] [(.int (0 : Int32)), (.int (0 : Int32)), (.int (0 : Int32)), (.int (0 : Int32))] [(.int (0 : Int32)), (.int (0 : Int32)), (.int (0 : Int32)), (.int (0 : Int32)), (.int (0 : Int32)), (.int (0 : Int32)), (.int (0 : Int32))] [(.int (0 : Int32)), (.int (1 : Int32)), (.int (0 : Int32)), (.int (0 : Int32)), (.int (0 : Int32)), (.int (0 : Int32)), (.int (0 : Int32))] [(.int (0 : Int32)), (.int i2), (.int (0 : Int32)), (.int (0 : Int32)), (.int (0 : Int32)), (.int (0 : Int32)), (.int (0 : Int32))] [(.int (1 : Int32)), (.int (0 : Int32)), (.int (0 : Int32)), (.int (0 : Int32))] (2 : Int32) h_1148 X.ext E_1151 F_1152 F_1153 F_1154 F_1155 F_1156 F_1157 F_1158 F_1159 F_1160 F_1161 A_1162 A_1163 A_1164 A_1165 fr_691 fr_741 fr_744 fr_747 fr_750 P_733 P_734 P_735 P_736 P_737 P_738 (by decide) (by decide) (Nat.le_of_ble_eq_true rfl) (Nat.le_of_ble_eq_true rfl) (Nat.le_of_ble_eq_true rfl) (Nat.le_of_ble_eq_true rfl) rfl rfl rfl rfl (by decide)) E_1151 (w_42 hw) (w_43 hw) (w_45 hw) (w_44 hw) (w_4 hw) (w_46 hw) rfl (by decide) rfl rfl pd_6 rfl rfl at_72 rfl (Nat.le_refl _) (by decide) (by decide) rfl rfl (by decide) (by decide) (fun v1166 T h_1167 X hQ1168 => ?_)
      obtain ⟨rfl, Kc_1169, E_1170, F_1171, F_1172, F_1173, F_1174, F_1175, F_1176, F_1177, F_1178, F_1179, F_1180, A_1181, A_1182, A_1183, A_1184⟩ := hQ1168
      show End Z p e below s _ _ _ _ (mkF m 75 #[.val (.int i0), .val (.int i1), .val (.int i2), .val (.int i3), .val (.int i4), .val (.int (3 : Int32)), .val (.int (1 : Int32)), .val (.int (0 : Int32)), .val (.ref o673), .val (.ref o685), .unset, .unset, .unset, .unset] [])
      refine E_aload (v := (.ref o685)) (pc' := 77) X at_75 rfl rfl rfl ?_
      refine E_iload (pc' := 79) X at_77 rfl rfl ?_
      refine E_iloadN (pc' := 80) X at_79 rfl rfl ?_
      refine E_callV (a := o685) (pc' := 83) (W := 0) (cells' := 6) (slots' := 37) (argsL := [(.int (3 : Int32)), (.int i3)]) (rest := []) X (rm7 l Z a0 hw o685 (3 : Int32) i3 (2 : Int32) (1 : Int32) (0 : Int32) P_708 B_709 RR_710 NB_711 [(.int (0 : Int32)), (.int (0 : Int32)), (.int (0 : Int32)), (.int (0 : Int32)), (.int (0 : Int32)), (.int (0 : Int32)), (.int (0 : Int32))] [(.int (0 : Int32)), (.int (1 : Int32)), (.int (0 : Int32)), (.int (0 : Int32)), (.int (0 : Int32)), (.int (0 : Int32)), (.int (0 : Int32))] [(.int (0 : Int32)), (.int i2), (.int (0 : Int32)), (.int (0 : Int32)), (.int (0 : Int32)), (.int (0 : Int32)), (.int (0 : Int32))] [(.int (1 : Int32)), (.int (0 : Int32)), (.int (0 : Int32)), (.int (0 : Int32))] [(.int (0 : Int32)), (.int (0 : Int32)), (.int (0 : Int32)), (.int (0 : Int32)), (.int (0 : Int32)), (.int (0 : Int32)), (.int (0 : Int32))] [(.int (0 : Int32)), (.int (1 : Int32)), (.int (1 : Int32)), (.int (0 : Int32)), (.int (0 : Int32)), (.int (0 : Int32)), (.int (0 : Int32))] [(.int (0 : Int32)), (.int i2), (.int i3), (.int (0 : Int32)), (.int (0 : Int32)), (.int (0 : Int32)), (.int (0 : Int32))] [(.int (1 : Int32)), (.int (0 : Int32)), (.int (0 : Int32)), (.int (2 : Int32))] (3 : Int32) h_1167 X.ext E_1170 F_1171 F_1172 F_1173 F_1174 F_1175 F_1176 F_1177 F_1178 F_1179 F_1180 A_1181 A_1182 A_1183 A_1184 fr_691 fr_741 fr_744 fr_747 fr_750 P_733 P_734 P_735 P_736 P_737 P_738 (by decide) (by decide) (Nat.le_of_ble_eq_true rfl) (Nat.le_of_ble_eq_true rfl) (Nat.le_of_ble_eq_true rfl) (Nat.le_of_ble_eq_true rfl) rfl rfl rfl rfl (by decide)) E_1170 (w_42 hw) (w_43 hw) (w_45 hw) (w_44 hw) (w_4 hw) (w_46 hw) rfl (by decide) rfl rfl pd_6 rfl rfl at_80 rfl (Nat.le_refl _) (by decide) (by decide) rfl rfl (by decide) (by decide) (fun v1185 T h_1186 X hQ1187 => ?_)
      obtain ⟨rfl, Kc_1188, E_1189, F_1190, F_1191, F_1192, F_1193, F_1194, F_1195, F_1196, F_1197, F_1198, F_1199, A_1200, A_1201, A_1202, A_1203⟩ := hQ1187
      show End Z p e below s _ _ _ _ (mkF m 83 #[.val (.int i0), .val (.int i1), .val (.int i2), .val (.int i3), .val (.int i4), .val (.int (3 : Int32)), .val (.int (1 : Int32)), .val (.int (0 : Int32)), .val (.ref o673), .val (.ref o685), .unset, .unset, .unset, .unset] [])
      refine E_aload (v := (.ref o685)) (pc' := 85) X at_83 rfl rfl rfl ?_
      refine E_iload (pc' := 87) X at_85 rfl rfl ?_
      refine E_callV (a := o685) (pc' := 90) (W := 0) (cells' := 6) (slots' := 37) (argsL := [(.int (0 : Int32))]) (rest := []) X (rm6 l Z a0 hw o685 (0 : Int32) (3 : Int32) (1 : Int32) (0 : Int32) P_708 B_709 RR_710 NB_711 [(.int (1 : Int32)), (.int (0 : Int32)), (.int (0 : Int32)), (.int (2 : Int32))] (2 : Int32) (1 : Int32) h_1186 X.ext E_1189 F_1190 F_1191 F_1192 F_1193 F_1194 F_1195 F_1196 F_1197 F_1198 F_1199 A_1203 fr_691 (by decide) rfl (by decide)) E_1189 (w_33 hw) (w_34 hw) (w_36 hw) (w_35 hw) (w_4 hw) (w_37 hw) rfl (by decide) rfl rfl pd_5 rfl rfl at_87 rfl (Nat.le_refl _) (by decide) (by decide) rfl rfl (by decide) (by decide) (fun v1204 T h_1205 X hQ1206 => ?_)
      obtain ⟨rfl, Kc_1207, E_1208, F_1209, F_1210, F_1211, F_1212, F_1213, F_1214, F_1215, F_1216, F_1217, F_1218⟩ := hQ1206
      show End Z p e below s _ _ _ _ (mkF m 90 #[.val (.int i0), .val (.int i1), .val (.int i2), .val (.int i3), .val (.int i4), .val (.int (3 : Int32)), .val (.int (1 : Int32)), .val (.int (0 : Int32)), .val (.ref o673), .val (.ref o685), .unset, .unset, .unset, .unset] [])
      refine E_aload (v := (.ref o685)) (pc' := 92) X at_90 rfl rfl rfl ?_
      refine E_iload (pc' := 94) X at_92 rfl rfl ?_
      refine E_iload (pc' := 96) X at_94 rfl rfl ?_
      have A_1219 : Ar Z h_1205 P_708 .int [(.int (0 : Int32)), (.int (0 : Int32)), (.int (0 : Int32)), (.int (0 : Int32)), (.int (0 : Int32)), (.int (0 : Int32)), (.int (0 : Int32))] := (A_1200.keep Kc_1207 (ninS (Ne.symm ne_740) nin0))
      have A_1220 : Ar Z h_1205 B_709 .int [(.int (0 : Int32)), (.int (1 : Int32)), (.int (1 : Int32)), (.int (0 : Int32)), (.int (0 : Int32)), (.int (0 : Int32)), (.int (0 : Int32))] := (A_1201.keep Kc_1207 (ninS (Ne.symm ne_743) nin0))
      have A_1221 : Ar Z h_1205 RR_710 .int [(.int (0 : Int32)), (.int i2), (.int i3), (.int (0 : Int32)), (.int (0 : Int32)), (.int (0 : Int32)), (.int (0 : Int32))] := (A_1202.keep Kc_1207 (ninS (Ne.symm ne_746) nin0))
      have A_1222 : Ar Z h_1205 NB_711 .int [(.int (1 : Int32)), (.int (0 : Int32)), (.int (0 : Int32)), (.int (2 : Int32))] := (A_1203.keep Kc_1207 (ninS (Ne.symm ne_749) nin0))
      refine E_callV (a := o685) (pc' := 99) (W := 0) (cells' := 6) (slots' := 37) (argsL := [(.int (0 : Int32)), (.int i4)]) (rest := []) X (rm7 l Z a0 hw o685 (0 : Int32) i4 (3 : Int32) (2 : Int32) (1 : Int32) P_708 B_709 RR_710 NB_711 [(.int (0 : Int32)), (.int (0 : Int32)), (.int (0 : Int32)), (.int (0 : Int32)), (.int (0 : Int32)), (.int (0 : Int32)), (.int (0 : Int32))] [(.int (0 : Int32)), (.int (1 : Int32)), (.int (1 : Int32)), (.int (0 : Int32)), (.int (0 : Int32)), (.int (0 : Int32)), (.int (0 : Int32))] [(.int (0 : Int32)), (.int i2), (.int i3), (.int (0 : Int32)), (.int (0 : Int32)), (.int (0 : Int32)), (.int (0 : Int32))] [(.int (1 : Int32)), (.int (0 : Int32)), (.int (0 : Int32)), (.int (2 : Int32))] [(.int (0 : Int32)), (.int (0 : Int32)), (.int (0 : Int32)), (.int (1 : Int32)), (.int (0 : Int32)), (.int (0 : Int32)), (.int (0 : Int32))] [(.int (0 : Int32)), (.int (1 : Int32)), (.int (1 : Int32)), (.int (2 : Int32)), (.int (0 : Int32)), (.int (0 : Int32)), (.int (0 : Int32))] [(.int (0 : Int32)), (.int i2), (.int i3), (.int i4), (.int (0 : Int32)), (.int (0 : Int32)), (.int (0 : Int32))] [(.int (3 : Int32)), (.int (0 : Int32)), (.int (0 : Int32)), (.int (2 : Int32))] (4 : Int32) h_1205 X.ext E_1208 F_1209 F_1210 F_1211 F_1212 F_1213 F_1214 F_1215 F_1216 F_1217 F_1218 A_1219 A_1220 A_1221 A_1222 fr_691 fr_741 fr_744 fr_747 fr_750 P_733 P_734 P_735 P_736 P_737 P_738 (by decide) (by decide) (Nat.le_of_ble_eq_true rfl) (Nat.le_of_ble_eq_true rfl) (Nat.le_of_ble_eq_true rfl) (Nat.le_of_ble_eq_true rfl) rfl rfl rfl rfl (by decide)) E_1208 (w_42 hw) (w_43 hw) (w_45 hw) (w_44 hw) (w_4 hw) (w_46 hw) rfl (by decide) rfl rfl pd_6 rfl rfl at_96 rfl (Nat.le_refl _) (by decide) (by decide) rfl rfl (by decide) (by decide) (fun v1223 T h_1224 X hQ1225 => ?_)
      obtain ⟨rfl, Kc_1226, E_1227, F_1228, F_1229, F_1230, F_1231, F_1232, F_1233, F_1234, F_1235, F_1236, F_1237, A_1238, A_1239, A_1240, A_1241⟩ := hQ1225
      show End Z p e below s _ _ _ _ (mkF m 99 #[.val (.int i0), .val (.int i1), .val (.int i2), .val (.int i3), .val (.int i4), .val (.int (3 : Int32)), .val (.int (1 : Int32)), .val (.int (0 : Int32)), .val (.ref o673), .val (.ref o685), .unset, .unset, .unset, .unset] [])
      refine E_aload (v := (.ref o685)) (pc' := 101) X at_99 rfl rfl rfl ?_
      refine E_aload (v := (.ref o673)) (pc' := 103) X at_101 rfl rfl rfl ?_
      have A_1242 : Ar Z h_1224 o673 .int [(.int (0 : Int32)), (.int (3 : Int32))] := ((((((A_706.keep Kc_712 (ninS ne_692 nin0)).keep Kc_1150 (ninS ne_692 nin0)).keep Kc_1169 (ninS ne_692 (ninS ne_739 (ninS ne_742 (ninS ne_745 (ninS ne_748 nin0)))))).keep Kc_1188 (ninS ne_692 (ninS ne_739 (ninS ne_742 (ninS ne_745 (ninS ne_748 nin0)))))).keep Kc_1207 (ninS ne_692 nin0)).keep Kc_1226 (ninS ne_692 (ninS ne_739 (ninS ne_742 (ninS ne_745 (ninS ne_748 nin0))))))
      have E_1246 : Exa Z h_1224 P_708 "[I" := (((((E_732.keep Kc_1150).keep Kc_1169).keep Kc_1188).keep Kc_1207).keep Kc_1226)
      have le_1247 := X.le
      refine E_callV (a := o685) (pc' := 106) (W := 0) (cells' := 11) (slots' := 53) (argsL := [(.ref o673)]) (rest := []) X (rm_fin13 l Z a0 hw o685 o673 P_708 B_709 RR_710 NB_711 h_1224 X.ext E_1227 F_1228 F_1229 F_1230 F_1231 F_1232 F_1233 F_1234 F_1235 F_1236 F_1237 A_1238 A_1241 A_1242 fr_691) E_1227 (w_47 hw) (w_48 hw) (w_50 hw) (w_49 hw) (w_4 hw) (w_51 hw) rfl (by decide) rfl rfl pd_7 rfl rfl at_103 rfl (Nat.le_refl _) (by decide) (by decide) rfl rfl (by decide) (by decide) (fun v1243 T h_1244 X hQ1245 => ?_)
      obtain ⟨lf_1248, jp_1249, hg_1250, j0_1251, j1_1252, rfl, Kc_1253, nw_1254, nw_1255, nw_1256, nw_1257, nw_1258, E_1259, F_1260, F_1261, F_1262, F_1263, F_1264, F_1265, A_1266, A_1267, A_1268, A_1269, A_1270⟩ := hQ1245
      have ne_1271 : B_709 ≠ lf_1248 := Nat.ne_of_lt (Nat.lt_of_lt_of_le A_1239.lt nw_1254)
      have ne_1272 : NB_711 ≠ lf_1248 := Nat.ne_of_lt (Nat.lt_of_lt_of_le A_1241.lt nw_1254)
      have ne_1273 : P_708 ≠ lf_1248 := Nat.ne_of_lt (Nat.lt_of_lt_of_le E_1246.lt nw_1254)
      have ne_1274 : RR_710 ≠ lf_1248 := Nat.ne_of_lt (Nat.lt_of_lt_of_le A_1240.lt nw_1254)
      have ne_1275 : o673 ≠ lf_1248 := Nat.ne_of_lt (Nat.lt_of_lt_of_le A_1242.lt nw_1254)
      have ne_1276 : o685 ≠ lf_1248 := Nat.ne_of_lt (Nat.lt_of_lt_of_le E_1227.lt nw_1254)
      have fr_1277 : Z.heap.size ≤ lf_1248 := Nat.le_trans le_1247 nw_1254
      have ne_1278 : B_709 ≠ jp_1249 := Nat.ne_of_lt (Nat.lt_of_lt_of_le A_1239.lt nw_1255)
      have ne_1279 : NB_711 ≠ jp_1249 := Nat.ne_of_lt (Nat.lt_of_lt_of_le A_1241.lt nw_1255)
      have ne_1280 : P_708 ≠ jp_1249 := Nat.ne_of_lt (Nat.lt_of_lt_of_le E_1246.lt nw_1255)
      have ne_1281 : RR_710 ≠ jp_1249 := Nat.ne_of_lt (Nat.lt_of_lt_of_le A_1240.lt nw_1255)
      have ne_1282 : o673 ≠ jp_1249 := Nat.ne_of_lt (Nat.lt_of_lt_of_le A_1242.lt nw_1255)
      have ne_1283 : o685 ≠ jp_1249 := Nat.ne_of_lt (Nat.lt_of_lt_of_le E_1227.lt nw_1255)
      have fr_1284 : Z.heap.size ≤ jp_1249 := Nat.le_trans le_1247 nw_1255
      have ne_1285 : B_709 ≠ hg_1250 := Nat.ne_of_lt (Nat.lt_of_lt_of_le A_1239.lt nw_1256)
      have ne_1286 : NB_711 ≠ hg_1250 := Nat.ne_of_lt (Nat.lt_of_lt_of_le A_1241.lt nw_1256)
      have ne_1287 : P_708 ≠ hg_1250 := Nat.ne_of_lt (Nat.lt_of_lt_of_le E_1246.lt nw_1256)
      have ne_1288 : RR_710 ≠ hg_1250 := Nat.ne_of_lt (Nat.lt_of_lt_of_le A_1240.lt nw_1256)
      have ne_1289 : o673 ≠ hg_1250 := Nat.ne_of_lt (Nat.lt_of_lt_of_le A_1242.lt nw_1256)
      have ne_1290 : o685 ≠ hg_1250 := Nat.ne_of_lt (Nat.lt_of_lt_of_le E_1227.lt nw_1256)
      have fr_1291 : Z.heap.size ≤ hg_1250 := Nat.le_trans le_1247 nw_1256
      have ne_1292 : B_709 ≠ j0_1251 := Nat.ne_of_lt (Nat.lt_of_lt_of_le A_1239.lt nw_1257)
      have ne_1293 : NB_711 ≠ j0_1251 := Nat.ne_of_lt (Nat.lt_of_lt_of_le A_1241.lt nw_1257)
      have ne_1294 : P_708 ≠ j0_1251 := Nat.ne_of_lt (Nat.lt_of_lt_of_le E_1246.lt nw_1257)
      have ne_1295 : RR_710 ≠ j0_1251 := Nat.ne_of_lt (Nat.lt_of_lt_of_le A_1240.lt nw_1257)
      have ne_1296 : o673 ≠ j0_1251 := Nat.ne_of_lt (Nat.lt_of_lt_of_le A_1242.lt nw_1257)
      have ne_1297 : o685 ≠ j0_1251 := Nat.ne_of_lt (Nat.lt_of_lt_of_le E_1227.lt nw_1257)
      have fr_1298 : Z.heap.size ≤ j0_1251 := Nat.le_trans le_1247 nw_1257
      have ne_1299 : B_709 ≠ j1_1252 := Nat.ne_of_lt (Nat.lt_of_lt_of_le A_1239.lt nw_1258)
      have ne_1300 : NB_711 ≠ j1_1252 := Nat.ne_of_lt (Nat.lt_of_lt_of_le A_1241.lt nw_1258)
      have ne_1301 : P_708 ≠ j1_1252 := Nat.ne_of_lt (Nat.lt_of_lt_of_le E_1246.lt nw_1258)
      have ne_1302 : RR_710 ≠ j1_1252 := Nat.ne_of_lt (Nat.lt_of_lt_of_le A_1240.lt nw_1258)
      have ne_1303 : o673 ≠ j1_1252 := Nat.ne_of_lt (Nat.lt_of_lt_of_le A_1242.lt nw_1258)
      have ne_1304 : o685 ≠ j1_1252 := Nat.ne_of_lt (Nat.lt_of_lt_of_le E_1227.lt nw_1258)
      have fr_1305 : Z.heap.size ≤ j1_1252 := Nat.le_trans le_1247 nw_1258
      show End Z p e below s _ _ _ _ (mkF m 106 #[.val (.int i0), .val (.int i1), .val (.int i2), .val (.int i3), .val (.int i4), .val (.int (3 : Int32)), .val (.int (1 : Int32)), .val (.int (0 : Int32)), .val (.ref o673), .val (.ref o685), .unset, .unset, .unset, .unset] [])
      refine E_aload (v := (.ref o685)) (pc' := 108) X at_106 rfl rfl rfl ?_
      refine E_iconst (v := (0 : Int32)) (pc' := 109) X at_108 rfl rfl ?_
      refine E_callV (a := o685) (pc' := 112) (W := 0) (cells' := 11) (slots' := 53) (argsL := [(.int (0 : Int32))]) (rest := []) X (rm12 l Z a0 hw o685 (0 : Int32) lf_1248 [(.int (3 : Int32)), (.int (2 : Int32))] (3 : Int32) h_1244 X.ext F_1260 A_1266 (by decide) rfl) E_1259 (w_77 hw) (w_78 hw) (w_80 hw) (w_79 hw) (w_4 hw) (w_81 hw) rfl (by decide) rfl rfl pd_2 rfl rfl at_109 rfl (Nat.le_refl _) (by decide) (by decide) rfl rfl (by decide) (by decide) (fun v1306 T h_1307 X hQ1308 => ?_)
      obtain ⟨rfl, rfl⟩ := hQ1308
      show End Z p e below s _ _ _ _ (mkF m 112 #[.val (.int i0), .val (.int i1), .val (.int i2), .val (.int i3), .val (.int i4), .val (.int (3 : Int32)), .val (.int (1 : Int32)), .val (.int (0 : Int32)), .val (.ref o673), .val (.ref o685), .unset, .unset, .unset, .unset] [(.int (3 : Int32))])
      refine E_istore (Ls' := #[.val (.int i0), .val (.int i1), .val (.int i2), .val (.int i3), .val (.int i4), .val (.int (3 : Int32)), .val (.int (1 : Int32)), .val (.int (0 : Int32)), .val (.ref o673), .val (.ref o685), .val (.int (3 : Int32)), .unset, .unset, .unset]) (pc' := 114) X at_112 rfl rfl ?_
      refine E_aload (v := (.ref o685)) (pc' := 116) X at_114 rfl rfl rfl ?_
      refine E_iconst (v := (1 : Int32)) (pc' := 117) X at_116 rfl rfl ?_
      refine E_callV (a := o685) (pc' := 120) (W := 0) (cells' := 11) (slots' := 53) (argsL := [(.int (1 : Int32))]) (rest := []) X (rm12 l Z a0 hw o685 (1 : Int32) lf_1248 [(.int (3 : Int32)), (.int (2 : Int32))] (2 : Int32) h_1244 X.ext F_1260 A_1266 (by decide) rfl) E_1259 (w_77 hw) (w_78 hw) (w_80 hw) (w_79 hw) (w_4 hw) (w_81 hw) rfl (by decide) rfl rfl pd_2 rfl rfl at_117 rfl (Nat.le_refl _) (by decide) (by decide) rfl rfl (by decide) (by decide) (fun v1310 T h_1311 X hQ1312 => ?_)
      obtain ⟨rfl, rfl⟩ := hQ1312
      show End Z p e below s _ _ _ _ (mkF m 120 #[.val (.int i0), .val (.int i1), .val (.int i2), .val (.int i3), .val (.int i4), .val (.int (3 : Int32)), .val (.int (1 : Int32)), .val (.int (0 : Int32)), .val (.ref o673), .val (.ref o685), .val (.int (3 : Int32)), .unset, .unset, .unset] [(.int (2 : Int32))])
      refine E_istore (Ls' := #[.val (.int i0), .val (.int i1), .val (.int i2), .val (.int i3), .val (.int i4), .val (.int (3 : Int32)), .val (.int (1 : Int32)), .val (.int (0 : Int32)), .val (.ref o673), .val (.ref o685), .val (.int (3 : Int32)), .val (.int (2 : Int32)), .unset, .unset]) (pc' := 122) X at_120 rfl rfl ?_
      refine E_iload (pc' := 124) X at_122 rfl rfl ?_
      refine E_iload (pc' := 126) X at_124 rfl rfl ?_
      refine E_if (pcY := 133) (pcN := 129) X (i0_eq _) at_126 (by decide) rfl rfl (fun hc126_0 => absurd hc126_0 (by decide)) (fun hc126_0 => ?_)
      refine E_iconst (v := (3 : Int32)) (pc' := 130) X at_129 rfl rfl ?_
      refine E_goto (pc' := 134) X at_130 (by decide) rfl ?_
      refine E_icmp (pcY := 156) (pcN := 137) X (ic_ne _ _) at_134 (by decide) rfl rfl (fun hc134_0 => absurd hc134_0 (by decide)) (fun hc134_0 => ?_)
      refine E_iload (pc' := 139) X at_137 rfl rfl ?_
      refine E_iload (pc' := 141) X at_139 rfl rfl ?_
      refine E_if (pcY := 148) (pcN := 144) X (i0_eq _) at_141 (by decide) rfl rfl (fun hc141_0 => absurd hc141_0 (by decide)) (fun hc141_0 => ?_)
      refine E_iconst (v := (2 : Int32)) (pc' := 145) X at_144 rfl rfl ?_
      refine E_goto (pc' := 149) X at_145 (by decide) rfl ?_
      refine E_icmp (pcY := 156) (pcN := 152) X (ic_ne _ _) at_149 (by decide) rfl rfl (fun hc149_0 => absurd hc149_0 (by decide)) (fun hc149_0 => ?_)
      refine E_iconst (v := (1 : Int32)) (pc' := 153) X at_152 rfl rfl ?_
      refine E_goto (pc' := 157) X at_153 (by decide) rfl ?_
      refine E_istore (Ls' := #[.val (.int i0), .val (.int i1), .val (.int i2), .val (.int i3), .val (.int i4), .val (.int (3 : Int32)), .val (.int (1 : Int32)), .val (.int (0 : Int32)), .val (.ref o673), .val (.ref o685), .val (.int (3 : Int32)), .val (.int (2 : Int32)), .val (.int (1 : Int32)), .unset]) (pc' := 159) X at_157 rfl rfl ?_
      refine E_iload (pc' := 161) X at_159 rfl rfl ?_
      refine E_if (pcY := 188) (pcN := 164) X (i0_eq _) at_161 (by decide) rfl rfl (fun hc161_0 => absurd hc161_0 (by decide)) (fun hc161_0 => ?_)
      refine E_aload (v := (.ref o685)) (pc' := 166) X at_164 rfl rfl rfl ?_
      refine E_iconst (v := (1 : Int32)) (pc' := 167) X at_166 rfl rfl ?_
      have A_1314 : Ar Z h_1244 B_709 .int [(.int (0 : Int32)), (.int (1 : Int32)), (.int (1 : Int32)), (.int (2 : Int32)), (.int (0 : Int32)), (.int (0 : Int32)), (.int (0 : Int32))] := (A_1239.keep Kc_1253 (ninS (Ne.symm ne_743) nin0))
      refine E_callV (a := o685) (pc' := 170) (W := 0) (cells' := 11) (slots' := 53) (argsL := [(.int (1 : Int32))]) (rest := []) X (rm13 l Z a0 hw o685 (1 : Int32) B_709 [(.int (0 : Int32)), (.int (1 : Int32)), (.int (1 : Int32)), (.int (2 : Int32)), (.int (0 : Int32)), (.int (0 : Int32)), (.int (0 : Int32))] (1 : Int32) h_1244 X.ext F_1264 A_1314 (by decide) rfl) E_1259 (w_82 hw) (w_83 hw) (w_85 hw) (w_84 hw) (w_4 hw) (w_86 hw) rfl (by decide) rfl rfl pd_2 rfl rfl at_167 rfl (Nat.le_refl _) (by decide) (by decide) rfl rfl (by decide) (by decide) (fun v1315 T h_1316 X hQ1317 => ?_)
      obtain ⟨rfl, rfl⟩ := hQ1317
      show End Z p e below s _ _ _ _ (mkF m 170 #[.val (.int i0), .val (.int i1), .val (.int i2), .val (.int i3), .val (.int i4), .val (.int (3 : Int32)), .val (.int (1 : Int32)), .val (.int (0 : Int32)), .val (.ref o673), .val (.ref o685), .val (.int (3 : Int32)), .val (.int (2 : Int32)), .val (.int (1 : Int32)), .unset] [(.int (1 : Int32))])
      refine E_iconst (v := (1 : Int32)) (pc' := 171) X at_170 rfl rfl ?_
      refine E_icmp (pcY := 188) (pcN := 174) X (ic_ne _ _) at_171 (by decide) rfl rfl (fun hc171_0 => absurd hc171_0 (by decide)) (fun hc171_0 => ?_)
      refine E_aload (v := (.ref o685)) (pc' := 176) X at_174 rfl rfl rfl ?_
      refine E_iconst (v := (3 : Int32)) (pc' := 177) X at_176 rfl rfl ?_
      refine E_callV (a := o685) (pc' := 180) (W := 0) (cells' := 11) (slots' := 53) (argsL := [(.int (3 : Int32))]) (rest := []) X (rm13 l Z a0 hw o685 (3 : Int32) B_709 [(.int (0 : Int32)), (.int (1 : Int32)), (.int (1 : Int32)), (.int (2 : Int32)), (.int (0 : Int32)), (.int (0 : Int32)), (.int (0 : Int32))] (2 : Int32) h_1244 X.ext F_1264 A_1314 (by decide) rfl) E_1259 (w_82 hw) (w_83 hw) (w_85 hw) (w_84 hw) (w_4 hw) (w_86 hw) rfl (by decide) rfl rfl pd_2 rfl rfl at_177 rfl (Nat.le_refl _) (by decide) (by decide) rfl rfl (by decide) (by decide) (fun v1319 T h_1320 X hQ1321 => ?_)
      obtain ⟨rfl, rfl⟩ := hQ1321
      show End Z p e below s _ _ _ _ (mkF m 180 #[.val (.int i0), .val (.int i1), .val (.int i2), .val (.int i3), .val (.int i4), .val (.int (3 : Int32)), .val (.int (1 : Int32)), .val (.int (0 : Int32)), .val (.ref o673), .val (.ref o685), .val (.int (3 : Int32)), .val (.int (2 : Int32)), .val (.int (1 : Int32)), .unset] [(.int (2 : Int32))])
      refine E_iconst (v := (2 : Int32)) (pc' := 181) X at_180 rfl rfl ?_
      refine E_icmp (pcY := 188) (pcN := 184) X (ic_ne _ _) at_181 (by decide) rfl rfl (fun hc181_0 => absurd hc181_0 (by decide)) (fun hc181_0 => ?_)
      refine E_iconst (v := (1 : Int32)) (pc' := 185) X at_184 rfl rfl ?_
      refine E_goto (pc' := 189) X at_185 (by decide) rfl ?_
      refine E_istore (Ls' := #[.val (.int i0), .val (.int i1), .val (.int i2), .val (.int i3), .val (.int i4), .val (.int (3 : Int32)), .val (.int (1 : Int32)), .val (.int (0 : Int32)), .val (.ref o673), .val (.ref o685), .val (.int (3 : Int32)), .val (.int (2 : Int32)), .val (.int (1 : Int32)), .unset]) (pc' := 191) X at_189 rfl rfl ?_
      refine E_iload (pc' := 193) X at_191 rfl rfl ?_
      refine E_if (pcY := 231) (pcN := 196) X (i0_eq _) at_193 (by decide) rfl rfl (fun hc193_0 => absurd hc193_0 (by decide)) (fun hc193_0 => ?_)
      refine E_aload (v := (.ref o685)) (pc' := 198) X at_196 rfl rfl rfl ?_
      refine E_iconst (v := (1 : Int32)) (pc' := 199) X at_198 rfl rfl ?_
      have A_1323 : Ar Z h_1244 RR_710 .int [(.int (0 : Int32)), (.int i2), (.int i3), (.int i4), (.int (0 : Int32)), (.int (0 : Int32)), (.int (0 : Int32))] := (A_1240.keep Kc_1253 (ninS (Ne.symm ne_746) nin0))
      refine E_callV (a := o685) (pc' := 202) (W := 0) (cells' := 11) (slots' := 53) (argsL := [(.int (1 : Int32))]) (rest := []) X (rm14 l Z a0 hw o685 (1 : Int32) RR_710 [(.int (0 : Int32)), (.int i2), (.int i3), (.int i4), (.int (0 : Int32)), (.int (0 : Int32)), (.int (0 : Int32))] i2 h_1244 X.ext F_1265 A_1323 (by decide) rfl) E_1259 (w_87 hw) (w_88 hw) (w_90 hw) (w_89 hw) (w_4 hw) (w_91 hw) rfl (by decide) rfl rfl pd_2 rfl rfl at_199 rfl (Nat.le_refl _) (by decide) (by decide) rfl rfl (by decide) (by decide) (fun v1324 T h_1325 X hQ1326 => ?_)
      obtain ⟨rfl, rfl⟩ := hQ1326
      show End Z p e below s _ _ _ _ (mkF m 202 #[.val (.int i0), .val (.int i1), .val (.int i2), .val (.int i3), .val (.int i4), .val (.int (3 : Int32)), .val (.int (1 : Int32)), .val (.int (0 : Int32)), .val (.ref o673), .val (.ref o685), .val (.int (3 : Int32)), .val (.int (2 : Int32)), .val (.int (1 : Int32)), .unset] [(.int i2)])
      refine E_iloadN (pc' := 203) X at_202 rfl rfl ?_
      refine E_icmp (pcY := 231) (pcN := 206) X (ic_ne _ _) at_203 (by decide) rfl rfl (fun hc203_0 => absurd hc203_0 (fun q => q rfl)) (fun hc203_0 => ?_)
      refine E_aload (v := (.ref o685)) (pc' := 208) X at_206 rfl rfl rfl ?_
      refine E_iconst (v := (2 : Int32)) (pc' := 209) X at_208 rfl rfl ?_
      refine E_callV (a := o685) (pc' := 212) (W := 0) (cells' := 11) (slots' := 53) (argsL := [(.int (2 : Int32))]) (rest := []) X (rm14 l Z a0 hw o685 (2 : Int32) RR_710 [(.int (0 : Int32)), (.int i2), (.int i3), (.int i4), (.int (0 : Int32)), (.int (0 : Int32)), (.int (0 : Int32))] i3 h_1244 X.ext F_1265 A_1323 (by decide) rfl) E_1259 (w_87 hw) (w_88 hw) (w_90 hw) (w_89 hw) (w_4 hw) (w_91 hw) rfl (by decide) rfl rfl pd_2 rfl rfl at_209 rfl (Nat.le_refl _) (by decide) (by decide) rfl rfl (by decide) (by decide) (fun v1328 T h_1329 X hQ1330 => ?_)
      obtain ⟨rfl, rfl⟩ := hQ1330
      show End Z p e below s _ _ _ _ (mkF m 212 #[.val (.int i0), .val (.int i1), .val (.int i2), .val (.int i3), .val (.int i4), .val (.int (3 : Int32)), .val (.int (1 : Int32)), .val (.int (0 : Int32)), .val (.ref o673), .val (.ref o685), .val (.int (3 : Int32)), .val (.int (2 : Int32)), .val (.int (1 : Int32)), .unset] [(.int i3)])
      refine E_iloadN (pc' := 213) X at_212 rfl rfl ?_
      refine E_icmp (pcY := 231) (pcN := 216) X (ic_ne _ _) at_213 (by decide) rfl rfl (fun hc213_0 => absurd hc213_0 (fun q => q rfl)) (fun hc213_0 => ?_)
      refine E_aload (v := (.ref o685)) (pc' := 218) X at_216 rfl rfl rfl ?_
      refine E_iconst (v := (3 : Int32)) (pc' := 219) X at_218 rfl rfl ?_
      refine E_callV (a := o685) (pc' := 222) (W := 0) (cells' := 11) (slots' := 53) (argsL := [(.int (3 : Int32))]) (rest := []) X (rm14 l Z a0 hw o685 (3 : Int32) RR_710 [(.int (0 : Int32)), (.int i2), (.int i3), (.int i4), (.int (0 : Int32)), (.int (0 : Int32)), (.int (0 : Int32))] i4 h_1244 X.ext F_1265 A_1323 (by decide) rfl) E_1259 (w_87 hw) (w_88 hw) (w_90 hw) (w_89 hw) (w_4 hw) (w_91 hw) rfl (by decide) rfl rfl pd_2 rfl rfl at_219 rfl (Nat.le_refl _) (by decide) (by decide) rfl rfl (by decide) (by decide) (fun v1332 T h_1333 X hQ1334 => ?_)
      obtain ⟨rfl, rfl⟩ := hQ1334
      show End Z p e below s _ _ _ _ (mkF m 222 #[.val (.int i0), .val (.int i1), .val (.int i2), .val (.int i3), .val (.int i4), .val (.int (3 : Int32)), .val (.int (1 : Int32)), .val (.int (0 : Int32)), .val (.ref o673), .val (.ref o685), .val (.int (3 : Int32)), .val (.int (2 : Int32)), .val (.int (1 : Int32)), .unset] [(.int i4)])
      refine E_iload (pc' := 224) X at_222 rfl rfl ?_
      refine E_icmp (pcY := 231) (pcN := 227) X (ic_ne _ _) at_224 (by decide) rfl rfl (fun hc224_0 => absurd hc224_0 (fun q => q rfl)) (fun hc224_0 => ?_)
      refine E_iconst (v := (1 : Int32)) (pc' := 228) X at_227 rfl rfl ?_
      refine E_goto (pc' := 232) X at_228 (by decide) rfl ?_
      refine E_istore (Ls' := #[.val (.int i0), .val (.int i1), .val (.int i2), .val (.int i3), .val (.int i4), .val (.int (3 : Int32)), .val (.int (1 : Int32)), .val (.int (0 : Int32)), .val (.ref o673), .val (.ref o685), .val (.int (3 : Int32)), .val (.int (2 : Int32)), .val (.int (1 : Int32)), .unset]) (pc' := 234) X at_232 rfl rfl ?_
      refine E_iload (pc' := 236) X at_234 rfl rfl ?_
      refine E_if (pcY := 243) (pcN := 239) X (i0_eq _) at_236 (by decide) rfl rfl (fun hc236_0 => absurd hc236_0 (by decide)) (fun hc236_0 => ?_)
      refine E_iconst (v := (0 : Int32)) (pc' := 240) X at_239 rfl rfl ?_
      refine E_goto (pc' := 244) X at_240 (by decide) rfl ?_
      refine E_istore (Ls' := #[.val (.int i0), .val (.int i1), .val (.int i2), .val (.int i3), .val (.int i4), .val (.int (3 : Int32)), .val (.int (1 : Int32)), .val (.int (0 : Int32)), .val (.ref o673), .val (.ref o685), .val (.int (3 : Int32)), .val (.int (2 : Int32)), .val (.int (1 : Int32)), .val (.int (0 : Int32))]) (pc' := 246) X at_244 rfl rfl ?_
      refine E_iload (pc' := 248) X at_246 rfl rfl ?_
      refine E_if (pcY := 276) (pcN := 251) X (i0_eq _) at_248 (by decide) rfl rfl (fun hc248_0 => absurd hc248_0 (by decide)) (fun hc248_0 => ?_)
      refine E_aload (v := (.ref o685)) (pc' := 253) X at_251 rfl rfl rfl ?_
      refine E_iload (pc' := 255) X at_253 rfl rfl ?_
      refine E_iconst (v := (2 : Int32)) (pc' := 256) X at_255 rfl rfl ?_
      have A_1336 : Ar Z h_1244 P_708 .int [(.int (0 : Int32)), (.int (0 : Int32)), (.int (0 : Int32)), (.int (1 : Int32)), (.int (0 : Int32)), (.int (0 : Int32)), (.int (0 : Int32))] := (A_1238.keep Kc_1253 (ninS (Ne.symm ne_740) nin0))
      refine E_callV (a := o685) (pc' := 259) (W := 0) (cells' := 11) (slots' := 53) (argsL := [(.int (0 : Int32)), (.int (2 : Int32))]) (rest := []) X (rm_bb1 l Z a0 hw o685 lf_1248 jp_1249 P_708 B_709 j0_1251 j1_1252 h_1244 X.ext F_1260 F_1262 F_1263 F_1264 A_1336 A_1314 A_1266 A_1268 A_1269 A_1270) E_1259 (w_92 hw) (w_93 hw) (w_95 hw) (w_94 hw) (w_4 hw) (w_96 hw) rfl (by decide) rfl rfl pd_1 rfl rfl at_256 rfl (Nat.le_refl _) (by decide) (by decide) rfl rfl (by decide) (by decide) (fun v1337 T h_1338 X hQ1339 => ?_)
      obtain ⟨rfl, rfl⟩ := hQ1339
      show End Z p e below s _ _ _ _ (mkF m 259 #[.val (.int i0), .val (.int i1), .val (.int i2), .val (.int i3), .val (.int i4), .val (.int (3 : Int32)), .val (.int (1 : Int32)), .val (.int (0 : Int32)), .val (.ref o673), .val (.ref o685), .val (.int (3 : Int32)), .val (.int (2 : Int32)), .val (.int (1 : Int32)), .val (.int (0 : Int32))] [(.int (1 : Int32))])
      refine E_iload (pc' := 261) X at_259 rfl rfl ?_
      refine E_if (pcY := 268) (pcN := 264) X (i0_eq _) at_261 (by decide) rfl rfl (fun hc261_0 => absurd hc261_0 (by decide)) (fun hc261_0 => ?_)
      refine E_iconst (v := (1 : Int32)) (pc' := 265) X at_264 rfl rfl ?_
      refine E_goto (pc' := 269) X at_265 (by decide) rfl ?_
      refine E_icmp (pcY := 276) (pcN := 272) X (ic_ne _ _) at_269 (by decide) rfl rfl (fun hc269_0 => absurd hc269_0 (by decide)) (fun hc269_0 => ?_)
      refine E_iconst (v := (1 : Int32)) (pc' := 273) X at_272 rfl rfl ?_
      refine E_goto (pc' := 277) X at_273 (by decide) rfl ?_
      refine E_istore (Ls' := #[.val (.int i0), .val (.int i1), .val (.int i2), .val (.int i3), .val (.int i4), .val (.int (3 : Int32)), .val (.int (1 : Int32)), .val (.int (0 : Int32)), .val (.ref o673), .val (.ref o685), .val (.int (3 : Int32)), .val (.int (2 : Int32)), .val (.int (1 : Int32)), .val (.int (0 : Int32))]) (pc' := 279) X at_277 rfl rfl ?_
      refine E_iload (pc' := 281) X at_279 rfl rfl ?_
      refine E_if (pcY := 304) (pcN := 284) X (i0_eq _) at_281 (by decide) rfl rfl (fun hc281_0 => absurd hc281_0 (by decide)) (fun hc281_0 => ?_)
      refine E_aload (v := (.ref o685)) (pc' := 286) X at_284 rfl rfl rfl ?_
      refine E_iload (pc' := 288) X at_286 rfl rfl ?_
      refine E_iload (pc' := 290) X at_288 rfl rfl ?_
      refine E_callV (a := o685) (pc' := 293) (W := 0) (cells' := 11) (slots' := 53) (argsL := [(.int (3 : Int32)), (.int (2 : Int32))]) (rest := []) X (rm_ca1 l Z a0 hw o685 hg_1250 jp_1249 j0_1251 j1_1252 h_1244 X.ext F_1262 F_1261 A_1267 A_1268 A_1269 A_1270) E_1259 (w_97 hw) (w_98 hw) (w_100 hw) (w_99 hw) (w_4 hw) (w_101 hw) rfl (by decide) rfl rfl pd_4 rfl rfl at_290 rfl (Nat.le_refl _) (by decide) (by decide) rfl rfl (by decide) (by decide) (fun v1341 T h_1342 X hQ1343 => ?_)
      obtain ⟨rfl, rfl⟩ := hQ1343
      show End Z p e below s _ _ _ _ (mkF m 293 #[.val (.int i0), .val (.int i1), .val (.int i2), .val (.int i3), .val (.int i4), .val (.int (3 : Int32)), .val (.int (1 : Int32)), .val (.int (0 : Int32)), .val (.ref o673), .val (.ref o685), .val (.int (3 : Int32)), .val (.int (2 : Int32)), .val (.int (1 : Int32)), .val (.int (0 : Int32))] [(.long (4294967298 : Int64))])
      refine E_ldcJ (v := (4294967298 : Int64)) (pc' := 296) X (w_105 hw) at_293 rfl ?_
      refine E_lcmp (pc' := 297) X at_296 rfl ?_
      refine E_if (pcY := 304) (pcN := 300) X (il_ne _ _) at_297 (by decide) rfl rfl (fun hc297_0 => absurd hc297_0 (by decide)) (fun hc297_0 => ?_)
      refine E_iconst (v := (1 : Int32)) (pc' := 301) X at_300 rfl rfl ?_
      refine E_goto (pc' := 305) X at_301 (by decide) rfl ?_
      refine E_istore (Ls' := #[.val (.int i0), .val (.int i1), .val (.int i2), .val (.int i3), .val (.int i4), .val (.int (3 : Int32)), .val (.int (1 : Int32)), .val (.int (0 : Int32)), .val (.ref o673), .val (.ref o685), .val (.int (3 : Int32)), .val (.int (2 : Int32)), .val (.int (1 : Int32)), .val (.int (0 : Int32))]) (pc' := 307) X at_305 rfl rfl ?_
      refine E_iload (pc' := 309) X at_307 rfl rfl ?_
      exact E_retZ (Or.inr rfl) X at_309 (by decide) (by decide) rfl
set_option maxRecDepth 65536 in
set_option maxHeartbeats 2000000 in
theorem comes_1 {Post : Tables → Env → Array Value → State → Outcome → State → Prop} (hpost : ∀ tb e args s v u, (limb_1_1.after args s (.returned v) u = true ∧ limb_1_2.after args s (.returned v) u = true ∧ True) → FrameEnd s (.returned v) u (Jvm.fieldLocs frame_1_writes args s ++ Jvm.arrayLocs frame_1_arrays args s ++ Jvm.staticLocs frame_1_statics s) 32 192 → Post tb e args s (.returned v) u) :
    ArmFor flags0 classFile x code maxLocals ret World_1 tables_1 room_1 Calls_1 rest_1 Pre_1 Post := by
  intro l hfl _ _ p e ha hc hk s m args below hf hA hF happ hP
  obtain ⟨hcalls, hrest, hpre⟩ := hP
  obtain ⟨-, -, -, hnamed, -, -, -, hat⟩ := (Spec.applies_iff hf).mp happ
  obtain ⟨hg, hn⟩ := and_e (Cond.before_iff.mp (show (Jvm.Cond.and given_1 narrow_1).before args s = true from hpre))
  obtain ⟨hcnt, hrst⟩ := and_e hg
  obtain ⟨hk0, hrst⟩ := and_e hrst
  obtain ⟨hk1, hrst⟩ := and_e hrst
  obtain ⟨hk2, hrst⟩ := and_e hrst
  obtain ⟨hk3, hrst⟩ := and_e hrst
  have hk4 := hrst
  obtain ⟨w0, w1, w2, w3, w4, rfl⟩ : ∃ w0 w1 w2 w3 w4 : Value, args = #[w0, w1, w2, w3, w4] := by
    have hs : args.size = 5 := by simpa [Cond.value, given_1] using hcnt
    obtain ⟨L⟩ := args
    match L, hs with
    | [w0, w1, w2, w3, w4], _ => exact ⟨w0, w1, w2, w3, w4, rfl⟩
  have hw := fun d (hd : d ∈ tables_1) => atoms_spec (ws := Jvm.Cond.code x code maxLocals ret :: tables_1) hat d (List.mem_cons_of_mem _ hd)
  have hfit : Fit s := fun {y c} hc i hi => by
    obtain ⟨ha, rfl⟩ := Array.getElem?_eq_some_iff.mp hc
    have q := List.all_eq_true.mp ((Array.all_eq_true_iff_forall_mem.mp hF) _ (Array.getElem_mem ha)) i (List.mem_range.mpr hi)
    simpa [Array.getElem?_eq_getElem hi] using q
  obtain ⟨i0, e0⟩ := is_v hk0
  obtain rfl : w0 = (.int i0) := Option.some.inj e0
  obtain ⟨i1, e1⟩ := is_v hk1
  obtain rfl : w1 = (.int i1) := Option.some.inj e1
  obtain ⟨i2, e2⟩ := is_v hk2
  obtain rfl : w2 = (.int i2) := Option.some.inj e2
  obtain ⟨i3, e3⟩ := is_v hk3
  obtain rfl : w3 = (.int i3) := Option.some.inj e3
  obtain ⟨i4, e4⟩ := is_v hk4
  obtain rfl : w4 = (.int i4) := Option.some.inj e4
  obtain ⟨n, o, h1, h2, h3, _, L, rfl, ⟨N, _, rfl⟩, hq⟩ := rm0 l s _ hw i0 i1 i2 i3 i4 s.heap (Ext.refl _) tables_1 p e ha hc hk s m _ below hf ((Spec.applies_iff_loose hf).mp happ).1 ⟨rfl, State.Warmed39.refl s, rfl⟩ trivial
  refine ⟨n, _, h1, h2, h3, hpost _ _ _ _ _ _ ⟨Cond.after_iff.mpr rfl, Cond.after_iff.mpr (eq_i res_at (Term.int_eval (1)) rfl), trivial⟩ ⟨hq.1, hq.2.1, (hq.2.2.sift fun y hy => Or.inr (N y hy)).mono (by decide) (by decide)⟩⟩
theorem main_1_1 : Claimed_1_1 := comes_1 fun _ _ _ _ _ _ h hF => ⟨h.1, hF⟩
theorem main_1_2 : Claimed_1_2 := comes_1 fun _ _ _ _ _ _ h hF => ⟨h.2.1, hF⟩
end Jvm.Pilot.@@N@@
namespace Jvm.Pilot.@@N@@
open Jvm Jvm.ClassFile Sem Op Lib Jvm.Free Jvm.Stand Jvm.Pilot.@@N@@.Jvm.D
/-! MADE BY PROGRAM (witnessworld.py) out of the Statement's table words and the real class files: 18 classes; the members and pool entries that the words name. The judged class is class 1, her method 1. -/
namespace start1
open Jvm.ClassFile
def u (s : String) : CpInfo := .utf8 (stringToUtf16 s)
/-- a pool by its gaps: so many unusable entries, then the entry; so many at the end -/
def gap : Nat → List CpInfo → List CpInfo
  | 0, r => r
  | n + 1, r => .unusable :: gap n r
def poolList (es : List (Nat × CpInfo)) (last : Nat) : List CpInfo := es.foldr (fun e r => gap e.1 (e.2 :: r)) (gap last [])
def pool (es : List (Nat × CpInfo)) (last : Nat) : Array CpInfo := ⟨poolList es last⟩
def fileOf (pool : Array CpInfo) (this : Nat) (attrs : Array Attribute := #[]) (ms : Array MethodInfo := #[]) (fl : Nat := 33) (sup : Nat := 0) (ifs : Array Nat := #[]) (fds : Array FieldInfo := #[]) : ClassFile where
  minorVersion := 0
  majorVersion := 65
  constantPool := pool
  accessFlags := fl
  thisClass := this
  superClass := sup
  interfaces := ifs
  fields := fds
  methods := ms
  attributes := attrs
def plain (name : String) (sup : Option ClassId) : Class where
  name := name
  kind := .ordinary
  loader := none
  accessFlags := 33
  super := sup
  interfaces := #[]
  cf := none
  fields := #[]
  methods := #[]
  instanceTypes := #[]
  staticTypes := #[]
  resolved := #[]
  callSites := []
  init := .initialized
  statics := none
  mirror := none

def pool0 : Array CpInfo := pool [(5, u "<init>"), (0, u "()V"), (1, .class_ 10), (1, u "java/lang/Object")] 113

def k0c0 : Code := { maxStack := 0, maxLocals := 1, code := object_method_1_code, exceptionTable := #[], attributes := #[] }
def k0m0 : Method := { name := "<init>", desc := "()V", sig := { parameters := [], returnType := none }, accessFlags := 1, code := some k0c0 }
/-- java/lang/Object -/
def k0 : Class := { plain "java/lang/Object" none with
  accessFlags := 33
  interfaces := #[]
  cf := some (fileOf pool0 8 #[] #[{ accessFlags := 1, nameIndex := 5, descriptorIndex := 6, attributes := #[] }] 33 0 #[] #[])
  fields := #[]
  methods := #[k0m0]
  instanceTypes := #[]
  staticTypes := #[]
  resolved := Array.replicate 124 none
  statics := none }

def pool1 : Array CpInfo := pool [(2, .class_ 4), (1, u "java/lang/Object"), (0, u "<init>"), (0, u "()V"), (0, .integer 2147483647), (0, .class_ 9), (0, u "com/example/nimble_calculus/nimblecalculus/equivalence/Splits"), (0, .methodref 8 11), (0, .nameAndType 5 12), (0, u "(I)V"), (0, .methodref 8 14), (0, .nameAndType 15 12), (0, u "beginSplit"), (0, .methodref 8 17), (0, .nameAndType 18 19), (0, u "addPart"), (0, u "(II)V"), (0, .methodref 8 21), (0, .nameAndType 22 23), (0, u "finish"), (0, u "([I)V"), (0, .methodref 8 25), (0, .nameAndType 26 27), (0, u "leaf"), (0, u "(I)I"), (0, .methodref 8 29), (0, .nameAndType 30 27), (0, u "born"), (0, .methodref 8 32), (0, .nameAndType 33 27), (0, u "representative"), (0, .methodref 8 35), (0, .nameAndType 36 37), (0, u "blockBefore"), (0, u "(II)I"), (0, .methodref 8 39), (0, .nameAndType 40 41), (0, u "childrenApart"), (0, u "(II)J"), (0, .long 4294967298), (1, .class_ 45), (0, u "com/example/nimble_calculus/nimblecalculus/equivalence/SplitsAddPartPinLaw"), (2, u "law"), (0, u "(IIIII)Z")] 5

def k1m0 : Method := { name := "<init>", desc := "()V", sig := { parameters := [], returnType := none }, accessFlags := 1, code := none }
def k1c1 : Code := { maxStack := 4, maxLocals := 14, code := code, exceptionTable := #[], attributes := #[] }
def k1m1 : Method := { name := "law", desc := "(IIIII)Z", sig := { parameters := [.int, .int, .int, .int, .int], returnType := some .boolean }, accessFlags := 9, code := some k1c1 }
/-- com/example/nimble_calculus/nimblecalculus/equivalence/SplitsAddPartPinLaw -/
def k1 : Class := { plain "com/example/nimble_calculus/nimblecalculus/equivalence/SplitsAddPartPinLaw" (some 0) with
  accessFlags := 49
  interfaces := #[]
  cf := some (fileOf pool1 44 #[] #[{ accessFlags := 1, nameIndex := 5, descriptorIndex := 6, attributes := #[] }, { accessFlags := 9, nameIndex := 48, descriptorIndex := 49, attributes := #[] }] 49 2 #[] #[])
  fields := #[]
  methods := #[k1m0, k1m1]
  instanceTypes := #[]
  staticTypes := #[]
  resolved := Array.replicate 55 none
  statics := none }

def pool2 : Array CpInfo := pool [(1, .methodref 2 3), (0, .class_ 4), (0, .nameAndType 5 6), (0, u "java/lang/Object"), (0, u "<init>"), (0, u "()V"), (0, .fieldref 8 9), (0, .class_ 10), (0, .nameAndType 11 12), (0, u "com/example/nimble_calculus/nimblecalculus/equivalence/Splits"), (0, u "nodeCount"), (0, u "I"), (0, .class_ 14), (0, u "java/lang/Integer"), (0, .long 2147483647), (1, .long 2), (1, .methodref 20 21), (0, .class_ 22), (0, .nameAndType 23 24), (0, u "java/lang/Math"), (0, u "max"), (0, u "(JJ)J"), (0, .methodref 20 26), (0, .nameAndType 27 24), (0, u "min"), (0, .fieldref 8 29), (0, .nameAndType 30 31), (0, u "parent"), (0, u "[I"), (0, .fieldref 8 33), (0, .nameAndType 34 31), (0, u "born"), (0, .fieldref 8 36), (0, .nameAndType 37 31), (0, u "representative"), (0, .methodref 20 39), (0, .nameAndType 23 40), (0, u "(II)I"), (0, .fieldref 8 42), (0, .nameAndType 43 31), (0, u "nodeOfBlock"), (0, .fieldref 8 45), (0, .nameAndType 46 12), (0, u "splitCount"), (0, .fieldref 8 48), (0, .nameAndType 49 12), (0, u "splitting"), (0, .fieldref 8 51), (0, .nameAndType 52 31), (0, u "leaf"), (0, .fieldref 8 54), (0, .nameAndType 55 31), (0, u "height"), (0, .methodref 13 57), (0, .nameAndType 58 59), (0, u "numberOfLeadingZeros"), (0, u "(I)I"), (0, .class_ 31), (0, .fieldref 8 62), (0, .nameAndType 63 64), (0, u "jumps"), (0, u "[[I"), (0, .methodref 66 67), (0, .class_ 68), (0, .nameAndType 69 70), (0, u "java/util/Arrays"), (0, u "copyOf"), (0, u "([II)[I"), (9, .methodref 8 81), (0, .nameAndType 82 83), (0, u "pair"), (0, u "(II)J"), (0, u "(I)V"), (2, u "beginSplit"), (0, u "addPart"), (0, u "(II)V"), (0, u "finish"), (0, u "([I)V"), (1, u "blockBefore"), (0, u "childrenApart")] 20

def k2c0 : Code := { maxStack := 8, maxLocals := 3, code := prog_61_method_1_code, exceptionTable := #[], attributes := #[] }
def k2m0 : Method := { name := "<init>", desc := "(I)V", sig := { parameters := [.int], returnType := none }, accessFlags := 0, code := some k2c0 }
def k2c1 : Code := { maxStack := 3, maxLocals := 2, code := prog_61_method_2_code, exceptionTable := #[], attributes := #[] }
def k2m1 : Method := { name := "beginSplit", desc := "(I)V", sig := { parameters := [.int], returnType := none }, accessFlags := 0, code := some k2c1 }
def k2c2 : Code := { maxStack := 4, maxLocals := 4, code := prog_61_method_3_code, exceptionTable := #[], attributes := #[] }
def k2m2 : Method := { name := "addPart", desc := "(II)V", sig := { parameters := [.int, .int], returnType := none }, accessFlags := 0, code := some k2c2 }
def k2c3 : Code := { maxStack := 5, maxLocals := 8, code := prog_61_method_4_code, exceptionTable := #[], attributes := #[] }
def k2m3 : Method := { name := "finish", desc := "([I)V", sig := { parameters := [(.array .int)], returnType := none }, accessFlags := 0, code := some k2c3 }
def k2c4 : Code := { maxStack := 2, maxLocals := 2, code := prog_61_method_5_code, exceptionTable := #[], attributes := #[] }
def k2m4 : Method := { name := "leaf", desc := "(I)I", sig := { parameters := [.int], returnType := some .int }, accessFlags := 0, code := some k2c4 }
def k2c5 : Code := { maxStack := 2, maxLocals := 2, code := prog_61_method_6_code, exceptionTable := #[], attributes := #[] }
def k2m5 : Method := { name := "born", desc := "(I)I", sig := { parameters := [.int], returnType := some .int }, accessFlags := 0, code := some k2c5 }
def k2c6 : Code := { maxStack := 2, maxLocals := 2, code := prog_61_method_7_code, exceptionTable := #[], attributes := #[] }
def k2m6 : Method := { name := "representative", desc := "(I)I", sig := { parameters := [.int], returnType := some .int }, accessFlags := 0, code := some k2c6 }
def k2c7 : Code := { maxStack := 2, maxLocals := 6, code := prog_61_method_8_code, exceptionTable := #[], attributes := #[] }
def k2m7 : Method := { name := "blockBefore", desc := "(II)I", sig := { parameters := [.int, .int], returnType := some .int }, accessFlags := 0, code := some k2c7 }
def k2c8 : Code := { maxStack := 4, maxLocals := 6, code := prog_61_method_9_code, exceptionTable := #[], attributes := #[] }
def k2m8 : Method := { name := "childrenApart", desc := "(II)J", sig := { parameters := [.int, .int], returnType := some .long }, accessFlags := 0, code := some k2c8 }
def k2c9 : Code := { maxStack := 4, maxLocals := 2, code := prog_61_method_10_code, exceptionTable := #[], attributes := #[] }
def k2m9 : Method := { name := "pair", desc := "(II)J", sig := { parameters := [.int, .int], returnType := some .long }, accessFlags := 8, code := some k2c9 }
/-- com/example/nimble_calculus/nimblecalculus/equivalence/Splits -/
def k2 : Class := { plain "com/example/nimble_calculus/nimblecalculus/equivalence/Splits" (some 0) with
  accessFlags := 32
  interfaces := #[]
  cf := some (fileOf pool2 8 #[] #[{ accessFlags := 0, nameIndex := 5, descriptorIndex := 84, attributes := #[] }, { accessFlags := 0, nameIndex := 87, descriptorIndex := 84, attributes := #[] }, { accessFlags := 0, nameIndex := 88, descriptorIndex := 89, attributes := #[] }, { accessFlags := 0, nameIndex := 90, descriptorIndex := 91, attributes := #[] }, { accessFlags := 0, nameIndex := 52, descriptorIndex := 59, attributes := #[] }, { accessFlags := 0, nameIndex := 34, descriptorIndex := 59, attributes := #[] }, { accessFlags := 0, nameIndex := 37, descriptorIndex := 59, attributes := #[] }, { accessFlags := 0, nameIndex := 93, descriptorIndex := 40, attributes := #[] }, { accessFlags := 0, nameIndex := 94, descriptorIndex := 83, attributes := #[] }, { accessFlags := 8, nameIndex := 82, descriptorIndex := 83, attributes := #[] }] 32 2 #[] #[{ accessFlags := 18, nameIndex := 30, descriptorIndex := 31, attributes := #[] }, { accessFlags := 18, nameIndex := 34, descriptorIndex := 31, attributes := #[] }, { accessFlags := 18, nameIndex := 37, descriptorIndex := 31, attributes := #[] }, { accessFlags := 2, nameIndex := 11, descriptorIndex := 12, attributes := #[] }, { accessFlags := 2, nameIndex := 46, descriptorIndex := 12, attributes := #[] }, { accessFlags := 18, nameIndex := 43, descriptorIndex := 31, attributes := #[] }, { accessFlags := 2, nameIndex := 49, descriptorIndex := 12, attributes := #[] }, { accessFlags := 2, nameIndex := 52, descriptorIndex := 31, attributes := #[] }, { accessFlags := 2, nameIndex := 55, descriptorIndex := 31, attributes := #[] }, { accessFlags := 2, nameIndex := 63, descriptorIndex := 64, attributes := #[] }])
  fields := #[{ name := "parent", type := (.array .int), accessFlags := 18, slot := 0, constantValue := 0 }, { name := "born", type := (.array .int), accessFlags := 18, slot := 1, constantValue := 0 }, { name := "representative", type := (.array .int), accessFlags := 18, slot := 2, constantValue := 0 }, { name := "nodeCount", type := .int, accessFlags := 2, slot := 3, constantValue := 0 }, { name := "splitCount", type := .int, accessFlags := 2, slot := 4, constantValue := 0 }, { name := "nodeOfBlock", type := (.array .int), accessFlags := 18, slot := 5, constantValue := 0 }, { name := "splitting", type := .int, accessFlags := 2, slot := 6, constantValue := 0 }, { name := "leaf", type := (.array .int), accessFlags := 2, slot := 7, constantValue := 0 }, { name := "height", type := (.array .int), accessFlags := 2, slot := 8, constantValue := 0 }, { name := "jumps", type := (.array (.array .int)), accessFlags := 2, slot := 9, constantValue := 0 }]
  methods := #[k2m0, k2m1, k2m2, k2m3, k2m4, k2m5, k2m6, k2m7, k2m8, k2m9]
  instanceTypes := #[(.array .int), (.array .int), (.array .int), .int, .int, (.array .int), .int, (.array .int), (.array .int), (.array (.array .int))]
  staticTypes := #[]
  resolved := Array.replicate 115 none
  statics := none }

def pool3 : Array CpInfo := pool [(1, .class_ 2), (0, u "java/lang/Math"), (1, .class_ 6), (1, u "java/lang/Object"), (0, u "<init>"), (0, u "()V"), (89, .class_ 100), (1, u "java/lang/Math$RandomNumberGeneratorHolder"), (20, u "(JJ)J"), (50, u "negativeZeroFloatBits"), (0, u "J"), (2, u "negativeZeroDoubleBits"), (21, u "max"), (2, u "min"), (43, u "$assertionsDisabled"), (0, u "Z"), (88, u "(II)I"), (2, u "twoToTheDoubleScaleDown"), (0, u "D"), (4, u "twoToTheDoubleScaleUp"), (9, u "E"), (3, u "PI"), (2, u "TAU"), (2, u "DEGREES_TO_RADIANS"), (0, u "RADIANS_TO_DEGREES")] 94

def k3m0 : Method := { name := "<init>", desc := "()V", sig := { parameters := [], returnType := none }, accessFlags := 2, code := none }
def k3c1 : Code := { maxStack := 2, maxLocals := 2, code := jdk_29_method_65_code, exceptionTable := #[], attributes := #[] }
def k3m1 : Method := { name := "max", desc := "(II)I", sig := { parameters := [.int, .int], returnType := some .int }, accessFlags := 9, code := some k3c1 }
def k3c2 : Code := { maxStack := 4, maxLocals := 4, code := jdk_29_method_66_code, exceptionTable := #[], attributes := #[] }
def k3m2 : Method := { name := "max", desc := "(JJ)J", sig := { parameters := [.long, .long], returnType := some .long }, accessFlags := 9, code := some k3c2 }
def k3c3 : Code := { maxStack := 2, maxLocals := 2, code := jdk_29_method_69_code, exceptionTable := #[], attributes := #[] }
def k3m3 : Method := { name := "min", desc := "(II)I", sig := { parameters := [.int, .int], returnType := some .int }, accessFlags := 9, code := some k3c3 }
def k3c4 : Code := { maxStack := 4, maxLocals := 4, code := jdk_29_method_70_code, exceptionTable := #[], attributes := #[] }
def k3m4 : Method := { name := "min", desc := "(JJ)J", sig := { parameters := [.long, .long], returnType := some .long }, accessFlags := 9, code := some k3c4 }
/-- java/lang/Math -/
def k3 : Class := { plain "java/lang/Math" (some 0) with
  accessFlags := 49
  interfaces := #[]
  cf := some (fileOf pool3 1 #[.nestMembers #[98]] #[{ accessFlags := 2, nameIndex := 7, descriptorIndex := 8, attributes := #[] }, { accessFlags := 9, nameIndex := 198, descriptorIndex := 335, attributes := #[] }, { accessFlags := 9, nameIndex := 198, descriptorIndex := 121, attributes := #[] }, { accessFlags := 9, nameIndex := 201, descriptorIndex := 335, attributes := #[] }, { accessFlags := 9, nameIndex := 201, descriptorIndex := 121, attributes := #[] }] 49 4 #[] #[{ accessFlags := 25, nameIndex := 354, descriptorIndex := 339, attributes := #[] }, { accessFlags := 25, nameIndex := 358, descriptorIndex := 339, attributes := #[] }, { accessFlags := 25, nameIndex := 361, descriptorIndex := 339, attributes := #[] }, { accessFlags := 26, nameIndex := 364, descriptorIndex := 339, attributes := #[] }, { accessFlags := 26, nameIndex := 365, descriptorIndex := 339, attributes := #[] }, { accessFlags := 26, nameIndex := 172, descriptorIndex := 173, attributes := #[] }, { accessFlags := 26, nameIndex := 176, descriptorIndex := 173, attributes := #[] }, { accessFlags := 8, nameIndex := 344, descriptorIndex := 339, attributes := #[] }, { accessFlags := 8, nameIndex := 338, descriptorIndex := 339, attributes := #[] }, { accessFlags := 4120, nameIndex := 245, descriptorIndex := 246, attributes := #[] }])
  fields := #[{ name := "E", type := .double, accessFlags := 25, slot := 0, constantValue := 0 }, { name := "PI", type := .double, accessFlags := 25, slot := 1, constantValue := 0 }, { name := "TAU", type := .double, accessFlags := 25, slot := 2, constantValue := 0 }, { name := "DEGREES_TO_RADIANS", type := .double, accessFlags := 26, slot := 3, constantValue := 0 }, { name := "RADIANS_TO_DEGREES", type := .double, accessFlags := 26, slot := 4, constantValue := 0 }, { name := "negativeZeroFloatBits", type := .long, accessFlags := 26, slot := 5, constantValue := 0 }, { name := "negativeZeroDoubleBits", type := .long, accessFlags := 26, slot := 6, constantValue := 0 }, { name := "twoToTheDoubleScaleUp", type := .double, accessFlags := 8, slot := 7, constantValue := 0 }, { name := "twoToTheDoubleScaleDown", type := .double, accessFlags := 8, slot := 8, constantValue := 0 }, { name := "$assertionsDisabled", type := .boolean, accessFlags := 4120, slot := 9, constantValue := 0 }]
  methods := #[k3m0, k3m1, k3m2, k3m3, k3m4]
  instanceTypes := #[]
  staticTypes := #[.double, .double, .double, .double, .double, .long, .long, .double, .double, .boolean]
  resolved := Array.replicate 460 none
  statics := none }

def pool4 : Array CpInfo := pool [(1, .class_ 2), (0, u "java/io/Serializable"), (0, .class_ 4), (0, u "java/lang/Object")] 2

/-- java/io/Serializable -/
def k4 : Class := { plain "java/io/Serializable" (some 0) with
  accessFlags := 1537
  interfaces := #[]
  cf := some (fileOf pool4 1 #[] #[] 1537 3 #[] #[])
  fields := #[]
  methods := #[]
  instanceTypes := #[]
  staticTypes := #[]
  resolved := Array.replicate 7 none
  statics := none }

def pool5 : Array CpInfo := pool [(2, .class_ 4), (1, u "java/lang/Object"), (0, u "<init>"), (0, u "()V"), (1, .class_ 10), (1, u "java/lang/Number"), (2, .class_ 14), (0, u "java/io/Serializable"), (0, u "serialVersionUID"), (0, u "J")] 20

def k5m0 : Method := { name := "<init>", desc := "()V", sig := { parameters := [], returnType := none }, accessFlags := 1, code := none }
/-- java/lang/Number -/
def k5 : Class := { plain "java/lang/Number" (some 0) with
  accessFlags := 1057
  interfaces := #[4]
  cf := some (fileOf pool5 8 #[] #[{ accessFlags := 1, nameIndex := 5, descriptorIndex := 6, attributes := #[] }] 1057 2 #[13] #[{ accessFlags := 26, nameIndex := 15, descriptorIndex := 16, attributes := #[] }])
  fields := #[{ name := "serialVersionUID", type := .long, accessFlags := 26, slot := 0, constantValue := 0 }]
  methods := #[k5m0]
  instanceTypes := #[]
  staticTypes := #[.long]
  resolved := Array.replicate 37 none
  statics := none }

def pool6 : Array CpInfo := pool [(1, .class_ 2), (0, u "java/lang/Comparable"), (0, .class_ 4), (0, u "java/lang/Object")] 7

/-- java/lang/Comparable -/
def k6 : Class := { plain "java/lang/Comparable" (some 0) with
  accessFlags := 1537
  interfaces := #[]
  cf := some (fileOf pool6 1 #[] #[] 1537 3 #[] #[])
  fields := #[]
  methods := #[]
  instanceTypes := #[]
  staticTypes := #[]
  resolved := Array.replicate 12 none
  statics := none }

def pool7 : Array CpInfo := pool [(1, .class_ 2), (0, u "java/lang/constant/Constable"), (0, .class_ 4), (0, u "java/lang/Object")] 6

/-- java/lang/constant/Constable -/
def k7 : Class := { plain "java/lang/constant/Constable" (some 0) with
  accessFlags := 1537
  interfaces := #[]
  cf := some (fileOf pool7 1 #[] #[] 1537 3 #[] #[])
  fields := #[]
  methods := #[]
  instanceTypes := #[]
  staticTypes := #[]
  resolved := Array.replicate 11 none
  statics := none }

def pool8 : Array CpInfo := pool [(1, .class_ 2), (0, u "java/lang/constant/ConstantDesc"), (0, .class_ 4), (0, u "java/lang/Object")] 32

/-- java/lang/constant/ConstantDesc -/
def k8 : Class := { plain "java/lang/constant/ConstantDesc" (some 0) with
  accessFlags := 1537
  interfaces := #[]
  cf := some (fileOf pool8 1 #[] #[] 1537 3 #[] #[])
  fields := #[]
  methods := #[]
  instanceTypes := #[]
  staticTypes := #[]
  resolved := Array.replicate 37 none
  statics := none }

def pool9 : Array CpInfo := pool [(1, .class_ 2), (0, u "java/lang/Integer"), (16, u "digits"), (0, u "[C"), (32, u "numberOfLeadingZeros"), (0, u "(I)I"), (30, u "DigitOnes"), (0, u "[B"), (2, u "DigitTens"), (99, .class_ 190), (0, u "java/lang/Integer$IntegerCache"), (3, u "I"), (8, .class_ 204), (0, u "java/lang/Number"), (2, u "value"), (56, .integer 65536), (37, u "TYPE"), (0, u "Ljava/lang/Class;"), (0, .class_ 305), (0, u "java/lang/Comparable"), (0, .class_ 307), (0, u "java/lang/constant/Constable"), (0, .class_ 309), (0, u "java/lang/constant/ConstantDesc"), (0, u "MIN_VALUE"), (1, u "MAX_VALUE"), (3, u "SIZE"), (1, u "BYTES"), (1, u "serialVersionUID"), (0, u "J")] 131

def k9c0 : Code := { maxStack := 3, maxLocals := 2, code := jdk_33_method_47_code, exceptionTable := #[], attributes := #[] }
def k9m0 : Method := { name := "numberOfLeadingZeros", desc := "(I)I", sig := { parameters := [.int], returnType := some .int }, accessFlags := 9, code := some k9c0 }
/-- java/lang/Integer -/
def k9 : Class := { plain "java/lang/Integer" (some 5) with
  accessFlags := 49
  interfaces := #[6, 7, 8]
  cf := some (fileOf pool9 1 #[.nestMembers #[189]] #[{ accessFlags := 9, nameIndex := 53, descriptorIndex := 54, attributes := #[] }] 49 203 #[304, 306, 308] #[{ accessFlags := 25, nameIndex := 310, descriptorIndex := 194, attributes := #[] }, { accessFlags := 25, nameIndex := 312, descriptorIndex := 194, attributes := #[] }, { accessFlags := 25, nameIndex := 302, descriptorIndex := 303, attributes := #[] }, { accessFlags := 24, nameIndex := 19, descriptorIndex := 20, attributes := #[] }, { accessFlags := 24, nameIndex := 89, descriptorIndex := 86, attributes := #[] }, { accessFlags := 24, nameIndex := 85, descriptorIndex := 86, attributes := #[] }, { accessFlags := 18, nameIndex := 207, descriptorIndex := 194, attributes := #[] }, { accessFlags := 25, nameIndex := 316, descriptorIndex := 194, attributes := #[] }, { accessFlags := 25, nameIndex := 318, descriptorIndex := 194, attributes := #[] }, { accessFlags := 26, nameIndex := 320, descriptorIndex := 321, attributes := #[] }])
  fields := #[{ name := "MIN_VALUE", type := .int, accessFlags := 25, slot := 0, constantValue := 0 }, { name := "MAX_VALUE", type := .int, accessFlags := 25, slot := 1, constantValue := 0 }, { name := "TYPE", type := (.object "java/lang/Class"), accessFlags := 25, slot := 2, constantValue := 0 }, { name := "digits", type := (.array .char), accessFlags := 24, slot := 3, constantValue := 0 }, { name := "DigitTens", type := (.array .byte), accessFlags := 24, slot := 4, constantValue := 0 }, { name := "DigitOnes", type := (.array .byte), accessFlags := 24, slot := 5, constantValue := 0 }, { name := "value", type := .int, accessFlags := 18, slot := 0, constantValue := 0 }, { name := "SIZE", type := .int, accessFlags := 25, slot := 6, constantValue := 0 }, { name := "BYTES", type := .int, accessFlags := 25, slot := 7, constantValue := 0 }, { name := "serialVersionUID", type := .long, accessFlags := 26, slot := 8, constantValue := 0 }]
  methods := #[k9m0]
  instanceTypes := #[.int]
  staticTypes := #[.int, .int, (.object "java/lang/Class"), (.array .char), (.array .byte), (.array .byte), .int, .int, .long]
  resolved := Array.replicate 453 none
  statics := none }

def pool10 : Array CpInfo := pool [(2, .class_ 4), (1, u "java/lang/Object"), (0, u "<init>"), (0, u "()V"), (7, .class_ 16), (1, u "java/util/Arrays"), (57, .class_ 76), (1, u "java/util/Arrays$NaturalOrder"), (36, .class_ 115), (1, u "java/util/Arrays$LegacyMergeSort"), (1, u "Z"), (32, .methodref 151 152), (0, .class_ 153), (0, .nameAndType 154 155), (0, u "java/lang/System"), (0, u "arraycopy"), (0, u "(Ljava/lang/Object;ILjava/lang/Object;II)V"), (146, u "copyOf"), (1, .methodref 305 306), (0, .class_ 307), (0, .nameAndType 308 309), (0, u "java/lang/Math"), (0, u "min"), (0, u "(II)I"), (65, .class_ 376), (0, u "java/util/Arrays$ArrayList"), (68, u "$assertionsDisabled"), (269, u "MIN_ARRAY_SORT_GRAN"), (0, u "I"), (2, u "INSERTIONSORT_THRESHOLD"), (151, u "([II)[I"), (103, .class_ 976), (0, u "java/util/Arrays$ArrayItr")] 52

def k10m0 : Method := { name := "<init>", desc := "()V", sig := { parameters := [], returnType := none }, accessFlags := 2, code := none }
def k10c1 : Code := { maxStack := 6, maxLocals := 3, code := jdk_65_method_123_code, exceptionTable := #[], attributes := #[] }
def k10m1 : Method := { name := "copyOf", desc := "([II)[I", sig := { parameters := [(.array .int), .int], returnType := some (.array .int) }, accessFlags := 9, code := some k10c1 }
/-- java/util/Arrays -/
def k10 : Class := { plain "java/util/Arrays" (some 0) with
  accessFlags := 49
  interfaces := #[]
  cf := some (fileOf pool10 14 #[.nestMembers #[975, 375, 113, 74]] #[{ accessFlags := 2, nameIndex := 5, descriptorIndex := 6, attributes := #[] }, { accessFlags := 9, nameIndex := 302, descriptorIndex := 871, attributes := #[] }] 49 2 #[] #[{ accessFlags := 26, nameIndex := 715, descriptorIndex := 716, attributes := #[] }, { accessFlags := 26, nameIndex := 719, descriptorIndex := 716, attributes := #[] }, { accessFlags := 4120, nameIndex := 445, descriptorIndex := 117, attributes := #[] }])
  fields := #[{ name := "MIN_ARRAY_SORT_GRAN", type := .int, accessFlags := 26, slot := 0, constantValue := 0 }, { name := "INSERTIONSORT_THRESHOLD", type := .int, accessFlags := 26, slot := 1, constantValue := 0 }, { name := "$assertionsDisabled", type := .boolean, accessFlags := 4120, slot := 2, constantValue := 0 }]
  methods := #[k10m0, k10m1]
  instanceTypes := #[]
  staticTypes := #[.int, .int, .boolean]
  resolved := Array.replicate 1029 none
  statics := none }

def pool11 : Array CpInfo := pool [(2, .class_ 4), (1, u "java/lang/Object"), (0, u "<init>"), (0, u "()V"), (1, .class_ 10), (1, u "java/lang/System"), (0, u "allowSecurityManager"), (0, u "I"), (16, u "cons"), (0, u "Ljava/io/Console;"), (77, .class_ 110), (1, u "java/lang/System$CallersHolder"), (43, u "initialErrStream"), (0, u "Ljava/io/PrintStream;"), (19, u "security"), (0, u "Ljava/lang/SecurityManager;"), (31, .class_ 209), (0, u "java/lang/System$1"), (7, u "props"), (0, u "Ljava/util/Properties;"), (2, u "lineSeparator"), (0, u "Ljava/lang/String;"), (96, .class_ 321), (1, u "java/lang/System$LoggerFinder"), (5, .class_ 328), (0, u "java/lang/System$Logger"), (67, u "err"), (2, u "out"), (91, u "notSupportedJnuEncoding"), (15, u "in"), (17, u "initialIn"), (0, u "Ljava/io/InputStream;"), (35, u "bootLayer"), (0, u "Ljava/lang/ModuleLayer;"), (99, .class_ 664), (0, u "java/lang/System$2"), (9, u "NEVER"), (2, u "MAYBE"), (49, u "arraycopy"), (0, u "(Ljava/lang/Object;ILjava/lang/Object;II)V"), (72, .class_ 802), (0, u "java/lang/System$Logger$Level")] 31

def k11m0 : Method := { name := "<init>", desc := "()V", sig := { parameters := [], returnType := none }, accessFlags := 2, code := none }
def k11m1 : Method := { name := "arraycopy", desc := "(Ljava/lang/Object;ILjava/lang/Object;II)V", sig := { parameters := [(.object "java/lang/Object"), .int, (.object "java/lang/Object"), .int, .int], returnType := none }, accessFlags := 265, code := none }
/-- java/lang/System -/
def k11 : Class := { plain "java/lang/System" (some 0) with
  accessFlags := 49
  interfaces := #[]
  cf := some (fileOf pool11 8 #[.nestMembers #[319, 327, 801, 108, 663, 208]] #[{ accessFlags := 2, nameIndex := 5, descriptorIndex := 6, attributes := #[] }, { accessFlags := 265, nameIndex := 727, descriptorIndex := 728, attributes := #[] }] 49 2 #[] #[{ accessFlags := 25, nameIndex := 507, descriptorIndex := 526, attributes := #[] }, { accessFlags := 25, nameIndex := 399, descriptorIndex := 155, attributes := #[] }, { accessFlags := 25, nameIndex := 396, descriptorIndex := 155, attributes := #[] }, { accessFlags := 10, nameIndex := 525, descriptorIndex := 526, attributes := #[] }, { accessFlags := 26, nameIndex := 674, descriptorIndex := 12, attributes := #[] }, { accessFlags := 26, nameIndex := 677, descriptorIndex := 12, attributes := #[] }, { accessFlags := 10, nameIndex := 11, descriptorIndex := 12, attributes := #[] }, { accessFlags := 74, nameIndex := 175, descriptorIndex := 176, attributes := #[] }, { accessFlags := 10, nameIndex := 491, descriptorIndex := 222, attributes := #[] }, { accessFlags := 74, nameIndex := 29, descriptorIndex := 30, attributes := #[] }, { accessFlags := 74, nameIndex := 154, descriptorIndex := 155, attributes := #[] }, { accessFlags := 10, nameIndex := 217, descriptorIndex := 218, attributes := #[] }, { accessFlags := 10, nameIndex := 221, descriptorIndex := 222, attributes := #[] }, { accessFlags := 8, nameIndex := 562, descriptorIndex := 563, attributes := #[] }])
  fields := #[{ name := "in", type := (.object "java/io/InputStream"), accessFlags := 25, slot := 0, constantValue := 0 }, { name := "out", type := (.object "java/io/PrintStream"), accessFlags := 25, slot := 1, constantValue := 0 }, { name := "err", type := (.object "java/io/PrintStream"), accessFlags := 25, slot := 2, constantValue := 0 }, { name := "initialIn", type := (.object "java/io/InputStream"), accessFlags := 10, slot := 3, constantValue := 0 }, { name := "NEVER", type := .int, accessFlags := 26, slot := 4, constantValue := 0 }, { name := "MAYBE", type := .int, accessFlags := 26, slot := 5, constantValue := 0 }, { name := "allowSecurityManager", type := .int, accessFlags := 10, slot := 6, constantValue := 0 }, { name := "security", type := (.object "java/lang/SecurityManager"), accessFlags := 74, slot := 7, constantValue := 0 }, { name := "notSupportedJnuEncoding", type := (.object "java/lang/String"), accessFlags := 10, slot := 8, constantValue := 0 }, { name := "cons", type := (.object "java/io/Console"), accessFlags := 74, slot := 9, constantValue := 0 }, { name := "initialErrStream", type := (.object "java/io/PrintStream"), accessFlags := 74, slot := 10, constantValue := 0 }, { name := "props", type := (.object "java/util/Properties"), accessFlags := 10, slot := 11, constantValue := 0 }, { name := "lineSeparator", type := (.object "java/lang/String"), accessFlags := 10, slot := 12, constantValue := 0 }, { name := "bootLayer", type := (.object "java/lang/ModuleLayer"), accessFlags := 8, slot := 13, constantValue := 0 }]
  methods := #[k11m0, k11m1]
  instanceTypes := #[]
  staticTypes := #[(.object "java/io/InputStream"), (.object "java/io/PrintStream"), (.object "java/io/PrintStream"), (.object "java/io/InputStream"), .int, .int, .int, (.object "java/lang/SecurityManager"), (.object "java/lang/String"), (.object "java/io/Console"), (.object "java/io/PrintStream"), (.object "java/util/Properties"), (.object "java/lang/String"), (.object "java/lang/ModuleLayer")]
  resolved := Array.replicate 834 none
  statics := none }

def pool12 : Array CpInfo := pool [(1, u "java/lang/Cloneable"), (0, .class_ 1), (0, u "java/lang/Object"), (0, .class_ 3)] 3

/-- java/lang/Cloneable -/
def k12 : Class := { plain "java/lang/Cloneable" (some 0) with
  accessFlags := 1537
  interfaces := #[]
  cf := some (fileOf pool12 2 #[] #[] 1537 4 #[] #[])
  fields := #[]
  methods := #[]
  instanceTypes := #[]
  staticTypes := #[]
  resolved := Array.replicate 8 none
  statics := none }

/-- the primitive byte -/
def k13 : Class := { plain "byte" none with kind := .primitive 'B', accessFlags := 0x411 }
/-- [B -/
def k14 : Class := { plain "[B" (some 0) with kind := .array 13 .byte, interfaces := #[12, 4], accessFlags := 1041 }

/-- the primitive int -/
def k15 : Class := { plain "int" none with kind := .primitive 'I', accessFlags := 0x411 }
/-- [I -/
def k16 : Class := { plain "[I" (some 0) with kind := .array 15 .int, interfaces := #[12, 4], accessFlags := 1041 }

/-- [[I -/
def k17 : Class := { plain "[[I" (some 0) with kind := .array 16 (.array .int), interfaces := #[12, 4], accessFlags := 1041 }

def heap : Heap := #[]
def classes : Array Class := #[k0, k1, k2, k3, k4, k5, k6, k7, k8, k9, k10, k11, k12, k13, k14, k15, k16, k17]
def interned : List (Array UInt16 × Addr) := []
def slotsUsed : Nat := 0
def theMethod : MethodId := ⟨1, 1⟩
def args0 : Array Value := #[.int 3, .int 2, .int 1, .int 8, .int 9]
def aboutOver (below : List Frame) : State where
  vm := { classes := classes, interned := interned.toArray }
  heap := heap
  slotsUsed := slotsUsed
  threads := #[{ frames := .invoking theMethod args0 :: below }]
def below0 : List Frame := [.native { method := ⟨0, 0⟩, args := #[] }]
def about1 : State := aboutOver below0
def p0 : Program := .bare "" "" ""
def e0 : Env := launch0.env 0 0 0
theorem w_frames : about1.frames = Frame.invoking theMethod args0 :: below0 := rfl
set_option maxRecDepth 65536 in
theorem w_args : argsFit about1.vm theMethod args0 = true := by decide +kernel
set_option maxRecDepth 65536 in
theorem w_heap : heapFits about1 = true := by decide +kernel
set_option maxRecDepth 65536 in
theorem w_runnable : about1.curStatus? = some .runnable := by decide +kernel
set_option maxRecDepth 65536 in
theorem w_alone : about1.alone = true := by decide +kernel
set_option maxRecDepth 65536 in
theorem w_named : about1.methodNamed? x = some theMethod := by decide +kernel
set_option maxRecDepth 65536 in
theorem w_hears : about1.hears theMethod below0 = true := by decide +kernel
set_option maxRecDepth 65536 in
theorem w_ripe : about1.ripe theMethod args0 below0 = true := by decide +kernel
theorem w_running : about1.status = .running := rfl
set_option maxRecDepth 65536 in
theorem w_room : about1.hasRoom e0.platform room_1 = true :=
  launch0.hasRoom_least _ room_1 (by decide +kernel) (by decide +kernel) (by decide +kernel) (by decide +kernel) (by decide +kernel) (by decide +kernel)
theorem allAtoms_all (ts : List Jvm.Cond) (a : Array Jvm.Value) (st : Jvm.State) : (allAtoms ts).before a st = ts.all (fun c => c.before a st) := by
  induction ts with
  | nil => rfl
  | cons c t ih =>
    show (Jvm.Cond.and c (allAtoms t)).before a st = _
    rw [Jvm.Cond.before_and, ih, List.all_cons]
def words1 : List Jvm.Cond := Jvm.Cond.code x code maxLocals ret :: tables_1
/-- a 'code' word, met by the world's own term for the bytes: nothing is compared byte by byte -/
theorem code_word {y : MethodName} {bytes : ByteArray} {mx : Nat} {rt : Option FieldType} {a : Array Value} {s : State} {m : MethodId} {meth : Method} {c : Code} (h1 : s.methodNamed? y = some m) (h2 : s.vm.method? m = some meth) (h3 : meth.code = some c) (h4 : c.code = bytes)
    (h5 : (c.maxLocals == mx && c.exceptionTable.isEmpty && decide (c.maxStack ≤ mostOperands) && decide (meth.sig.returnType = rt) && !meth.locks && decide (parseMethodDescriptor y.desc = some meth.sig)) = true) : (Jvm.Cond.code y bytes mx rt).before a s = true := by
  simp only [Bool.and_eq_true, beq_iff_eq, Bool.not_eq_true', decide_eq_true_eq] at h5
  obtain ⟨⟨⟨⟨⟨g1, g2⟩, g3⟩, g4⟩, g5⟩, g6⟩ := h5
  simp [Cond.before, Cond.holds, Cond.value, h1, h2, h3, h4, g1, g2, g3, g4, g5, g6]
def isCode : Jvm.Cond → Bool
  | .code _ _ _ _ => true
  | _ => false
theorem all_split {L : List Jvm.Cond} {P : Jvm.Cond → Bool} (h1 : L.all (fun c => isCode c || P c) = true) (h2 : ∀ c ∈ L.filter isCode, P c = true) : L.all P = true := by
  refine List.all_eq_true.mpr fun c hc => ?_
  have h := List.all_eq_true.mp h1 c hc
  rcases Bool.eq_false_or_eq_true (isCode c) with hi | hi
  · exact h2 c (List.mem_filter.mpr ⟨hc, hi⟩)
  · simpa [hi] using h
set_option maxRecDepth 65536 in
theorem w_c0 : (Jvm.Cond.code x code maxLocals ret).before args0 about1 = true := code_word (m := ⟨1, 1⟩) (meth := k1m1) (c := k1c1) (by decide +kernel) rfl rfl rfl (by decide +kernel)
set_option maxRecDepth 65536 in
theorem w_c1 : (Jvm.Cond.code ({ cls := "com/example/nimble_calculus/nimblecalculus/equivalence/Splits", name := "<init>", desc := "(I)V" } : Jvm.MethodName) prog_61_method_1_code (3 : Nat) (Option.none : Option Jvm.ClassFile.FieldType)).before args0 about1 = true := code_word (m := ⟨2, 0⟩) (meth := k2m0) (c := k2c0) (by decide +kernel) rfl rfl rfl (by decide +kernel)
set_option maxRecDepth 65536 in
theorem w_c2 : (Jvm.Cond.code ({ cls := "java/lang/Object", name := "<init>", desc := "()V" } : Jvm.MethodName) object_method_1_code (1 : Nat) (Option.none : Option Jvm.ClassFile.FieldType)).before args0 about1 = true := code_word (m := ⟨0, 0⟩) (meth := k0m0) (c := k0c0) (by decide +kernel) rfl rfl rfl (by decide +kernel)
set_option maxRecDepth 65536 in
theorem w_c3 : (Jvm.Cond.code ({ cls := "java/lang/Math", name := "max", desc := "(JJ)J" } : Jvm.MethodName) jdk_29_method_66_code (4 : Nat) (Option.some Jvm.ClassFile.FieldType.long)).before args0 about1 = true := code_word (m := ⟨3, 2⟩) (meth := k3m2) (c := k3c2) (by decide +kernel) rfl rfl rfl (by decide +kernel)
set_option maxRecDepth 65536 in
theorem w_c4 : (Jvm.Cond.code ({ cls := "java/lang/Math", name := "min", desc := "(JJ)J" } : Jvm.MethodName) jdk_29_method_70_code (4 : Nat) (Option.some Jvm.ClassFile.FieldType.long)).before args0 about1 = true := code_word (m := ⟨3, 4⟩) (meth := k3m4) (c := k3c4) (by decide +kernel) rfl rfl rfl (by decide +kernel)
set_option maxRecDepth 65536 in
theorem w_c5 : (Jvm.Cond.code ({ cls := "java/lang/Math", name := "max", desc := "(II)I" } : Jvm.MethodName) jdk_29_method_65_code (2 : Nat) (Option.some Jvm.ClassFile.FieldType.int)).before args0 about1 = true := code_word (m := ⟨3, 1⟩) (meth := k3m1) (c := k3c1) (by decide +kernel) rfl rfl rfl (by decide +kernel)
set_option maxRecDepth 65536 in
theorem w_c6 : (Jvm.Cond.code ({ cls := "com/example/nimble_calculus/nimblecalculus/equivalence/Splits", name := "beginSplit", desc := "(I)V" } : Jvm.MethodName) prog_61_method_2_code (2 : Nat) (Option.none : Option Jvm.ClassFile.FieldType)).before args0 about1 = true := code_word (m := ⟨2, 1⟩) (meth := k2m1) (c := k2c1) (by decide +kernel) rfl rfl rfl (by decide +kernel)
set_option maxRecDepth 65536 in
theorem w_c7 : (Jvm.Cond.code ({ cls := "com/example/nimble_calculus/nimblecalculus/equivalence/Splits", name := "addPart", desc := "(II)V" } : Jvm.MethodName) prog_61_method_3_code (4 : Nat) (Option.none : Option Jvm.ClassFile.FieldType)).before args0 about1 = true := code_word (m := ⟨2, 2⟩) (meth := k2m2) (c := k2c2) (by decide +kernel) rfl rfl rfl (by decide +kernel)
set_option maxRecDepth 65536 in
theorem w_c8 : (Jvm.Cond.code ({ cls := "com/example/nimble_calculus/nimblecalculus/equivalence/Splits", name := "finish", desc := "([I)V" } : Jvm.MethodName) prog_61_method_4_code (8 : Nat) (Option.none : Option Jvm.ClassFile.FieldType)).before args0 about1 = true := code_word (m := ⟨2, 3⟩) (meth := k2m3) (c := k2c3) (by decide +kernel) rfl rfl rfl (by decide +kernel)
set_option maxRecDepth 65536 in
theorem w_c9 : (Jvm.Cond.code ({ cls := "java/lang/Integer", name := "numberOfLeadingZeros", desc := "(I)I" } : Jvm.MethodName) jdk_33_method_47_code (2 : Nat) (Option.some Jvm.ClassFile.FieldType.int)).before args0 about1 = true := code_word (m := ⟨9, 0⟩) (meth := k9m0) (c := k9c0) (by decide +kernel) rfl rfl rfl (by decide +kernel)
set_option maxRecDepth 65536 in
theorem w_c10 : (Jvm.Cond.code ({ cls := "java/util/Arrays", name := "copyOf", desc := "([II)[I" } : Jvm.MethodName) jdk_65_method_123_code (3 : Nat) (Option.some (Jvm.ClassFile.FieldType.array Jvm.ClassFile.FieldType.int))).before args0 about1 = true := code_word (m := ⟨10, 1⟩) (meth := k10m1) (c := k10c1) (by decide +kernel) rfl rfl rfl (by decide +kernel)
set_option maxRecDepth 65536 in
theorem w_c11 : (Jvm.Cond.code ({ cls := "java/lang/Math", name := "min", desc := "(II)I" } : Jvm.MethodName) jdk_29_method_69_code (2 : Nat) (Option.some Jvm.ClassFile.FieldType.int)).before args0 about1 = true := code_word (m := ⟨3, 3⟩) (meth := k3m3) (c := k3c3) (by decide +kernel) rfl rfl rfl (by decide +kernel)
set_option maxRecDepth 65536 in
theorem w_c12 : (Jvm.Cond.code ({ cls := "com/example/nimble_calculus/nimblecalculus/equivalence/Splits", name := "leaf", desc := "(I)I" } : Jvm.MethodName) prog_61_method_5_code (2 : Nat) (Option.some Jvm.ClassFile.FieldType.int)).before args0 about1 = true := code_word (m := ⟨2, 4⟩) (meth := k2m4) (c := k2c4) (by decide +kernel) rfl rfl rfl (by decide +kernel)
set_option maxRecDepth 65536 in
theorem w_c13 : (Jvm.Cond.code ({ cls := "com/example/nimble_calculus/nimblecalculus/equivalence/Splits", name := "born", desc := "(I)I" } : Jvm.MethodName) prog_61_method_6_code (2 : Nat) (Option.some Jvm.ClassFile.FieldType.int)).before args0 about1 = true := code_word (m := ⟨2, 5⟩) (meth := k2m5) (c := k2c5) (by decide +kernel) rfl rfl rfl (by decide +kernel)
set_option maxRecDepth 65536 in
theorem w_c14 : (Jvm.Cond.code ({ cls := "com/example/nimble_calculus/nimblecalculus/equivalence/Splits", name := "representative", desc := "(I)I" } : Jvm.MethodName) prog_61_method_7_code (2 : Nat) (Option.some Jvm.ClassFile.FieldType.int)).before args0 about1 = true := code_word (m := ⟨2, 6⟩) (meth := k2m6) (c := k2c6) (by decide +kernel) rfl rfl rfl (by decide +kernel)
set_option maxRecDepth 65536 in
theorem w_c15 : (Jvm.Cond.code ({ cls := "com/example/nimble_calculus/nimblecalculus/equivalence/Splits", name := "blockBefore", desc := "(II)I" } : Jvm.MethodName) prog_61_method_8_code (6 : Nat) (Option.some Jvm.ClassFile.FieldType.int)).before args0 about1 = true := code_word (m := ⟨2, 7⟩) (meth := k2m7) (c := k2c7) (by decide +kernel) rfl rfl rfl (by decide +kernel)
set_option maxRecDepth 65536 in
theorem w_c16 : (Jvm.Cond.code ({ cls := "com/example/nimble_calculus/nimblecalculus/equivalence/Splits", name := "childrenApart", desc := "(II)J" } : Jvm.MethodName) prog_61_method_9_code (6 : Nat) (Option.some Jvm.ClassFile.FieldType.long)).before args0 about1 = true := code_word (m := ⟨2, 8⟩) (meth := k2m8) (c := k2c8) (by decide +kernel) rfl rfl rfl (by decide +kernel)
set_option maxRecDepth 65536 in
theorem w_c17 : (Jvm.Cond.code ({ cls := "com/example/nimble_calculus/nimblecalculus/equivalence/Splits", name := "pair", desc := "(II)J" } : Jvm.MethodName) prog_61_method_10_code (2 : Nat) (Option.some Jvm.ClassFile.FieldType.long)).before args0 about1 = true := code_word (m := ⟨2, 9⟩) (meth := k2m9) (c := k2c9) (by decide +kernel) rfl rfl rfl (by decide +kernel)
def codes1 : List Jvm.Cond := [Jvm.Cond.code x code maxLocals ret, Jvm.Cond.code ({ cls := "com/example/nimble_calculus/nimblecalculus/equivalence/Splits", name := "<init>", desc := "(I)V" } : Jvm.MethodName) prog_61_method_1_code (3 : Nat) (Option.none : Option Jvm.ClassFile.FieldType), Jvm.Cond.code ({ cls := "java/lang/Object", name := "<init>", desc := "()V" } : Jvm.MethodName) object_method_1_code (1 : Nat) (Option.none : Option Jvm.ClassFile.FieldType), Jvm.Cond.code ({ cls := "java/lang/Math", name := "max", desc := "(JJ)J" } : Jvm.MethodName) jdk_29_method_66_code (4 : Nat) (Option.some Jvm.ClassFile.FieldType.long), Jvm.Cond.code ({ cls := "java/lang/Math", name := "min", desc := "(JJ)J" } : Jvm.MethodName) jdk_29_method_70_code (4 : Nat) (Option.some Jvm.ClassFile.FieldType.long), Jvm.Cond.code ({ cls := "java/lang/Math", name := "max", desc := "(II)I" } : Jvm.MethodName) jdk_29_method_65_code (2 : Nat) (Option.some Jvm.ClassFile.FieldType.int), Jvm.Cond.code ({ cls := "com/example/nimble_calculus/nimblecalculus/equivalence/Splits", name := "beginSplit", desc := "(I)V" } : Jvm.MethodName) prog_61_method_2_code (2 : Nat) (Option.none : Option Jvm.ClassFile.FieldType), Jvm.Cond.code ({ cls := "com/example/nimble_calculus/nimblecalculus/equivalence/Splits", name := "addPart", desc := "(II)V" } : Jvm.MethodName) prog_61_method_3_code (4 : Nat) (Option.none : Option Jvm.ClassFile.FieldType), Jvm.Cond.code ({ cls := "com/example/nimble_calculus/nimblecalculus/equivalence/Splits", name := "finish", desc := "([I)V" } : Jvm.MethodName) prog_61_method_4_code (8 : Nat) (Option.none : Option Jvm.ClassFile.FieldType), Jvm.Cond.code ({ cls := "java/lang/Integer", name := "numberOfLeadingZeros", desc := "(I)I" } : Jvm.MethodName) jdk_33_method_47_code (2 : Nat) (Option.some Jvm.ClassFile.FieldType.int), Jvm.Cond.code ({ cls := "java/util/Arrays", name := "copyOf", desc := "([II)[I" } : Jvm.MethodName) jdk_65_method_123_code (3 : Nat) (Option.some (Jvm.ClassFile.FieldType.array Jvm.ClassFile.FieldType.int)), Jvm.Cond.code ({ cls := "java/lang/Math", name := "min", desc := "(II)I" } : Jvm.MethodName) jdk_29_method_69_code (2 : Nat) (Option.some Jvm.ClassFile.FieldType.int), Jvm.Cond.code ({ cls := "com/example/nimble_calculus/nimblecalculus/equivalence/Splits", name := "leaf", desc := "(I)I" } : Jvm.MethodName) prog_61_method_5_code (2 : Nat) (Option.some Jvm.ClassFile.FieldType.int), Jvm.Cond.code ({ cls := "com/example/nimble_calculus/nimblecalculus/equivalence/Splits", name := "born", desc := "(I)I" } : Jvm.MethodName) prog_61_method_6_code (2 : Nat) (Option.some Jvm.ClassFile.FieldType.int), Jvm.Cond.code ({ cls := "com/example/nimble_calculus/nimblecalculus/equivalence/Splits", name := "representative", desc := "(I)I" } : Jvm.MethodName) prog_61_method_7_code (2 : Nat) (Option.some Jvm.ClassFile.FieldType.int), Jvm.Cond.code ({ cls := "com/example/nimble_calculus/nimblecalculus/equivalence/Splits", name := "blockBefore", desc := "(II)I" } : Jvm.MethodName) prog_61_method_8_code (6 : Nat) (Option.some Jvm.ClassFile.FieldType.int), Jvm.Cond.code ({ cls := "com/example/nimble_calculus/nimblecalculus/equivalence/Splits", name := "childrenApart", desc := "(II)J" } : Jvm.MethodName) prog_61_method_9_code (6 : Nat) (Option.some Jvm.ClassFile.FieldType.long), Jvm.Cond.code ({ cls := "com/example/nimble_calculus/nimblecalculus/equivalence/Splits", name := "pair", desc := "(II)J" } : Jvm.MethodName) prog_61_method_10_code (2 : Nat) (Option.some Jvm.ClassFile.FieldType.long)]
set_option maxRecDepth 65536 in
theorem codes_eq : words1.filter isCode = codes1 := rfl
theorem w_codes : ∀ c ∈ words1.filter isCode, c.before args0 about1 = true := by
  rw [codes_eq]
  intro c hc
  simp only [codes1, List.mem_cons, List.not_mem_nil, or_false] at hc
  rcases hc with rfl | rfl | rfl | rfl | rfl | rfl | rfl | rfl | rfl | rfl | rfl | rfl | rfl | rfl | rfl | rfl | rfl | rfl
  · exact w_c0
  · exact w_c1
  · exact w_c2
  · exact w_c3
  · exact w_c4
  · exact w_c5
  · exact w_c6
  · exact w_c7
  · exact w_c8
  · exact w_c9
  · exact w_c10
  · exact w_c11
  · exact w_c12
  · exact w_c13
  · exact w_c14
  · exact w_c15
  · exact w_c16
  · exact w_c17
set_option maxRecDepth 65536 in
theorem w_t1 : (words1.take 24).all (fun c => isCode c || c.before args0 about1) = true := by decide +kernel
set_option maxRecDepth 65536 in
theorem w_t2 : ((words1.drop 24).take 24).all (fun c => isCode c || c.before args0 about1) = true := by decide +kernel
set_option maxRecDepth 65536 in
theorem w_t3 : (((words1.drop 24).drop 24).take 24).all (fun c => isCode c || c.before args0 about1) = true := by decide +kernel
set_option maxRecDepth 65536 in
theorem w_t4 : ((((words1.drop 24).drop 24).drop 24).take 24).all (fun c => isCode c || c.before args0 about1) = true := by decide +kernel
set_option maxRecDepth 65536 in
theorem w_t5 : ((((words1.drop 24).drop 24).drop 24).drop 24).all (fun c => isCode c || c.before args0 about1) = true := by decide +kernel
theorem w_tables : (allAtoms (Jvm.Cond.code x code maxLocals ret :: tables_1)).before args0 about1 = true := by
  rw [allAtoms_all]
  show words1.all (fun c => c.before args0 about1) = true
  refine all_split ?_ w_codes
  rw [← List.take_append_drop 24 words1, List.all_append, w_t1, ← List.take_append_drop 24 (words1.drop 24), List.all_append, w_t2, ← List.take_append_drop 24 ((words1.drop 24).drop 24), List.all_append, w_t3, ← List.take_append_drop 24 (((words1.drop 24).drop 24).drop 24), List.all_append, w_t4, w_t5]
  rfl
set_option maxRecDepth 65536 in
theorem w_case : (Jvm.Cond.and given_1 narrow_1).before args0 about1 = true := by decide +kernel
theorem w_applies : (headSpec (Jvm.Cond.code x code maxLocals ret :: tables_1) room_1).applies x e0.platform about1 = true :=
  (Spec.applies_iff w_frames).mpr ⟨w_running, w_runnable, w_alone, w_named, w_hears, w_ripe, w_room, w_tables⟩
theorem atStart : AtStart classFile x code maxLocals ret World_1 tables_1 room_1 Calls_1 rest_1 Pre_1 launch0 p0 e0 about1 theMethod args0 below0 :=
  ⟨lists_1, trivial, launch0.admits_env _ _ _, launch0.least_env, fairChoices_fair.cas, fairChoices_fair.clock, w_frames, w_args, w_heap, w_applies, trivial, trivial, w_case⟩
end start1
theorem witness_1 : WitnessClaimed_1 := ⟨start1.p0, start1.e0, start1.about1, start1.theMethod, start1.args0, start1.below0, start1.atStart⟩
end Jvm.Pilot.@@N@@
