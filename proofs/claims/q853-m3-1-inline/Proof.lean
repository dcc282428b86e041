import JvmDerived
import JvmDerived.Pilot.@@N@@Statement
import JvmDerived.Pilot.@@N@@Code
set_option linter.unusedVariables false
set_option linter.unusedSimpArgs false
@@BLOCK:LamKit.lean.txt@@
namespace Jvm.OwnKit
open Sem ClassFile Op Lib Jvm.Stand Jvm.Free Jvm.LawKit Jvm.RoadKit
abbrev Kx := (List Loc → Prop) × (Outcome → State → List Loc → Prop) × Program × Env × State × MethodId × Array Value × List Frame × Method × Code
def KS (K : Kx) : State := K.2.2.2.2.1
/-- what is fixed while one body is walked; fl: places may be written; kz: what the heap's length must reach at the end -/
def Ctx (l : Launch) (R : Room) (Z : State) (own nm : String) (code : ByteArray) (maxL : Nat) (ret : Option FieldType) (fl : Bool) (n0 kz : Nat) : Kx → Prop
  | (Pl, En, p, e, s, m, args, below, meth, c) => p.tables.exec = Jvm.exec ∧ Z.Warmed39 s.vm ∧ s.vm.findClass own = some m.cls ∧ c.code = code ∧ c.maxLocals = maxL ∧ meth.sig.returnType = ret ∧ meth.name = nm ∧ meth.locks = false ∧ (fl = true → ∀ A, Fr n0 A → Pl A) ∧ (∀ A, Pl A → Fr n0 A) ∧
    ∀ v (t : State) A, kz ≤ t.heap.size → s.WarmedH t.vm → s.sameButNew ({ t with vm := s.vm } : State) A R.cells R.slots → En (.returned v) t A
/-- from every stand with the heap h at this frame the body ends as Q says, all that it wrote lying at n0 or above -/
def Run (l : Launch) (R : Room) (n0 : Nat) (Q : Option Value → Heap → Vm → Prop) : Kx → Heap → Nat → Nat → Nat → Array Slot → List Value → Prop
  | (Pl, En, p, e, s, m, args, below, meth, c), h, cells, slots, pc, Ls, st => ∀ (T : State) (locs : List Loc), Stand p l e R s m args below meth c T locs cells slots → T.heap = h → Pl locs →
    ∃ s₂ o, Steps p.tables e below (T.setTop (mkF m pc Ls st)) s₂ ∧ s₂.status = .running ∧ Ended s₂ below o ∧ ∃ v L, o = .returned v ∧ (Q v s₂.heap s₂.vm ∧ Fr n0 L) ∧ En o s₂ L
/-- a body's contract: it interns nothing -/
def Con (l : Launch) (ws : List Jvm.Cond) (y : MethodName) (bytes : ByteArray) (maxL : Nat) (ret : Option FieldType) (rm : Room) (Z : State) (as : Array Value) (h0 : Heap) (n0 : Nat) (Q : Option Value → Heap → Prop) : Prop :=
  MetFree l y (head1 (Jvm.Cond.code y bytes maxL ret :: ws) rm) (fun a U => a = as ∧ Z.Warmed39 U.vm ∧ U.heap = h0) (fun _ _ _ _ _ => True) (fun _ U o U' => ∃ v L, o = .returned v ∧ (Q v U'.heap ∧ Fr n0 L) ∧ FrameEnd U o U' L rm.cells rm.slots)
/-- a body's contract: it may intern; V: what its start knows of the tables -/
def ConW (l : Launch) (ws : List Jvm.Cond) (y : MethodName) (bytes : ByteArray) (maxL : Nat) (ret : Option FieldType) (rm : Room) (Z : State) (as : Array Value) (h0 : Heap) (n0 : Nat) (V : Vm → Prop) (Q : Option Value → Heap → Vm → Prop) : Prop :=
  MetFree l y (head1 (Jvm.Cond.code y bytes maxL ret :: ws) rm) (fun a U => a = as ∧ Z.Warmed39 U.vm ∧ U.heap = h0 ∧ V U.vm) (fun _ _ _ _ _ => True) (fun _ U o U' => ∃ v L, o = .returned v ∧ (Q v U'.heap U'.vm ∧ Fr n0 L) ∧ ReturnedEndW U o U' L rm.cells rm.slots)
section
variable {l : Launch} {R : Room} {Z : State} {own nm : String} {code : ByteArray} {maxL : Nat} {ret : Option FieldType} {K : Kx} {fl : Bool} {n0 kz : Nat} {Q : Option Value → Heap → Vm → Prop} {h : Heap} {cells slots pc pc' : Nat} {Ls Ls' : Array Slot} {st rest : List Value} {a0 : Array Value}
theorem enter {ws : List Jvm.Cond} {y : MethodName} {as : Array Value} {h0 : Heap} {Q : Option Value → Heap → Prop} (pn : plainFor y = true) (ef : ∀ m, entryFrame m as maxL = mkF m 0 Ls []) (H : ∀ K, Ctx l R Z y.cls y.name code maxL ret true n0 0 K → Run l R n0 (fun v h _ => Q v h) K h0 0 0 0 Ls []) : Con l ws y code maxL ret R Z as h0 n0 Q := by
  refine MetFree.of_bodySF pn hisR ?_
  intro p e s m args below meth c s₁ Bd hml0 hP hK
  obtain ⟨rfl, hZ, hh⟩ := hP
  have X0 : Stand p l e R s m args below meth c s₁ [] 0 0 := Stand.of_body Bd
  obtain ⟨s2, o, k1, k2, k3, k4⟩ := H (Fr n0, fun o t L => FrameEnd s o t L R.cells R.slots, p, e, s, m, args, below, meth, c) ⟨Bd.exec, hZ, findClass_of_methodNamed Bd.named, Bd.bytes, hml0, Bd.returns, (name_of_methodNamed Bd.named Bd.method).1, Bd.notSynchronized, fun _ A a => a, fun A a => a, fun v t A _ h1 h2 => ⟨⟨v, rfl⟩, h1, h2⟩⟩ s₁ [] X0 (by rw [← hh, Bd.state]; rfl) (Fr.nil n0)
  exact ⟨s2, o, castTop (ef m) k1, k2, k3, k4⟩
/-- the base of a wide walk: whatever the tables have gained since the body's start, it ends well -/
def Wb (l : Launch) (R : Room) (Z : State) (own nm : String) (code : ByteArray) (maxL : Nat) (ret : Option FieldType) (n0 : Nat) (h0 : Heap) : Kx → Prop
  | (Pl, En, p, e, s, m, args, below, meth, c) => p.tables.exec = Jvm.exec ∧ Z.Warmed39 s.vm ∧ s.vm.findClass own = some m.cls ∧ c.code = code ∧ c.maxLocals = maxL ∧ meth.sig.returnType = ret ∧ meth.name = nm ∧ meth.locks = false ∧ s.heap = h0 ∧
    ∀ vm k v (t : State) A, s.Since vm k → k ≤ t.heap.size → (s.setVm vm).WarmedH t.vm → (s.setVm vm).sameButNew ({ t with vm := vm } : State) A R.cells R.slots → En (.returned v) t A
def Kw : Kx → (List Loc → Prop) → Vm → Kx
  | (_, En, p, e, s, m, args, below, meth, c), Pl, w => (Pl, En, p, e, s.setVm w, m, args, below, meth, c)
/-- the tables have become vm since the start -/
def Sn (K : Kx) (vm : Vm) (k : Nat) : Prop := (KS K).Since vm k
theorem Wb.ctx {h0 : Heap} {vm : Vm} {k : Nat} (W : Wb l R Z own nm code maxL ret n0 h0 K) (D : Sn K vm k) : Ctx l R Z own nm code maxL ret true n0 k (Kw K (Fr n0) vm) := by
  obtain ⟨Pl, En, p, e, s, m, args, below, meth, c⟩ := K
  obtain ⟨w1, w2, w3, w4, w5, w6, w7, w8, w9, w10⟩ := W
  have D' : s.Since vm k := D
  exact ⟨w1, State.Warmed39.trans w2 D'.1, by rw [show (s.setVm vm).vm = vm from rfl, D'.1.alike.findClass]; exact w3, w4, w5, w6, w7, w8, fun _ A a => a, fun A a => a, fun v t A h1 h2 h3 => w10 vm k v t A D' h1 h2 h3⟩
theorem Wb.ctx0 {h0 : Heap} {vm : Vm} {k : Nat} (W : Wb l R Z own nm code maxL ret n0 h0 K) (D : Sn K vm k) : Ctx l R Z own nm code maxL ret false n0 k (Kw K (· = []) vm) := by
  obtain ⟨Pl, En, p, e, s, m, args, below, meth, c⟩ := K
  obtain ⟨w1, w2, w3, w4, w5, w6, w7, w8, w9, w10⟩ := W
  have D' : s.Since vm k := D
  exact ⟨w1, State.Warmed39.trans w2 D'.1, by rw [show (s.setVm vm).vm = vm from rfl, D'.1.alike.findClass]; exact w3, w4, w5, w6, w7, w8, (fun q => Bool.noConfusion q), (fun A (a : A = []) => a ▸ Fr.nil n0), fun v t A h1 h2 h3 => w10 vm k v t A D' h1 h2 h3⟩
/-- nothing written so far: from now on anything may be -/
theorem Run.touch {vm : Vm} (r : Run l R n0 Q (Kw K (Fr n0) vm) h cells slots pc Ls st) : Run l R n0 Q (Kw K (· = []) vm) h cells slots pc Ls st := by
  obtain ⟨Pl, En, p, e, s, m, args, below, meth, c⟩ := K
  intro T locs X eT N
  exact r T locs X eT (by rw [N]; exact Fr.nil n0)
theorem since_refl (s : State) : s.Since s.vm s.heap.size := ⟨State.Warmed39.refl s, fun j p h1 h2 => absurd (Array.getElem?_eq_some_iff.mp h2).1 (Nat.not_lt.mpr h1)⟩
theorem enterW {ws : List Jvm.Cond} {y : MethodName} {as : Array Value} {h0 : Heap} {V : Vm → Prop} (pn : plainFor y = true) (ef : ∀ m, entryFrame m as maxL = mkF m 0 Ls []) (H : ∀ K vm k, Wb l R Z y.cls y.name code maxL ret n0 h0 K → Sn K vm k → k ≤ h0.size → V vm → Run l R n0 Q (Kw K (· = []) vm) h0 0 0 0 Ls []) : ConW l ws y code maxL ret R Z as h0 n0 V Q := by
  refine MetFree.of_bodySF pn hisR ?_
  intro p e s m args below meth c s₁ Bd hml0 hP hK
  obtain ⟨rfl, hZ, hh, hV⟩ := hP
  have X0 : Stand p l e R s m args below meth c s₁ [] 0 0 := Stand.of_body Bd
  obtain ⟨s2, o, k1, k2, k3, k4⟩ := H (Fr n0, fun o t L => ReturnedEndW s o t L R.cells R.slots, p, e, s, m, args, below, meth, c) s.vm s.heap.size ⟨Bd.exec, hZ, findClass_of_methodNamed Bd.named, Bd.bytes, hml0, Bd.returns, (name_of_methodNamed Bd.named Bd.method).1, Bd.notSynchronized, hh, fun vm k v t A hS hk h1 h2 => ⟨⟨v, rfl⟩, hS.ended h1 hk h2⟩⟩ (since_refl s) (by rw [hh]; exact Nat.le_refl _) hV s₁ [] X0 (by rw [← hh, Bd.state]; rfl) rfl
  exact ⟨s2, o, castTop (ef m) k1, k2, k3, k4⟩
theorem Run.le {cells' slots' : Nat} (hc : cells ≤ cells') (hs : slots ≤ slots') (r : Run l R n0 Q K h cells' slots' pc Ls st) : Run l R n0 Q K h cells slots pc Ls st := by
  obtain ⟨Pl, En, p, e, s, m, args, below, meth, c⟩ := K
  intro T locs X eT N
  exact r T locs (X.more hc hs) eT N
theorem Con.weaken {ws : List Jvm.Cond} {y : MethodName} {as : Array Value} {Q Q' : Option Value → Heap → Prop} (r : Con l ws y code maxL ret R Z as h n0 Q') (hq : ∀ v h, Q' v h → Q v h) : Con l ws y code maxL ret R Z as h n0 Q := by
  intro p e a1 a2 a3 s m args below a4 a5 a6 a7
  obtain ⟨s2, o, k1, k2, k3, v, L, k4, ⟨k5, k6⟩, k7⟩ := r p e a1 a2 a3 s m args below a4 a5 a6 a7
  exact ⟨s2, o, k1, k2, k3, v, L, k4, ⟨hq _ _ k5, k6⟩, k7⟩
/-- one step that moves the frame alone -/
theorem Run.pure (C : Ctx l R Z own nm code maxL ret fl n0 kz K) (hp : pc + 0 = pc ∨ True)
    (k : ∀ (p : Program) (e : Env) (s : State) (m : MethodId) (args : Array Value) (below : List Frame) (meth : Method) (c : Code), p.tables.exec = Jvm.exec → c.code = code → s.vm.findClass own = some m.cls → Z.Warmed39 s.vm → ∀ (T : State) (locs : List Loc), Stand p l e R s m args below meth c T locs cells slots → T.heap = h → ∀ target, Steps p.tables e below (T.setTop (mkF m pc' Ls' rest)) target → Steps p.tables e below (T.setTop (mkF m pc Ls st)) target)
    (r : Run l R n0 Q K h cells slots pc' Ls' rest) : Run l R n0 Q K h cells slots pc Ls st := by
  obtain ⟨Pl, En, p, e, s, m, args, below, meth, c⟩ := K
  intro T locs X eT N
  obtain ⟨hx, hZ, hown, hby, -⟩ := C
  obtain ⟨s2, o, k1, k2⟩ := r T locs X eT N
  exact ⟨s2, o, k p e s m args below meth c hx hby hown hZ T locs X eT _ k1, k2⟩

theorem r_aloadN (C : Ctx l R Z own nm code maxL ret fl n0 kz K) {k : Fin 4} {v : Value} (hd : decode code pc = .ok (.aload_n k, 1)) (hp : pc + 1 = pc') (hl : Ls[k.val]? = some (.val v)) (hv : v.isRef = true) (r : Run l R n0 Q K h cells slots pc' Ls (v :: st)) : Run l R n0 Q K h cells slots pc Ls (st) :=
  Run.pure C (Or.inr trivial) (fun p e s m args below meth c hx hby hown hZ T locs X eT target k => by subst hp; exact XS.aloadN X.here hx rfl (hb hby hd) hl hv k) r
theorem r_aload (C : Ctx l R Z own nm code maxL ret fl n0 kz K) {k : Nat} {v : Value} (hd : decode code pc = .ok (.aload k, 2)) (hp : pc + 2 = pc') (hl : Ls[k]? = some (.val v)) (hv : v.isRef = true) (r : Run l R n0 Q K h cells slots pc' Ls (v :: st)) : Run l R n0 Q K h cells slots pc Ls (st) :=
  Run.pure C (Or.inr trivial) (fun p e s m args below meth c hx hby hown hZ T locs X eT target k => by subst hp; exact XS.aload X.here hx rfl (hb hby hd) hl hv k) r
theorem r_iloadN (C : Ctx l R Z own nm code maxL ret fl n0 kz K) {k : Fin 4} {v : Int32} (hd : decode code pc = .ok (.iload_n k, 1)) (hp : pc + 1 = pc') (hl : Ls[k.val]? = some (.val (.int v))) (r : Run l R n0 Q K h cells slots pc' Ls (.int v :: st)) : Run l R n0 Q K h cells slots pc Ls (st) :=
  Run.pure C (Or.inr trivial) (fun p e s m args below meth c hx hby hown hZ T locs X eT target k => by subst hp; exact XS.iloadN X.here hx rfl (hb hby hd) hl k) r
theorem r_iload (C : Ctx l R Z own nm code maxL ret fl n0 kz K) {k : Nat} {v : Int32} (hd : decode code pc = .ok (.iload k, 2)) (hp : pc + 2 = pc') (hl : Ls[k]? = some (.val (.int v))) (r : Run l R n0 Q K h cells slots pc' Ls (.int v :: st)) : Run l R n0 Q K h cells slots pc Ls (st) :=
  Run.pure C (Or.inr trivial) (fun p e s m args below meth c hx hby hown hZ T locs X eT target k => by subst hp; exact XS.iload X.here hx rfl (hb hby hd) hl k) r
theorem r_lloadN (C : Ctx l R Z own nm code maxL ret fl n0 kz K) {k : Fin 4} {v : Int64} (hd : decode code pc = .ok (.lload_n k, 1)) (hp : pc + 1 = pc') (hl : Ls[k.val]? = some (.val (.long v))) (r : Run l R n0 Q K h cells slots pc' Ls (.long v :: st)) : Run l R n0 Q K h cells slots pc Ls (st) :=
  Run.pure C (Or.inr trivial) (fun p e s m args below meth c hx hby hown hZ T locs X eT target k => by subst hp; exact XT.lloadN X.here hx rfl (hb hby hd) hl k) r
theorem r_lload (C : Ctx l R Z own nm code maxL ret fl n0 kz K) {k : Nat} {v : Int64} (hd : decode code pc = .ok (.lload k, 2)) (hp : pc + 2 = pc') (hl : Ls[k]? = some (.val (.long v))) (r : Run l R n0 Q K h cells slots pc' Ls (.long v :: st)) : Run l R n0 Q K h cells slots pc Ls (st) :=
  Run.pure C (Or.inr trivial) (fun p e s m args below meth c hx hby hown hZ T locs X eT target k => by subst hp; exact XT.lload X.here hx rfl (hb hby hd) hl k) r
theorem r_astoreN (C : Ctx l R Z own nm code maxL ret fl n0 kz K) {k : Fin 4} {v : Value} (hd : decode code pc = .ok (.astore_n k, 1)) (hp : pc + 1 = pc') (hl : storeLocals Ls k.val v = some Ls') (hv : v.isRef = true) (r : Run l R n0 Q K h cells slots pc' Ls' (st)) : Run l R n0 Q K h cells slots pc Ls (v :: st) :=
  Run.pure C (Or.inr trivial) (fun p e s m args below meth c hx hby hown hZ T locs X eT target k => by subst hp; exact XS.astoreN X.here hx rfl (hb hby hd) rfl hv hl k) r
theorem r_astore (C : Ctx l R Z own nm code maxL ret fl n0 kz K) {k : Nat} {v : Value} (hd : decode code pc = .ok (.astore k, 2)) (hp : pc + 2 = pc') (hl : storeLocals Ls k v = some Ls') (hv : v.isRef = true) (r : Run l R n0 Q K h cells slots pc' Ls' (st)) : Run l R n0 Q K h cells slots pc Ls (v :: st) :=
  Run.pure C (Or.inr trivial) (fun p e s m args below meth c hx hby hown hZ T locs X eT target k => by subst hp; exact XS.astore X.here hx rfl (hb hby hd) rfl hv hl k) r
theorem r_istoreN (C : Ctx l R Z own nm code maxL ret fl n0 kz K) {k : Fin 4} {v : Int32} (hd : decode code pc = .ok (.istore_n k, 1)) (hp : pc + 1 = pc') (hl : storeLocals Ls k.val (.int v) = some Ls') (r : Run l R n0 Q K h cells slots pc' Ls' (st)) : Run l R n0 Q K h cells slots pc Ls (.int v :: st) :=
  Run.pure C (Or.inr trivial) (fun p e s m args below meth c hx hby hown hZ T locs X eT target k => by subst hp; exact XS.istoreN X.here hx rfl (hb hby hd) rfl hl k) r
theorem r_istore (C : Ctx l R Z own nm code maxL ret fl n0 kz K) {k : Nat} {v : Int32} (hd : decode code pc = .ok (.istore k, 2)) (hp : pc + 2 = pc') (hl : storeLocals Ls k (.int v) = some Ls') (r : Run l R n0 Q K h cells slots pc' Ls' (st)) : Run l R n0 Q K h cells slots pc Ls (.int v :: st) :=
  Run.pure C (Or.inr trivial) (fun p e s m args below meth c hx hby hown hZ T locs X eT target k => by subst hp; exact XS.istore X.here hx rfl (hb hby hd) rfl hl k) r
theorem r_lstoreN (C : Ctx l R Z own nm code maxL ret fl n0 kz K) {k : Fin 4} {v : Int64} (hd : decode code pc = .ok (.lstore_n k, 1)) (hp : pc + 1 = pc') (hl : storeLocals Ls k.val (.long v) = some Ls') (r : Run l R n0 Q K h cells slots pc' Ls' (st)) : Run l R n0 Q K h cells slots pc Ls (.long v :: st) :=
  Run.pure C (Or.inr trivial) (fun p e s m args below meth c hx hby hown hZ T locs X eT target k => by subst hp; exact XT.lstoreN X.here hx rfl (hb hby hd) rfl hl k) r
theorem r_lstore (C : Ctx l R Z own nm code maxL ret fl n0 kz K) {k : Nat} {v : Int64} (hd : decode code pc = .ok (.lstore k, 2)) (hp : pc + 2 = pc') (hl : storeLocals Ls k (.long v) = some Ls') (r : Run l R n0 Q K h cells slots pc' Ls' (st)) : Run l R n0 Q K h cells slots pc Ls (.long v :: st) :=
  Run.pure C (Or.inr trivial) (fun p e s m args below meth c hx hby hown hZ T locs X eT target k => by subst hp; exact XT.lstore X.here hx rfl (hb hby hd) rfl hl k) r
theorem r_iconst (C : Ctx l R Z own nm code maxL ret fl n0 kz K) {i : Int} {v : Int32} (hd : decode code pc = .ok (.iconst i, 1)) (hp : pc + 1 = pc') (hv : Int32.ofInt i = v) (r : Run l R n0 Q K h cells slots pc' Ls (.int v :: st)) : Run l R n0 Q K h cells slots pc Ls (st) :=
  Run.pure C (Or.inr trivial) (fun p e s m args below meth c hx hby hown hZ T locs X eT target k => by subst hp; exact XT.iconstV X.here hx rfl v (hb hby hd) hv k) r
theorem r_bipush (C : Ctx l R Z own nm code maxL ret fl n0 kz K) {i : Int} {v : Int32} (hd : decode code pc = .ok (.bipush i, 2)) (hp : pc + 2 = pc') (hv : (Int8.ofInt i).toInt32 = v) (r : Run l R n0 Q K h cells slots pc' Ls (.int v :: st)) : Run l R n0 Q K h cells slots pc Ls (st) :=
  Run.pure C (Or.inr trivial) (fun p e s m args below meth c hx hby hown hZ T locs X eT target k => by subst hp; exact XT.bipushV X.here hx rfl v (hb hby hd) hv k) r
theorem r_sipush (C : Ctx l R Z own nm code maxL ret fl n0 kz K) {i : Int} {v : Int32} (hd : decode code pc = .ok (.sipush i, 3)) (hp : pc + 3 = pc') (hv : (Int16.ofInt i).toInt32 = v) (r : Run l R n0 Q K h cells slots pc' Ls (.int v :: st)) : Run l R n0 Q K h cells slots pc Ls (st) :=
  Run.pure C (Or.inr trivial) (fun p e s m args below meth c hx hby hown hZ T locs X eT target k => by subst hp; exact XT.sipushV X.here hx rfl v (hb hby hd) hv k) r
theorem r_lconst (C : Ctx l R Z own nm code maxL ret fl n0 kz K) {i : Fin 2} {v : Int64} (hd : decode code pc = .ok (.lconst i, 1)) (hp : pc + 1 = pc') (hv : Int64.ofNat i = v) (r : Run l R n0 Q K h cells slots pc' Ls (.long v :: st)) : Run l R n0 Q K h cells slots pc Ls (st) :=
  Run.pure C (Or.inr trivial) (fun p e s m args below meth c hx hby hown hZ T locs X eT target k => by subst hp; exact XT.lconstV X.here hx rfl v (hb hby hd) hv k) r
theorem r_aconst_null (C : Ctx l R Z own nm code maxL ret fl n0 kz K) (hd : decode code pc = .ok (.aconst_null, 1)) (hp : pc + 1 = pc') (r : Run l R n0 Q K h cells slots pc' Ls (.null :: st)) : Run l R n0 Q K h cells slots pc Ls (st) :=
  Run.pure C (Or.inr trivial) (fun p e s m args below meth c hx hby hown hZ T locs X eT target k => by subst hp; exact XS.aconstNull X.here hx rfl (hb hby hd) k) r
theorem r_iadd (C : Ctx l R Z own nm code maxL ret fl n0 kz K) {x y : Int32} (hd : decode code pc = .ok (.iadd, 1)) (hp : pc + 1 = pc') (r : Run l R n0 Q K h cells slots pc' Ls (.int (x + y) :: st)) : Run l R n0 Q K h cells slots pc Ls (.int y :: .int x :: st) :=
  Run.pure C (Or.inr trivial) (fun p e s m args below meth c hx hby hown hZ T locs X eT target k => by subst hp; exact XS.iadd X.here hx rfl (hb hby hd) rfl k) r
theorem r_isub (C : Ctx l R Z own nm code maxL ret fl n0 kz K) {x y : Int32} (hd : decode code pc = .ok (.isub, 1)) (hp : pc + 1 = pc') (r : Run l R n0 Q K h cells slots pc' Ls (.int (x - y) :: st)) : Run l R n0 Q K h cells slots pc Ls (.int y :: .int x :: st) :=
  Run.pure C (Or.inr trivial) (fun p e s m args below meth c hx hby hown hZ T locs X eT target k => by subst hp; exact XS.isub X.here hx rfl (hb hby hd) rfl k) r
theorem r_imul (C : Ctx l R Z own nm code maxL ret fl n0 kz K) {x y : Int32} (hd : decode code pc = .ok (.imul, 1)) (hp : pc + 1 = pc') (r : Run l R n0 Q K h cells slots pc' Ls (.int (x * y) :: st)) : Run l R n0 Q K h cells slots pc Ls (.int y :: .int x :: st) :=
  Run.pure C (Or.inr trivial) (fun p e s m args below meth c hx hby hown hZ T locs X eT target k => by subst hp; exact XS.imul X.here hx rfl (hb hby hd) rfl k) r
theorem r_iand (C : Ctx l R Z own nm code maxL ret fl n0 kz K) {x y : Int32} (hd : decode code pc = .ok (.iand, 1)) (hp : pc + 1 = pc') (r : Run l R n0 Q K h cells slots pc' Ls (.int (x &&& y) :: st)) : Run l R n0 Q K h cells slots pc Ls (.int y :: .int x :: st) :=
  Run.pure C (Or.inr trivial) (fun p e s m args below meth c hx hby hown hZ T locs X eT target k => by subst hp; exact XS.iand X.here hx rfl (hb hby hd) rfl k) r
theorem r_ior (C : Ctx l R Z own nm code maxL ret fl n0 kz K) {x y : Int32} (hd : decode code pc = .ok (.ior, 1)) (hp : pc + 1 = pc') (r : Run l R n0 Q K h cells slots pc' Ls (.int (x ||| y) :: st)) : Run l R n0 Q K h cells slots pc Ls (.int y :: .int x :: st) :=
  Run.pure C (Or.inr trivial) (fun p e s m args below meth c hx hby hown hZ T locs X eT target k => by subst hp; exact XT.ior X.here hx rfl (hb hby hd) rfl k) r
theorem r_ixor (C : Ctx l R Z own nm code maxL ret fl n0 kz K) {x y : Int32} (hd : decode code pc = .ok (.ixor, 1)) (hp : pc + 1 = pc') (r : Run l R n0 Q K h cells slots pc' Ls (.int (x ^^^ y) :: st)) : Run l R n0 Q K h cells slots pc Ls (.int y :: .int x :: st) :=
  Run.pure C (Or.inr trivial) (fun p e s m args below meth c hx hby hown hZ T locs X eT target k => by subst hp; exact XT.ixor X.here hx rfl (hb hby hd) rfl k) r
theorem r_ishl (C : Ctx l R Z own nm code maxL ret fl n0 kz K) {x y : Int32} (hd : decode code pc = .ok (.ishl, 1)) (hp : pc + 1 = pc') (r : Run l R n0 Q K h cells slots pc' Ls (.int (x <<< (y &&& 31)) :: st)) : Run l R n0 Q K h cells slots pc Ls (.int y :: .int x :: st) :=
  Run.pure C (Or.inr trivial) (fun p e s m args below meth c hx hby hown hZ T locs X eT target k => by subst hp; exact XT.ishl X.here hx rfl (hb hby hd) rfl k) r
theorem r_ishr (C : Ctx l R Z own nm code maxL ret fl n0 kz K) {x y : Int32} (hd : decode code pc = .ok (.ishr, 1)) (hp : pc + 1 = pc') (r : Run l R n0 Q K h cells slots pc' Ls (.int (x >>> (y &&& 31)) :: st)) : Run l R n0 Q K h cells slots pc Ls (.int y :: .int x :: st) :=
  Run.pure C (Or.inr trivial) (fun p e s m args below meth c hx hby hown hZ T locs X eT target k => by subst hp; exact XT.ishr X.here hx rfl (hb hby hd) rfl k) r
theorem r_iushr (C : Ctx l R Z own nm code maxL ret fl n0 kz K) {x y : Int32} (hd : decode code pc = .ok (.iushr, 1)) (hp : pc + 1 = pc') (r : Run l R n0 Q K h cells slots pc' Ls (.int (XT.ushr x y) :: st)) : Run l R n0 Q K h cells slots pc Ls (.int y :: .int x :: st) :=
  Run.pure C (Or.inr trivial) (fun p e s m args below meth c hx hby hown hZ T locs X eT target k => by subst hp; exact XT.iushr X.here hx rfl (hb hby hd) rfl k) r
theorem r_ladd (C : Ctx l R Z own nm code maxL ret fl n0 kz K) {x y : Int64} (hd : decode code pc = .ok (.ladd, 1)) (hp : pc + 1 = pc') (r : Run l R n0 Q K h cells slots pc' Ls (.long (x + y) :: st)) : Run l R n0 Q K h cells slots pc Ls (.long y :: .long x :: st) :=
  Run.pure C (Or.inr trivial) (fun p e s m args below meth c hx hby hown hZ T locs X eT target k => by subst hp; exact XT.ladd X.here hx rfl (hb hby hd) rfl k) r
theorem r_lsub (C : Ctx l R Z own nm code maxL ret fl n0 kz K) {x y : Int64} (hd : decode code pc = .ok (.lsub, 1)) (hp : pc + 1 = pc') (r : Run l R n0 Q K h cells slots pc' Ls (.long (x - y) :: st)) : Run l R n0 Q K h cells slots pc Ls (.long y :: .long x :: st) :=
  Run.pure C (Or.inr trivial) (fun p e s m args below meth c hx hby hown hZ T locs X eT target k => by subst hp; exact XT.lsub X.here hx rfl (hb hby hd) rfl k) r
theorem r_lmul (C : Ctx l R Z own nm code maxL ret fl n0 kz K) {x y : Int64} (hd : decode code pc = .ok (.lmul, 1)) (hp : pc + 1 = pc') (r : Run l R n0 Q K h cells slots pc' Ls (.long (x * y) :: st)) : Run l R n0 Q K h cells slots pc Ls (.long y :: .long x :: st) :=
  Run.pure C (Or.inr trivial) (fun p e s m args below meth c hx hby hown hZ T locs X eT target k => by subst hp; exact XT.lmul X.here hx rfl (hb hby hd) rfl k) r
theorem r_land (C : Ctx l R Z own nm code maxL ret fl n0 kz K) {x y : Int64} (hd : decode code pc = .ok (.land, 1)) (hp : pc + 1 = pc') (r : Run l R n0 Q K h cells slots pc' Ls (.long (x &&& y) :: st)) : Run l R n0 Q K h cells slots pc Ls (.long y :: .long x :: st) :=
  Run.pure C (Or.inr trivial) (fun p e s m args below meth c hx hby hown hZ T locs X eT target k => by subst hp; exact XT.land X.here hx rfl (hb hby hd) rfl k) r
theorem r_lor (C : Ctx l R Z own nm code maxL ret fl n0 kz K) {x y : Int64} (hd : decode code pc = .ok (.lor, 1)) (hp : pc + 1 = pc') (r : Run l R n0 Q K h cells slots pc' Ls (.long (x ||| y) :: st)) : Run l R n0 Q K h cells slots pc Ls (.long y :: .long x :: st) :=
  Run.pure C (Or.inr trivial) (fun p e s m args below meth c hx hby hown hZ T locs X eT target k => by subst hp; exact XT.lor X.here hx rfl (hb hby hd) rfl k) r
theorem r_lxor (C : Ctx l R Z own nm code maxL ret fl n0 kz K) {x y : Int64} (hd : decode code pc = .ok (.lxor, 1)) (hp : pc + 1 = pc') (r : Run l R n0 Q K h cells slots pc' Ls (.long (x ^^^ y) :: st)) : Run l R n0 Q K h cells slots pc Ls (.long y :: .long x :: st) :=
  Run.pure C (Or.inr trivial) (fun p e s m args below meth c hx hby hown hZ T locs X eT target k => by subst hp; exact XT.lxor X.here hx rfl (hb hby hd) rfl k) r
theorem r_lshl (C : Ctx l R Z own nm code maxL ret fl n0 kz K) {x : Int64} {y : Int32} (hd : decode code pc = .ok (.lshl, 1)) (hp : pc + 1 = pc') (r : Run l R n0 Q K h cells slots pc' Ls (.long (x <<< (y.toInt64 &&& 63)) :: st)) : Run l R n0 Q K h cells slots pc Ls (.int y :: .long x :: st) :=
  Run.pure C (Or.inr trivial) (fun p e s m args below meth c hx hby hown hZ T locs X eT target k => by subst hp; exact XT.lshl X.here hx rfl (hb hby hd) rfl k) r
theorem r_lshr (C : Ctx l R Z own nm code maxL ret fl n0 kz K) {x : Int64} {y : Int32} (hd : decode code pc = .ok (.lshr, 1)) (hp : pc + 1 = pc') (r : Run l R n0 Q K h cells slots pc' Ls (.long (x >>> (y.toInt64 &&& 63)) :: st)) : Run l R n0 Q K h cells slots pc Ls (.int y :: .long x :: st) :=
  Run.pure C (Or.inr trivial) (fun p e s m args below meth c hx hby hown hZ T locs X eT target k => by subst hp; exact XT.lshr X.here hx rfl (hb hby hd) rfl k) r
theorem r_lushr (C : Ctx l R Z own nm code maxL ret fl n0 kz K) {x : Int64} {y : Int32} (hd : decode code pc = .ok (.lushr, 1)) (hp : pc + 1 = pc') (r : Run l R n0 Q K h cells slots pc' Ls (.long (XT.ushrL x y) :: st)) : Run l R n0 Q K h cells slots pc Ls (.int y :: .long x :: st) :=
  Run.pure C (Or.inr trivial) (fun p e s m args below meth c hx hby hown hZ T locs X eT target k => by subst hp; exact XT.lushr X.here hx rfl (hb hby hd) rfl k) r
theorem r_idiv (C : Ctx l R Z own nm code maxL ret fl n0 kz K) {x y : Int32} (hd : decode code pc = .ok (.idiv, 1)) (hp : pc + 1 = pc') (hy : y ≠ 0) (r : Run l R n0 Q K h cells slots pc' Ls (.int (x / y) :: st)) : Run l R n0 Q K h cells slots pc Ls (.int y :: .int x :: st) :=
  Run.pure C (Or.inr trivial) (fun p e s m args below meth c hx hby hown hZ T locs X eT target k => by subst hp; exact XS.idiv X.here hx rfl (hb hby hd) rfl hy k) r
theorem r_irem (C : Ctx l R Z own nm code maxL ret fl n0 kz K) {x y : Int32} (hd : decode code pc = .ok (.irem, 1)) (hp : pc + 1 = pc') (hy : y ≠ 0) (r : Run l R n0 Q K h cells slots pc' Ls (.int (x % y) :: st)) : Run l R n0 Q K h cells slots pc Ls (.int y :: .int x :: st) :=
  Run.pure C (Or.inr trivial) (fun p e s m args below meth c hx hby hown hZ T locs X eT target k => by subst hp; exact iremM X hx rfl (hb hby hd) rfl hy k) r
theorem r_ldiv (C : Ctx l R Z own nm code maxL ret fl n0 kz K) {x y : Int64} (hd : decode code pc = .ok (.ldiv, 1)) (hp : pc + 1 = pc') (hy : y ≠ 0) (r : Run l R n0 Q K h cells slots pc' Ls (.long (x / y) :: st)) : Run l R n0 Q K h cells slots pc Ls (.long y :: .long x :: st) :=
  Run.pure C (Or.inr trivial) (fun p e s m args below meth c hx hby hown hZ T locs X eT target k => by subst hp; exact XT.ldiv X.here hx rfl (hb hby hd) rfl hy k) r
theorem r_lrem (C : Ctx l R Z own nm code maxL ret fl n0 kz K) {x y : Int64} (hd : decode code pc = .ok (.lrem, 1)) (hp : pc + 1 = pc') (hy : y ≠ 0) (r : Run l R n0 Q K h cells slots pc' Ls (.long (x - (x / y) * y) :: st)) : Run l R n0 Q K h cells slots pc Ls (.long y :: .long x :: st) :=
  Run.pure C (Or.inr trivial) (fun p e s m args below meth c hx hby hown hZ T locs X eT target k => by subst hp; exact XT.lrem X.here hx rfl (hb hby hd) rfl hy k) r
theorem r_ineg (C : Ctx l R Z own nm code maxL ret fl n0 kz K) {x : Int32} (hd : decode code pc = .ok (.ineg, 1)) (hp : pc + 1 = pc') (r : Run l R n0 Q K h cells slots pc' Ls (.int (-x) :: st)) : Run l R n0 Q K h cells slots pc Ls (.int x :: st) :=
  Run.pure C (Or.inr trivial) (fun p e s m args below meth c hx hby hown hZ T locs X eT target k => by subst hp; exact XS.ineg X.here hx rfl (hb hby hd) rfl k) r
theorem r_lneg (C : Ctx l R Z own nm code maxL ret fl n0 kz K) {x : Int64} (hd : decode code pc = .ok (.lneg, 1)) (hp : pc + 1 = pc') (r : Run l R n0 Q K h cells slots pc' Ls (.long (-x) :: st)) : Run l R n0 Q K h cells slots pc Ls (.long x :: st) :=
  Run.pure C (Or.inr trivial) (fun p e s m args below meth c hx hby hown hZ T locs X eT target k => by subst hp; exact XT.lneg X.here hx rfl (hb hby hd) rfl k) r
theorem r_i2l (C : Ctx l R Z own nm code maxL ret fl n0 kz K) {x : Int32} (hd : decode code pc = .ok (.i2l, 1)) (hp : pc + 1 = pc') (r : Run l R n0 Q K h cells slots pc' Ls (.long (x.toInt64) :: st)) : Run l R n0 Q K h cells slots pc Ls (.int x :: st) :=
  Run.pure C (Or.inr trivial) (fun p e s m args below meth c hx hby hown hZ T locs X eT target k => by subst hp; exact XT.i2l X.here hx rfl (hb hby hd) rfl k) r
theorem r_l2i (C : Ctx l R Z own nm code maxL ret fl n0 kz K) {x : Int64} (hd : decode code pc = .ok (.l2i, 1)) (hp : pc + 1 = pc') (r : Run l R n0 Q K h cells slots pc' Ls (.int (x.toInt32) :: st)) : Run l R n0 Q K h cells slots pc Ls (.long x :: st) :=
  Run.pure C (Or.inr trivial) (fun p e s m args below meth c hx hby hown hZ T locs X eT target k => by subst hp; exact XT.l2i X.here hx rfl (hb hby hd) rfl k) r
theorem r_i2b (C : Ctx l R Z own nm code maxL ret fl n0 kz K) {x : Int32} (hd : decode code pc = .ok (.i2b, 1)) (hp : pc + 1 = pc') (r : Run l R n0 Q K h cells slots pc' Ls (.int (x.toInt8.toInt32) :: st)) : Run l R n0 Q K h cells slots pc Ls (.int x :: st) :=
  Run.pure C (Or.inr trivial) (fun p e s m args below meth c hx hby hown hZ T locs X eT target k => by subst hp; exact XT.i2b X.here hx rfl (hb hby hd) rfl k) r
theorem r_i2c (C : Ctx l R Z own nm code maxL ret fl n0 kz K) {x : Int32} (hd : decode code pc = .ok (.i2c, 1)) (hp : pc + 1 = pc') (r : Run l R n0 Q K h cells slots pc' Ls (.int (x.toUInt32.toUInt16.toUInt32.toInt32) :: st)) : Run l R n0 Q K h cells slots pc Ls (.int x :: st) :=
  Run.pure C (Or.inr trivial) (fun p e s m args below meth c hx hby hown hZ T locs X eT target k => by subst hp; exact XT.i2c X.here hx rfl (hb hby hd) rfl k) r
theorem r_i2s (C : Ctx l R Z own nm code maxL ret fl n0 kz K) {x : Int32} (hd : decode code pc = .ok (.i2s, 1)) (hp : pc + 1 = pc') (r : Run l R n0 Q K h cells slots pc' Ls (.int (x.toInt16.toInt32) :: st)) : Run l R n0 Q K h cells slots pc Ls (.int x :: st) :=
  Run.pure C (Or.inr trivial) (fun p e s m args below meth c hx hby hown hZ T locs X eT target k => by subst hp; exact XT.i2s X.here hx rfl (hb hby hd) rfl k) r
theorem r_dup (C : Ctx l R Z own nm code maxL ret fl n0 kz K) {x : Value} (hd : decode code pc = .ok (.dup, 1)) (hp : pc + 1 = pc') (hc : x.category = 1) (r : Run l R n0 Q K h cells slots pc' Ls (x :: x :: st)) : Run l R n0 Q K h cells slots pc Ls (x :: st) :=
  Run.pure C (Or.inr trivial) (fun p e s m args below meth c hx hby hown hZ T locs X eT target k => by subst hp; exact XS.dup X.here hx rfl (hb hby hd) rfl hc k) r
theorem r_pop (C : Ctx l R Z own nm code maxL ret fl n0 kz K) {x : Value} (hd : decode code pc = .ok (.pop, 1)) (hp : pc + 1 = pc') (hc : x.category = 1) (r : Run l R n0 Q K h cells slots pc' Ls (st)) : Run l R n0 Q K h cells slots pc Ls (x :: st) :=
  Run.pure C (Or.inr trivial) (fun p e s m args below meth c hx hby hown hZ T locs X eT target k => by subst hp; exact XT.pop X.here hx rfl (hb hby hd) rfl hc k) r
theorem r_dup_x1 (C : Ctx l R Z own nm code maxL ret fl n0 kz K) {x y : Value} (hd : decode code pc = .ok (.dup_x1, 1)) (hp : pc + 1 = pc') (hc : x.category = 1) (hc' : y.category = 1) (r : Run l R n0 Q K h cells slots pc' Ls (x :: y :: x :: st)) : Run l R n0 Q K h cells slots pc Ls (x :: y :: st) :=
  Run.pure C (Or.inr trivial) (fun p e s m args below meth c hx hby hown hZ T locs X eT target k => by subst hp; exact XT.dupX1 X.here hx rfl (hb hby hd) rfl hc hc' k) r
theorem r_dup2 (C : Ctx l R Z own nm code maxL ret fl n0 kz K) {x y : Value} (hd : decode code pc = .ok (.dup2, 1)) (hp : pc + 1 = pc') (hc : x.category = 1) (hc' : y.category = 1) (r : Run l R n0 Q K h cells slots pc' Ls (x :: y :: x :: y :: st)) : Run l R n0 Q K h cells slots pc Ls (x :: y :: st) :=
  Run.pure C (Or.inr trivial) (fun p e s m args below meth c hx hby hown hZ T locs X eT target k => by subst hp; exact XT.dup2 X.here hx rfl (hb hby hd) rfl hc hc' k) r
theorem r_dup2L (C : Ctx l R Z own nm code maxL ret fl n0 kz K) {x : Int64} (hd : decode code pc = .ok (.dup2, 1)) (hp : pc + 1 = pc') (r : Run l R n0 Q K h cells slots pc' Ls (.long x :: .long x :: st)) : Run l R n0 Q K h cells slots pc Ls (.long x :: st) :=
  Run.pure C (Or.inr trivial) (fun p e s m args below meth c hx hby hown hZ T locs X eT target k => by subst hp; exact XT.dup2L X.here hx rfl (hb hby hd) rfl k) r
theorem r_iinc (C : Ctx l R Z own nm code maxL ret fl n0 kz K) {k : Nat} {cst : Int} {x v : Int32} (hd : decode code pc = .ok (.iinc k cst, 3)) (hp : pc + 3 = pc') (hv : Int32.ofInt cst = v) (hl : Ls[k]? = some (.val (.int x))) (hl' : storeLocals Ls k (.int (x + v)) = some Ls') (r : Run l R n0 Q K h cells slots pc' Ls' (st)) : Run l R n0 Q K h cells slots pc Ls (st) :=
  Run.pure C (Or.inr trivial) (fun p e s m args below meth c hx hby hown hZ T locs X eT target k => by subst hp; exact XT.iincV X.here hx rfl v (hb hby hd) hv hl hl' k) r
theorem r_goto (C : Ctx l R Z own nm code maxL ret fl n0 kz K) {o : Int} (hd : decode code pc = .ok (.goto o, 3)) (ho : 0 ≤ (pc : Int) + o) (hp : ((pc : Int) + o).toNat = pc') (r : Run l R n0 Q K h cells slots pc' Ls (st)) : Run l R n0 Q K h cells slots pc Ls (st) :=
  Run.pure C (Or.inr trivial) (fun p e s m args below meth c hx hby hown hZ T locs X eT target k => by exact XS.goto X.here hx rfl (pc0 := pc) rfl (hb hby hd) ho hp k) r
theorem r_icmp_eq_t (C : Ctx l R Z own nm code maxL ret fl n0 kz K) {o : Int} {x y : Int32} (hd : decode code pc = .ok (.if_icmp .eq o, 3)) (ho : 0 ≤ (pc : Int) + o) (hp : ((pc : Int) + o).toNat = pc') (q : x = y) (r : Run l R n0 Q K h cells slots pc' Ls (st)) : Run l R n0 Q K h cells slots pc Ls (.int y :: .int x :: st) :=
  Run.pure C (Or.inr trivial) (fun p e s m args below meth c hx hby hown hZ T locs X eT target k => by exact XS.icmpYes X.here hx rfl (pc0 := pc) rfl (hb hby hd) rfl (XT.ii_eq_t q) ho hp k) r
theorem r_icmp_eq_f (C : Ctx l R Z own nm code maxL ret fl n0 kz K) {o : Int} {x y : Int32} (hd : decode code pc = .ok (.if_icmp .eq o, 3)) (hp : pc + 3 = pc') (q : ¬ x = y) (r : Run l R n0 Q K h cells slots pc' Ls (st)) : Run l R n0 Q K h cells slots pc Ls (.int y :: .int x :: st) :=
  Run.pure C (Or.inr trivial) (fun p e s m args below meth c hx hby hown hZ T locs X eT target k => by subst hp; exact XS.icmpNo X.here hx rfl (hb hby hd) rfl (XT.ii_eq_f q) k) r
theorem r_icmp_eq (C : Ctx l R Z own nm code maxL ret fl n0 kz K) {o : Int} {pt : Nat} {x y : Int32} (hd : decode code pc = .ok (.if_icmp .eq o, 3)) (ho : 0 ≤ (pc : Int) + o) (hp : ((pc : Int) + o).toNat = pt) (hp' : pc + 3 = pc') (rt : x = y → Run l R n0 Q K h cells slots pt Ls st) (rf : ¬ x = y → Run l R n0 Q K h cells slots pc' Ls st) : Run l R n0 Q K h cells slots pc Ls (.int y :: .int x :: st) := by
  by_cases q : x = y
  · exact r_icmp_eq_t C hd ho hp q (rt q)
  · exact r_icmp_eq_f C hd hp' q (rf q)
theorem r_if_eq_t (C : Ctx l R Z own nm code maxL ret fl n0 kz K) {o : Int} {x : Int32} (hd : decode code pc = .ok (.ifCond .eq o, 3)) (ho : 0 ≤ (pc : Int) + o) (hp : ((pc : Int) + o).toNat = pc') (q : x = 0) (r : Run l R n0 Q K h cells slots pc' Ls (st)) : Run l R n0 Q K h cells slots pc Ls (.int x :: st) :=
  Run.pure C (Or.inr trivial) (fun p e s m args below meth c hx hby hown hZ T locs X eT target k => by exact XS.ifYes X.here hx rfl (pc0 := pc) rfl (hb hby hd) rfl (XT.i0_eq_t q) ho hp k) r
theorem r_if_eq_f (C : Ctx l R Z own nm code maxL ret fl n0 kz K) {o : Int} {x : Int32} (hd : decode code pc = .ok (.ifCond .eq o, 3)) (hp : pc + 3 = pc') (q : ¬ x = 0) (r : Run l R n0 Q K h cells slots pc' Ls (st)) : Run l R n0 Q K h cells slots pc Ls (.int x :: st) :=
  Run.pure C (Or.inr trivial) (fun p e s m args below meth c hx hby hown hZ T locs X eT target k => by subst hp; exact XS.ifNo X.here hx rfl (hb hby hd) rfl (XT.i0_eq_f q) k) r
theorem r_if_eq (C : Ctx l R Z own nm code maxL ret fl n0 kz K) {o : Int} {pt : Nat} {x : Int32} (hd : decode code pc = .ok (.ifCond .eq o, 3)) (ho : 0 ≤ (pc : Int) + o) (hp : ((pc : Int) + o).toNat = pt) (hp' : pc + 3 = pc') (rt : x = 0 → Run l R n0 Q K h cells slots pt Ls st) (rf : ¬ x = 0 → Run l R n0 Q K h cells slots pc' Ls st) : Run l R n0 Q K h cells slots pc Ls (.int x :: st) := by
  by_cases q : x = 0
  · exact r_if_eq_t C hd ho hp q (rt q)
  · exact r_if_eq_f C hd hp' q (rf q)
theorem r_lcmp_eq (C : Ctx l R Z own nm code maxL ret fl n0 kz K) {o : Int} {pt : Nat} {x y : Int64} (hd : decode code pc = .ok (.lcmp, 1)) (hd2 : decode code (pc + 1) = .ok (.ifCond .eq o, 3)) (ho : 0 ≤ ((pc + 1 : Nat) : Int) + o) (hp : (((pc + 1 : Nat) : Int) + o).toNat = pt) (hp' : pc + 4 = pc') (rt : x = y → Run l R n0 Q K h cells slots pt Ls st) (rf : ¬ x = y → Run l R n0 Q K h cells slots pc' Ls st) : Run l R n0 Q K h cells slots pc Ls (.long y :: .long x :: st) := by
  by_cases q : x = y
  · exact Run.pure C (Or.inr trivial) (fun p e s m args below meth c hx hby hown hZ T locs X eT target k => XT.lcmp X.here hx rfl (hb hby hd) rfl (XS.ifYes X.here hx rfl (pc0 := pc + 1) rfl (hb hby hd2) rfl (XT.ll_eq_t q) ho hp k)) (rt q)
  · subst hp'; exact Run.pure C (Or.inr trivial) (fun p e s m args below meth c hx hby hown hZ T locs X eT target k => XT.lcmp X.here hx rfl (hb hby hd) rfl (XS.ifNo X.here hx rfl (hb hby hd2) rfl (XT.ll_eq_f q) k)) (rf q)
theorem r_icmp_ne_t (C : Ctx l R Z own nm code maxL ret fl n0 kz K) {o : Int} {x y : Int32} (hd : decode code pc = .ok (.if_icmp .ne o, 3)) (ho : 0 ≤ (pc : Int) + o) (hp : ((pc : Int) + o).toNat = pc') (q : ¬ x = y) (r : Run l R n0 Q K h cells slots pc' Ls (st)) : Run l R n0 Q K h cells slots pc Ls (.int y :: .int x :: st) :=
  Run.pure C (Or.inr trivial) (fun p e s m args below meth c hx hby hown hZ T locs X eT target k => by exact XS.icmpYes X.here hx rfl (pc0 := pc) rfl (hb hby hd) rfl (XT.ii_ne_t q) ho hp k) r
theorem r_icmp_ne_f (C : Ctx l R Z own nm code maxL ret fl n0 kz K) {o : Int} {x y : Int32} (hd : decode code pc = .ok (.if_icmp .ne o, 3)) (hp : pc + 3 = pc') (q : x = y) (r : Run l R n0 Q K h cells slots pc' Ls (st)) : Run l R n0 Q K h cells slots pc Ls (.int y :: .int x :: st) :=
  Run.pure C (Or.inr trivial) (fun p e s m args below meth c hx hby hown hZ T locs X eT target k => by subst hp; exact XS.icmpNo X.here hx rfl (hb hby hd) rfl (XT.ii_ne_f q) k) r
theorem r_icmp_ne (C : Ctx l R Z own nm code maxL ret fl n0 kz K) {o : Int} {pt : Nat} {x y : Int32} (hd : decode code pc = .ok (.if_icmp .ne o, 3)) (ho : 0 ≤ (pc : Int) + o) (hp : ((pc : Int) + o).toNat = pt) (hp' : pc + 3 = pc') (rt : ¬ x = y → Run l R n0 Q K h cells slots pt Ls st) (rf : x = y → Run l R n0 Q K h cells slots pc' Ls st) : Run l R n0 Q K h cells slots pc Ls (.int y :: .int x :: st) := by
  by_cases q : x = y
  · exact r_icmp_ne_f C hd hp' q (rf q)
  · exact r_icmp_ne_t C hd ho hp q (rt q)
theorem r_if_ne_t (C : Ctx l R Z own nm code maxL ret fl n0 kz K) {o : Int} {x : Int32} (hd : decode code pc = .ok (.ifCond .ne o, 3)) (ho : 0 ≤ (pc : Int) + o) (hp : ((pc : Int) + o).toNat = pc') (q : ¬ x = 0) (r : Run l R n0 Q K h cells slots pc' Ls (st)) : Run l R n0 Q K h cells slots pc Ls (.int x :: st) :=
  Run.pure C (Or.inr trivial) (fun p e s m args below meth c hx hby hown hZ T locs X eT target k => by exact XS.ifYes X.here hx rfl (pc0 := pc) rfl (hb hby hd) rfl (XT.i0_ne_t q) ho hp k) r
theorem r_if_ne_f (C : Ctx l R Z own nm code maxL ret fl n0 kz K) {o : Int} {x : Int32} (hd : decode code pc = .ok (.ifCond .ne o, 3)) (hp : pc + 3 = pc') (q : x = 0) (r : Run l R n0 Q K h cells slots pc' Ls (st)) : Run l R n0 Q K h cells slots pc Ls (.int x :: st) :=
  Run.pure C (Or.inr trivial) (fun p e s m args below meth c hx hby hown hZ T locs X eT target k => by subst hp; exact XS.ifNo X.here hx rfl (hb hby hd) rfl (XT.i0_ne_f q) k) r
theorem r_if_ne (C : Ctx l R Z own nm code maxL ret fl n0 kz K) {o : Int} {pt : Nat} {x : Int32} (hd : decode code pc = .ok (.ifCond .ne o, 3)) (ho : 0 ≤ (pc : Int) + o) (hp : ((pc : Int) + o).toNat = pt) (hp' : pc + 3 = pc') (rt : ¬ x = 0 → Run l R n0 Q K h cells slots pt Ls st) (rf : x = 0 → Run l R n0 Q K h cells slots pc' Ls st) : Run l R n0 Q K h cells slots pc Ls (.int x :: st) := by
  by_cases q : x = 0
  · exact r_if_ne_f C hd hp' q (rf q)
  · exact r_if_ne_t C hd ho hp q (rt q)
theorem r_lcmp_ne (C : Ctx l R Z own nm code maxL ret fl n0 kz K) {o : Int} {pt : Nat} {x y : Int64} (hd : decode code pc = .ok (.lcmp, 1)) (hd2 : decode code (pc + 1) = .ok (.ifCond .ne o, 3)) (ho : 0 ≤ ((pc + 1 : Nat) : Int) + o) (hp : (((pc + 1 : Nat) : Int) + o).toNat = pt) (hp' : pc + 4 = pc') (rt : ¬ x = y → Run l R n0 Q K h cells slots pt Ls st) (rf : x = y → Run l R n0 Q K h cells slots pc' Ls st) : Run l R n0 Q K h cells slots pc Ls (.long y :: .long x :: st) := by
  by_cases q : x = y
  · subst hp'; exact Run.pure C (Or.inr trivial) (fun p e s m args below meth c hx hby hown hZ T locs X eT target k => XT.lcmp X.here hx rfl (hb hby hd) rfl (XS.ifNo X.here hx rfl (hb hby hd2) rfl (XT.ll_ne_f q) k)) (rf q)
  · exact Run.pure C (Or.inr trivial) (fun p e s m args below meth c hx hby hown hZ T locs X eT target k => XT.lcmp X.here hx rfl (hb hby hd) rfl (XS.ifYes X.here hx rfl (pc0 := pc + 1) rfl (hb hby hd2) rfl (XT.ll_ne_t q) ho hp k)) (rt q)
theorem r_icmp_lt_t (C : Ctx l R Z own nm code maxL ret fl n0 kz K) {o : Int} {x y : Int32} (hd : decode code pc = .ok (.if_icmp .lt o, 3)) (ho : 0 ≤ (pc : Int) + o) (hp : ((pc : Int) + o).toNat = pc') (q : x < y) (r : Run l R n0 Q K h cells slots pc' Ls (st)) : Run l R n0 Q K h cells slots pc Ls (.int y :: .int x :: st) :=
  Run.pure C (Or.inr trivial) (fun p e s m args below meth c hx hby hown hZ T locs X eT target k => by exact XS.icmpYes X.here hx rfl (pc0 := pc) rfl (hb hby hd) rfl (XT.ii_lt_t q) ho hp k) r
theorem r_icmp_lt_f (C : Ctx l R Z own nm code maxL ret fl n0 kz K) {o : Int} {x y : Int32} (hd : decode code pc = .ok (.if_icmp .lt o, 3)) (hp : pc + 3 = pc') (q : ¬ x < y) (r : Run l R n0 Q K h cells slots pc' Ls (st)) : Run l R n0 Q K h cells slots pc Ls (.int y :: .int x :: st) :=
  Run.pure C (Or.inr trivial) (fun p e s m args below meth c hx hby hown hZ T locs X eT target k => by subst hp; exact XS.icmpNo X.here hx rfl (hb hby hd) rfl (XT.ii_lt_f q) k) r
theorem r_icmp_lt (C : Ctx l R Z own nm code maxL ret fl n0 kz K) {o : Int} {pt : Nat} {x y : Int32} (hd : decode code pc = .ok (.if_icmp .lt o, 3)) (ho : 0 ≤ (pc : Int) + o) (hp : ((pc : Int) + o).toNat = pt) (hp' : pc + 3 = pc') (rt : x < y → Run l R n0 Q K h cells slots pt Ls st) (rf : ¬ x < y → Run l R n0 Q K h cells slots pc' Ls st) : Run l R n0 Q K h cells slots pc Ls (.int y :: .int x :: st) := by
  by_cases q : x < y
  · exact r_icmp_lt_t C hd ho hp q (rt q)
  · exact r_icmp_lt_f C hd hp' q (rf q)
theorem r_if_lt_t (C : Ctx l R Z own nm code maxL ret fl n0 kz K) {o : Int} {x : Int32} (hd : decode code pc = .ok (.ifCond .lt o, 3)) (ho : 0 ≤ (pc : Int) + o) (hp : ((pc : Int) + o).toNat = pc') (q : x < 0) (r : Run l R n0 Q K h cells slots pc' Ls (st)) : Run l R n0 Q K h cells slots pc Ls (.int x :: st) :=
  Run.pure C (Or.inr trivial) (fun p e s m args below meth c hx hby hown hZ T locs X eT target k => by exact XS.ifYes X.here hx rfl (pc0 := pc) rfl (hb hby hd) rfl (XT.i0_lt_t q) ho hp k) r
theorem r_if_lt_f (C : Ctx l R Z own nm code maxL ret fl n0 kz K) {o : Int} {x : Int32} (hd : decode code pc = .ok (.ifCond .lt o, 3)) (hp : pc + 3 = pc') (q : ¬ x < 0) (r : Run l R n0 Q K h cells slots pc' Ls (st)) : Run l R n0 Q K h cells slots pc Ls (.int x :: st) :=
  Run.pure C (Or.inr trivial) (fun p e s m args below meth c hx hby hown hZ T locs X eT target k => by subst hp; exact XS.ifNo X.here hx rfl (hb hby hd) rfl (XT.i0_lt_f q) k) r
theorem r_if_lt (C : Ctx l R Z own nm code maxL ret fl n0 kz K) {o : Int} {pt : Nat} {x : Int32} (hd : decode code pc = .ok (.ifCond .lt o, 3)) (ho : 0 ≤ (pc : Int) + o) (hp : ((pc : Int) + o).toNat = pt) (hp' : pc + 3 = pc') (rt : x < 0 → Run l R n0 Q K h cells slots pt Ls st) (rf : ¬ x < 0 → Run l R n0 Q K h cells slots pc' Ls st) : Run l R n0 Q K h cells slots pc Ls (.int x :: st) := by
  by_cases q : x < 0
  · exact r_if_lt_t C hd ho hp q (rt q)
  · exact r_if_lt_f C hd hp' q (rf q)
theorem r_lcmp_lt (C : Ctx l R Z own nm code maxL ret fl n0 kz K) {o : Int} {pt : Nat} {x y : Int64} (hd : decode code pc = .ok (.lcmp, 1)) (hd2 : decode code (pc + 1) = .ok (.ifCond .lt o, 3)) (ho : 0 ≤ ((pc + 1 : Nat) : Int) + o) (hp : (((pc + 1 : Nat) : Int) + o).toNat = pt) (hp' : pc + 4 = pc') (rt : x < y → Run l R n0 Q K h cells slots pt Ls st) (rf : ¬ x < y → Run l R n0 Q K h cells slots pc' Ls st) : Run l R n0 Q K h cells slots pc Ls (.long y :: .long x :: st) := by
  by_cases q : x < y
  · exact Run.pure C (Or.inr trivial) (fun p e s m args below meth c hx hby hown hZ T locs X eT target k => XT.lcmp X.here hx rfl (hb hby hd) rfl (XS.ifYes X.here hx rfl (pc0 := pc + 1) rfl (hb hby hd2) rfl (XT.ll_lt_t q) ho hp k)) (rt q)
  · subst hp'; exact Run.pure C (Or.inr trivial) (fun p e s m args below meth c hx hby hown hZ T locs X eT target k => XT.lcmp X.here hx rfl (hb hby hd) rfl (XS.ifNo X.here hx rfl (hb hby hd2) rfl (XT.ll_lt_f q) k)) (rf q)
theorem r_icmp_ge_t (C : Ctx l R Z own nm code maxL ret fl n0 kz K) {o : Int} {x y : Int32} (hd : decode code pc = .ok (.if_icmp .ge o, 3)) (ho : 0 ≤ (pc : Int) + o) (hp : ((pc : Int) + o).toNat = pc') (q : ¬ x < y) (r : Run l R n0 Q K h cells slots pc' Ls (st)) : Run l R n0 Q K h cells slots pc Ls (.int y :: .int x :: st) :=
  Run.pure C (Or.inr trivial) (fun p e s m args below meth c hx hby hown hZ T locs X eT target k => by exact XS.icmpYes X.here hx rfl (pc0 := pc) rfl (hb hby hd) rfl (XT.ii_ge_t q) ho hp k) r
theorem r_icmp_ge_f (C : Ctx l R Z own nm code maxL ret fl n0 kz K) {o : Int} {x y : Int32} (hd : decode code pc = .ok (.if_icmp .ge o, 3)) (hp : pc + 3 = pc') (q : x < y) (r : Run l R n0 Q K h cells slots pc' Ls (st)) : Run l R n0 Q K h cells slots pc Ls (.int y :: .int x :: st) :=
  Run.pure C (Or.inr trivial) (fun p e s m args below meth c hx hby hown hZ T locs X eT target k => by subst hp; exact XS.icmpNo X.here hx rfl (hb hby hd) rfl (XT.ii_ge_f q) k) r
theorem r_icmp_ge (C : Ctx l R Z own nm code maxL ret fl n0 kz K) {o : Int} {pt : Nat} {x y : Int32} (hd : decode code pc = .ok (.if_icmp .ge o, 3)) (ho : 0 ≤ (pc : Int) + o) (hp : ((pc : Int) + o).toNat = pt) (hp' : pc + 3 = pc') (rt : ¬ x < y → Run l R n0 Q K h cells slots pt Ls st) (rf : x < y → Run l R n0 Q K h cells slots pc' Ls st) : Run l R n0 Q K h cells slots pc Ls (.int y :: .int x :: st) := by
  by_cases q : x < y
  · exact r_icmp_ge_f C hd hp' q (rf q)
  · exact r_icmp_ge_t C hd ho hp q (rt q)
theorem r_if_ge_t (C : Ctx l R Z own nm code maxL ret fl n0 kz K) {o : Int} {x : Int32} (hd : decode code pc = .ok (.ifCond .ge o, 3)) (ho : 0 ≤ (pc : Int) + o) (hp : ((pc : Int) + o).toNat = pc') (q : ¬ x < 0) (r : Run l R n0 Q K h cells slots pc' Ls (st)) : Run l R n0 Q K h cells slots pc Ls (.int x :: st) :=
  Run.pure C (Or.inr trivial) (fun p e s m args below meth c hx hby hown hZ T locs X eT target k => by exact XS.ifYes X.here hx rfl (pc0 := pc) rfl (hb hby hd) rfl (XT.i0_ge_t q) ho hp k) r
theorem r_if_ge_f (C : Ctx l R Z own nm code maxL ret fl n0 kz K) {o : Int} {x : Int32} (hd : decode code pc = .ok (.ifCond .ge o, 3)) (hp : pc + 3 = pc') (q : x < 0) (r : Run l R n0 Q K h cells slots pc' Ls (st)) : Run l R n0 Q K h cells slots pc Ls (.int x :: st) :=
  Run.pure C (Or.inr trivial) (fun p e s m args below meth c hx hby hown hZ T locs X eT target k => by subst hp; exact XS.ifNo X.here hx rfl (hb hby hd) rfl (XT.i0_ge_f q) k) r
theorem r_if_ge (C : Ctx l R Z own nm code maxL ret fl n0 kz K) {o : Int} {pt : Nat} {x : Int32} (hd : decode code pc = .ok (.ifCond .ge o, 3)) (ho : 0 ≤ (pc : Int) + o) (hp : ((pc : Int) + o).toNat = pt) (hp' : pc + 3 = pc') (rt : ¬ x < 0 → Run l R n0 Q K h cells slots pt Ls st) (rf : x < 0 → Run l R n0 Q K h cells slots pc' Ls st) : Run l R n0 Q K h cells slots pc Ls (.int x :: st) := by
  by_cases q : x < 0
  · exact r_if_ge_f C hd hp' q (rf q)
  · exact r_if_ge_t C hd ho hp q (rt q)
theorem r_lcmp_ge (C : Ctx l R Z own nm code maxL ret fl n0 kz K) {o : Int} {pt : Nat} {x y : Int64} (hd : decode code pc = .ok (.lcmp, 1)) (hd2 : decode code (pc + 1) = .ok (.ifCond .ge o, 3)) (ho : 0 ≤ ((pc + 1 : Nat) : Int) + o) (hp : (((pc + 1 : Nat) : Int) + o).toNat = pt) (hp' : pc + 4 = pc') (rt : ¬ x < y → Run l R n0 Q K h cells slots pt Ls st) (rf : x < y → Run l R n0 Q K h cells slots pc' Ls st) : Run l R n0 Q K h cells slots pc Ls (.long y :: .long x :: st) := by
  by_cases q : x < y
  · subst hp'; exact Run.pure C (Or.inr trivial) (fun p e s m args below meth c hx hby hown hZ T locs X eT target k => XT.lcmp X.here hx rfl (hb hby hd) rfl (XS.ifNo X.here hx rfl (hb hby hd2) rfl (XT.ll_ge_f q) k)) (rf q)
  · exact Run.pure C (Or.inr trivial) (fun p e s m args below meth c hx hby hown hZ T locs X eT target k => XT.lcmp X.here hx rfl (hb hby hd) rfl (XS.ifYes X.here hx rfl (pc0 := pc + 1) rfl (hb hby hd2) rfl (XT.ll_ge_t q) ho hp k)) (rt q)
theorem r_icmp_gt_t (C : Ctx l R Z own nm code maxL ret fl n0 kz K) {o : Int} {x y : Int32} (hd : decode code pc = .ok (.if_icmp .gt o, 3)) (ho : 0 ≤ (pc : Int) + o) (hp : ((pc : Int) + o).toNat = pc') (q : y < x) (r : Run l R n0 Q K h cells slots pc' Ls (st)) : Run l R n0 Q K h cells slots pc Ls (.int y :: .int x :: st) :=
  Run.pure C (Or.inr trivial) (fun p e s m args below meth c hx hby hown hZ T locs X eT target k => by exact XS.icmpYes X.here hx rfl (pc0 := pc) rfl (hb hby hd) rfl (XT.ii_gt_t q) ho hp k) r
theorem r_icmp_gt_f (C : Ctx l R Z own nm code maxL ret fl n0 kz K) {o : Int} {x y : Int32} (hd : decode code pc = .ok (.if_icmp .gt o, 3)) (hp : pc + 3 = pc') (q : ¬ y < x) (r : Run l R n0 Q K h cells slots pc' Ls (st)) : Run l R n0 Q K h cells slots pc Ls (.int y :: .int x :: st) :=
  Run.pure C (Or.inr trivial) (fun p e s m args below meth c hx hby hown hZ T locs X eT target k => by subst hp; exact XS.icmpNo X.here hx rfl (hb hby hd) rfl (XT.ii_gt_f q) k) r
theorem r_icmp_gt (C : Ctx l R Z own nm code maxL ret fl n0 kz K) {o : Int} {pt : Nat} {x y : Int32} (hd : decode code pc = .ok (.if_icmp .gt o, 3)) (ho : 0 ≤ (pc : Int) + o) (hp : ((pc : Int) + o).toNat = pt) (hp' : pc + 3 = pc') (rt : y < x → Run l R n0 Q K h cells slots pt Ls st) (rf : ¬ y < x → Run l R n0 Q K h cells slots pc' Ls st) : Run l R n0 Q K h cells slots pc Ls (.int y :: .int x :: st) := by
  by_cases q : y < x
  · exact r_icmp_gt_t C hd ho hp q (rt q)
  · exact r_icmp_gt_f C hd hp' q (rf q)
theorem r_if_gt_t (C : Ctx l R Z own nm code maxL ret fl n0 kz K) {o : Int} {x : Int32} (hd : decode code pc = .ok (.ifCond .gt o, 3)) (ho : 0 ≤ (pc : Int) + o) (hp : ((pc : Int) + o).toNat = pc') (q : 0 < x) (r : Run l R n0 Q K h cells slots pc' Ls (st)) : Run l R n0 Q K h cells slots pc Ls (.int x :: st) :=
  Run.pure C (Or.inr trivial) (fun p e s m args below meth c hx hby hown hZ T locs X eT target k => by exact XS.ifYes X.here hx rfl (pc0 := pc) rfl (hb hby hd) rfl (XT.i0_gt_t q) ho hp k) r
theorem r_if_gt_f (C : Ctx l R Z own nm code maxL ret fl n0 kz K) {o : Int} {x : Int32} (hd : decode code pc = .ok (.ifCond .gt o, 3)) (hp : pc + 3 = pc') (q : ¬ 0 < x) (r : Run l R n0 Q K h cells slots pc' Ls (st)) : Run l R n0 Q K h cells slots pc Ls (.int x :: st) :=
  Run.pure C (Or.inr trivial) (fun p e s m args below meth c hx hby hown hZ T locs X eT target k => by subst hp; exact XS.ifNo X.here hx rfl (hb hby hd) rfl (XT.i0_gt_f q) k) r
theorem r_if_gt (C : Ctx l R Z own nm code maxL ret fl n0 kz K) {o : Int} {pt : Nat} {x : Int32} (hd : decode code pc = .ok (.ifCond .gt o, 3)) (ho : 0 ≤ (pc : Int) + o) (hp : ((pc : Int) + o).toNat = pt) (hp' : pc + 3 = pc') (rt : 0 < x → Run l R n0 Q K h cells slots pt Ls st) (rf : ¬ 0 < x → Run l R n0 Q K h cells slots pc' Ls st) : Run l R n0 Q K h cells slots pc Ls (.int x :: st) := by
  by_cases q : 0 < x
  · exact r_if_gt_t C hd ho hp q (rt q)
  · exact r_if_gt_f C hd hp' q (rf q)
theorem r_lcmp_gt (C : Ctx l R Z own nm code maxL ret fl n0 kz K) {o : Int} {pt : Nat} {x y : Int64} (hd : decode code pc = .ok (.lcmp, 1)) (hd2 : decode code (pc + 1) = .ok (.ifCond .gt o, 3)) (ho : 0 ≤ ((pc + 1 : Nat) : Int) + o) (hp : (((pc + 1 : Nat) : Int) + o).toNat = pt) (hp' : pc + 4 = pc') (rt : y < x → Run l R n0 Q K h cells slots pt Ls st) (rf : ¬ y < x → Run l R n0 Q K h cells slots pc' Ls st) : Run l R n0 Q K h cells slots pc Ls (.long y :: .long x :: st) := by
  by_cases q : y < x
  · exact Run.pure C (Or.inr trivial) (fun p e s m args below meth c hx hby hown hZ T locs X eT target k => XT.lcmp X.here hx rfl (hb hby hd) rfl (XS.ifYes X.here hx rfl (pc0 := pc + 1) rfl (hb hby hd2) rfl (XT.ll_gt_t q) ho hp k)) (rt q)
  · subst hp'; exact Run.pure C (Or.inr trivial) (fun p e s m args below meth c hx hby hown hZ T locs X eT target k => XT.lcmp X.here hx rfl (hb hby hd) rfl (XS.ifNo X.here hx rfl (hb hby hd2) rfl (XT.ll_gt_f q) k)) (rf q)
theorem r_icmp_le_t (C : Ctx l R Z own nm code maxL ret fl n0 kz K) {o : Int} {x y : Int32} (hd : decode code pc = .ok (.if_icmp .le o, 3)) (ho : 0 ≤ (pc : Int) + o) (hp : ((pc : Int) + o).toNat = pc') (q : ¬ y < x) (r : Run l R n0 Q K h cells slots pc' Ls (st)) : Run l R n0 Q K h cells slots pc Ls (.int y :: .int x :: st) :=
  Run.pure C (Or.inr trivial) (fun p e s m args below meth c hx hby hown hZ T locs X eT target k => by exact XS.icmpYes X.here hx rfl (pc0 := pc) rfl (hb hby hd) rfl (XT.ii_le_t q) ho hp k) r
theorem r_icmp_le_f (C : Ctx l R Z own nm code maxL ret fl n0 kz K) {o : Int} {x y : Int32} (hd : decode code pc = .ok (.if_icmp .le o, 3)) (hp : pc + 3 = pc') (q : y < x) (r : Run l R n0 Q K h cells slots pc' Ls (st)) : Run l R n0 Q K h cells slots pc Ls (.int y :: .int x :: st) :=
  Run.pure C (Or.inr trivial) (fun p e s m args below meth c hx hby hown hZ T locs X eT target k => by subst hp; exact XS.icmpNo X.here hx rfl (hb hby hd) rfl (XT.ii_le_f q) k) r
theorem r_icmp_le (C : Ctx l R Z own nm code maxL ret fl n0 kz K) {o : Int} {pt : Nat} {x y : Int32} (hd : decode code pc = .ok (.if_icmp .le o, 3)) (ho : 0 ≤ (pc : Int) + o) (hp : ((pc : Int) + o).toNat = pt) (hp' : pc + 3 = pc') (rt : ¬ y < x → Run l R n0 Q K h cells slots pt Ls st) (rf : y < x → Run l R n0 Q K h cells slots pc' Ls st) : Run l R n0 Q K h cells slots pc Ls (.int y :: .int x :: st) := by
  by_cases q : y < x
  · exact r_icmp_le_f C hd hp' q (rf q)
  · exact r_icmp_le_t C hd ho hp q (rt q)
theorem r_if_le_t (C : Ctx l R Z own nm code maxL ret fl n0 kz K) {o : Int} {x : Int32} (hd : decode code pc = .ok (.ifCond .le o, 3)) (ho : 0 ≤ (pc : Int) + o) (hp : ((pc : Int) + o).toNat = pc') (q : ¬ 0 < x) (r : Run l R n0 Q K h cells slots pc' Ls (st)) : Run l R n0 Q K h cells slots pc Ls (.int x :: st) :=
  Run.pure C (Or.inr trivial) (fun p e s m args below meth c hx hby hown hZ T locs X eT target k => by exact XS.ifYes X.here hx rfl (pc0 := pc) rfl (hb hby hd) rfl (XT.i0_le_t q) ho hp k) r
theorem r_if_le_f (C : Ctx l R Z own nm code maxL ret fl n0 kz K) {o : Int} {x : Int32} (hd : decode code pc = .ok (.ifCond .le o, 3)) (hp : pc + 3 = pc') (q : 0 < x) (r : Run l R n0 Q K h cells slots pc' Ls (st)) : Run l R n0 Q K h cells slots pc Ls (.int x :: st) :=
  Run.pure C (Or.inr trivial) (fun p e s m args below meth c hx hby hown hZ T locs X eT target k => by subst hp; exact XS.ifNo X.here hx rfl (hb hby hd) rfl (XT.i0_le_f q) k) r
theorem r_if_le (C : Ctx l R Z own nm code maxL ret fl n0 kz K) {o : Int} {pt : Nat} {x : Int32} (hd : decode code pc = .ok (.ifCond .le o, 3)) (ho : 0 ≤ (pc : Int) + o) (hp : ((pc : Int) + o).toNat = pt) (hp' : pc + 3 = pc') (rt : ¬ 0 < x → Run l R n0 Q K h cells slots pt Ls st) (rf : 0 < x → Run l R n0 Q K h cells slots pc' Ls st) : Run l R n0 Q K h cells slots pc Ls (.int x :: st) := by
  by_cases q : 0 < x
  · exact r_if_le_f C hd hp' q (rf q)
  · exact r_if_le_t C hd ho hp q (rt q)
theorem r_lcmp_le (C : Ctx l R Z own nm code maxL ret fl n0 kz K) {o : Int} {pt : Nat} {x y : Int64} (hd : decode code pc = .ok (.lcmp, 1)) (hd2 : decode code (pc + 1) = .ok (.ifCond .le o, 3)) (ho : 0 ≤ ((pc + 1 : Nat) : Int) + o) (hp : (((pc + 1 : Nat) : Int) + o).toNat = pt) (hp' : pc + 4 = pc') (rt : ¬ y < x → Run l R n0 Q K h cells slots pt Ls st) (rf : y < x → Run l R n0 Q K h cells slots pc' Ls st) : Run l R n0 Q K h cells slots pc Ls (.long y :: .long x :: st) := by
  by_cases q : y < x
  · subst hp'; exact Run.pure C (Or.inr trivial) (fun p e s m args below meth c hx hby hown hZ T locs X eT target k => XT.lcmp X.here hx rfl (hb hby hd) rfl (XS.ifNo X.here hx rfl (hb hby hd2) rfl (XT.ll_le_f q) k)) (rf q)
  · exact Run.pure C (Or.inr trivial) (fun p e s m args below meth c hx hby hown hZ T locs X eT target k => XT.lcmp X.here hx rfl (hb hby hd) rfl (XS.ifYes X.here hx rfl (pc0 := pc + 1) rfl (hb hby hd2) rfl (XT.ll_le_t q) ho hp k)) (rt q)
theorem r_ifnull_t (C : Ctx l R Z own nm code maxL ret fl n0 kz K) {o : Int} {v : Value} (hd : decode code pc = .ok (.ifnull o, 3)) (ho : 0 ≤ (pc : Int) + o) (hp : ((pc : Int) + o).toNat = pc') (hv : v.isRef = true) (q : v = .null) (r : Run l R n0 Q K h cells slots pc' Ls (st)) : Run l R n0 Q K h cells slots pc Ls (v :: st) :=
  Run.pure C (Or.inr trivial) (fun p e s m args below meth c hx hby hown hZ T locs X eT target k => by exact XT.nullYes X.here hx rfl (pc0 := pc) rfl (hb hby hd) rfl q ho hp k) r
theorem r_ifnull_f (C : Ctx l R Z own nm code maxL ret fl n0 kz K) {o : Int} {v : Value} (hd : decode code pc = .ok (.ifnull o, 3)) (hp : pc + 3 = pc') (hv : v.isRef = true) (q : ¬ v = .null) (r : Run l R n0 Q K h cells slots pc' Ls (st)) : Run l R n0 Q K h cells slots pc Ls (v :: st) :=
  Run.pure C (Or.inr trivial) (fun p e s m args below meth c hx hby hown hZ T locs X eT target k => by subst hp; exact XT.nullNo X.here hx rfl (hb hby hd) rfl hv q k) r
theorem r_ifnonnull_t (C : Ctx l R Z own nm code maxL ret fl n0 kz K) {o : Int} {v : Value} (hd : decode code pc = .ok (.ifnonnull o, 3)) (ho : 0 ≤ (pc : Int) + o) (hp : ((pc : Int) + o).toNat = pc') (hv : v.isRef = true) (q : ¬ v = .null) (r : Run l R n0 Q K h cells slots pc' Ls (st)) : Run l R n0 Q K h cells slots pc Ls (v :: st) :=
  Run.pure C (Or.inr trivial) (fun p e s m args below meth c hx hby hown hZ T locs X eT target k => by exact XT.nonnullYes X.here hx rfl (pc0 := pc) rfl (hb hby hd) rfl hv q ho hp k) r
theorem r_ifnonnull_f (C : Ctx l R Z own nm code maxL ret fl n0 kz K) {o : Int} {v : Value} (hd : decode code pc = .ok (.ifnonnull o, 3)) (hp : pc + 3 = pc') (hv : v.isRef = true) (q : v = .null) (r : Run l R n0 Q K h cells slots pc' Ls (st)) : Run l R n0 Q K h cells slots pc Ls (v :: st) :=
  Run.pure C (Or.inr trivial) (fun p e s m args below meth c hx hby hown hZ T locs X eT target k => by subst hp; exact XT.nonnullNo X.here hx rfl (hb hby hd) rfl q k) r
theorem r_acmp_eq_t (C : Ctx l R Z own nm code maxL ret fl n0 kz K) {o : Int} {x y : Value} (hd : decode code pc = .ok (.if_acmp .eq o, 3)) (ho : 0 ≤ (pc : Int) + o) (hp : ((pc : Int) + o).toNat = pc') (hvx : x.isRef = true) (hvy : y.isRef = true) (q : x = y) (r : Run l R n0 Q K h cells slots pc' Ls (st)) : Run l R n0 Q K h cells slots pc Ls (y :: x :: st) :=
  Run.pure C (Or.inr trivial) (fun p e s m args below meth c hx hby hown hZ T locs X eT target k => by exact XT.acmpYes X.here hx rfl (pc0 := pc) rfl (hb hby hd) rfl hvx hvy (XT.aa_eq_t q) ho hp k) r
theorem r_acmp_eq_f (C : Ctx l R Z own nm code maxL ret fl n0 kz K) {o : Int} {x y : Value} (hd : decode code pc = .ok (.if_acmp .eq o, 3)) (hp : pc + 3 = pc') (hvx : x.isRef = true) (hvy : y.isRef = true) (q : ¬ x = y) (r : Run l R n0 Q K h cells slots pc' Ls (st)) : Run l R n0 Q K h cells slots pc Ls (y :: x :: st) :=
  Run.pure C (Or.inr trivial) (fun p e s m args below meth c hx hby hown hZ T locs X eT target k => by subst hp; exact XT.acmpNo X.here hx rfl (hb hby hd) rfl hvx hvy (XT.aa_eq_f q) k) r
theorem r_acmp_ne_t (C : Ctx l R Z own nm code maxL ret fl n0 kz K) {o : Int} {x y : Value} (hd : decode code pc = .ok (.if_acmp .ne o, 3)) (ho : 0 ≤ (pc : Int) + o) (hp : ((pc : Int) + o).toNat = pc') (hvx : x.isRef = true) (hvy : y.isRef = true) (q : ¬ x = y) (r : Run l R n0 Q K h cells slots pc' Ls (st)) : Run l R n0 Q K h cells slots pc Ls (y :: x :: st) :=
  Run.pure C (Or.inr trivial) (fun p e s m args below meth c hx hby hown hZ T locs X eT target k => by exact XT.acmpYes X.here hx rfl (pc0 := pc) rfl (hb hby hd) rfl hvx hvy (XT.aa_ne_t q) ho hp k) r
theorem r_acmp_ne_f (C : Ctx l R Z own nm code maxL ret fl n0 kz K) {o : Int} {x y : Value} (hd : decode code pc = .ok (.if_acmp .ne o, 3)) (hp : pc + 3 = pc') (hvx : x.isRef = true) (hvy : y.isRef = true) (q : x = y) (r : Run l R n0 Q K h cells slots pc' Ls (st)) : Run l R n0 Q K h cells slots pc Ls (y :: x :: st) :=
  Run.pure C (Or.inr trivial) (fun p e s m args below meth c hx hby hown hZ T locs X eT target k => by subst hp; exact XT.acmpNo X.here hx rfl (hb hby hd) rfl hvx hvy (XT.aa_ne_f q) k) r
theorem r_ldcI (C : Ctx l R Z own nm code maxL ret fl n0 kz K) {idx : Nat} {v : Int32} (hd : decode code pc = .ok (.ldc idx, 2)) (hp : pc + 2 = pc') (w : (Jvm.Cond.constant own idx v).before a0 Z = true) (r : Run l R n0 Q K h cells slots pc' Ls (.int v :: st)) : Run l R n0 Q K h cells slots pc Ls (st) :=
  Run.pure C (Or.inr trivial) (fun p e s m args below meth c hx hby hown hZ T locs X eT target k => by subst hp; exact X.ldcI hx hown (mvT hZ w) rfl (hb hby hd) k) r
theorem r_ldcWI (C : Ctx l R Z own nm code maxL ret fl n0 kz K) {idx : Nat} {v : Int32} (hd : decode code pc = .ok (.ldc_w idx, 3)) (hp : pc + 3 = pc') (w : (Jvm.Cond.constant own idx v).before a0 Z = true) (r : Run l R n0 Q K h cells slots pc' Ls (.int v :: st)) : Run l R n0 Q K h cells slots pc Ls (st) :=
  Run.pure C (Or.inr trivial) (fun p e s m args below meth c hx hby hown hZ T locs X eT target k => by subst hp; exact X.ldcWI hx hown (mvT hZ w) rfl (hb hby hd) k) r
theorem r_ldc2J (C : Ctx l R Z own nm code maxL ret fl n0 kz K) {idx : Nat} {v : Int64} (hd : decode code pc = .ok (.ldc2_w idx, 3)) (hp : pc + 3 = pc') (w : (Jvm.Cond.constantLong own idx v).before a0 Z = true) (r : Run l R n0 Q K h cells slots pc' Ls (.long v :: st)) : Run l R n0 Q K h cells slots pc Ls (st) :=
  Run.pure C (Or.inr trivial) (fun p e s m args below meth c hx hby hown hZ T locs X eT target k => by subst hp; exact X.ldc2J hx hown (mvT hZ w) rfl (hb hby hd) k) r
/-- a place inside an array -/
def Inb (j z : Int32) : Prop := ¬ j < 0 ∧ j < z
theorem r_arraylength (C : Ctx l R Z own nm code maxL ret fl n0 kz K) {a : Addr} {k : ClassId} {ty : FieldType} {z : Int32} {vs : List Value} {dv : Value} (hd : decode code pc = .ok (.arraylength, 1)) (hp : pc + 1 = pc') (A : Arv Z h a k ty z vs dv) (r : Run l R n0 Q K h cells slots pc' Ls (.int z :: st)) : Run l R n0 Q K h cells slots pc Ls (.ref a :: st) :=
  Run.pure C (Or.inr trivial) (fun p e s m args below meth c hx hby hown hZ T locs X eT target kk => by
    subst hp
    obtain ⟨cl, Ar, q1, S, N, H, G⟩ := A
    refine X.arraylength hx (by rw [eT]; exact Ar.1) (State.isArrayOf_alike hZ.alike Ar.2.1) (g := mkF m pc Ls (.ref a :: st)) rfl rfl (hb hby hd) _ ?_
    rw [len_of S N]; exact kk) r
theorem r_iaload (C : Ctx l R Z own nm code maxL ret fl n0 kz K) {a : Addr} {k : ClassId} {z j : Int32} {vs : List Value} {dv v : Value} (hd : decode code pc = .ok (.iaload, 1)) (hp : pc + 1 = pc') (A : Arv Z h a k .int z vs dv) (hj : Inb j z) (hv : vs.getD j.toNatClampNeg dv = v) (r : Run l R n0 Q K h cells slots pc' Ls (v :: st)) : Run l R n0 Q K h cells slots pc Ls (.int j :: .ref a :: st) :=
  Run.pure C (Or.inr trivial) (fun p e s m args below meth c hx hby hown hZ T locs X eT target kk => by
    subst hp
    obtain ⟨cl, Ar, q1, S, N, H, G⟩ := A
    have hin := inb_of S hj
    exact X.iaload hx (by rw [eT]; exact Ar.1) (State.isArrayOf_alike hZ.alike Ar.2.1) Ar.2.2 hin (H.at hin hv) (g := mkF m pc Ls (.int j :: .ref a :: st)) rfl rfl (hb hby hd) _ kk) r
theorem r_laload (C : Ctx l R Z own nm code maxL ret fl n0 kz K) {a : Addr} {k : ClassId} {z j : Int32} {vs : List Value} {dv v : Value} (hd : decode code pc = .ok (.laload, 1)) (hp : pc + 1 = pc') (A : Arv Z h a k .long z vs dv) (hj : Inb j z) (hv : vs.getD j.toNatClampNeg dv = v) (r : Run l R n0 Q K h cells slots pc' Ls (v :: st)) : Run l R n0 Q K h cells slots pc Ls (.int j :: .ref a :: st) :=
  Run.pure C (Or.inr trivial) (fun p e s m args below meth c hx hby hown hZ T locs X eT target kk => by
    subst hp
    obtain ⟨cl, Ar, q1, S, N, H, G⟩ := A
    have hin := inb_of S hj
    exact X.laload hx (by rw [eT]; exact Ar.1) (State.isArrayOf_alike hZ.alike Ar.2.1) Ar.2.2 hin (H.at hin hv) (g := mkF m pc Ls (.int j :: .ref a :: st)) rfl rfl (hb hby hd) _ kk) r
theorem r_caload (C : Ctx l R Z own nm code maxL ret fl n0 kz K) {a : Addr} {k : ClassId} {z j : Int32} {vs : List Value} {dv v : Value} (hd : decode code pc = .ok (.caload, 1)) (hp : pc + 1 = pc') (A : Arv Z h a k .char z vs dv) (hj : Inb j z) (hv : vs.getD j.toNatClampNeg dv = v) (r : Run l R n0 Q K h cells slots pc' Ls (v :: st)) : Run l R n0 Q K h cells slots pc Ls (.int j :: .ref a :: st) :=
  Run.pure C (Or.inr trivial) (fun p e s m args below meth c hx hby hown hZ T locs X eT target kk => by
    subst hp
    obtain ⟨cl, Ar, q1, S, N, H, G⟩ := A
    have hin := inb_of S hj
    exact X.caload hx (by rw [eT]; exact Ar.1) (State.isArrayOf_alike hZ.alike Ar.2.1) Ar.2.2 hin (H.at hin hv) (g := mkF m pc Ls (.int j :: .ref a :: st)) rfl rfl (hb hby hd) _ kk) r
theorem r_saload (C : Ctx l R Z own nm code maxL ret fl n0 kz K) {a : Addr} {k : ClassId} {z j : Int32} {vs : List Value} {dv v : Value} (hd : decode code pc = .ok (.saload, 1)) (hp : pc + 1 = pc') (A : Arv Z h a k .short z vs dv) (hj : Inb j z) (hv : vs.getD j.toNatClampNeg dv = v) (r : Run l R n0 Q K h cells slots pc' Ls (v :: st)) : Run l R n0 Q K h cells slots pc Ls (.int j :: .ref a :: st) :=
  Run.pure C (Or.inr trivial) (fun p e s m args below meth c hx hby hown hZ T locs X eT target kk => by
    subst hp
    obtain ⟨cl, Ar, q1, S, N, H, G⟩ := A
    have hin := inb_of S hj
    exact X.saload hx (by rw [eT]; exact Ar.1) (State.isArrayOf_alike hZ.alike Ar.2.1) Ar.2.2 hin (H.at hin hv) (g := mkF m pc Ls (.int j :: .ref a :: st)) rfl rfl (hb hby hd) _ kk) r
theorem r_baload (C : Ctx l R Z own nm code maxL ret fl n0 kz K) {a : Addr} {k : ClassId} {z j : Int32} {vs : List Value} {dv v : Value} (hd : decode code pc = .ok (.baload, 1)) (hp : pc + 1 = pc') (A : Arv Z h a k .byte z vs dv) (hj : Inb j z) (hv : vs.getD j.toNatClampNeg dv = v) (r : Run l R n0 Q K h cells slots pc' Ls (v :: st)) : Run l R n0 Q K h cells slots pc Ls (.int j :: .ref a :: st) :=
  Run.pure C (Or.inr trivial) (fun p e s m args below meth c hx hby hown hZ T locs X eT target kk => by
    subst hp
    obtain ⟨cl, Ar, q1, S, N, H, G⟩ := A
    have hin := inb_of S hj
    exact X.baloadBytes hx (by rw [eT]; exact Ar.1) (State.isArrayOf_alike hZ.alike Ar.2.1) Ar.2.2 hin (H.at hin hv) (g := mkF m pc Ls (.int j :: .ref a :: st)) rfl rfl (hb hby hd) _ kk) r
theorem r_baloadZ (C : Ctx l R Z own nm code maxL ret fl n0 kz K) {a : Addr} {k : ClassId} {z j : Int32} {vs : List Value} {dv v : Value} (hd : decode code pc = .ok (.baload, 1)) (hp : pc + 1 = pc') (A : Arv Z h a k .boolean z vs dv) (hj : Inb j z) (hv : vs.getD j.toNatClampNeg dv = v) (r : Run l R n0 Q K h cells slots pc' Ls (v :: st)) : Run l R n0 Q K h cells slots pc Ls (.int j :: .ref a :: st) :=
  Run.pure C (Or.inr trivial) (fun p e s m args below meth c hx hby hown hZ T locs X eT target kk => by
    subst hp
    obtain ⟨cl, Ar, q1, S, N, H, G⟩ := A
    have hin := inb_of S hj
    exact X.baloadBooleans hx (by rw [eT]; exact Ar.1) (State.isArrayOf_alike hZ.alike Ar.2.1) Ar.2.2 hin (H.at hin hv) (g := mkF m pc Ls (.int j :: .ref a :: st)) rfl rfl (hb hby hd) _ kk) r
theorem r_aaload (C : Ctx l R Z own nm code maxL ret fl n0 kz K) {a : Addr} {k : ClassId} {ty : FieldType} {z j : Int32} {vs : List Value} {dv v : Value} (hd : decode code pc = .ok (.aaload, 1)) (hp : pc + 1 = pc') (A : Arv Z h a k ty z vs dv) (hty : ty.isReference = true) (hj : Inb j z) (hv : vs.getD j.toNatClampNeg dv = v) (r : Run l R n0 Q K h cells slots pc' Ls (v :: st)) : Run l R n0 Q K h cells slots pc Ls (.int j :: .ref a :: st) :=
  Run.pure C (Or.inr trivial) (fun p e s m args below meth c hx hby hown hZ T locs X eT target kk => by
    subst hp
    obtain ⟨cl, Ar, q1, S, N, H, G⟩ := A
    have hin := inb_of S hj
    exact X.aaload hx (by rw [eT]; exact Ar.1) (State.isArrayOf_alike hZ.alike Ar.2.1) hty Ar.2.2 hin (H.at hin hv) (g := mkF m pc Ls (.int j :: .ref a :: st)) rfl rfl (hb hby hd) _ kk) r
theorem Run.move {cells' slots' : Nat} (C : Ctx l R Z own nm code maxL ret fl n0 kz K)
    (k : ∀ (p : Program) (e : Env) (s : State) (m : MethodId) (args : Array Value) (below : List Frame) (meth : Method) (c : Code), p.tables.exec = Jvm.exec → c.code = code → c.maxLocals = maxL → meth.name = nm → s.vm.findClass own = some m.cls → Z.Warmed39 s.vm → ∀ (T : State) (locs : List Loc), Stand p l e R s m args below meth c T locs cells slots → T.heap = h →
      ∃ (T' : State) (h' : Heap), Stand p l e R s m args below meth c T' locs cells' slots' ∧ T'.heap = h' ∧ Run l R n0 Q K h' cells' slots' pc' Ls' rest ∧ ∀ target, Steps p.tables e below (T'.setTop (mkF m pc' Ls' rest)) target → Steps p.tables e below (T.setTop (mkF m pc Ls st)) target) :
    Run l R n0 Q K h cells slots pc Ls st := by
  obtain ⟨Pl, En, p, e, s, m, args, below, meth, c⟩ := K
  intro T locs X eT N
  obtain ⟨hx, hZ, hown, hby, hml, -, hnm, -⟩ := C
  obtain ⟨T', h', X', eT', r, kk⟩ := k p e s m args below meth c hx hby hml hnm hown hZ T locs X eT
  obtain ⟨s2, o, k1, k2⟩ := r T' locs X' eT' N
  exact ⟨s2, o, kk _ k1, k2⟩
theorem Run.write (C : Ctx l R Z own nm code maxL ret true n0 kz K) {a : Addr} {sl : Nat} (ge : n0 ≤ a)
    (k : ∀ (p : Program) (e : Env) (s : State) (m : MethodId) (args : Array Value) (below : List Frame) (meth : Method) (c : Code), p.tables.exec = Jvm.exec → c.code = code → c.maxLocals = maxL → meth.name = nm → s.vm.findClass own = some m.cls → Z.Warmed39 s.vm → ∀ (T : State) (locs : List Loc), Stand p l e R s m args below meth c T locs cells slots → T.heap = h →
      ∃ (T' : State) (h' : Heap), Stand p l e R s m args below meth c T' (locs ++ [⟨a, sl⟩]) cells slots ∧ T'.heap = h' ∧ Run l R n0 Q K h' cells slots pc' Ls' rest ∧ ∀ target, Steps p.tables e below (T'.setTop (mkF m pc' Ls' rest)) target → Steps p.tables e below (T.setTop (mkF m pc Ls st)) target) :
    Run l R n0 Q K h cells slots pc Ls st := by
  obtain ⟨Pl, En, p, e, s, m, args, below, meth, c⟩ := K
  intro T locs X eT N
  obtain ⟨hx, hZ, hown, hby, hml, -, hnm, -, hcl, hfr, -⟩ := C
  obtain ⟨T', h', X', eT', r, kk⟩ := k p e s m args below meth c hx hby hml hnm hown hZ T locs X eT
  obtain ⟨s2, o, k1, k2⟩ := r T' _ X' eT' (hcl rfl _ (Fr.app (hfr _ N) (fun y hy => by cases List.mem_singleton.mp hy; exact ge)))
  exact ⟨s2, o, kk _ k1, k2⟩
theorem r_getF (C : Ctx l R Z own nm code maxL ret fl n0 kz K) {idx : Nat} {R0 O n d : String} {a : Addr} {v : Value} (hd : decode code pc = .ok (.getfield idx, 3)) (hp : pc + 3 = pc') (w : (Jvm.Cond.fieldLink own idx R0 n d).before a0 Z = true) (via : Via Z R0 O n d) (F : Fld Z h a O n d v) (r : Run l R n0 Q K h cells slots pc' Ls (v :: st)) : Run l R n0 Q K h cells slots pc Ls (.ref a :: st) := by
  subst hp
  exact Run.move (cells' := cells) (slots' := slots) (pc' := pc + 3) (Ls' := Ls) (rest := v :: st) C (fun p e s m args below meth c hx hby hml hnm hown hZ T locs X eT => by
    obtain ⟨T', X', e', s'⟩ := getF X hx hZ hown (host := "") (Or.inl w) via eT F (g := mkF m pc Ls (.ref a :: st)) rfl rfl (hb hby hd)
    exact ⟨T', h, X', e', r, s'⟩)
theorem r_getFN (C : Ctx l R Z own nm code maxL ret fl n0 kz K) {idx : Nat} {R0 O n d host : String} {a : Addr} {v : Value} (hd : decode code pc = .ok (.getfield idx, 3)) (hp : pc + 3 = pc') (w : (Jvm.Cond.fieldLinkNest own idx R0 n d host).before a0 Z = true) (via : Via Z R0 O n d) (F : Fld Z h a O n d v) (r : Run l R n0 Q K h cells slots pc' Ls (v :: st)) : Run l R n0 Q K h cells slots pc Ls (.ref a :: st) := by
  subst hp
  exact Run.move (cells' := cells) (slots' := slots) (pc' := pc + 3) (Ls' := Ls) (rest := v :: st) C (fun p e s m args below meth c hx hby hml hnm hown hZ T locs X eT => by
    obtain ⟨T', X', e', s'⟩ := getF X hx hZ hown (Or.inr w) via eT F (g := mkF m pc Ls (.ref a :: st)) rfl rfl (hb hby hd)
    exact ⟨T', h, X', e', r, s'⟩)
theorem r_getS (C : Ctx l R Z own nm code maxL ret fl n0 kz K) {idx : Nat} {R0 O n d : String} {v : Value} (hd : decode code pc = .ok (.getstatic idx, 3)) (hp : pc + 3 = pc') (w : (Jvm.Cond.fieldLink own idx R0 n d).before a0 Z = true) (via : Via Z R0 O n d) (F : Sta Z h O n d v) (r : Run l R n0 Q K h cells slots pc' Ls (v :: st)) : Run l R n0 Q K h cells slots pc Ls st := by
  subst hp
  exact Run.move (cells' := cells) (slots' := slots) (pc' := pc + 3) (Ls' := Ls) (rest := v :: st) C (fun p e s m args below meth c hx hby hml hnm hown hZ T locs X eT => by
    obtain ⟨T', X', e', s'⟩ := getS2 X hx hZ hown (host := "") (Or.inl w) via eT F (g := mkF m pc Ls st) rfl (hb hby hd)
    exact ⟨T', h, X', e', r, s'⟩)
theorem r_putF (C : Ctx l R Z own nm code maxL ret true n0 kz K) {idx kk : Nat} {R0 O n d Cn : String} {a : Addr} {v old : Value} {ty : FieldType} (hd : decode code pc = .ok (.putfield idx, 3)) (hp : pc + 3 = pc') (w : (Jvm.Cond.fieldLink own idx R0 n d).before a0 Z = true) (via : Via Z R0 O n d) (F : Fld Z h a O n d old) (E : Exa Z h a Cn)
    (L : (Jvm.Cond.lays Cn O n d).before a0 Z = true ∨ ((Jvm.Cond.laysFinal Cn O n d).before a0 Z = true ∧ own = O ∧ nm = "<init>")) (wi : (Jvm.Cond.instantiable Cn kk).before a0 Z = true) (hty : parseFieldDescriptor d = some ty) (hn : narrow ty v = v) (hf : fits ty v = true) (ge : n0 ≤ a)
    (r : ∀ h', Wr h h' a (Jvm.RoadKit.slotOf Z O n d) v → Run l R n0 Q K h' cells slots pc' Ls st) : Run l R n0 Q K h cells slots pc Ls (v :: .ref a :: st) := by
  subst hp
  exact Run.write (pc' := pc + 3) (Ls' := Ls) (rest := st) C ge (fun p e s m args below meth c hx hby hml hnm hown hZ T locs X eT => by
    obtain ⟨T', h', X', e', W, s'⟩ := putF X hx hZ hown (host := "") (Or.inl w) via eT F E (L.imp id fun q => ⟨q.1, q.2.1, by rw [hnm]; exact q.2.2⟩) wi hty hn hf (g := mkF m pc Ls (v :: .ref a :: st)) rfl rfl (hb hby hd)
    exact ⟨T', h', X', e', r h' W, s'⟩)
theorem r_putFN (C : Ctx l R Z own nm code maxL ret true n0 kz K) {idx kk : Nat} {R0 O n d Cn : String} {a : Addr} {v v' old : Value} {ty : FieldType} (hd : decode code pc = .ok (.putfield idx, 3)) (hp : pc + 3 = pc') (w : (Jvm.Cond.fieldLink own idx R0 n d).before a0 Z = true) (via : Via Z R0 O n d) (F : Fld Z h a O n d old) (E : Exa Z h a Cn)
    (L : (Jvm.Cond.lays Cn O n d).before a0 Z = true ∨ ((Jvm.Cond.laysFinal Cn O n d).before a0 Z = true ∧ own = O ∧ nm = "<init>")) (wi : (Jvm.Cond.instantiable Cn kk).before a0 Z = true) (hty : parseFieldDescriptor d = some ty) (hn : narrow ty v = v') (hf : fits ty v' = true) (ge : n0 ≤ a)
    (r : ∀ h', Wr h h' a (Jvm.RoadKit.slotOf Z O n d) v' → Run l R n0 Q K h' cells slots pc' Ls st) : Run l R n0 Q K h cells slots pc Ls (v :: .ref a :: st) := by
  subst hp
  exact Run.write (pc' := pc + 3) (Ls' := Ls) (rest := st) C ge (fun p e s m args below meth c hx hby hml hnm hown hZ T locs X eT => by
    obtain ⟨T', h', X', e', W, s'⟩ := putFN X hx hZ hown w via eT F E (L.imp id fun q => ⟨q.1, q.2.1, by rw [hnm]; exact q.2.2⟩) wi hty hn hf (g := mkF m pc Ls (v :: .ref a :: st)) rfl rfl (hb hby hd)
    exact ⟨T', h', X', e', r h' W, s'⟩)
theorem r_new (C : Ctx l R Z own nm code maxL ret fl n0 kz K) {idx n : Nat} {Cn : String} (hd : decode code pc = .ok (.new idx, 3)) (hp : pc + 3 = pc') (w : (Jvm.Cond.classLink own idx Cn).before a0 Z = true) (wi : (Jvm.Cond.instantiable Cn n).before a0 Z = true) (wz : (Jvm.Cond.initialized Cn).before a0 Z = true) (hc : cells + 1 ≤ R.cells) (hl : slots + n ≤ R.slots)
    (r : ∀ h' a, a = h.size → Ext h h' → Exa Z h' a Cn → (∀ {O nm d : String} {ty : FieldType}, Laid Z a0 Cn O nm d → parseFieldDescriptor d = some ty → Fld Z h' a O nm d (defaultValue ty)) → Run l R n0 Q K h' (cells + 1) (slots + n) pc' Ls (.ref a :: st)) : Run l R n0 Q K h cells slots pc Ls st := by
  subst hp
  exact Run.move (cells' := cells + 1) (slots' := slots + n) (pc' := pc + 3) (Ls' := Ls) (rest := .ref h.size :: st) C (fun p e s m args below meth c hx hby hml hnm hown hZ T locs X eT => by
    obtain ⟨T', h', X', e', E, A, D, -, s'⟩ := newO X hx hZ hown w wi wz eT (g := mkF m pc Ls st) rfl (hb hby hd) hc hl
    exact ⟨T', h', X', e', r h' _ rfl E A D, s'⟩)
theorem r_newarray (C : Ctx l R Z own nm code maxL ret fl n0 kz K) {aty : ArrayType} {ty : FieldType} {n : Int32} {cap : Nat} (hd : decode code pc = .ok (.newarray aty, 2)) (hp : pc + 2 = pc') (hty : newarray.typeOf aty = ty) (w : (Jvm.Cond.arrayClass ty).before a0 Z = true) (hn : ¬ n < 0) (hcap : n.toNatClampNeg ≤ cap) (hb' : cap * 8 ≤ 536870912) (hc : cells + 1 ≤ R.cells) (hl : slots + cap ≤ R.slots)
    (r : ∀ h' a k, a = h.size → Ext h h' → Arv Z h' a k ty n [] (defaultValue ty) → Run l R n0 Q K h' (cells + 1) (slots + cap) pc' Ls (.ref a :: st)) : Run l R n0 Q K h cells slots pc Ls (.int n :: st) := by
  subst hp hty
  exact Run.move (cells' := cells + 1) (slots' := slots + cap) (pc' := pc + 2) (Ls' := Ls) (rest := .ref h.size :: st) C (fun p e s m args below meth c hx hby hml hnm hown hZ T locs X eT => by
    obtain ⟨T', h', k, X', e', E, A, s'⟩ := newP X hx hZ w eT (g := mkF m pc Ls (.int n :: st)) rfl (hb hby hd) rfl hn (cap := cap) hcap hb' hc hl
    exact ⟨T', h', X', e', r h' _ k rfl E (Arv.new A hn), s'⟩)
theorem r_anewarray (C : Ctx l R Z own nm code maxL ret fl n0 kz K) {idx : Nat} {Cn : String} {n : Int32} {cap : Nat} (hd : decode code pc = .ok (.anewarray idx, 3)) (hp : pc + 3 = pc') (w : (Jvm.Cond.classLink own idx Cn).before a0 Z = true) (w2 : (Jvm.Cond.arrayOver (.object Cn)).before a0 Z = true) (hn : ¬ n < 0) (hcap : n.toNatClampNeg ≤ cap) (hb' : cap * 8 ≤ 536870912) (hc : cells + 1 ≤ R.cells) (hl : slots + cap ≤ R.slots)
    (r : ∀ h' a k, a = h.size → Ext h h' → Arv Z h' a k (.object Cn) n [] .null → Ovr Z k Cn → Run l R n0 Q K h' (cells + 1) (slots + cap) pc' Ls (.ref a :: st)) : Run l R n0 Q K h cells slots pc Ls (.int n :: st) := by
  subst hp
  exact Run.move (cells' := cells + 1) (slots' := slots + cap) (pc' := pc + 3) (Ls' := Ls) (rest := .ref h.size :: st) C (fun p e s m args below meth c hx hby hml hnm hown hZ T locs X eT => by
    obtain ⟨T', h', k, X', e', E, A, O, s'⟩ := newR X hx hZ hown w w2 eT (g := mkF m pc Ls (.int n :: st)) rfl (hb hby hd) rfl hn (cap := cap) hcap hb' hc hl
    exact ⟨T', h', X', e', r h' _ k rfl E (Arv.new A hn) O, s'⟩)
theorem r_checkcast (C : Ctx l R Z own nm code maxL ret fl n0 kz K) {idx : Nat} {Kn : String} {a : Addr} (hd : decode code pc = .ok (.checkcast idx, 3)) (hp : pc + 3 = pc') (w : (Jvm.Cond.classLink own idx Kn).before a0 Z = true) (F : Ins Z h a Kn true) (r : Run l R n0 Q K h cells slots pc' Ls (.ref a :: st)) : Run l R n0 Q K h cells slots pc Ls (.ref a :: st) := by
  subst hp
  exact Run.move (cells' := cells) (slots' := slots) (pc' := pc + 3) (Ls' := Ls) (rest := .ref a :: st) C (fun p e s m args below meth c hx hby hml hnm hown hZ T locs X eT => by
    obtain ⟨T', X', e', s'⟩ := castY X hx hZ hown w eT F (g := mkF m pc Ls (.ref a :: st)) rfl rfl (hb hby hd)
    exact ⟨T', h, X', e', r, s'⟩)
theorem r_checkcastNull (C : Ctx l R Z own nm code maxL ret fl n0 kz K) {idx : Nat} (hd : decode code pc = .ok (.checkcast idx, 3)) (hp : pc + 3 = pc') (r : Run l R n0 Q K h cells slots pc' Ls (.null :: st)) : Run l R n0 Q K h cells slots pc Ls (.null :: st) :=
  Run.pure C (Or.inr trivial) (fun p e s m args below meth c hx hby hown hZ T locs X eT target kk => by
    subst hp
    exact X.checkcastNull hx (g := mkF m pc Ls (.null :: st)) rfl rfl (hb hby hd) _ kk) r
theorem r_instanceof (C : Ctx l R Z own nm code maxL ret fl n0 kz K) {idx : Nat} {Kn : String} {a : Addr} (hd : decode code pc = .ok (.instanceof idx, 3)) (hp : pc + 3 = pc') (w : (Jvm.Cond.classLink own idx Kn).before a0 Z = true) (F : Ins Z h a Kn true) (r : Run l R n0 Q K h cells slots pc' Ls (.int 1 :: st)) : Run l R n0 Q K h cells slots pc Ls (.ref a :: st) := by
  subst hp
  exact Run.move (cells' := cells) (slots' := slots) (pc' := pc + 3) (Ls' := Ls) (rest := .int 1 :: st) C (fun p e s m args below meth c hx hby hml hnm hown hZ T locs X eT => by
    obtain ⟨T', X', e', s'⟩ := instY X hx hZ hown w eT F (g := mkF m pc Ls (.ref a :: st)) rfl rfl (hb hby hd)
    exact ⟨T', h, X', e', r, s'⟩)
theorem r_iastore (C : Ctx l R Z own nm code maxL ret true n0 kz K) {a : Addr} {k : ClassId} {z j : Int32} {x : Int32} {vs : List Value} {dv : Value} (hd : decode code pc = .ok (.iastore, 1)) (hp : pc + 1 = pc') (A : Arv Z h a k .int z vs dv) (hj : Inb j z) (hi : j.toNatClampNeg < vs.length) (ge : n0 ≤ a)
    (r : ∀ h', Wr h h' a j.toNatClampNeg (.int x) → Arv Z h' a k .int z (vs.set j.toNatClampNeg (.int x)) dv → Run l R n0 Q K h' cells slots pc' Ls st) : Run l R n0 Q K h cells slots pc Ls (.int x :: .int j :: .ref a :: st) := by
  subst hp
  exact Run.write (pc' := pc + 1) (Ls' := Ls) (rest := st) C ge (fun p e s m args below meth c hx hby hml hnm hown hZ T locs X eT => by
    obtain ⟨cl, Ar, q1, S, N1, H, G⟩ := A
    obtain ⟨T', h', X', e', W, s'⟩ := stI X hx hZ eT Ar (j := j) (x := x) (inb_of S hj) (g := mkF m pc Ls (.int x :: .int j :: .ref a :: st)) rfl rfl (hb hby hd)
    exact ⟨T', h', X', e', r h' W (Arv.set Ar q1 S N1 H G rfl W _ rfl hi), s'⟩)
theorem r_lastore (C : Ctx l R Z own nm code maxL ret true n0 kz K) {a : Addr} {k : ClassId} {z j : Int32} {x : Int64} {vs : List Value} {dv : Value} (hd : decode code pc = .ok (.lastore, 1)) (hp : pc + 1 = pc') (A : Arv Z h a k .long z vs dv) (hj : Inb j z) (hi : j.toNatClampNeg < vs.length) (ge : n0 ≤ a)
    (r : ∀ h', Wr h h' a j.toNatClampNeg (.long x) → Arv Z h' a k .long z (vs.set j.toNatClampNeg (.long x)) dv → Run l R n0 Q K h' cells slots pc' Ls st) : Run l R n0 Q K h cells slots pc Ls (.long x :: .int j :: .ref a :: st) := by
  subst hp
  exact Run.write (pc' := pc + 1) (Ls' := Ls) (rest := st) C ge (fun p e s m args below meth c hx hby hml hnm hown hZ T locs X eT => by
    obtain ⟨cl, Ar, q1, S, N1, H, G⟩ := A
    obtain ⟨T', h', X', e', W, s'⟩ := stJ X hx hZ eT Ar (j := j) (x := x) (inb_of S hj) (g := mkF m pc Ls (.long x :: .int j :: .ref a :: st)) rfl rfl (hb hby hd)
    exact ⟨T', h', X', e', r h' W (Arv.set Ar q1 S N1 H G rfl W _ rfl hi), s'⟩)
theorem r_castore (C : Ctx l R Z own nm code maxL ret true n0 kz K) {a : Addr} {k : ClassId} {z j x : Int32} {vs : List Value} {dv : Value} (hd : decode code pc = .ok (.castore, 1)) (hp : pc + 1 = pc') (A : Arv Z h a k .char z vs dv) (hj : Inb j z) (hi : j.toNatClampNeg < vs.length) (hf : fits .char (.int (nar .char x)) = true) (ge : n0 ≤ a)
    (r : ∀ h', Wr h h' a j.toNatClampNeg (.int (nar .char x)) → Arv Z h' a k .char z (vs.set j.toNatClampNeg (.int (nar .char x))) dv → Run l R n0 Q K h' cells slots pc' Ls st) : Run l R n0 Q K h cells slots pc Ls (.int x :: .int j :: .ref a :: st) := by
  subst hp
  exact Run.write (pc' := pc + 1) (Ls' := Ls) (rest := st) C ge (fun p e s m args below meth c hx hby hml hnm hown hZ T locs X eT => by
    obtain ⟨cl, Ar, q1, S, N1, H, G⟩ := A
    obtain ⟨T', h', X', e', W, s'⟩ := stC X hx hZ eT Ar (j := j) (x := x) (inb_of S hj) (g := mkF m pc Ls (.int x :: .int j :: .ref a :: st)) rfl rfl (hb hby hd)
    exact ⟨T', h', X', e', r h' W (Arv.set Ar q1 S N1 H G hf W _ rfl hi), s'⟩)
theorem r_bastore (C : Ctx l R Z own nm code maxL ret true n0 kz K) {a : Addr} {k : ClassId} {z j x : Int32} {vs : List Value} {dv : Value} (hd : decode code pc = .ok (.bastore, 1)) (hp : pc + 1 = pc') (A : Arv Z h a k .byte z vs dv) (hj : Inb j z) (hi : j.toNatClampNeg < vs.length) (hf : fits .byte (.int (nar .byte x)) = true) (ge : n0 ≤ a)
    (r : ∀ h', Wr h h' a j.toNatClampNeg (.int (nar .byte x)) → Arv Z h' a k .byte z (vs.set j.toNatClampNeg (.int (nar .byte x))) dv → Run l R n0 Q K h' cells slots pc' Ls st) : Run l R n0 Q K h cells slots pc Ls (.int x :: .int j :: .ref a :: st) := by
  subst hp
  exact Run.write (pc' := pc + 1) (Ls' := Ls) (rest := st) C ge (fun p e s m args below meth c hx hby hml hnm hown hZ T locs X eT => by
    obtain ⟨cl, Ar, q1, S, N1, H, G⟩ := A
    obtain ⟨T', h', X', e', W, s'⟩ := stB X hx hZ eT Ar (j := j) (x := x) (inb_of S hj) (g := mkF m pc Ls (.int x :: .int j :: .ref a :: st)) rfl rfl (hb hby hd)
    exact ⟨T', h', X', e', r h' W (Arv.set Ar q1 S N1 H G hf W _ rfl hi), s'⟩)
theorem r_bastoreZ (C : Ctx l R Z own nm code maxL ret true n0 kz K) {a : Addr} {k : ClassId} {z j x : Int32} {vs : List Value} {dv : Value} (hd : decode code pc = .ok (.bastore, 1)) (hp : pc + 1 = pc') (A : Arv Z h a k .boolean z vs dv) (hj : Inb j z) (hi : j.toNatClampNeg < vs.length) (hf : fits .boolean (.int (nar .boolean x)) = true) (ge : n0 ≤ a)
    (r : ∀ h', Wr h h' a j.toNatClampNeg (.int (nar .boolean x)) → Arv Z h' a k .boolean z (vs.set j.toNatClampNeg (.int (nar .boolean x))) dv → Run l R n0 Q K h' cells slots pc' Ls st) : Run l R n0 Q K h cells slots pc Ls (.int x :: .int j :: .ref a :: st) := by
  subst hp
  exact Run.write (pc' := pc + 1) (Ls' := Ls) (rest := st) C ge (fun p e s m args below meth c hx hby hml hnm hown hZ T locs X eT => by
    obtain ⟨cl, Ar, q1, S, N1, H, G⟩ := A
    obtain ⟨T', h', X', e', W, s'⟩ := stZ X hx hZ eT Ar (j := j) (x := x) (inb_of S hj) (g := mkF m pc Ls (.int x :: .int j :: .ref a :: st)) rfl rfl (hb hby hd)
    exact ⟨T', h', X', e', r h' W (Arv.set Ar q1 S N1 H G hf W _ rfl hi), s'⟩)
/-- what may lie in a reference array -/
def Stv (Z : State) (h : Heap) (k : ClassId) (v : Value) : Prop := v = .null ∨ ∃ y C, v = .ref y ∧ Ovr Z k C ∧ Ins Z h y C true
theorem r_aastore (C : Ctx l R Z own nm code maxL ret true n0 kz K) {a : Addr} {k : ClassId} {ty : FieldType} {z j : Int32} {v : Value} {vs : List Value} {dv : Value} (hd : decode code pc = .ok (.aastore, 1)) (hp : pc + 1 = pc') (A : Arv Z h a k ty z vs dv) (hty : ty.isReference = true) (hj : Inb j z) (hi : j.toNatClampNeg < vs.length) (F : Stv Z h k v) (ge : n0 ≤ a)
    (r : ∀ h', Wr h h' a j.toNatClampNeg v → Arv Z h' a k ty z (vs.set j.toNatClampNeg v) dv → Run l R n0 Q K h' cells slots pc' Ls st) : Run l R n0 Q K h cells slots pc Ls (v :: .int j :: .ref a :: st) := by
  subst hp
  exact Run.write (pc' := pc + 1) (Ls' := Ls) (rest := st) C ge (fun p e s m args below meth c hx hby hml hnm hown hZ T locs X eT => by
    obtain ⟨cl, Ar, q1, S, N1, H, G⟩ := A
    have F' : Sto Z h a v := by
      rcases F with rfl | ⟨y, Cn, rfl, O, I⟩
      · exact Or.inl rfl
      · exact Sto.ofV Ar q1 O I
    have hf : fits ty v = true := by
      rcases F with rfl | ⟨y, Cn, rfl, O, I⟩ <;> cases ty <;> first | rfl | (cases hty; done)
    obtain ⟨T', h', X', e', W, s'⟩ := stR X hx hZ eT Ar (j := j) (inb_of S hj) hty F' (g := mkF m pc Ls (v :: .int j :: .ref a :: st)) rfl rfl (hb hby hd)
    exact ⟨T', h', X', e', r h' W (Arv.set Ar q1 S N1 H G hf W _ rfl hi), s'⟩)
theorem r_initO (C : Ctx l R Z own nm code maxL ret fl n0 kz K) {idx W : Nat} {a : Addr} (hd : decode code pc = .ok (.invokespecial idx, 3)) (hp : pc + 3 = pc') (w1 : (Jvm.Cond.methodLink own idx Lib.objectInit).before a0 Z = true) (w2 : (Jvm.Cond.instanceMethod Lib.objectInit).before a0 Z = true) (w3 : (Jvm.Cond.code Lib.objectInit ⟨#[0xb1]⟩ 1 none).before a0 Z = true)
    (hsz : Ls.size = maxL) (hf : 1 ≤ R.frames) (hW : (st.map fun v => v.category).sum ≤ W) (hl : W + 12 ≤ R.locals) (r : Run l R n0 Q K h cells slots pc' Ls st) : Run l R n0 Q K h cells slots pc Ls (.ref a :: st) := by
  subst hp
  exact Run.move (cells' := cells) (slots' := slots) (pc' := pc + 3) (Ls' := Ls) (rest := st) C (fun p e s m args below meth c hx hby hml hnm hown hZ T locs X eT => by
    obtain ⟨T', X', e', s'⟩ := initO X hx hZ hown w1 w2 w3 eT (g := mkF m pc Ls (.ref a :: st)) rfl (by rw [hml]; exact hsz) rfl (hb hby hd) hf (W := W) (by show 2 * 0 + _ ≤ _; omega) hl
    exact ⟨T', h, X', e', r, s'⟩)
theorem Con.back {y : MethodName} {bytes : ByteArray} {mL : Nat} {rt : Option FieldType} {rm : Room} {as : Array Value} {Q' : Option Value → Heap → Prop} {len W : Nat} {p : Program} {e : Env} {below : List Frame} {s : State} {args : Array Value} (M : Con l [] y bytes mL rt rm Z as h n0 Q') (hZ : Z.Warmed39 s.vm) (wc : (Jvm.Cond.code y bytes mL rt).before a0 Z = true) (wz : (Jvm.Cond.initialized y.cls).before a0 Z = true) (hf : rm.frames + 1 ≤ R.frames) (hl : W + (mL + 11) + rm.locals ≤ R.locals) :
    Back l R p e below s args y len W (fun A a => a = as ∧ A.U.heap = h ∧ A.cells + rm.cells ≤ R.cells ∧ A.slots + rm.slots ≤ R.slots) (fun A _ v B => ∃ L, (Q' v B.U.heap ∧ Fr n0 L) ∧ B.locs = A.locs ++ L ∧ B.cells = A.cells + rm.cells ∧ B.slots = A.slots + rm.slots) :=
  backOf (Q := fun v h L => Q' v h ∧ Fr n0 L) M hZ wc wz hf hl
/-- a static method by its contract -/
theorem r_callS (C : Ctx l R Z own nm code maxL ret true n0 kz K) {idx : Nat} {y : MethodName} {bytes : ByteArray} {mL : Nat} {rt : Option FieldType} {rm : Room} {argsL : List Value} {Q' : Option Value → Heap → Prop} {ps : List FieldType} {rr : Option FieldType} {W cells' slots' : Nat} {stk : List Value}
    (M : Con l [] y bytes mL rt rm Z argsL.toArray h n0 Q') (hd : decode code pc = .ok (.invokestatic idx, 3)) (hp : pc + 3 = pc') (w1 : (Jvm.Cond.methodLink own idx y).before a0 Z = true) (w2 : (Jvm.Cond.static y).before a0 Z = true) (w3 : (Jvm.Cond.initialized y.cls).before a0 Z = true) (w4 : (Jvm.Cond.code y bytes mL rt).before a0 Z = true)
    (hy : y.cls ≠ "java/lang/invoke/MethodHandle" ∧ y.cls ≠ "java/lang/invoke/VarHandle") (pd : parseMethodDescriptor y.desc = some ⟨ps, rr⟩) (hlen : argsL.length = ps.length) (hst : stk = argsL.reverse ++ st) (hsz : Ls.size = maxL) (hW : (st.map fun v => v.category).sum ≤ W)
    (hf : rm.frames + 1 ≤ R.frames) (hlo : W + (mL + 11) + rm.locals ≤ R.locals) (hc : cells + rm.cells ≤ R.cells) (hs : slots + rm.slots ≤ R.slots) (ec : cells + rm.cells = cells') (es : slots + rm.slots = slots')
    (r : ∀ v h', Q' v h' → Run l R n0 Q K h' cells' slots' pc' Ls (v.toList ++ st)) : Run l R n0 Q K h cells slots pc Ls stk := by
  obtain ⟨Pl, En, p, e, s, m, args, below, meth, c⟩ := K
  intro T locs X eT N
  obtain ⟨hx, hZ, hown, hby, hml, -, hnm, -, hcl, hfr, -⟩ := C
  subst hp hst ec es
  obtain ⟨v, _, ⟨T', L', k', n'⟩, -, X', ⟨Lc, ⟨hQ, N'⟩, l', y', z'⟩, s'⟩ := Jvm.LawKit.callS X hx (y := y) hown (mvT hZ w1) (mvT hZ w2) (mvT hZ w3) (mvT hZ w4) hy (Con.back (W := W) M hZ w4 w3 hf hlo) (g := mkF m pc Ls (argsL.reverse ++ st)) rfl (by rw [hml]; exact hsz) (argsL := argsL) (rest := st) (lenOf pd hlen) rfl (by show 2 * 0 + _ ≤ _; omega) (hb hby hd) (fun _ _ => ⟨rfl, eT, hc, hs⟩)
  dsimp only [Pt.U, Pt.locs, Pt.cells, Pt.slots] at X' l' y' z' s' hQ N'
  subst l' y' z'
  obtain ⟨s2, o, k1, k2⟩ := r v T'.heap hQ T' _ X' rfl (hcl rfl _ (Fr.app (hfr _ N) N'))
  exact ⟨s2, o, s' _ k1, k2⟩
/-- a constructor by its contract -/
theorem r_callI (C : Ctx l R Z own nm code maxL ret true n0 kz K) {idx : Nat} {y : MethodName} {bytes : ByteArray} {mL : Nat} {rm : Room} {a : Addr} {argsL : List Value} {Q' : Option Value → Heap → Prop} {ps : List FieldType} {rr : Option FieldType} {W cells' slots' : Nat} {stk : List Value}
    (M : Con l [] y bytes mL none rm Z (.ref a :: argsL).toArray h n0 Q') (hd : decode code pc = .ok (.invokespecial idx, 3)) (hp : pc + 3 = pc') (w1 : (Jvm.Cond.methodLink own idx y).before a0 Z = true) (w2 : (Jvm.Cond.instanceMethod y).before a0 Z = true) (w3 : (Jvm.Cond.initialized y.cls).before a0 Z = true) (w4 : (Jvm.Cond.code y bytes mL none).before a0 Z = true)
    (hin : y.name = "<init>") (hy : y.cls ≠ "java/lang/invoke/MethodHandle" ∧ y.cls ≠ "java/lang/invoke/VarHandle") (pd : parseMethodDescriptor y.desc = some ⟨ps, rr⟩) (hlen : argsL.length = ps.length) (hst : stk = argsL.reverse ++ .ref a :: st) (hsz : Ls.size = maxL) (hW : (st.map fun v => v.category).sum ≤ W)
    (hf : rm.frames + 1 ≤ R.frames) (hlo : W + (mL + 11) + rm.locals ≤ R.locals) (hc : cells + rm.cells ≤ R.cells) (hs : slots + rm.slots ≤ R.slots) (ec : cells + rm.cells = cells') (es : slots + rm.slots = slots')
    (r : ∀ v h', Q' v h' → Run l R n0 Q K h' cells' slots' pc' Ls (v.toList ++ st)) : Run l R n0 Q K h cells slots pc Ls stk := by
  obtain ⟨Pl, En, p, e, s, m, args, below, meth, c⟩ := K
  intro T locs X eT N
  obtain ⟨hx, hZ, hown, hby, hml, -, hnm, -, hcl, hfr, -⟩ := C
  subst hp hst ec es
  obtain ⟨v, _, ⟨T', L', k', n'⟩, -, X', ⟨Lc, ⟨hQ, N'⟩, l', y', z'⟩, s'⟩ := X.specialBack hx (y := y) hin hown (mvT hZ w1) (mvT hZ w2) (mvT hZ w4) hy (Con.back (W := W) M hZ w4 w3 hf hlo) (g := mkF m pc Ls (argsL.reverse ++ .ref a :: st)) rfl (by rw [hml]; exact hsz) (Steps.refl _) (a := a) (argsL := argsL) (rest := st) (lenOf pd hlen) rfl (by show 2 * 0 + _ ≤ _; omega) (hb hby hd) (fun _ _ => ⟨rfl, eT, hc, hs⟩)
  dsimp only [Pt.U, Pt.locs, Pt.cells, Pt.slots] at X' l' y' z' s' hQ N'
  subst l' y' z'
  obtain ⟨s2, o, k1, k2⟩ := r v T'.heap hQ T' _ X' rfl (hcl rfl _ (Fr.app (hfr _ N) N'))
  exact ⟨s2, o, s'.trans k1, k2⟩
/-- an instance method by the contract of the body that the receiver's class selects -/
theorem r_callV (C : Ctx l R Z own nm code maxL ret true n0 kz K) {idx : Nat} {y z : MethodName} {Cn : String} {bytes : ByteArray} {mL : Nat} {rt : Option FieldType} {rm : Room} {a : Addr} {argsL : List Value} {Q' : Option Value → Heap → Prop} {ps : List FieldType} {rr : Option FieldType} {W cells' slots' : Nat} {stk : List Value}
    (M : Con l [] z bytes mL rt rm Z (.ref a :: argsL).toArray h n0 Q') (E : Exa Z h a Cn) (hd : decode code pc = .ok (.invokevirtual idx, 3)) (hp : pc + 3 = pc') (w1 : (Jvm.Cond.methodLink own idx y).before a0 Z = true) (wd : (Jvm.Cond.declares y).before a0 Z = true) (nf : ∀ (s : State) (args : Array Value), Z.Warmed39 s.vm → NotFace s y) (ws : (Jvm.Cond.selects Cn y z).before a0 Z = true) (w2 : (Jvm.Cond.instanceMethod z).before a0 Z = true) (w3 : (Jvm.Cond.initialized z.cls).before a0 Z = true) (w4 : (Jvm.Cond.code z bytes mL rt).before a0 Z = true)
    (hy : y.cls ≠ "java/lang/invoke/MethodHandle" ∧ y.cls ≠ "java/lang/invoke/VarHandle") (pd : parseMethodDescriptor y.desc = some ⟨ps, rr⟩) (hlen : argsL.length = ps.length) (hst : stk = argsL.reverse ++ .ref a :: st) (hsz : Ls.size = maxL) (hW : (st.map fun v => v.category).sum ≤ W)
    (hf : rm.frames + 1 ≤ R.frames) (hlo : W + (mL + 11) + rm.locals ≤ R.locals) (hc : cells + rm.cells ≤ R.cells) (hs : slots + rm.slots ≤ R.slots) (ec : cells + rm.cells = cells') (es : slots + rm.slots = slots')
    (r : ∀ v h', Q' v h' → Run l R n0 Q K h' cells' slots' pc' Ls (v.toList ++ st)) : Run l R n0 Q K h cells slots pc Ls stk := by
  obtain ⟨Pl, En, p, e, s, m, args, below, meth, c⟩ := K
  intro T locs X eT N
  obtain ⟨hx, hZ, hown, hby, hml, -, hnm, -, hcl, hfr, -⟩ := C
  subst hp hst ec es
  obtain ⟨cq, kq, qa, qb, qc⟩ := isOf hZ eT E
  obtain ⟨v, _, ⟨T', L', k', n'⟩, -, X', ⟨Lc, ⟨hQ, N'⟩, l', y', z'⟩, s'⟩ := X.virtualBack hx (y := y) (z := z) hown (mvT hZ w1) (mvT hZ wd) (nf s args hZ) (mvT hZ ws) (mvT hZ w2) hy (Con.back (W := W) M hZ w4 w3 hf hlo) qa qc (g := mkF m pc Ls (argsL.reverse ++ .ref a :: st)) rfl (by rw [hml]; exact hsz) (Steps.refl _) (argsL := argsL) (rest := st) (lenOf pd hlen) rfl (by show 2 * 0 + _ ≤ _; omega) (hb hby hd) (fun _ _ => ⟨rfl, eT, hc, hs⟩)
  dsimp only [Pt.U, Pt.locs, Pt.cells, Pt.slots] at X' l' y' z' s' hQ N'
  subst l' y' z'
  obtain ⟨s2, o, k1, k2⟩ := r v T'.heap hQ T' _ X' rfl (hcl rfl _ (Fr.app (hfr _ N) N'))
  exact ⟨s2, o, s'.trans k1, k2⟩
theorem nfSel {y z : MethodName} {Cn : String} (w : (Jvm.Cond.selects Cn y y).before a0 Z = true) : ∀ (s : State) (args : Array Value), Z.Warmed39 s.vm → NotFace s y := fun s args hZ => notFace_of_selects (args := args) (mvT hZ w)
/-- a private instance method by its contract (invokevirtual) -/
theorem r_callP (C : Ctx l R Z own nm code maxL ret true n0 kz K) {idx : Nat} {y : MethodName} {bytes : ByteArray} {mL : Nat} {rt : Option FieldType} {rm : Room} {a : Addr} {Cn : String} {argsL : List Value} {Q' : Option Value → Heap → Prop} {ps : List FieldType} {rr : Option FieldType} {W cells' slots' : Nat} {stk : List Value}
    (M : Con l [] y bytes mL rt rm Z (.ref a :: argsL).toArray h n0 Q') (E : Exa Z h a Cn) (hd : decode code pc = .ok (.invokevirtual idx, 3)) (hp : pc + 3 = pc') (w1 : (Jvm.Cond.methodLink own idx y).before a0 Z = true) (w2 : (Jvm.Cond.instanceMethod y).before a0 Z = true) {kk : Nat} (wi : (Jvm.Cond.instantiable y.cls kk).before a0 Z = true) (wp : (Jvm.Cond.privateMethod y).before a0 Z = true) (w3 : (Jvm.Cond.initialized y.cls).before a0 Z = true) (w4 : (Jvm.Cond.code y bytes mL rt).before a0 Z = true)
    (hy : y.cls ≠ "java/lang/invoke/MethodHandle" ∧ y.cls ≠ "java/lang/invoke/VarHandle") (pd : parseMethodDescriptor y.desc = some ⟨ps, rr⟩) (hlen : argsL.length = ps.length) (hst : stk = argsL.reverse ++ .ref a :: st) (hsz : Ls.size = maxL) (hW : (st.map fun v => v.category).sum ≤ W)
    (hf : rm.frames + 1 ≤ R.frames) (hlo : W + (mL + 11) + rm.locals ≤ R.locals) (hc : cells + rm.cells ≤ R.cells) (hs : slots + rm.slots ≤ R.slots) (ec : cells + rm.cells = cells') (es : slots + rm.slots = slots')
    (r : ∀ v h', Q' v h' → Run l R n0 Q K h' cells' slots' pc' Ls (v.toList ++ st)) : Run l R n0 Q K h cells slots pc Ls stk := by
  obtain ⟨Pl, En, p, e, s, m, args, below, meth, c⟩ := K
  intro T locs X eT N
  obtain ⟨hx, hZ, hown, hby, hml, -, hnm, -, hcl, hfr, -⟩ := C
  subst hp hst ec es
  obtain ⟨cq, q1, q2⟩ := E.cell
  have hpr : s.PrivateAt y := Cond.privateMethod_at (mvP hZ wp (args := #[]))
  have hw2 : (Jvm.Cond.instanceMethod y).before args s = true := mvT hZ w2
  obtain ⟨c2, k2, hc2, hk2, -, hni, -, -⟩ := Cond.instantiable_spec (mvT (args := args) hZ wi)
  have hsel := Stand.selects_self_of_private hc2 hk2 (Bool.or_eq_false_iff.mp hni).1 hpr hw2 hy
  obtain ⟨v, _, ⟨T', L', k', n'⟩, -, X', ⟨Lc, ⟨hQ, N'⟩, l', y', z'⟩, s'⟩ := X.privateBack hx (y := y) hown (mvT hZ w1) hw2 hsel hpr (mvT hZ w4) hy (Con.back (W := W) M hZ w4 w3 hf hlo) (g := mkF m pc Ls (argsL.reverse ++ .ref a :: st)) rfl (by rw [hml]; exact hsz) (Steps.refl _) (a := a) (by rw [eT]; exact q1) q2 (argsL := argsL) (rest := st) (lenOf pd hlen) rfl (by show 2 * 0 + _ ≤ _; omega) (hb hby hd) (fun _ _ => ⟨rfl, eT, hc, hs⟩)
  dsimp only [Pt.U, Pt.locs, Pt.cells, Pt.slots] at X' l' y' z' s' hQ N'
  subst l' y' z'
  obtain ⟨s2, o, k1, k2⟩ := r v T'.heap hQ T' _ X' rfl (hcl rfl _ (Fr.app (hfr _ N) N'))
  exact ⟨s2, o, s'.trans k1, k2⟩
/-- through an interface -/
theorem r_callF (C : Ctx l R Z own nm code maxL ret true n0 kz K) {idx count : Nat} {y z : MethodName} {Cn : String} {bytes : ByteArray} {mL : Nat} {rt : Option FieldType} {rm : Room} {a : Addr} {argsL : List Value} {Q' : Option Value → Heap → Prop} {ps : List FieldType} {rr : Option FieldType} {W cells' slots' : Nat} {stk : List Value}
    (M : Con l [] z bytes mL rt rm Z (.ref a :: argsL).toArray h n0 Q') (E : Exa Z h a Cn) (hd : decode code pc = .ok (.invokeinterface idx count, 5)) (hp : pc + 5 = pc') (w1 : (Jvm.Cond.methodLink own idx y).before a0 Z = true) (wd : (Jvm.Cond.declares y).before a0 Z = true) (wf : (Jvm.Cond.interfaceMethod y.cls y.cls y.name y.desc).before a0 Z = true) (ws : (Jvm.Cond.selects Cn y z).before a0 Z = true) (w2 : (Jvm.Cond.instanceMethod z).before a0 Z = true) (wp : (Jvm.Cond.publicMethod z).before a0 Z = true) (wu : (Jvm.Cond.unhidden Cn y.name y.desc).before a0 Z = true) (wc : (Jvm.Cond.castable Cn y.cls).before a0 Z = true) (w3 : (Jvm.Cond.initialized z.cls).before a0 Z = true) (w4 : (Jvm.Cond.code z bytes mL rt).before a0 Z = true)
    (hfa : ((Jvm.Cond.interfaceMethod y.cls y.cls y.name y.desc).onTables && (Jvm.Cond.interfaceMethod y.cls y.cls y.name y.desc).keepsFace) = true) (hy : y.cls ≠ "java/lang/invoke/MethodHandle" ∧ y.cls ≠ "java/lang/invoke/VarHandle") (pd : parseMethodDescriptor y.desc = some ⟨ps, rr⟩) (hlen : argsL.length = ps.length) (hst : stk = argsL.reverse ++ .ref a :: st) (hsz : Ls.size = maxL) (hW : (st.map fun v => v.category).sum ≤ W)
    (hf : rm.frames + 1 ≤ R.frames) (hlo : W + (mL + 11) + rm.locals ≤ R.locals) (hc : cells + rm.cells ≤ R.cells) (hs : slots + rm.slots ≤ R.slots) (ec : cells + rm.cells = cells') (es : slots + rm.slots = slots')
    (r : ∀ v h', Q' v h' → Run l R n0 Q K h' cells' slots' pc' Ls (v.toList ++ st)) : Run l R n0 Q K h cells slots pc Ls stk := by
  obtain ⟨Pl, En, p, e, s, m, args, below, meth, c⟩ := K
  intro T locs X eT N
  obtain ⟨hx, hZ, hown, hby, hml, -, hnm, -, hcl, hfr, -⟩ := C
  subst hp hst ec es
  obtain ⟨cq, kq, qa, qb, qc⟩ := isOf hZ eT E
  obtain ⟨v, _, ⟨T', L', k', n'⟩, -, X', ⟨Lc, ⟨hQ, N'⟩, l', y', z'⟩, s'⟩ := X.interfaceBack hx (xi := y) (y := z) hown (mvT hZ w1) (mvT hZ wd) (mvT hZ wf hfa) (mvT hZ ws) (mvT hZ w2) (mvT hZ wp) (mvT hZ wu) (mvT hZ wc) hy (Con.back (W := W) M hZ w4 w3 hf hlo) qa qb qc (g := mkF m pc Ls (argsL.reverse ++ .ref a :: st)) rfl (by rw [hml]; exact hsz) (Steps.refl _) (argsL := argsL) (rest := st) (lenOf pd hlen) rfl (by show 2 * 0 + _ ≤ _; omega) (hb hby hd) (fun _ _ => ⟨rfl, eT, hc, hs⟩)
  dsimp only [Pt.U, Pt.locs, Pt.cells, Pt.slots] at X' l' y' z' s' hQ N'
  subst l' y' z'
  obtain ⟨s2, o, k1, k2⟩ := r v T'.heap hQ T' _ X' rfl (hcl rfl _ (Fr.app (hfr _ N) N'))
  exact ⟨s2, o, s'.trans k1, k2⟩

/-! numbers -/
def i32 (n : Nat) : Int32 := Int32.ofNat n
theorem i32_toInt {n : Nat} (h : n < 2147483648) : (i32 n).toInt = (n : Int) := Int32.toInt_ofNat_small h
theorem i32_clamp {n : Nat} (h : n < 2147483648) : (i32 n).toNatClampNeg = n := by
  show ((i32 n).toInt).toNat = n
  rw [i32_toInt h]; rfl
theorem i32_nn {n : Nat} (h : n < 2147483648) : ¬ i32 n < 0 := by
  rw [Int32.lt_iff_toInt_lt, i32_toInt h]; show ¬ (n : Int) < 0; omega
theorem i32_lt {a b : Nat} (ha : a < 2147483648) (hb : b < 2147483648) : i32 a < i32 b ↔ a < b := by
  rw [Int32.lt_iff_toInt_lt, i32_toInt ha, i32_toInt hb]; omega
theorem i32_eq {a b : Nat} (ha : a < 2147483648) (hb : b < 2147483648) : i32 a = i32 b ↔ a = b := by
  rw [← Int32.toInt_inj, i32_toInt ha, i32_toInt hb]; omega
theorem i32_add (a b : Nat) : i32 a + i32 b = i32 (a + b) := (Int32.ofNat_add a b).symm
theorem i32_mul (a b : Nat) : i32 a * i32 b = i32 (a * b) := (Int32.ofNat_mul a b).symm
theorem i32_sub {a b : Nat} (h : b ≤ a) : i32 a - i32 b = i32 (a - b) := by
  have e : i32 a = i32 (a - b) + i32 b := by rw [i32_add, Nat.sub_add_cancel h]
  rw [e, Int32.add_sub_cancel]
theorem i32_of {x : Int32} (h : ¬ x < 0) : x = i32 x.toNatClampNeg := (back32 h).1.symm
theorem bm32 {n : Int} (h1 : -2147483648 ≤ n) (h2 : n < 2147483648) : n.bmod (2 ^ 32) = n := Int.bmod_eq_of_le (by omega) (by omega)
theorem i32_div {a b : Nat} (ha : a < 2147483648) (hb : b < 2147483648) : i32 a / i32 b = i32 (a / b) := by
  apply Int32.toInt_inj.mp
  have hq : a / b < 2147483648 := Nat.lt_of_le_of_lt (Nat.div_le_self a b) ha
  rw [Int32.toInt_div, i32_toInt ha, i32_toInt hb, i32_toInt hq, Int.tdiv_eq_ediv_of_nonneg (by omega)]
  have e : (a : Int) / (b : Int) = ((a / b : Nat) : Int) := rfl
  rw [e]; exact bm32 (Int.le_trans (by decide) (Int.natCast_nonneg _)) (Int.ofNat_lt.mpr hq)
theorem i32_rem {a b : Nat} (ha : a < 2147483648) (hb : b < 2147483648) : i32 a % i32 b = i32 (a % b) := by
  apply Int32.toInt_inj.mp
  have hq : a % b < 2147483648 := Nat.lt_of_le_of_lt (Nat.mod_le a b) ha
  rw [Int32.toInt_mod, i32_toInt ha, i32_toInt hb, i32_toInt hq, Int.tmod_eq_emod_of_nonneg (by omega)]
  rfl
theorem i32_ushr1 {a : Nat} (ha : a < 2147483648) : XT.ushr (i32 a) 1 = i32 (a / 2) := by
  have h1 : (i32 a).toUInt32 = UInt32.ofNat a := rfl
  show ((i32 a).toUInt32 >>> ((1 : Int32) &&& 31).toUInt32).toInt32 = _
  rw [h1, show ((1 : Int32) &&& 31).toUInt32 = 1 from rfl]
  apply Int32.toBitVec_inj.mp
  show (UInt32.ofNat a >>> 1).toBitVec = BitVec.ofNat 32 (a / 2)
  apply BitVec.eq_of_toNat_eq
  show (UInt32.ofNat a >>> 1).toNat = (a / 2) % 2 ^ 32
  rw [UInt32.toNat_shiftRight]
  have e2 : (UInt32.ofNat a).toNat = a := by show a % 2 ^ 32 = a; omega
  rw [e2, show (1 : UInt32).toNat % 32 = 1 from rfl, Nat.shiftRight_eq_div_pow]; omega
theorem inb_i {i n : Nat} (h : i < n) (hn : n < 2147483648) : Inb (i32 i) (i32 n) := ⟨i32_nn (Nat.lt_trans h hn), (i32_lt (Nat.lt_trans h hn) hn).mpr h⟩
/-! an array, whole -/
def AV (Z : State) (h : Heap) (a : Addr) (k : ClassId) (ty : FieldType) (vs : List Value) (dv : Value) : Prop := Arv Z h a k ty (i32 vs.length) vs dv ∧ vs.length < 2147483648
theorem AV.lt {a : Addr} {k : ClassId} {ty : FieldType} {vs : List Value} {dv : Value} (F : AV Z h a k ty vs dv) : @LT.lt Nat _ a h.size := F.1.lt
theorem exaLt {a : Addr} {Cn : String} (F : Exa Z h a Cn) : @LT.lt Nat _ a h.size := F.lt
theorem fldLt {a : Addr} {Cn n d : String} {v : Value} (F : Fld Z h a Cn n d v) : @LT.lt Nat _ a h.size := F.lt
theorem AV.ext {a : Addr} {k : ClassId} {ty : FieldType} {vs : List Value} {dv : Value} {h' : Heap} (F : AV Z h a k ty vs dv) (E : Ext h h') : AV Z h' a k ty vs dv := ⟨F.1.ext E, F.2⟩
theorem nn {a b : Nat} (h : @Ne Nat a b) : @Ne Addr a b := h
theorem AV.other {a b : Addr} {k : ClassId} {ty : FieldType} {vs : List Value} {dv v : Value} {sl : Nat} {h' : Heap} (F : AV Z h b k ty vs dv) (W : Wr h h' a sl v) (q : b ≠ a) : AV Z h' b k ty vs dv := ⟨F.1.other W q, F.2⟩
theorem AV.keep {a : Addr} {k : ClassId} {ty : FieldType} {vs : List Value} {dv : Value} {h' : Heap} {ws : List Addr} (F : AV Z h a k ty vs dv) (Kp : Keep h h' ws) (q : a ∉ ws) : AV Z h' a k ty vs dv := ⟨F.1.keep Kp q, F.2⟩
theorem AV.cast {a : Addr} {k : ClassId} {ty : FieldType} {vs vs' : List Value} {dv : Value} (F : AV Z h a k ty vs dv) (e : vs = vs') : AV Z h a k ty vs' dv := e ▸ F
theorem getD_of {vs : List Value} {i : Nat} {v dv : Value} (h : vs[i]? = some v) : vs.getD i dv = v := by simp [List.getD_eq_getElem?_getD, h]
theorem lt_of_get {α : Type} {vs : List α} {i : Nat} {v : α} (h : vs[i]? = some v) : i < vs.length := (List.getElem?_eq_some_iff.mp h).1
theorem r_lengthV (C : Ctx l R Z own nm code maxL ret fl n0 kz K) {a : Addr} {k : ClassId} {ty : FieldType} {vs : List Value} {dv : Value} (hd : decode code pc = .ok (.arraylength, 1)) (hp : pc + 1 = pc') {n : Nat} (A : AV Z h a k ty vs dv) (hn : vs.length = n) (r : Run l R n0 Q K h cells slots pc' Ls (.int (i32 n) :: st)) : Run l R n0 Q K h cells slots pc Ls (.ref a :: st) := by
  subst hn
  exact r_arraylength C hd hp A.1 r
theorem r_aaloadA (C : Ctx l R Z own nm code maxL ret fl n0 kz K) {a : Addr} {cl : Cell} {ty : FieldType} {j : Int32} {v : Value} (hd : decode code pc = .ok (.aaload, 1)) (hp : pc + 1 = pc') (A : Arr Z h a cl ty) (hty : ty.isReference = true) (hin : ¬ (j < 0 ∨ cl.slots.size ≤ j.toNatClampNeg)) (hv : cl.slots[j.toNatClampNeg]? = some v) (r : Run l R n0 Q K h cells slots pc' Ls (v :: st)) : Run l R n0 Q K h cells slots pc Ls (.int j :: .ref a :: st) :=
  Run.pure C (Or.inr trivial) (fun p e s m args below meth c hx hby hown hZ T locs X eT target kk => by
    subst hp
    exact X.aaload hx (by rw [eT]; exact A.1) (State.isArrayOf_alike hZ.alike A.2.1) hty A.2.2 hin hv (g := mkF m pc Ls (.int j :: .ref a :: st)) rfl rfl (hb hby hd) _ kk) r
theorem r_ialoadV (C : Ctx l R Z own nm code maxL ret fl n0 kz K) {a : Addr} {k : ClassId} {j : Int32} {i : Nat} {vs : List Value} {dv v : Value} (hd : decode code pc = .ok (.iaload, 1)) (hp : pc + 1 = pc') (A : AV Z h a k .int vs dv) (hj : j = i32 i) (hv : vs[i]? = some v) (r : Run l R n0 Q K h cells slots pc' Ls (v :: st)) : Run l R n0 Q K h cells slots pc Ls (.int j :: .ref a :: st) := by
  subst hj
  have hi := lt_of_get hv
  exact r_iaload C hd hp A.1 (inb_i hi A.2) (by rw [i32_clamp (Nat.lt_trans hi A.2)]; exact getD_of hv) r
theorem r_laloadV (C : Ctx l R Z own nm code maxL ret fl n0 kz K) {a : Addr} {k : ClassId} {j : Int32} {i : Nat} {vs : List Value} {dv v : Value} (hd : decode code pc = .ok (.laload, 1)) (hp : pc + 1 = pc') (A : AV Z h a k .long vs dv) (hj : j = i32 i) (hv : vs[i]? = some v) (r : Run l R n0 Q K h cells slots pc' Ls (v :: st)) : Run l R n0 Q K h cells slots pc Ls (.int j :: .ref a :: st) := by
  subst hj
  have hi := lt_of_get hv
  exact r_laload C hd hp A.1 (inb_i hi A.2) (by rw [i32_clamp (Nat.lt_trans hi A.2)]; exact getD_of hv) r
theorem r_caloadV (C : Ctx l R Z own nm code maxL ret fl n0 kz K) {a : Addr} {k : ClassId} {j : Int32} {i : Nat} {vs : List Value} {dv v : Value} (hd : decode code pc = .ok (.caload, 1)) (hp : pc + 1 = pc') (A : AV Z h a k .char vs dv) (hj : j = i32 i) (hv : vs[i]? = some v) (r : Run l R n0 Q K h cells slots pc' Ls (v :: st)) : Run l R n0 Q K h cells slots pc Ls (.int j :: .ref a :: st) := by
  subst hj
  have hi := lt_of_get hv
  exact r_caload C hd hp A.1 (inb_i hi A.2) (by rw [i32_clamp (Nat.lt_trans hi A.2)]; exact getD_of hv) r
theorem r_baloadV (C : Ctx l R Z own nm code maxL ret fl n0 kz K) {a : Addr} {k : ClassId} {j : Int32} {i : Nat} {vs : List Value} {dv v : Value} (hd : decode code pc = .ok (.baload, 1)) (hp : pc + 1 = pc') (A : AV Z h a k .byte vs dv) (hj : j = i32 i) (hv : vs[i]? = some v) (r : Run l R n0 Q K h cells slots pc' Ls (v :: st)) : Run l R n0 Q K h cells slots pc Ls (.int j :: .ref a :: st) := by
  subst hj
  have hi := lt_of_get hv
  exact r_baload C hd hp A.1 (inb_i hi A.2) (by rw [i32_clamp (Nat.lt_trans hi A.2)]; exact getD_of hv) r
theorem r_baloadZV (C : Ctx l R Z own nm code maxL ret fl n0 kz K) {a : Addr} {k : ClassId} {j : Int32} {i : Nat} {vs : List Value} {dv v : Value} (hd : decode code pc = .ok (.baload, 1)) (hp : pc + 1 = pc') (A : AV Z h a k .boolean vs dv) (hj : j = i32 i) (hv : vs[i]? = some v) (r : Run l R n0 Q K h cells slots pc' Ls (v :: st)) : Run l R n0 Q K h cells slots pc Ls (.int j :: .ref a :: st) := by
  subst hj
  have hi := lt_of_get hv
  exact r_baloadZ C hd hp A.1 (inb_i hi A.2) (by rw [i32_clamp (Nat.lt_trans hi A.2)]; exact getD_of hv) r
theorem r_aaloadV (C : Ctx l R Z own nm code maxL ret fl n0 kz K) {a : Addr} {k : ClassId} {ty : FieldType} {j : Int32} {i : Nat} {vs : List Value} {dv v : Value} (hd : decode code pc = .ok (.aaload, 1)) (hp : pc + 1 = pc') (A : AV Z h a k ty vs dv) (hty : ty.isReference = true) (hj : j = i32 i) (hv : vs[i]? = some v) (r : Run l R n0 Q K h cells slots pc' Ls (v :: st)) : Run l R n0 Q K h cells slots pc Ls (.int j :: .ref a :: st) := by
  subst hj
  have hi := lt_of_get hv
  exact r_aaload C hd hp A.1 hty (inb_i hi A.2) (by rw [i32_clamp (Nat.lt_trans hi A.2)]; exact getD_of hv) r
theorem r_iastoreV (C : Ctx l R Z own nm code maxL ret true n0 kz K) {a : Addr} {k : ClassId} {j : Int32} {i : Nat} {x : Int32} {vs : List Value} {dv : Value} (hd : decode code pc = .ok (.iastore, 1)) (hp : pc + 1 = pc') (A : AV Z h a k .int vs dv) (hj : j = i32 i) (hi : i < vs.length) (ge : n0 ≤ a) (r : ∀ h', Wr h h' a i (.int x) → AV Z h' a k .int (vs.set i (.int x)) dv → Run l R n0 Q K h' cells slots pc' Ls st) : Run l R n0 Q K h cells slots pc Ls (.int x :: .int j :: .ref a :: st) := by
  subst hj
  have e := i32_clamp (Nat.lt_trans hi A.2)
  refine r_iastore C hd hp A.1 (inb_i hi A.2) (by rw [e]; exact hi) ge fun h' W A' => ?_
  rw [e] at W A'
  exact r h' W ⟨by rw [List.length_set]; exact A', by rw [List.length_set]; exact A.2⟩
theorem r_lastoreV (C : Ctx l R Z own nm code maxL ret true n0 kz K) {a : Addr} {k : ClassId} {j : Int32} {i : Nat} {x : Int64} {vs : List Value} {dv : Value} (hd : decode code pc = .ok (.lastore, 1)) (hp : pc + 1 = pc') (A : AV Z h a k .long vs dv) (hj : j = i32 i) (hi : i < vs.length) (ge : n0 ≤ a) (r : ∀ h', Wr h h' a i (.long x) → AV Z h' a k .long (vs.set i (.long x)) dv → Run l R n0 Q K h' cells slots pc' Ls st) : Run l R n0 Q K h cells slots pc Ls (.long x :: .int j :: .ref a :: st) := by
  subst hj
  have e := i32_clamp (Nat.lt_trans hi A.2)
  refine r_lastore C hd hp A.1 (inb_i hi A.2) (by rw [e]; exact hi) ge fun h' W A' => ?_
  rw [e] at W A'
  exact r h' W ⟨by rw [List.length_set]; exact A', by rw [List.length_set]; exact A.2⟩
theorem r_castoreV (C : Ctx l R Z own nm code maxL ret true n0 kz K) {a : Addr} {k : ClassId} {j x : Int32} {i : Nat} {vs : List Value} {dv : Value} (hd : decode code pc = .ok (.castore, 1)) (hp : pc + 1 = pc') (A : AV Z h a k .char vs dv) (hj : j = i32 i) (hi : i < vs.length) (hf : fits .char (.int (nar .char x)) = true) (ge : n0 ≤ a) (r : ∀ h', Wr h h' a i (.int (nar .char x)) → AV Z h' a k .char (vs.set i (.int (nar .char x))) dv → Run l R n0 Q K h' cells slots pc' Ls st) : Run l R n0 Q K h cells slots pc Ls (.int x :: .int j :: .ref a :: st) := by
  subst hj
  have e := i32_clamp (Nat.lt_trans hi A.2)
  refine r_castore C hd hp A.1 (inb_i hi A.2) (by rw [e]; exact hi) hf ge fun h' W A' => ?_
  rw [e] at W A'
  exact r h' W ⟨by rw [List.length_set]; exact A', by rw [List.length_set]; exact A.2⟩
theorem r_bastoreV (C : Ctx l R Z own nm code maxL ret true n0 kz K) {a : Addr} {k : ClassId} {j x : Int32} {i : Nat} {vs : List Value} {dv : Value} (hd : decode code pc = .ok (.bastore, 1)) (hp : pc + 1 = pc') (A : AV Z h a k .byte vs dv) (hj : j = i32 i) (hi : i < vs.length) (hf : fits .byte (.int (nar .byte x)) = true) (ge : n0 ≤ a) (r : ∀ h', Wr h h' a i (.int (nar .byte x)) → AV Z h' a k .byte (vs.set i (.int (nar .byte x))) dv → Run l R n0 Q K h' cells slots pc' Ls st) : Run l R n0 Q K h cells slots pc Ls (.int x :: .int j :: .ref a :: st) := by
  subst hj
  have e := i32_clamp (Nat.lt_trans hi A.2)
  refine r_bastore C hd hp A.1 (inb_i hi A.2) (by rw [e]; exact hi) hf ge fun h' W A' => ?_
  rw [e] at W A'
  exact r h' W ⟨by rw [List.length_set]; exact A', by rw [List.length_set]; exact A.2⟩
theorem r_bastoreZV (C : Ctx l R Z own nm code maxL ret true n0 kz K) {a : Addr} {k : ClassId} {j x : Int32} {i : Nat} {vs : List Value} {dv : Value} (hd : decode code pc = .ok (.bastore, 1)) (hp : pc + 1 = pc') (A : AV Z h a k .boolean vs dv) (hj : j = i32 i) (hi : i < vs.length) (hf : fits .boolean (.int (nar .boolean x)) = true) (ge : n0 ≤ a) (r : ∀ h', Wr h h' a i (.int (nar .boolean x)) → AV Z h' a k .boolean (vs.set i (.int (nar .boolean x))) dv → Run l R n0 Q K h' cells slots pc' Ls st) : Run l R n0 Q K h cells slots pc Ls (.int x :: .int j :: .ref a :: st) := by
  subst hj
  have e := i32_clamp (Nat.lt_trans hi A.2)
  refine r_bastoreZ C hd hp A.1 (inb_i hi A.2) (by rw [e]; exact hi) hf ge fun h' W A' => ?_
  rw [e] at W A'
  exact r h' W ⟨by rw [List.length_set]; exact A', by rw [List.length_set]; exact A.2⟩
theorem r_aastoreV (C : Ctx l R Z own nm code maxL ret true n0 kz K) {a : Addr} {k : ClassId} {ty : FieldType} {j : Int32} {i : Nat} {v : Value} {vs : List Value} {dv : Value} (hd : decode code pc = .ok (.aastore, 1)) (hp : pc + 1 = pc') (A : AV Z h a k ty vs dv) (hty : ty.isReference = true) (hj : j = i32 i) (hi : i < vs.length) (F : Stv Z h k v) (ge : n0 ≤ a) (r : ∀ h', Wr h h' a i v → AV Z h' a k ty (vs.set i v) dv → Run l R n0 Q K h' cells slots pc' Ls st) : Run l R n0 Q K h cells slots pc Ls (v :: .int j :: .ref a :: st) := by
  subst hj
  have e := i32_clamp (Nat.lt_trans hi A.2)
  refine r_aastore C hd hp A.1 hty (inb_i hi A.2) (by rw [e]; exact hi) F ge fun h' W A' => ?_
  rw [e] at W A'
  exact r h' W ⟨by rw [List.length_set]; exact A', by rw [List.length_set]; exact A.2⟩
theorem av_new {a : Addr} {k : ClassId} {ty : FieldType} {m : Nat} {dv : Value} (hm : m < 2147483648) (A : Arv Z h a k ty (i32 m) [] dv) : AV Z h a k ty (List.replicate m dv) dv := by
  refine ⟨?_, by simpa using hm⟩
  rw [List.length_replicate]
  have := pad_rep [] dv m
  simp only [List.nil_append] at this
  exact A.pad this
theorem r_newarrayV (C : Ctx l R Z own nm code maxL ret fl n0 kz K) {aty : ArrayType} {ty : FieldType} {j : Int32} {m cap : Nat} (hd : decode code pc = .ok (.newarray aty, 2)) (hp : pc + 2 = pc') (hty : newarray.typeOf aty = ty) (w : (Jvm.Cond.arrayClass ty).before a0 Z = true) (hj : j = i32 m) (hcap : m ≤ cap) (hb' : cap * 8 ≤ 536870912) (hc : cells + 1 ≤ R.cells) (hl : slots + cap ≤ R.slots)
    (r : ∀ h' a k, a = h.size → Ext h h' → AV Z h' a k ty (List.replicate m (defaultValue ty)) (defaultValue ty) → Run l R n0 Q K h' (cells + 1) (slots + cap) pc' Ls (.ref a :: st)) : Run l R n0 Q K h cells slots pc Ls (.int j :: st) := by
  subst hj
  have hm : m < 2147483648 := by omega
  exact r_newarray C hd hp hty w (i32_nn hm) (by rw [i32_clamp hm]; exact hcap) hb' hc hl fun h' a k e E A => r h' a k e E (av_new hm A)
theorem r_anewarrayV (C : Ctx l R Z own nm code maxL ret fl n0 kz K) {idx : Nat} {Cn : String} {j : Int32} {m cap : Nat} (hd : decode code pc = .ok (.anewarray idx, 3)) (hp : pc + 3 = pc') (w : (Jvm.Cond.classLink own idx Cn).before a0 Z = true) (w2 : (Jvm.Cond.arrayOver (.object Cn)).before a0 Z = true) (hj : j = i32 m) (hcap : m ≤ cap) (hb' : cap * 8 ≤ 536870912) (hc : cells + 1 ≤ R.cells) (hl : slots + cap ≤ R.slots)
    (r : ∀ h' a k, a = h.size → Ext h h' → AV Z h' a k (.object Cn) (List.replicate m .null) .null → Ovr Z k Cn → Run l R n0 Q K h' (cells + 1) (slots + cap) pc' Ls (.ref a :: st)) : Run l R n0 Q K h cells slots pc Ls (.int j :: st) := by
  subst hj
  have hm : m < 2147483648 := by omega
  exact r_anewarray C hd hp w w2 (i32_nn hm) (by rw [i32_clamp hm]; exact hcap) hb' hc hl fun h' a k e E A O => r h' a k e E (av_new hm A) O
theorem Keep.mono {h0 h' : Heap} {ws ws' : List Addr} (Kp : Keep h0 h' ws) (q : ∀ x ∈ ws, x ∈ ws') : Keep h0 h' ws' := ⟨Kp.1, fun x c hx r => Kp.2.1 x c hx fun z => r (q x z), Kp.2.2⟩
theorem Sta.keep {h' : Heap} {ws : List Addr} {Cn n d : String} {v : Value} (X : Old Z n0 h) (F : Sta Z Z.heap Cn n d v) : Sta Z h Cn n d v := F.ext X.2
/-! String constants -/
abbrev STR : String := "java/lang/String"
/-- a Latin-1 String: its object, its byte[] -/
def Str (Z : State) (h : Heap) (a b : Nat) (k : ClassId) (bs : List Int32) : Prop := Exa Z h a "java/lang/String" ∧ Fld Z h a "java/lang/String" "coder" "B" (.int 0) ∧ Fld Z h a "java/lang/String" "value" "[B" (.ref b) ∧ AV Z h b k .byte (bs.map Value.int) (.int 0)
theorem Str.ext {a b : Nat} {k : ClassId} {bs : List Int32} {h' : Heap} (F : Str Z h a b k bs) (E : Ext h h') : Str Z h' a b k bs := ⟨F.1.ext E, F.2.1.ext E, F.2.2.1.ext E, F.2.2.2.ext E⟩
theorem Str.keep {a b : Nat} {k : ClassId} {bs : List Int32} {h' : Heap} {ws : List Addr} (F : Str Z h a b k bs) (Kp : Keep h h' ws) (q1 : a ∉ ws) (q2 : b ∉ ws) : Str Z h' a b k bs := ⟨F.1.keep Kp, F.2.1.keep Kp q1, F.2.2.1.keep Kp q1, F.2.2.2.keep Kp q2⟩
theorem Str.other {a b x : Nat} {k : ClassId} {bs : List Int32} {h' : Heap} {sl : Nat} {v : Value} (F : Str Z h a b k bs) (W : Wr h h' x sl v) (q1 : a ≠ x) (q2 : b ≠ x) : Str Z h' a b k bs := ⟨F.1.wr W, F.2.1.other W (Or.inl q1), F.2.2.1.other W (Or.inl q1), F.2.2.2.other W q2⟩
theorem Str.lt {a b : Nat} {k : ClassId} {bs : List Int32} (F : Str Z h a b k bs) : a < h.size ∧ b < h.size := ⟨F.1.lt, F.2.2.2.lt⟩
theorem Lit.warm {vm vm' : Vm} {cn : String} {i : Nat} {a : Addr} (L : Lit (Z.setVm vm) cn i a) {s : State} (hW : (s.setVm vm).WarmedH vm') : Lit (Z.setVm vm') cn i a := (State.resolvedAt?_warmed39 (s := s.setVm vm) hW.wide L : (s.setVm vm').resolvedAt? cn i = _)
theorem IB.warm {vm vm' : Vm} {Ts : List String} (I : IB Z vm Ts) {s : State} (hW : (s.setVm vm).WarmedH vm') : IB Z vm' Ts := by
  obtain ⟨more, e, hm⟩ := I
  exact ⟨more, (hW.interned_eq).trans e, hm⟩
theorem KS_Kw {Pl : List Loc → Prop} {vm : Vm} : KS (Kw K Pl vm) = (KS K).setVm vm := by
  obtain ⟨_, En, p, e, s, m, args, below, meth, c⟩ := K; rfl
/-- the first load of a String constant, nothing yet written to what stood at the body's start -/
theorem r_ldcS {h0 : Heap} {vm : Vm} {k : Nat} {idx n : Nat} {text : String} {Ts : List String} {bs : List Int32} (W : Wb l R Z own nm code maxL ret n0 h0 K) (D : Sn K vm k) (hk : k ≤ h.size) (hd : decode code pc = .ok (.ldc idx, 2)) (hp : pc + 2 = pc') (w : (Jvm.Cond.stringLink own idx text).before a0 Z = true) (wS : ∀ a ∈ Bundle.stringAtoms, a.before a0 Z = true) (hkeep : ∀ (b : Addr) (cl : Cell), Z.heap[b]? = some cl → h0[b]? = some cl)
    (I : IB Z vm Ts) (hnot : text ∉ Ts) (hh : Jvm.Lit.constHeld Z own idx) (hcw : Jvm.Lit.compactW.before a0 Z = true) (ht : (∀ c ∈ text.toList, c.toNat < 256) ∧ text.toList.map (fun c => Value.int (Jvm.Lit.byteI c.toNat.toUInt16)) = bs.map Value.int) (hbl : bs.length < 2147483648) (hn : 4 * text.toList.length ≤ n) (hbig : n ≤ 536870912) (hc : cells + 2 ≤ R.cells) (hl : slots + (n + 4) ≤ R.slots)
    (r : ∀ vm' k' h' a b kb, Sn K vm' k' → k' ≤ h'.size → Ext h h' → Str Z h' a b kb bs → IB Z vm' (text :: Ts) → Lit (Z.setVm vm') own idx a → (KS K).Since vm' k' → Run l R n0 Q (Kw K (· = []) vm') h' (cells + 2) (slots + (n + 4)) pc' Ls (.ref a :: st)) : Run l R n0 Q (Kw K (· = []) vm) h cells slots pc Ls st := by
  obtain ⟨Pl, En, p, e, s, m, args, below, meth, c⟩ := K
  intro T locs X eT N
  subst hp
  obtain ⟨w1, w2, w3, w4, w5, w6, w7, w8, w9, w10⟩ := W
  have N' : locs = [] := N
  have D' : s.Since vm k := D
  have hZ : Z.Warmed39 vm := State.Warmed39.trans w2 D'.1
  have hown : vm.findClass own = some m.cls := by rw [D'.1.alike.findClass]; exact w3
  have z31 : (i32 bs.length).toNatClampNeg = (bs.map Value.int).length := by rw [i32_clamp hbl, List.length_map]
  obtain ⟨a, T', h', k1, b, kb, r1, r2, r3, r4, r5, r6, r7, r8, r9, r10, r11, r12, r13, r14, r15, r16⟩ := ldcSVL (Z := Z) (s := s) X w1 hZ hown w wS eT D' hk (by rw [N']; exact Fr.nil _) (fun b cl q => by rw [w9]; exact hkeep b cl q) I hnot hh hcw ht (i32_nn hbl) z31 (g := mkF m pc Ls st) rfl (hb w4 hd) hn hbig hc hl
  obtain ⟨s2, o, q1, q2⟩ := r T'.vm k1 h' a b kb r4 r5 r3 ⟨r8, r9, r10, ⟨by rw [List.length_map]; exact r11, by rw [List.length_map]; exact hbl⟩⟩ r14 r15 r4 T' locs r1 r2 N
  exact ⟨s2, o, r16 _ q1, q2⟩
theorem r_ldcA {Pl : List Loc → Prop} {h0 : Heap} {vm : Vm} {k : Nat} {idx : Nat} {text : String} {a : Addr} (W : Wb l R Z own nm code maxL ret n0 h0 K) (D : Sn K vm k) (hd : decode code pc = .ok (.ldc idx, 2)) (hp : pc + 2 = pc') (w : (Jvm.Cond.stringLink own idx text).before a0 Z = true) (L : Lit (Z.setVm vm) own idx a)
    (r : Run l R n0 Q (Kw K Pl vm) h cells slots pc' Ls (.ref a :: st)) : Run l R n0 Q (Kw K Pl vm) h cells slots pc Ls st := by
  obtain ⟨_, En, p, e, s, m, args, below, meth, c⟩ := K
  intro T locs X eT N
  subst hp
  obtain ⟨w1, w2, w3, w4, w5, w6, w7, w8, w9, w10⟩ := W
  have D' : s.Since vm k := D
  have hZ : Z.Warmed39 vm := State.Warmed39.trans w2 D'.1
  have hown : vm.findClass own = some m.cls := by rw [D'.1.alike.findClass]; exact w3
  obtain ⟨s2, o, q1, q2⟩ := r T locs X eT N
  exact ⟨s2, o, ldcAgain (Z := Z) (s := s) X w1 hZ hown w L (g := mkF m pc Ls st) rfl (hb w4 hd) _ q1, q2⟩
theorem ConW.back {y : MethodName} {bytes : ByteArray} {mL : Nat} {rt : Option FieldType} {rm : Room} {as : Array Value} {V : Vm → Prop} {Q' : Option Value → Heap → Vm → Prop} {len W : Nat} {p : Program} {e : Env} {below : List Frame} {s : State} {args : Array Value} (M : ConW l [] y bytes mL rt rm Z as h n0 V Q') (hZ : Z.Warmed39 s.vm) (wc : (Jvm.Cond.code y bytes mL rt).before a0 Z = true) (wz : (Jvm.Cond.initialized y.cls).before a0 Z = true) (hf : rm.frames + 1 ≤ R.frames) (hl : W + (mL + 11) + rm.locals ≤ R.locals) :
    BackS l R p e below s args y len W (fun A a => a = as ∧ A.U.heap = h ∧ A.cells + rm.cells ≤ R.cells ∧ A.slots + rm.slots ≤ R.slots ∧ V A.U.vm) (fun A _ v B => ∃ L, (Q' v B.U.heap B.U.vm ∧ Fr n0 L) ∧ B.locs = A.locs ++ L ∧ B.cells = A.cells + rm.cells ∧ B.slots = A.slots + rm.slots) :=
  BackS.of_freeW (bytes := bytes) (maxL := mL) (ret := rt) (E := fun _ _ o t L k n => k = rm.cells ∧ n = rm.slots ∧ ∃ v, o = .returned v ∧ (Q' v t.heap t.vm ∧ Fr n0 L)) M hf hl
    (fun m meth c A a Y hp => have hU : Z.Warmed39 A.U.vm := wtrans hZ Y.warmed
      ⟨by show (Jvm.Cond.and _ .tt).before a A.U = true; rw [Cond.before_and, mv hU wc]; rfl, mv hU wc, mv hU wz, hp.2.2.1, hp.2.2.2.1⟩)
    (fun m meth c A a g mk Y hp => ⟨hp.1, wtrans hZ Y.warmed, hp.2.1, hp.2.2.2.2⟩) (fun _ _ _ _ _ _ _ _ _ => trivial)
    (fun _ _ _ _ ⟨v, L, h1, h2, h3⟩ => ⟨L, _, _, h3, rfl, rfl, v, h1, h2⟩)
    (fun m meth c A a g mk v t L k n Y hp _ _ ⟨e1, e2, v', e3, e4⟩ => by cases e3; subst e1 e2; exact ⟨L, e4, rfl, rfl, rfl⟩)
/-- a static method that may intern -/
theorem r_callSW {h0 : Heap} {vm : Vm} {k0 : Nat} {idx : Nat} {y : MethodName} {bytes : ByteArray} {mL : Nat} {rt : Option FieldType} {rm : Room} {argsL : List Value} {V : Vm → Prop} {Q' : Option Value → Heap → Vm → Prop} {ps : List FieldType} {rr : Option FieldType} {W cells' slots' : Nat} {stk : List Value}
    (B : Wb l R Z own nm code maxL ret n0 h0 K) (D : Sn K vm k0) (hk0 : k0 ≤ h.size) (M : ConW l [] y bytes mL rt rm Z argsL.toArray h n0 V Q') (hV : ∀ vm', ((KS K).setVm vm).WarmedH vm' → V vm') (hd : decode code pc = .ok (.invokestatic idx, 3)) (hp : pc + 3 = pc') (v1 : (Jvm.Cond.methodLink own idx y).before a0 Z = true) (v2 : (Jvm.Cond.static y).before a0 Z = true) (v3 : (Jvm.Cond.initialized y.cls).before a0 Z = true) (v4 : (Jvm.Cond.code y bytes mL rt).before a0 Z = true)
    (hy : y.cls ≠ "java/lang/invoke/MethodHandle" ∧ y.cls ≠ "java/lang/invoke/VarHandle") (pd : parseMethodDescriptor y.desc = some ⟨ps, rr⟩) (hlen : argsL.length = ps.length) (hst : stk = argsL.reverse ++ st) (hsz : Ls.size = maxL) (hW : (st.map fun v => v.category).sum ≤ W)
    (hf : rm.frames + 1 ≤ R.frames) (hlo : W + (mL + 11) + rm.locals ≤ R.locals) (hc : cells + rm.cells ≤ R.cells) (hs : slots + rm.slots ≤ R.slots) (ec : cells + rm.cells = cells') (es : slots + rm.slots = slots')
    (r : ∀ v h' vm', Q' v h' vm' → h.size ≤ h'.size → Sn K vm' h'.size → Run l R n0 Q (Kw K (Fr n0) vm') h' cells' slots' pc' Ls (v.toList ++ st)) : Run l R n0 Q (Kw K (Fr n0) vm) h cells slots pc Ls stk := by
  obtain ⟨Pl, En, p, e, s, m, args, below, meth, c⟩ := K
  intro T locs X eT N
  obtain ⟨w1, w2, w3, w4, w5, w6, w7, w8, w9, w10⟩ := B
  have D' : s.Since vm k0 := D
  have hZ : Z.Warmed39 (s.setVm vm).vm := State.Warmed39.trans w2 D'.1
  have hown : (s.setVm vm).vm.findClass own = some m.cls := by rw [show (s.setVm vm).vm = vm from rfl, D'.1.alike.findClass]; exact w3
  have hx := w1
  subst hp hst ec es
  obtain ⟨v, _, ⟨T', L', k', n'⟩, -, X', hS, hgr, ⟨Lc, ⟨hQ, N'⟩, l', y', z'⟩, s'⟩ := callSS X hx (y := y) hown (mvT hZ v1) (mvT hZ v2) (mvT hZ v3) (mvT hZ v4) hy (ConW.back (W := W) M hZ v4 v3 hf hlo) (g := mkF m pc Ls (argsL.reverse ++ st)) rfl (by show Ls.size = _; rw [w5]; exact hsz) (argsL := argsL) (rest := st) (lenOf pd hlen) rfl (by show 2 * 0 + _ ≤ _; omega) (hb w4 hd) (fun vm₁ q => ⟨rfl, eT, hc, hs, hV vm₁ q⟩)
  dsimp only [Pt.U, Pt.locs, Pt.cells, Pt.slots] at X' hS hgr l' y' z' s' hQ N'
  subst l' y' z'
  have hk1 : k0 ≤ T.heap.size := by rw [eT]; exact hk0
  obtain ⟨s2, o, k1, k2⟩ := r v T'.heap T'.vm hQ (by rw [← eT]; exact hgr) (D'.trans hS (Nat.le_trans hk1 hgr)) T' _ X' rfl (Fr.app N N')
  exact ⟨s2, o, s'.trans k1, k2⟩
/-- a constructor that may intern -/
theorem r_callIW {h0 : Heap} {vm : Vm} {k0 : Nat} {idx : Nat} {y : MethodName} {a : Addr} {bytes : ByteArray} {mL : Nat} {rt : Option FieldType} {rm : Room} {argsL : List Value} {V : Vm → Prop} {Q' : Option Value → Heap → Vm → Prop} {ps : List FieldType} {rr : Option FieldType} {W cells' slots' : Nat} {stk : List Value}
    (B : Wb l R Z own nm code maxL ret n0 h0 K) (D : Sn K vm k0) (hk0 : k0 ≤ h.size) (M : ConW l [] y bytes mL none rm Z (.ref a :: argsL).toArray h n0 V Q') (hV : ∀ vm', ((KS K).setVm vm).WarmedH vm' → V vm') (hd : decode code pc = .ok (.invokespecial idx, 3)) (hp : pc + 3 = pc') (v1 : (Jvm.Cond.methodLink own idx y).before a0 Z = true) (v2 : (Jvm.Cond.instanceMethod y).before a0 Z = true) (v3 : (Jvm.Cond.initialized y.cls).before a0 Z = true) (v4 : (Jvm.Cond.code y bytes mL none).before a0 Z = true) (hin : y.name = "<init>")
    (hy : y.cls ≠ "java/lang/invoke/MethodHandle" ∧ y.cls ≠ "java/lang/invoke/VarHandle") (pd : parseMethodDescriptor y.desc = some ⟨ps, rr⟩) (hlen : argsL.length = ps.length) (hst : stk = argsL.reverse ++ .ref a :: st) (hsz : Ls.size = maxL) (hW : (st.map fun v => v.category).sum ≤ W)
    (hf : rm.frames + 1 ≤ R.frames) (hlo : W + (mL + 11) + rm.locals ≤ R.locals) (hc : cells + rm.cells ≤ R.cells) (hs : slots + rm.slots ≤ R.slots) (ec : cells + rm.cells = cells') (es : slots + rm.slots = slots')
    (r : ∀ v h' vm', Q' v h' vm' → h.size ≤ h'.size → Sn K vm' h'.size → Run l R n0 Q (Kw K (Fr n0) vm') h' cells' slots' pc' Ls (v.toList ++ st)) : Run l R n0 Q (Kw K (Fr n0) vm) h cells slots pc Ls stk := by
  obtain ⟨Pl, En, p, e, s, m, args, below, meth, c⟩ := K
  intro T locs X eT N
  obtain ⟨w1, w2, w3, w4, w5, w6, w7, w8, w9, w10⟩ := B
  have D' : s.Since vm k0 := D
  have hZ : Z.Warmed39 (s.setVm vm).vm := State.Warmed39.trans w2 D'.1
  have hown : (s.setVm vm).vm.findClass own = some m.cls := by rw [show (s.setVm vm).vm = vm from rfl, D'.1.alike.findClass]; exact w3
  have hx := w1
  subst hp hst ec es
  obtain ⟨v, _, ⟨T', L', k', n'⟩, -, X', hS, hgr, ⟨Lc, ⟨hQ, N'⟩, l', y', z'⟩, s'⟩ := X.specialBackS hx (y := y) hin hown (mvT hZ v1) (mvT hZ v2) (mvT hZ v4) hy (ConW.back (W := W) M hZ v4 v3 hf hlo) (g := mkF m pc Ls (argsL.reverse ++ .ref a :: st)) rfl (by show Ls.size = _; rw [w5]; exact hsz) (Steps.refl _) (a := a) (argsL := argsL) (rest := st) (lenOf pd hlen) rfl (by show 2 * 0 + _ ≤ _; omega) (hb w4 hd) (fun vm₁ q => ⟨rfl, eT, hc, hs, hV vm₁ q⟩)
  dsimp only [Pt.U, Pt.locs, Pt.cells, Pt.slots] at X' hS hgr l' y' z' s' hQ N'
  subst l' y' z'
  have hk1 : k0 ≤ T.heap.size := by rw [eT]; exact hk0
  obtain ⟨s2, o, k1, k2⟩ := r v T'.heap T'.vm hQ (by rw [← eT]; exact hgr) (D'.trans hS (Nat.le_trans hk1 hgr)) T' _ X' rfl (Fr.app N N')
  exact ⟨s2, o, s'.trans k1, k2⟩
/-- an instance method that may intern -/
theorem r_callVW {h0 : Heap} {vm : Vm} {k0 : Nat} {idx : Nat} {y z : MethodName} {Cn : String} {a : Addr} {bytes : ByteArray} {mL : Nat} {rt : Option FieldType} {rm : Room} {argsL : List Value} {V : Vm → Prop} {Q' : Option Value → Heap → Vm → Prop} {ps : List FieldType} {rr : Option FieldType} {W cells' slots' : Nat} {stk : List Value}
    (B : Wb l R Z own nm code maxL ret n0 h0 K) (D : Sn K vm k0) (hk0 : k0 ≤ h.size) (M : ConW l [] z bytes mL rt rm Z (.ref a :: argsL).toArray h n0 V Q') (E : Exa Z h a Cn) (hV : ∀ vm', ((KS K).setVm vm).WarmedH vm' → V vm') (hd : decode code pc = .ok (.invokevirtual idx, 3)) (hp : pc + 3 = pc') (v1 : (Jvm.Cond.methodLink own idx y).before a0 Z = true) (vd : (Jvm.Cond.declares y).before a0 Z = true) (nf : ∀ (s : State) (args : Array Value), Z.Warmed39 s.vm → NotFace s y) (vs : (Jvm.Cond.selects Cn y z).before a0 Z = true) (v2 : (Jvm.Cond.instanceMethod z).before a0 Z = true) (v3 : (Jvm.Cond.initialized z.cls).before a0 Z = true) (v4 : (Jvm.Cond.code z bytes mL rt).before a0 Z = true)
    (hy : y.cls ≠ "java/lang/invoke/MethodHandle" ∧ y.cls ≠ "java/lang/invoke/VarHandle") (pd : parseMethodDescriptor y.desc = some ⟨ps, rr⟩) (hlen : argsL.length = ps.length) (hst : stk = argsL.reverse ++ .ref a :: st) (hsz : Ls.size = maxL) (hW : (st.map fun v => v.category).sum ≤ W)
    (hf : rm.frames + 1 ≤ R.frames) (hlo : W + (mL + 11) + rm.locals ≤ R.locals) (hc : cells + rm.cells ≤ R.cells) (hs : slots + rm.slots ≤ R.slots) (ec : cells + rm.cells = cells') (es : slots + rm.slots = slots')
    (r : ∀ v h' vm', Q' v h' vm' → h.size ≤ h'.size → Sn K vm' h'.size → Run l R n0 Q (Kw K (Fr n0) vm') h' cells' slots' pc' Ls (v.toList ++ st)) : Run l R n0 Q (Kw K (Fr n0) vm) h cells slots pc Ls stk := by
  obtain ⟨Pl, En, p, e, s, m, args, below, meth, c⟩ := K
  intro T locs X eT N
  obtain ⟨w1, w2, w3, w4, w5, w6, w7, w8, w9, w10⟩ := B
  have D' : s.Since vm k0 := D
  have hZ : Z.Warmed39 (s.setVm vm).vm := State.Warmed39.trans w2 D'.1
  have hown : (s.setVm vm).vm.findClass own = some m.cls := by rw [show (s.setVm vm).vm = vm from rfl, D'.1.alike.findClass]; exact w3
  have hx := w1
  subst hp hst ec es
  obtain ⟨cq, kq, qa, qb, qc⟩ := isOf (T := T) hZ eT E
  obtain ⟨v, _, ⟨T', L', k', n'⟩, -, X', hS, hgr, ⟨Lc, ⟨hQ, N'⟩, l', y', z'⟩, s'⟩ := X.virtualBackS hx (y := y) (z := z) hown (mvT hZ v1) (mvT hZ vd) (nf (s.setVm vm) args hZ) (mvT hZ vs) (mvT hZ v2) hy (ConW.back (W := W) M hZ v4 v3 hf hlo) qa qc (g := mkF m pc Ls (argsL.reverse ++ .ref a :: st)) rfl (by show Ls.size = _; rw [w5]; exact hsz) (Steps.refl _) (argsL := argsL) (rest := st) (lenOf pd hlen) rfl (by show 2 * 0 + _ ≤ _; omega) (hb w4 hd) (fun vm₁ q => ⟨rfl, eT, hc, hs, hV vm₁ q⟩)
  dsimp only [Pt.U, Pt.locs, Pt.cells, Pt.slots] at X' hS hgr l' y' z' s' hQ N'
  subst l' y' z'
  have hk1 : k0 ≤ T.heap.size := by rw [eT]; exact hk0
  obtain ⟨s2, o, k1, k2⟩ := r v T'.heap T'.vm hQ (by rw [← eT]; exact hgr) (D'.trans hS (Nat.le_trans hk1 hgr)) T' _ X' rfl (Fr.app N N')
  exact ⟨s2, o, s'.trans k1, k2⟩
theorem r_return (C : Ctx l R Z own nm code maxL none fl n0 kz K) (hd : decode code pc = .ok (.return_, 1)) (hc : cells ≤ R.cells) (hs : slots ≤ R.slots) (hk : kz ≤ h.size) (q : ∀ vm, (KS K).WarmedH vm → Q none h vm) : Run l R n0 Q K h cells slots pc Ls [] := by
  obtain ⟨Pl, En, p, e, s, m, args, below, meth, c⟩ := K
  intro T locs X eT N
  obtain ⟨hx, hZ, hown, hby, hml, hret, hnm, hlk, hcl, hfr, hen⟩ := C
  obtain ⟨fs, hr, hrun, hended, hW, hsame⟩ := X.leave (v := none) (fun _ => rfl)
  exact ⟨_, _, X.returnOut hx hret (hb hby hd) hr, hrun, hended, none, locs, rfl, ⟨by show Q none T.heap _; rw [eT]; exact q _ hW, hfr _ N⟩, hen _ _ _ (by show kz ≤ T.heap.size; rw [eT]; exact hk) hW (hsame.mono hc hs)⟩
theorem r_ret {t : FieldType} (C : Ctx l R Z own nm code maxL (some t) fl n0 kz K) {i : Instr} {v : Value} (hd : decode code pc = .ok (i, 1)) (hn : narrow t v = v)
    (hi : (i = .ireturn ∧ (t = .int ∨ t = .boolean ∨ t = .byte ∨ t = .char ∨ t = .short) ∧ ∃ z, v = .int z) ∨ (i = .lreturn ∧ t = .long ∧ ∃ z, v = .long z) ∨ (i = .dreturn ∧ t = .double ∧ ∃ z, v = .double z) ∨ (i = .freturn ∧ t = .float ∧ ∃ z, v = .float z) ∨ (i = .areturn ∧ t.isReference = true ∧ v.isRef = true))
    (hc : cells ≤ R.cells) (hs : slots ≤ R.slots) (hk : kz ≤ h.size) (q : ∀ vm, (KS K).WarmedH vm → Q (some v) h vm) : Run l R n0 Q K h cells slots pc Ls (v :: st) := by
  obtain ⟨Pl, En, p, e, s, m, args, below, meth, c⟩ := K
  intro T locs X eT N
  obtain ⟨hx, hZ, hown, hby, hml, hret, hnm, hlk, hcl, hfr, hen⟩ := C
  obtain ⟨fs, hr, hrun, hended, hW, hsame⟩ := X.leave (v := some v) (fun hh => by rw [hret] at hh; cases hh)
  exact ⟨_, _, retOut X hx hret hn hi (hb hby hd) hr, hrun, hended, some v, locs, rfl, ⟨by show Q (some v) T.heap _; rw [eT]; exact q _ hW, hfr _ N⟩, hen _ _ _ (by show kz ≤ T.heap.size; rw [eT]; exact hk) hW (hsame.mono hc hs)⟩
theorem r_ireturn (C : Ctx l R Z own nm code maxL (some .int) fl n0 kz K) {x : Int32} (hd : decode code pc = .ok (.ireturn, 1)) (hc : cells ≤ R.cells) (hs : slots ≤ R.slots) (hk : kz ≤ h.size) (q : ∀ vm, (KS K).WarmedH vm → Q (some (.int x)) h vm) : Run l R n0 Q K h cells slots pc Ls (.int x :: st) :=
  r_ret C hd rfl (Or.inl ⟨rfl, Or.inl rfl, _, rfl⟩) hc hs hk q
theorem r_zreturn (C : Ctx l R Z own nm code maxL (some .boolean) fl n0 kz K) {x : Int32} (hd : decode code pc = .ok (.ireturn, 1)) (hn : narrow .boolean (.int x) = .int x) (hc : cells ≤ R.cells) (hs : slots ≤ R.slots) (hk : kz ≤ h.size) (q : ∀ vm, (KS K).WarmedH vm → Q (some (.int x)) h vm) : Run l R n0 Q K h cells slots pc Ls (.int x :: st) :=
  r_ret C hd hn (Or.inl ⟨rfl, Or.inr (Or.inl rfl), _, rfl⟩) hc hs hk q
theorem r_creturn (C : Ctx l R Z own nm code maxL (some .char) fl n0 kz K) {x : Int32} (hd : decode code pc = .ok (.ireturn, 1)) (hn : narrow .char (.int x) = .int x) (hc : cells ≤ R.cells) (hs : slots ≤ R.slots) (hk : kz ≤ h.size) (q : ∀ vm, (KS K).WarmedH vm → Q (some (.int x)) h vm) : Run l R n0 Q K h cells slots pc Ls (.int x :: st) :=
  r_ret C hd hn (Or.inl ⟨rfl, Or.inr (Or.inr (Or.inr (Or.inl rfl))), _, rfl⟩) hc hs hk q
theorem r_breturn (C : Ctx l R Z own nm code maxL (some .byte) fl n0 kz K) {x : Int32} (hd : decode code pc = .ok (.ireturn, 1)) (hn : narrow .byte (.int x) = .int x) (hc : cells ≤ R.cells) (hs : slots ≤ R.slots) (hk : kz ≤ h.size) (q : ∀ vm, (KS K).WarmedH vm → Q (some (.int x)) h vm) : Run l R n0 Q K h cells slots pc Ls (.int x :: st) :=
  r_ret C hd hn (Or.inl ⟨rfl, Or.inr (Or.inr (Or.inl rfl)), _, rfl⟩) hc hs hk q
theorem r_lreturn (C : Ctx l R Z own nm code maxL (some .long) fl n0 kz K) {x : Int64} (hd : decode code pc = .ok (.lreturn, 1)) (hc : cells ≤ R.cells) (hs : slots ≤ R.slots) (hk : kz ≤ h.size) (q : ∀ vm, (KS K).WarmedH vm → Q (some (.long x)) h vm) : Run l R n0 Q K h cells slots pc Ls (.long x :: st) :=
  r_ret C hd rfl (Or.inr (Or.inl ⟨rfl, rfl, _, rfl⟩)) hc hs hk q
theorem r_areturn {t : FieldType} (C : Ctx l R Z own nm code maxL (some t) fl n0 kz K) {v : Value} (hd : decode code pc = .ok (.areturn, 1)) (ht : t.isReference = true) (hv : v.isRef = true) (hc : cells ≤ R.cells) (hs : slots ≤ R.slots) (hk : kz ≤ h.size) (q : ∀ vm, (KS K).WarmedH vm → Q (some v) h vm) : Run l R n0 Q K h cells slots pc Ls (v :: st) :=
  r_ret C hd (by rcases ref_cases hv with rfl | ⟨z, rfl⟩ <;> cases t <;> first | rfl | (cases ht; done)) (Or.inr (Or.inr (Or.inr (Or.inr ⟨rfl, ht, hv⟩)))) hc hs hk q
end
abbrev i64 (n : Nat) : Int64 := Int64.ofNat n
theorem i64_toInt {n : Nat} (h : n < 9223372036854775808) : (i64 n).toInt = (n : Int) := Int64.toInt_ofNat_of_lt h
theorem i64_lt {a b : Nat} (ha : a < 9223372036854775808) (hb : b < 9223372036854775808) : i64 a < i64 b ↔ a < b := by
  rw [Int64.lt_iff_toInt_lt, i64_toInt ha, i64_toInt hb]; omega
theorem i64_eq {a b : Nat} (ha : a < 9223372036854775808) (hb : b < 9223372036854775808) : i64 a = i64 b ↔ a = b := by
  rw [← Int64.toInt_inj, i64_toInt ha, i64_toInt hb]; omega
theorem i64_add (a b : Nat) : i64 a + i64 b = i64 (a + b) := (Int64.ofNat_add a b).symm
theorem i64_mul (a b : Nat) : i64 a * i64 b = i64 (a * b) := (Int64.ofNat_mul a b).symm
theorem i64_sub {a b : Nat} (h : b ≤ a) : i64 a - i64 b = i64 (a - b) := by
  have e : i64 a = i64 (a - b) + i64 b := by rw [i64_add]; congr 1; omega
  rw [e, Int64.add_sub_cancel]
theorem i64_div {a b : Nat} (ha : a < 9223372036854775808) (hb : b < 9223372036854775808) : i64 a / i64 b = i64 (a / b) := by
  apply Int64.toInt_inj.mp
  have hq : a / b < 9223372036854775808 := Nat.lt_of_le_of_lt (Nat.div_le_self a b) ha
  rw [Int64.toInt_div, i64_toInt ha, i64_toInt hb, i64_toInt hq, Int.tdiv_eq_ediv_of_nonneg (by omega)]
  have e : (a : Int) / (b : Int) = ((a / b : Nat) : Int) := rfl
  rw [e]; exact Int.bmod_eq_of_le (by have := Int.natCast_nonneg (a / b); omega) (by omega)
theorem i64_rem {a b : Nat} (ha : a < 9223372036854775808) (hb : b < 9223372036854775808) : i64 a - (i64 a / i64 b) * i64 b = i64 (a % b) := by
  rw [i64_div ha hb, i64_mul, i64_sub (Nat.div_mul_le_self a b)]
  congr 1
  have := Nat.div_add_mod a b
  rw [Nat.mul_comm] at this; omega
theorem i64_of32 {n : Nat} (h : n < 2147483648) : (i32 n).toInt64 = i64 n := by
  rw [← Int64.toInt_inj, Int32.toInt_toInt64, i32_toInt h, i64_toInt (by omega)]
theorem i32_of64 {n : Nat} : (i64 n).toInt32 = i32 n := Int64.toInt32_ofNat
theorem i64_and (x : Int64) : ∃ n, n < 9223372036854775808 ∧ x &&& 9223372036854775807 = i64 n := by
  have h : (x &&& 9223372036854775807).toBitVec.toNat ≤ 9223372036854775807 := by
    rw [Int64.toBitVec_and, BitVec.toNat_and]; exact Nat.and_le_right
  refine ⟨(x &&& 9223372036854775807).toBitVec.toNat, by omega, ?_⟩
  apply Int64.toBitVec_inj.mp
  apply BitVec.eq_of_toNat_eq
  show _ = _ % 2 ^ 64
  omega
theorem i32_and (x : Int32) : ∃ n, n < 2147483648 ∧ x &&& 2147483647 = i32 n := by
  have h : (x &&& 2147483647).toBitVec.toNat ≤ 2147483647 := by
    rw [Int32.toBitVec_and, BitVec.toNat_and]; exact Nat.and_le_right
  refine ⟨(x &&& 2147483647).toBitVec.toNat, by omega, ?_⟩
  apply Int32.toBitVec_inj.mp
  apply BitVec.eq_of_toNat_eq
  show _ = _ % 2 ^ 32
  omega
def by8 (c : Nat) : Int32 := (i32 c).toInt8.toInt32
abbrev ch16 (x : Int32) : Int32 := x.toUInt32.toUInt16.toUInt32.toInt32
theorem own_byF : ∀ c : Fin 256, (by8 c &&& 255).toUInt32.toUInt16.toUInt32.toInt32 = i32 c := by decide +kernel
theorem own_byte {c : Nat} (h : c < 256) : (by8 c &&& 255).toUInt32.toUInt16.toUInt32.toInt32 = i32 c := own_byF ⟨c, h⟩
theorem own_ch {c : Nat} (h : c < 65536) : (i32 c).toUInt32.toUInt16.toUInt32.toInt32 = i32 c := by
  apply Int32.toBitVec_inj.mp
  apply BitVec.eq_of_toNat_eq
  show ((UInt32.ofNat c).toUInt16.toUInt32).toNat = c % 2 ^ 32
  rw [UInt16.toNat_toUInt32, UInt32.toNat_toUInt16]
  show c % 2 ^ 32 % 2 ^ 16 = c % 2 ^ 32
  omega
theorem own_chn {c : Nat} (h : c < 65536) : nar .char (i32 c) = i32 c := own_ch h
theorem own_shr0 (x : Int32) : x >>> ((0 : Int32) &&& 31) = x := by
  show x >>> (0 : Int32) = x
  simp
theorem own_narF : ∀ c : Fin 65536, narrow .char (.int (i32 c)) = .int (i32 c) := fun c => by
  show Value.int ((i32 c).toUInt32.toUInt16.toUInt32.toInt32) = _
  rw [own_ch c.2]
theorem own_bynar (c : Nat) : nar .byte (by8 c) = by8 c := by
  show (by8 c).toInt8.toInt32 = _
  simp [by8]
theorem own_coder0 (n : Nat) : (XT.ushr (i32 n - i32 n) 31).toInt8.toInt32 = 0 := by
  rw [Int32.sub_self]; decide
/-- the statics that Strings read -/
def own_SS (Z : State) (cc : Int32) (fv : Value) : Prop := Sta Z Z.heap "java/lang/String" "COMPACT_STRINGS" "Z" (.int cc) ∧ cc ≠ 0 ∧ Sta Z Z.heap "jdk/internal/util/Preconditions" "SIOOBE_FORMATTER" "Ljava/util/function/BiFunction;" fv ∧ fv.isRef = true
/-- a Latin-1 String of these signs -/
abbrev St (Z : State) (h : Heap) (a b : Nat) (k : ClassId) (cs : List Nat) : Prop := Str Z h a b k (cs.map by8)
def vch (c : Nat) : Value := .int (i32 c)
theorem own_bget {cs : List Nat} {i c : Nat} (h : cs[i]? = some c) : ((cs.map by8).map Value.int)[i]? = some (.int (by8 c)) := by simp [h]
theorem own_cget {cs : List Nat} {i c : Nat} (h : cs[i]? = some c) : (cs.map vch)[i]? = some (.int (i32 c)) := by simp [h, vch]
theorem own_blen (cs : List Nat) : ((cs.map by8).map Value.int).length = cs.length := by simp
theorem own_clen (cs : List Nat) : (cs.map vch).length = cs.length := by simp
theorem own_tset {α : Type} (ws : List α) (i : Nat) (x : α) (h : i < ws.length) : (ws.set i x).take (i + 1) = ws.take i ++ [x] := by
  apply List.ext_getElem?
  intro j
  by_cases hj : j < i
  · rw [List.getElem?_take_of_lt (by omega), List.getElem?_set_ne (by omega), List.getElem?_append_left (by rw [List.length_take]; omega), List.getElem?_take_of_lt hj]
  · by_cases e : j = i
    · subst e
      rw [List.getElem?_take_of_lt (by omega), List.getElem?_set_self h, List.getElem?_append_right (by rw [List.length_take]; omega)]
      simp [List.length_take, Nat.min_eq_left (Nat.le_of_lt h)]
    · rw [List.getElem?_eq_none (by rw [List.length_take, List.length_set]; omega), List.getElem?_eq_none (by simp [List.length_take]; omega)]
theorem own_take1 {α : Type} {ws : List α} {i : Nat} {x : α} (h : ws[i]? = some x) : ws.take (i + 1) = ws.take i ++ [x] := by
  rw [List.take_add_one, h]; rfl
theorem own_drop1 {α : Type} {ws : List α} {i : Nat} {x : α} (h : ws[i]? = some x) : ws.drop i = x :: ws.drop (i + 1) := by
  obtain ⟨q, rfl⟩ := List.getElem?_eq_some_iff.mp h
  exact List.drop_eq_getElem_cons q
theorem Fld.inj {Z : State} {h : Heap} {a : Addr} {C n d : String} {v v' : Value} (F : Fld Z h a C n d v) (G : Fld Z h a C n d v') : v = v' := by
  obtain ⟨c1, cf1, k1, i1, f1, p1, p2, -, -, -, -, p3⟩ := F
  obtain ⟨c2, cf2, k2, i2, f2, q1, q2, -, -, -, -, q3⟩ := G
  rw [p1] at q1; cases q1
  rw [p2] at q2; cases q2
  rw [p3] at q3; exact Option.some.inj q3
theorem IB.at {Z : State} {K : Kx} {Pl : List Loc → Prop} {vm vm' : Vm} {Ts : List String} (I : IB Z vm Ts) (hW : (KS (Kw K Pl vm)).WarmedH vm') : IB Z vm' Ts := IB.warm I (s := KS K) (by rw [← KS_Kw (Pl := Pl)]; exact hW)
theorem IB.mono {Z : State} {vm : Vm} {Ts Ts' : List String} (I : IB Z vm Ts) (q : ∀ t ∈ Ts, t ∈ Ts') : IB Z vm Ts' := by
  obtain ⟨more, e, hm⟩ := I
  exact ⟨more, e, fun x hx => by obtain ⟨t, h1, h2⟩ := hm x hx; exact ⟨t, q t h1, h2⟩⟩
theorem Lit.at {Z : State} {K : Kx} {Pl : List Loc → Prop} {vm vm' : Vm} {cn : String} {i : Nat} {a : Addr} (L : Lit (Z.setVm vm) cn i a) (hW : (KS (Kw K Pl vm)).WarmedH vm') : Lit (Z.setVm vm') cn i a := Lit.warm L (s := KS K) (by rw [← KS_Kw (Pl := Pl)]; exact hW)
theorem i32_and255 (x : Int32) : ∃ n, n < 256 ∧ x &&& 255 = i32 n := by
  have h : (x &&& 255).toBitVec.toNat ≤ 255 := by
    rw [Int32.toBitVec_and, BitVec.toNat_and]; exact Nat.and_le_right
  refine ⟨(x &&& 255).toBitVec.toNat, by omega, ?_⟩
  apply Int32.toBitVec_inj.mp
  apply BitVec.eq_of_toNat_eq
  show _ = _ % 2 ^ 32
  omega
theorem by8_inj {c d : Nat} (hc : c < 256) (hd : d < 256) : by8 c = by8 d ↔ c = d := by
  constructor
  · intro e
    have h1 := own_byte hc
    rw [e, own_byte hd] at h1
    exact ((i32_eq (by omega) (by omega)).mp h1).symm
  · intro e; rw [e]
/-! UTF-16 Strings -/
def by16 (us : List Nat) : List Int32 := us.flatMap (fun c => [by8 c, by8 (c / 256)])
def US (Z : State) (h : Heap) (a b : Nat) (k : ClassId) (us : List Nat) : Prop := Exa Z h a "java/lang/String" ∧ Fld Z h a "java/lang/String" "coder" "B" (.int 1) ∧ Fld Z h a "java/lang/String" "value" "[B" (.ref b) ∧ AV Z h b k .byte ((by16 us).map Value.int) (.int 0)
theorem US.ext {Z : State} {h h' : Heap} {a b : Nat} {k : ClassId} {us : List Nat} (F : US Z h a b k us) (E : Ext h h') : US Z h' a b k us := ⟨F.1.ext E, F.2.1.ext E, F.2.2.1.ext E, F.2.2.2.ext E⟩
theorem US.keep {Z : State} {h h' : Heap} {a b : Nat} {k : ClassId} {us : List Nat} {ws : List Addr} (F : US Z h a b k us) (Kp : Keep h h' ws) (q1 : a ∉ ws) (q2 : b ∉ ws) : US Z h' a b k us := ⟨F.1.keep Kp, F.2.1.keep Kp q1, F.2.2.1.keep Kp q1, F.2.2.2.keep Kp q2⟩
def GS (Z : State) (h : Heap) (a b : Nat) (k : ClassId) (us : List Nat) : Prop := (St Z h a b k us ∧ ∀ c ∈ us, c < 256) ∨ (US Z h a b k us ∧ ∀ c ∈ us, c < 65536)
theorem GS.ext {Z : State} {h h' : Heap} {a b : Nat} {k : ClassId} {us : List Nat} (F : GS Z h a b k us) (E : Ext h h') : GS Z h' a b k us := F.elim (fun x => Or.inl ⟨x.1.ext E, x.2⟩) (fun x => Or.inr ⟨x.1.ext E, x.2⟩)
theorem GS.keep {Z : State} {h h' : Heap} {a b : Nat} {k : ClassId} {us : List Nat} {ws : List Addr} (F : GS Z h a b k us) (Kp : Keep h h' ws) (q1 : a ∉ ws) (q2 : b ∉ ws) : GS Z h' a b k us := F.elim (fun x => Or.inl ⟨x.1.keep Kp q1 q2, x.2⟩) (fun x => Or.inr ⟨x.1.keep Kp q1 q2, x.2⟩)
theorem GS.exa {Z : State} {h : Heap} {a b : Nat} {k : ClassId} {us : List Nat} (F : GS Z h a b k us) : Exa Z h a "java/lang/String" := F.elim (fun x => x.1.1) (fun x => x.1.1)
theorem GS.lt {Z : State} {h : Heap} {a b : Nat} {k : ClassId} {us : List Nat} (F : GS Z h a b k us) : a < h.size ∧ b < h.size := F.elim (fun x => ⟨exaLt x.1.1, x.1.2.2.2.lt⟩) (fun x => ⟨exaLt x.1.1, x.1.2.2.2.lt⟩)
theorem by16_len (us : List Nat) : ((by16 us).map Value.int).length = 2 * us.length := by
  rw [List.length_map, by16]
  induction us with
  | nil => rfl
  | cons c us ih => rw [List.flatMap_cons, List.length_append, ih]; simp; omega
theorem by16_get : ∀ (us : List Nat) (i c : Nat), us[i]? = some c → (by16 us)[2 * i]? = some (by8 c) ∧ (by16 us)[2 * i + 1]? = some (by8 (c / 256))
  | [], i, c, h => by simp at h
  | u :: us, 0, c, h => by
    simp at h; subst h; exact ⟨rfl, rfl⟩
  | u :: us, i + 1, c, h => by
    have h' : us[i]? = some c := by simpa using h
    have ih := by16_get us i c h'
    have e : by16 (u :: us) = by8 u :: by8 (u / 256) :: by16 us := rfl
    rw [e, show 2 * (i + 1) = 2 * i + 1 + 1 from by omega]
    exact ⟨by simpa using ih.1, by simpa using ih.2⟩
theorem own_uget0 {us : List Nat} {i c : Nat} (h : us[i]? = some c) : ((by16 us).map Value.int)[2 * i]? = some (.int (by8 c)) := by rw [List.getElem?_map, (by16_get us i c h).1]; rfl
theorem own_uget1 {us : List Nat} {i c : Nat} (h : us[i]? = some c) : ((by16 us).map Value.int)[2 * i + 1]? = some (.int (by8 (c / 256))) := by rw [List.getElem?_map, (by16_get us i c h).2]; rfl
theorem by8_mod (c : Nat) : by8 c = by8 (c % 256) := by
  have e : (i32 c).toInt8 = (i32 (c % 256)).toInt8 := by
    show (Int32.ofNat c).toInt8 = (Int32.ofNat (c % 256)).toInt8
    rw [Int32.toInt8_ofNat', Int32.toInt8_ofNat']
    apply Int8.toBitVec_inj.mp
    apply BitVec.eq_of_toNat_eq
    show c % 2 ^ 8 = (c % 256) % 2 ^ 8
    omega
  unfold by8; rw [e]
theorem by8_255F : ∀ c : Fin 256, by8 c &&& 255 = i32 c := by decide +kernel
theorem by8_255 (c : Nat) : by8 c &&& 255 = i32 (c % 256) := by
  rw [by8_mod]; exact by8_255F ⟨c % 256, by omega⟩
theorem own_glue {c : Nat} (h : c < 65536) : (i32 (c % 256) <<< ((0 : Int32) &&& 31)) ||| (i32 (c / 256 % 256) <<< ((8 : Int32) &&& 31)) = i32 c := by
  have e : ∀ a b : Nat, a < 256 → b < 256 → (i32 a <<< ((0 : Int32) &&& 31)) ||| (i32 b <<< ((8 : Int32) &&& 31)) = i32 (a + 256 * b) := by
    intro a b ha hb
    apply Int32.toBitVec_inj.mp
    apply BitVec.eq_of_toNat_eq
    show ((a % 2 ^ 32) <<< 0 % 2 ^ 32) ||| ((b % 2 ^ 32) <<< 8 % 2 ^ 32) = (a + 256 * b) % 2 ^ 32
    have e1 : (a % 2 ^ 32) <<< 0 % 2 ^ 32 = a := by rw [Nat.shiftLeft_eq]; omega
    have e2 : (b % 2 ^ 32) <<< 8 % 2 ^ 32 = b <<< 8 := by rw [Nat.shiftLeft_eq, Nat.shiftLeft_eq]; omega
    rw [e1, e2, Nat.or_comm, ← Nat.shiftLeft_add_eq_or_of_lt (by omega : a < 2 ^ 8), Nat.shiftLeft_eq]; omega
  rw [e _ _ (by omega) (by omega)]; congr 1; omega
theorem own_shl1 {n : Nat} (h : n < 1073741824) : i32 n <<< ((1 : Int32) &&& 31) = i32 (2 * n) := by
  apply Int32.toBitVec_inj.mp
  apply BitVec.eq_of_toNat_eq
  show (n % 2 ^ 32) <<< 1 % 2 ^ 32 = (2 * n) % 2 ^ 32
  rw [Nat.shiftLeft_eq]; omega
theorem own_sshr {n k : Nat} (h : n < 2147483648) : BitVec.sshiftRight (BitVec.ofNat 32 n) k = BitVec.ofNat 32 (n / 2 ^ k) := by
  have hm : (BitVec.ofNat 32 n).msb = false := by
    rw [BitVec.msb_eq_decide]; simp; omega
  rw [BitVec.sshiftRight_eq_of_msb_false hm]
  apply BitVec.eq_of_toNat_eq
  rw [BitVec.toNat_ushiftRight, Nat.shiftRight_eq_div_pow]
  show n % 2 ^ 32 / 2 ^ k = (n / 2 ^ k) % 2 ^ 32
  have hq : n / 2 ^ k ≤ n := Nat.div_le_self _ _
  rw [Nat.mod_eq_of_lt (by omega), Nat.mod_eq_of_lt (by omega)]
theorem own_shr1 {n : Nat} (h : n < 1073741824) : i32 (2 * n) >>> ((1 : Int32) &&& 31) = i32 n := by
  apply Int32.toBitVec_inj.mp
  show BitVec.sshiftRight (BitVec.ofNat 32 (2 * n)) 1 = BitVec.ofNat 32 n
  rw [own_sshr (by omega)]; congr 1; omega
theorem own_shr8 {n : Nat} (h : n < 2147483648) : i32 n >>> ((8 : Int32) &&& 31) = i32 (n / 256) := by
  apply Int32.toBitVec_inj.mp
  show BitVec.sshiftRight (BitVec.ofNat 32 n) 8 = BitVec.ofNat 32 (n / 256)
  rw [own_sshr h]
theorem own_coder1F : ∀ n : Fin 64, 0 < n.val → (XT.ushr (i32 n - i32 (2 * n)) 31).toInt8.toInt32 = 1 := by decide +kernel
theorem own_coder1 {n : Nat} (h : 0 < n) (h2 : n < 64) : (XT.ushr (i32 n - i32 (2 * n)) 31).toInt8.toInt32 = 1 := own_coder1F ⟨n, h2⟩ h
theorem i32_andm (x : Int32) (m : Nat) (hm : m < 2147483648) : ∃ n, n ≤ m ∧ x &&& i32 m = i32 n := by
  have h : (x &&& i32 m).toBitVec.toNat ≤ m := by
    rw [Int32.toBitVec_and, BitVec.toNat_and]
    refine Nat.le_trans Nat.and_le_right ?_
    show m % 2 ^ 32 ≤ m; omega
  refine ⟨(x &&& i32 m).toBitVec.toNat, h, ?_⟩
  apply Int32.toBitVec_inj.mp
  apply BitVec.eq_of_toNat_eq
  show _ = _ % 2 ^ 32
  omega
/-- the empty constant of String's own pool: not yet loaded, or loaded -/
def EE (Z : State) (h : Heap) (vm : Vm) : Prop := IB Z vm [] ∨ (IB Z vm [""] ∧ ∃ (lt lb : Nat) (lk : ClassId), Lit (Z.setVm vm) "java/lang/String" 7 lt ∧ Str Z h lt lb lk [])
theorem EE.keep {Z : State} {h h' : Heap} {vm : Vm} (E : EE Z h vm) (Kp : Keep h h' []) : EE Z h' vm := E.elim Or.inl (fun ⟨i, lt, lb, lk, l, t⟩ => Or.inr ⟨i, lt, lb, lk, l, t.keep Kp nin0 nin0⟩)
theorem EE.warm {Z s : State} {h : Heap} {vm vm' : Vm} (E : EE Z h vm) (hW : (s.setVm vm).WarmedH vm') : EE Z h vm' := E.elim (fun i => Or.inl (IB.warm i hW)) (fun ⟨i, lt, lb, lk, l, t⟩ => Or.inr ⟨IB.warm i hW, lt, lb, lk, Lit.warm l hW, t⟩)
theorem EE.at {Z : State} {K : Kx} {Pl : List Loc → Prop} {h : Heap} {vm vm' : Vm} (E : EE Z h vm) (hW : (KS (Kw K Pl vm)).WarmedH vm') : EE Z h vm' := EE.warm (s := KS K) E (by rw [← KS_Kw (Pl := Pl)]; exact hW)
theorem EE.ib {Z : State} {h : Heap} {vm : Vm} (E : EE Z h vm) : IB Z vm [""] := E.elim (fun i => IB.mono i (by simp)) (fun x => x.1)
def own_SU (Z : State) : Prop := Sta Z Z.heap "java/lang/StringUTF16" "$assertionsDisabled" "Z" (.int 1) ∧ Sta Z Z.heap "java/lang/StringUTF16" "HI_BYTE_SHIFT" "I" (.int 0) ∧ Sta Z Z.heap "java/lang/StringUTF16" "LO_BYTE_SHIFT" "I" (.int 8)
/-- System.arraycopy of a whole range of bytes (or of another plain kind) -/
theorem r_copy {l : Launch} {R : Room} {Z : State} {own nm : String} {code : ByteArray} {maxL : Nat} {ret : Option FieldType} {K : Kx} {n0 kz : Nat} {Q : Option Value → Heap → Vm → Prop} {h : Heap} {cells slots pc pc' : Nat} {Ls : Array Slot} {st : List Value} {a0 : Array Value} (C : Ctx l R Z own nm code maxL ret true n0 kz K) {idx : Nat} {a b : Addr} {k k' : ClassId} {ty : FieldType} {vs vd : List Value} {dv dd : Value} {sp dp n : Nat} {js jd jn : Int32} {W : Nat}
    (hd : decode code pc = .ok (.invokestatic idx, 3)) (hp : pc + 3 = pc') (w1 : (Jvm.Cond.methodLink own idx Jvm.Stand.acN).before a0 Z = true) (w2 : (Jvm.Cond.native Jvm.Stand.acN).before a0 Z = true) (w3 : (Jvm.Cond.static Jvm.Stand.acN).before a0 Z = true) (w4 : (Jvm.Cond.initialized "java/lang/System").before a0 Z = true) (A : AV Z h a k ty vs dv) (B : AV Z h b k' ty vd dd) (hr : refKind ty = false) (ejs : js = i32 sp) (ejd : jd = i32 dp) (ejn : jn = i32 n) (h4 : sp + n ≤ vs.length) (h5 : dp + n ≤ vd.length) (ge : n0 ≤ b) (hsz : Ls.size = maxL) (hf : 1 ≤ R.frames) (hW : (st.map fun v => v.category).sum ≤ W) (hlo : W + (nativeFrameWords "java/lang/System" "arraycopy" 5 + 11) ≤ R.locals)
    (r : ∀ h', Keep h h' [b] → AV Z h' b k' ty (vd.take dp ++ (vs.drop sp).take n ++ vd.drop (dp + n)) dd → Run l R n0 Q K h' cells slots pc' Ls st) : Run l R n0 Q K h cells slots pc Ls (.int jn :: .int jd :: .ref b :: .int js :: .ref a :: st) := by
  obtain ⟨Pl, En, p, e, s, m, args, below, meth, c⟩ := K
  intro T locs X eT N
  obtain ⟨hx, hZ, hown, hby, hml, -, hnm, -, hcl, hfr, -⟩ := C
  subst hp ejs ejd ejn
  have la := A.2
  have lb := B.2
  have c1 := i32_clamp (n := sp) (by omega)
  have c2 := i32_clamp (n := dp) (by omega)
  have c3 := i32_clamp (n := n) (by omega)
  have c4 := i32_clamp la
  have c5 := i32_clamp lb
  obtain ⟨T', h', L, X', eT', N', Kp, B', stp⟩ := cpA (W := W) X hx hZ hown w1 w2 w3 w4 eT A.1 B.1 (us := (vs.drop sp).take n) (Or.inl ⟨rfl, hr⟩) (i32_nn (n := sp) (by omega)) (i32_nn (n := dp) (by omega)) (i32_nn (n := n) (by omega)) (by rw [c1, c3, c4]; exact h4) (by rw [c2, c3, c5]; exact h5)
    (by
      rw [c1, c3]
      apply List.ext_getElem?
      intro i
      by_cases hi : i < n
      · rw [List.getElem?_take_of_lt hi, List.getElem?_drop, List.getElem?_map, List.getElem?_range hi]
        have : sp + i < vs.length := by omega
        simp [List.getD_eq_getElem?_getD, this]
      · rw [List.getElem?_eq_none (by rw [List.length_take]; omega), List.getElem?_eq_none (by simp; omega)]) (by rw [c2, c3]; exact h5) (hfr _ N) ge (g := mkF m pc Ls (.int (i32 n) :: .int (i32 dp) :: .ref b :: .int (i32 sp) :: .ref a :: st)) rfl (by show Ls.size = _; rw [hml]; exact hsz) rfl (hb hby hd) hf (by show 2 * 0 + _ ≤ _; omega) hlo
  rw [c2, c3] at B'
  have el : (vd.take dp ++ (vs.drop sp).take n ++ vd.drop (dp + n)).length = vd.length := by
    simp only [List.length_append, List.length_take, List.length_drop]; omega
  obtain ⟨s2, o, k1, k2⟩ := r h' Kp ⟨by rw [el]; exact B', by rw [el]; exact lb⟩ T' L X' eT' (hcl rfl _ N')
  exact ⟨s2, o, stp _ k1, k2⟩
/-- what stood at the start is as it was; what is written lies at n0 or above -/
def Od (Z : State) (n0 : Nat) (h : Heap) : Prop := Z.heap.size ≤ n0 ∧ Ext Z.heap h
theorem Od.start (s : State) : Od s s.heap.size s.heap := ⟨Nat.le_refl _, Nat.le_refl _, fun _ _ q => q⟩
theorem Od.ext {Z : State} {n0 : Nat} {h h' : Heap} (X : Od Z n0 h) (E : Ext h h') : Od Z n0 h' := ⟨X.1, Nat.le_trans X.2.1 E.1, fun x c q => E.2 x c (X.2.2 x c q)⟩
theorem Od.keep {Z : State} {n0 : Nat} {h h' : Heap} {ws : List Addr} (X : Od Z n0 h) (K : Keep h h' ws) (q : ∀ x ∈ ws, n0 ≤ x) : Od Z n0 h' := ⟨X.1, Nat.le_trans X.2.1 K.1, fun x c r => K.2.1 x c (X.2.2 x c r) fun z => absurd (Nat.lt_of_lt_of_le (Array.getElem?_eq_some_iff.mp r).1 X.1) (Nat.not_lt.mpr (q x z))⟩
theorem Od.wr {Z : State} {n0 : Nat} {h h' : Heap} {a : Addr} {sl : Nat} {v : Value} (X : Od Z n0 h) (W : Wr h h' a sl v) (q : n0 ≤ a) : Od Z n0 h' := X.keep (Keep.of_wr W) (allS q all0)
theorem Od.up {Z : State} {n0 n1 : Nat} {h : Heap} (X : Od Z n0 h) (q : n0 ≤ n1) : Od Z n1 h := ⟨Nat.le_trans X.1 q, X.2⟩
/-- a body that writes above n1 alone, where n0 is asked -/
theorem ConW.down {l : Launch} {ws : List Jvm.Cond} {y : MethodName} {code : ByteArray} {maxL : Nat} {ret : Option FieldType} {R : Room} {Z : State} {as : Array Value} {h : Heap} {n0 n1 : Nat} {V : Vm → Prop} {Q : Option Value → Heap → Vm → Prop} (r : ConW l ws y code maxL ret R Z as h n1 V Q) (q : n0 ≤ n1) : ConW l ws y code maxL ret R Z as h n0 V Q := by
  intro p e a1 a2 a3 s m args below a4 a5 a6 a7
  obtain ⟨s2, o, k1, k2, k3, v, L, k4, ⟨k5, k6⟩, k7⟩ := r p e a1 a2 a3 s m args below a4 a5 a6 a7
  exact ⟨s2, o, k1, k2, k3, v, L, k4, ⟨k5, fun y hy => Nat.le_trans q (k6 y hy)⟩, k7⟩
/-- the first load of a String constant, where all that was written is new since the body's start -/
theorem r_ldcSF {l : Launch} {R : Room} {Z : State} {own nm : String} {code : ByteArray} {maxL : Nat} {ret : Option FieldType} {K : Kx} {n0 : Nat} {Q : Option Value → Heap → Vm → Prop} {h : Heap} {cells slots pc pc' : Nat} {Ls : Array Slot} {st : List Value} {a0 : Array Value} {h0 : Heap} {vm : Vm} {k : Nat} {idx n : Nat} {text : String} {Ts : List String} {bs : List Int32} (W : Wb l R Z own nm code maxL ret n0 h0 K) (hn0 : h0.size ≤ n0) (D : Sn K vm k) (hk : k ≤ h.size) (hd : decode code pc = .ok (.ldc idx, 2)) (hp : pc + 2 = pc') (w : (Jvm.Cond.stringLink own idx text).before a0 Z = true) (wS : ∀ a ∈ Bundle.stringAtoms, a.before a0 Z = true) (hkeep : ∀ (b : Addr) (cl : Cell), Z.heap[b]? = some cl → h0[b]? = some cl)
    (I : IB Z vm Ts) (hnot : text ∉ Ts) (hh : Jvm.Lit.constHeld Z own idx) (hcw : Jvm.Lit.compactW.before a0 Z = true) (ht : (∀ c ∈ text.toList, c.toNat < 256) ∧ text.toList.map (fun c => Value.int (Jvm.Lit.byteI c.toNat.toUInt16)) = bs.map Value.int) (hbl : bs.length < 2147483648) (hn : 4 * text.toList.length ≤ n) (hbig : n ≤ 536870912) (hc : cells + 2 ≤ R.cells) (hl : slots + (n + 4) ≤ R.slots)
    (r : ∀ vm' k' h' a b kb, Sn K vm' k' → k' ≤ h'.size → Ext h h' → Str Z h' a b kb bs → IB Z vm' (text :: Ts) → Lit (Z.setVm vm') own idx a → (KS K).Since vm' k' → Run l R n0 Q (Kw K (Fr n0) vm') h' (cells + 2) (slots + (n + 4)) pc' Ls (.ref a :: st)) : Run l R n0 Q (Kw K (Fr n0) vm) h cells slots pc Ls st := by
  obtain ⟨Pl, En, p, e, s, m, args, below, meth, c⟩ := K
  intro T locs X eT N
  subst hp
  obtain ⟨w1, w2, w3, w4, w5, w6, w7, w8, w9, w10⟩ := W
  have N' : Fr n0 locs := N
  have D' : s.Since vm k := D
  have hZ : Z.Warmed39 vm := State.Warmed39.trans w2 D'.1
  have hown : vm.findClass own = some m.cls := by rw [D'.1.alike.findClass]; exact w3
  have z31 : (i32 bs.length).toNatClampNeg = (bs.map Value.int).length := by rw [i32_clamp hbl, List.length_map]
  obtain ⟨a, T', h', k1, b, kb, r1, r2, r3, r4, r5, r6, r7, r8, r9, r10, r11, r12, r13, r14, r15, r16⟩ := ldcSVL (Z := Z) (s := s) X w1 hZ hown w wS eT D' hk (fun y hy => by rw [w9]; exact Nat.le_trans hn0 (N' y hy)) (fun b cl q => by rw [w9]; exact hkeep b cl q) I hnot hh hcw ht (i32_nn hbl) z31 (g := mkF m pc Ls st) rfl (hb w4 hd) hn hbig hc hl
  obtain ⟨s2, o, q1, q2⟩ := r T'.vm k1 h' a b kb r4 r5 r3 ⟨r8, r9, r10, ⟨by rw [List.length_map]; exact r11, by rw [List.length_map]; exact hbl⟩⟩ r14 r15 r4 T' locs r1 r2 N
  exact ⟨s2, o, r16 _ q1, q2⟩
theorem nf_cls {Z : State} {a0 : Array Value} {y y' : MethodName} (h : y.cls = y'.cls) (w : (Jvm.Cond.instanceMethod y').before a0 Z = true) (nf : NotFace Z y') : NotFace Z y := fun r0 h0 => by
  obtain ⟨mk, -, hn, -⟩ := Cond.instanceMethod_spec w
  have e1 := findClass_of_methodNamed hn
  have e2 := findClass_of_methodNamed h0
  rw [h, e1] at e2
  obtain ⟨kr, q1, q2⟩ := nf mk hn
  exact ⟨kr, by rw [← Option.some.inj e2]; exact q1, q2⟩
theorem same_self {Z : State} {a0 : Array Value} {y : MethodName} (w : (Jvm.Cond.instanceMethod y).before a0 Z = true) (nf : NotFace Z y) (hy : y.cls ≠ "java/lang/invoke/MethodHandle" ∧ y.cls ≠ "java/lang/invoke/VarHandle") : (Jvm.Cond.sameMethod y.cls y.cls y.name y.desc).before a0 Z = true := by
  obtain ⟨mk, -, hn, -⟩ := Cond.instanceMethod_spec w
  have e1 := findClass_of_methodNamed hn
  have e2 := State.methodFound?_of_named hn hy
  obtain ⟨kr, q1, q2⟩ := nf mk hn
  have hn' : Z.methodNamed? ⟨y.cls, y.name, y.desc⟩ = some mk := hn
  simp [Cond.before, Cond.holds, Cond.value, e1, e2, hn', q1, q2]
section
variable {l : Launch} {R : Room} {Z : State} {own nm : String} {code : ByteArray} {maxL : Nat} {ret : Option FieldType} {K : Kx} {n0 kz : Nat} {Q : Option Value → Heap → Vm → Prop} {h : Heap} {cells slots pc pc' : Nat} {Ls : Array Slot} {st : List Value} {a0 : Array Value}
/-- super.m(..) by its contract -/
theorem r_callX (C : Ctx l R Z own nm code maxL ret true n0 kz K) {idx : Nat} {y : MethodName} {bytes : ByteArray} {mL : Nat} {rt : Option FieldType} {rm : Room} {a : Addr} {Kc : String} {argsL : List Value} {Q' : Option Value → Heap → Prop} {ps : List FieldType} {rr : Option FieldType} {W cells' slots' : Nat} {stk : List Value}
    (M : Con l [] y bytes mL rt rm Z (.ref a :: argsL).toArray h n0 Q') (F : Ins Z h a Kc true) (hd : decode code pc = .ok (.invokespecial idx, 3)) (hp : pc + 3 = pc') (w1 : (Jvm.Cond.methodLink own idx y).before a0 Z = true) (w2 : (Jvm.Cond.instanceMethod y).before a0 Z = true) (nf : NotFace Z y) (wsu : (Jvm.Cond.superclass own y.cls).before a0 Z = true) (w3 : (Jvm.Cond.initialized y.cls).before a0 Z = true) (w4 : (Jvm.Cond.code y bytes mL rt).before a0 Z = true) (hin : y.name ≠ "<init>")
    (hy : y.cls ≠ "java/lang/invoke/MethodHandle" ∧ y.cls ≠ "java/lang/invoke/VarHandle") (pd : parseMethodDescriptor y.desc = some ⟨ps, rr⟩) (hlen : argsL.length = ps.length) (hst : stk = argsL.reverse ++ .ref a :: st) (hsz : Ls.size = maxL) (hW : (st.map fun v => v.category).sum ≤ W)
    (hf : rm.frames + 1 ≤ R.frames) (hlo : W + (mL + 11) + rm.locals ≤ R.locals) (hc : cells + rm.cells ≤ R.cells) (hs : slots + rm.slots ≤ R.slots) (ec : cells + rm.cells = cells') (es : slots + rm.slots = slots')
    (r : ∀ v h', Q' v h' → Run l R n0 Q K h' cells' slots' pc' Ls (v.toList ++ st)) : Run l R n0 Q K h cells slots pc Ls stk := by
  obtain ⟨Pl, En, p, e, s, m, args, below, meth, c⟩ := K
  intro T locs X eT N
  obtain ⟨hx, hZ, hown, hby, hml, -, hnm, -, hcl, hfr, -⟩ := C
  subst hp hst ec es
  obtain ⟨v, _, ⟨T', L', k', n'⟩, -, X', ⟨Lc, ⟨hQ, N'⟩, l', y', z'⟩, s'⟩ := superBack X hx hZ (y := y) hown w1 (same_self w2 nf hy) w2 wsu hin (Con.back (W := W) M hZ w4 w3 hf hlo) eT F (g := mkF m pc Ls (argsL.reverse ++ .ref a :: st)) rfl (by show Ls.size = _; rw [hml]; exact hsz) w4 (argsL := argsL) (rest := st) (lenOf pd hlen) rfl (by show 2 * 0 + _ ≤ _; omega) (hb hby hd) (fun _ _ => ⟨rfl, eT, hc, hs⟩)
  dsimp only [Pt.U, Pt.locs, Pt.cells, Pt.slots] at X' l' y' z' s' hQ N'
  subst l' y' z'
  obtain ⟨s2, o, k1, k2⟩ := r v T'.heap hQ T' _ X' rfl (hcl rfl _ (Fr.app (hfr _ N) N'))
  exact ⟨s2, o, s'.trans k1, k2⟩
/-- a private method of a class above the object's -/
theorem r_callPX (C : Ctx l R Z own nm code maxL ret true n0 kz K) {idx : Nat} {y : MethodName} {bytes : ByteArray} {mL : Nat} {rt : Option FieldType} {rm : Room} {a : Addr} {Cn : String} {argsL : List Value} {Q' : Option Value → Heap → Prop} {ps : List FieldType} {rr : Option FieldType} {W cells' slots' : Nat} {stk : List Value}
    (M : Con l [] y bytes mL rt rm Z (.ref a :: argsL).toArray h n0 Q') (E : Exa Z h a Cn) (hd : decode code pc = .ok (.invokevirtual idx, 3)) (hp : pc + 3 = pc') (w1 : (Jvm.Cond.methodLink own idx y).before a0 Z = true) (w2 : (Jvm.Cond.instanceMethod y).before a0 Z = true) {Cs : String} (vs : (Jvm.Cond.selects Cs y y).before a0 Z = true) (wp : (Jvm.Cond.privateMethod y).before a0 Z = true) (w3 : (Jvm.Cond.initialized y.cls).before a0 Z = true) (w4 : (Jvm.Cond.code y bytes mL rt).before a0 Z = true)
    (hy : y.cls ≠ "java/lang/invoke/MethodHandle" ∧ y.cls ≠ "java/lang/invoke/VarHandle") (pd : parseMethodDescriptor y.desc = some ⟨ps, rr⟩) (hlen : argsL.length = ps.length) (hst : stk = argsL.reverse ++ .ref a :: st) (hsz : Ls.size = maxL) (hW : (st.map fun v => v.category).sum ≤ W)
    (hf : rm.frames + 1 ≤ R.frames) (hlo : W + (mL + 11) + rm.locals ≤ R.locals) (hc : cells + rm.cells ≤ R.cells) (hs : slots + rm.slots ≤ R.slots) (ec : cells + rm.cells = cells') (es : slots + rm.slots = slots')
    (r : ∀ v h', Q' v h' → Run l R n0 Q K h' cells' slots' pc' Ls (v.toList ++ st)) : Run l R n0 Q K h cells slots pc Ls stk := by
  obtain ⟨Pl, En, p, e, s, m, args, below, meth, c⟩ := K
  intro T locs X eT N
  obtain ⟨hx, hZ, hown, hby, hml, -, hnm, -, hcl, hfr, -⟩ := C
  subst hp hst ec es
  obtain ⟨cq, q1, q2⟩ := E.cell
  have hpr : s.PrivateAt y := Cond.privateMethod_at (mvP hZ wp (args := #[]))
  have hw2 : (Jvm.Cond.instanceMethod y).before args s = true := mvT hZ w2
  obtain ⟨mk, -, hn, -⟩ := Cond.instanceMethod_spec hw2
  obtain ⟨k2, hk2, hni⟩ := notFace_of_selects (mvT (args := args) hZ vs) mk hn
  have hsel := Stand.selects_self_of_private (findClass_of_methodNamed hn) hk2 hni hpr hw2 hy
  obtain ⟨v, _, ⟨T', L', k', n'⟩, -, X', ⟨Lc, ⟨hQ, N'⟩, l', y', z'⟩, s'⟩ := X.privateBack hx (y := y) hown (mvT hZ w1) hw2 hsel hpr (mvT hZ w4) hy (Con.back (W := W) M hZ w4 w3 hf hlo) (g := mkF m pc Ls (argsL.reverse ++ .ref a :: st)) rfl (by rw [hml]; exact hsz) (Steps.refl _) (a := a) (by rw [eT]; exact q1) q2 (argsL := argsL) (rest := st) (lenOf pd hlen) rfl (by show 2 * 0 + _ ≤ _; omega) (hb hby hd) (fun _ _ => ⟨rfl, eT, hc, hs⟩)
  dsimp only [Pt.U, Pt.locs, Pt.cells, Pt.slots] at X' l' y' z' s' hQ N'
  subst l' y' z'
  obtain ⟨s2, o, k1, k2⟩ := r v T'.heap hQ T' _ X' rfl (hcl rfl _ (Fr.app (hfr _ N) N'))
  exact ⟨s2, o, s'.trans k1, k2⟩
end
/-! arrays with their class known; clone -/
theorem r_newarrayE {l : Launch} {R : Room} {Z : State} {own nm : String} {code : ByteArray} {maxL : Nat} {ret : Option FieldType} {K : Kx} {fl : Bool} {n0 kz : Nat} {Q : Option Value → Heap → Vm → Prop} {h : Heap} {cells slots pc pc' : Nat} {Ls : Array Slot} {st : List Value} {a0 : Array Value} (C : Ctx l R Z own nm code maxL ret fl n0 kz K) {aty : ArrayType} {ty : FieldType} {ad : String} {j : Int32} {m cap : Nat} (hd : decode code pc = .ok (.newarray aty, 2)) (hp : pc + 2 = pc') (hty : newarray.typeOf aty = ty) (w : (Jvm.Cond.arrayClass ty).before a0 Z = true) (had : "[" ++ ty.toString = ad) (hj : j = i32 m) (hcap : m ≤ cap) (hb' : cap * 8 ≤ 536870912) (hc : cells + 1 ≤ R.cells) (hl : slots + cap ≤ R.slots)
    (r : ∀ h' a k, a = h.size → Ext h h' → AV Z h' a k ty (List.replicate m (defaultValue ty)) (defaultValue ty) → Exa Z h' a ad → Run l R n0 Q K h' (cells + 1) (slots + cap) pc' Ls (.ref a :: st)) : Run l R n0 Q K h cells slots pc Ls (.int j :: st) := by
  subst hp hty hj
  have hm : m < 2147483648 := by omega
  exact Run.move (cells' := cells + 1) (slots' := slots + cap) (pc' := pc + 2) (Ls' := Ls) (rest := .ref h.size :: st) C (fun p e s mm args below meth c hx hby hml hnm hown hZ T locs X eT => by
    obtain ⟨T', h', k, X', e', E, A, Ex, s'⟩ := newPE X hx hZ w eT (g := mkF mm pc Ls (.int (i32 m) :: st)) rfl (hb hby hd) rfl (i32_nn hm) (cap := cap) (by rw [i32_clamp hm]; exact hcap) hb' hc hl had
    exact ⟨T', h', X', e', r h' _ k rfl E (av_new hm (Arv.new A (i32_nn hm))) Ex, s'⟩)
theorem r_cloneV {l : Launch} {R : Room} {Z : State} {own nm : String} {code : ByteArray} {maxL : Nat} {ret : Option FieldType} {K : Kx} {fl : Bool} {n0 kz : Nat} {Q : Option Value → Heap → Vm → Prop} {h : Heap} {cells slots pc pc' : Nat} {Ls : Array Slot} {st : List Value} {a0 : Array Value} (C : Ctx l R Z own nm code maxL ret fl n0 kz K) {idx : Nat} {ad : String} {a : Addr} {k : ClassId} {ty : FieldType} {vs : List Value} {dv : Value} {W cap : Nat} (hd : decode code pc = .ok (.invokevirtual idx, 3)) (hp : pc + 3 = pc')
    (w1 : (Jvm.Cond.methodLink own idx ⟨ad, "clone", "()Ljava/lang/Object;"⟩).before a0 Z = true) (w2 : (Jvm.Cond.sameMethod ad "java/lang/Object" "clone" "()Ljava/lang/Object;").before a0 Z = true) (w3 : (Jvm.Cond.native ⟨"java/lang/Object", "clone", "()Ljava/lang/Object;"⟩).before a0 Z = true)
    (w4 : (Jvm.Cond.instanceMethod ⟨"java/lang/Object", "clone", "()Ljava/lang/Object;"⟩).before a0 Z = true) (w5 : (Jvm.Cond.selects ad ⟨ad, "clone", "()Ljava/lang/Object;"⟩ ⟨"java/lang/Object", "clone", "()Ljava/lang/Object;"⟩).before a0 Z = true) (w6 : (Jvm.Cond.castable ad "java/lang/Cloneable").before a0 Z = true) (A : AV Z h a k ty vs dv) (E : Exa Z h a ad) (hsz : Ls.size = maxL) (hf : 1 ≤ R.frames) (hW : (st.map fun v => v.category).sum ≤ W) (hlo : W + 14 ≤ R.locals) (hcap : vs.length ≤ cap) (hc : cells + 1 ≤ R.cells) (hl : slots + cap ≤ R.slots)
    (r : ∀ h' b, b = h.size → Ext h h' → AV Z h' b k ty vs dv → Exa Z h' b ad → Run l R n0 Q K h' (cells + 1) (slots + cap) pc' Ls (.ref b :: st)) : Run l R n0 Q K h cells slots pc Ls (.ref a :: st) := by
  subst hp
  exact Run.move (cells' := cells + 1) (slots' := slots + cap) (pc' := pc + 3) (Ls' := Ls) (rest := .ref h.size :: st) C (fun p e s mm args below meth c hx hby hml hnm hown hZ T locs X eT => by
    obtain ⟨⟨cl, A1, q1, S, q3, H, G⟩, hlen⟩ := A
    have FC : FitC Z cl := fitC_of A1 fun i hi v hv => by rw [H i hi] at hv; cases hv; exact G i hi
    obtain ⟨T', h', X', e', ex, A', E', s'⟩ := cloneA (W := W) X hx hZ hown w1 w2 w3 w4 w5 w6 eT A1 E FC (g := mkF mm pc Ls (.ref a :: st)) rfl (by show Ls.size = _; rw [hml]; exact hsz) rfl (hb hby hd) hf (by show 2 * 0 + _ ≤ _; omega) hlo (cap := cap) (by rw [S, i32_clamp hlen]; exact hcap) hc hl
    exact ⟨T', h', X', e', r h' _ rfl ex ⟨⟨cloneOf cl, A', q1, S, q3, H, G⟩, hlen⟩ E', s'⟩)
theorem Run.join {l : Launch} {R : Room} {n0 : Nat} {Q : Option Value → Heap → Vm → Prop} {K : Kx} {h h2 : Heap} {cells slots pc cells2 slots2 pc2 : Nat} {Ls Ls2 : Array Slot} {st st2 : List Value} (f : Run l R n0 Q K h2 cells2 slots2 pc2 Ls2 st2 → Run l R n0 Q K h cells slots pc Ls st) (g : Run l R n0 Q K h2 cells2 slots2 pc2 Ls2 st2) : Run l R n0 Q K h cells slots pc Ls st := f g
theorem AV.neLen {Z : State} {h : Heap} {a b : Addr} {k k' : ClassId} {ty ty' : FieldType} {vs vs' : List Value} {dv dv' : Value} (A : AV Z h a k ty vs dv) (B : AV Z h b k' ty' vs' dv') (q : vs.length ≠ vs'.length) : a ≠ b := fun e => by
  subst e
  obtain ⟨⟨c, A1, -, A2, -⟩, A3⟩ := A
  obtain ⟨⟨c', B1, -, B2, -⟩, B3⟩ := B
  obtain rfl : c = c' := Option.some.inj (A1.1.symm.trans B1.1)
  rw [i32_clamp A3] at A2
  rw [i32_clamp B3] at B2
  exact q (A2.symm.trans B2)
theorem Exa.neC {Z : State} {h : Heap} {a b : Addr} {C1 C2 : String} (A : Exa Z h a C1) (B : Exa Z h b C2) (q : C1 ≠ C2) : a ≠ b := fun e => by
  subst e
  obtain ⟨c, k, A1, A2, -⟩ := A
  obtain ⟨c', k', B1, B2, -⟩ := B
  obtain rfl : c = c' := Option.some.inj (A1.symm.trans B1)
  exact ids_ne A2 B2 q rfl
theorem i64_and255 (x : Int64) : ∃ n, n < 256 ∧ x &&& 255 = i64 n := by
  have e := c_maskL x 255 8 (by decide) rfl
  refine ⟨(x.toInt % 256).toNat, by omega, Int64.toInt_inj.mp ?_⟩
  rw [e, i64_toInt (by omega)]
  show x.toInt % 256 = _
  omega
theorem i64_abs (y : Int32) : (y < 0 → -(y.toInt64) = i64 y.toInt.natAbs) ∧ (¬ y < 0 → y.toInt64 = i64 y.toInt.natAbs) ∧ (y.toInt64 < 0 ↔ y < 0) := by
  have h1 := y.le_toInt
  have h2 := y.toInt_lt
  refine ⟨fun h => Int64.toInt_inj.mp ?_, fun h => Int64.toInt_inj.mp ?_, ?_⟩
  · have h0 : y.toInt < 0 := Int32.lt_iff_toInt_lt.mp h
    rw [Int64.toInt_neg, Int32.toInt_toInt64, i64_toInt (by omega), Int.bmod_eq_of_le (by omega) (by omega)]; omega
  · have h0 : ¬ y.toInt < 0 := fun z => h (Int32.lt_iff_toInt_lt.mpr z)
    rw [Int32.toInt_toInt64, i64_toInt (by omega)]; omega
  · rw [Int64.lt_iff_toInt_lt, Int32.lt_iff_toInt_lt, Int32.toInt_toInt64]; rfl
theorem r_anewarrayE {l : Launch} {R : Room} {Z : State} {own nm : String} {code : ByteArray} {maxL : Nat} {ret : Option FieldType} {K : Kx} {fl : Bool} {n0 kz : Nat} {Q : Option Value → Heap → Vm → Prop} {h : Heap} {cells slots pc pc' : Nat} {Ls : Array Slot} {st : List Value} {a0 : Array Value} (C : Ctx l R Z own nm code maxL ret fl n0 kz K) {idx : Nat} {Cn ad : String} {j : Int32} {m cap : Nat} (hd : decode code pc = .ok (.anewarray idx, 3)) (hp : pc + 3 = pc') (w : (Jvm.Cond.classLink own idx Cn).before a0 Z = true) (w2 : (Jvm.Cond.arrayOver (.object Cn)).before a0 Z = true) (had : "[" ++ (FieldType.object Cn).toString = ad) (hj : j = i32 m) (hcap : m ≤ cap) (hb' : cap * 8 ≤ 536870912) (hc : cells + 1 ≤ R.cells) (hl : slots + cap ≤ R.slots)
    (r : ∀ h' a k, a = h.size → Ext h h' → AV Z h' a k (.object Cn) (List.replicate m .null) .null → Exa Z h' a ad → Ovr Z k Cn → Run l R n0 Q K h' (cells + 1) (slots + cap) pc' Ls (.ref a :: st)) : Run l R n0 Q K h cells slots pc Ls (.int j :: st) := by
  subst hp hj
  have hm : m < 2147483648 := by omega
  exact Run.move (cells' := cells + 1) (slots' := slots + cap) (pc' := pc + 3) (Ls' := Ls) (rest := .ref h.size :: st) C (fun p e s mm args below meth c hx hby hml hnm hown hZ T locs X eT => by
    obtain ⟨T', h', k, X', e', E, A, Ex, O, s'⟩ := newRE X hx hZ hown w w2 eT (g := mkF mm pc Ls (.int (i32 m) :: st)) rfl (hb hby hd) rfl (i32_nn hm) (cap := cap) (by rw [i32_clamp hm]; exact hcap) hb' hc hl had
    exact ⟨T', h', X', e', r h' _ k rfl E (av_new hm (Arv.new A (i32_nn hm))) Ex O, s'⟩)
/-- the Class object of the class C, as the tables know it -/
def MirA (Z : State) (C : String) (m : Addr) : Prop := ∃ (c : ClassId) (k : Class), Z.vm.findClass C = some c ∧ Z.vm.classes[c]? = some k ∧ k.mirror = some m
theorem r_ldcM {l : Launch} {R : Room} {Z : State} {own nm : String} {code : ByteArray} {maxL : Nat} {ret : Option FieldType} {K : Kx} {fl : Bool} {n0 kz : Nat} {Q : Option Value → Heap → Vm → Prop} {h : Heap} {cells slots pc pc' : Nat} {Ls : Array Slot} {st : List Value} {a0 : Array Value} (C : Ctx l R Z own nm code maxL ret fl n0 kz K) {idx : Nat} {Cn : String} {m : Addr} (hd : decode code pc = .ok (.ldc idx, 2)) (hp : pc + 2 = pc') (w : (Jvm.Cond.classLink own idx Cn).before a0 Z = true) (M : MirA Z Cn m) (r : Run l R n0 Q K h cells slots pc' Ls (.ref m :: st)) : Run l R n0 Q K h cells slots pc Ls st := by
  subst hp
  exact Run.move (cells' := cells) (slots' := slots) (pc' := pc + 2) (Ls' := Ls) (rest := .ref m :: st) C (fun p e s mm args below meth c hx hby hml hnm hown hZ T locs X eT => by
    obtain ⟨cc, kc, m1, m2, m3⟩ := M
    obtain ⟨k', q, ek⟩ := hZ.alike.2.2 _ _ m2
    have hev : (Term.mirror Cn).eval args s none [] s = some (.ref m) := by
      have e1 : s.vm.findClass Cn = some cc := by rw [hZ.alike.findClass]; exact m1
      have e2 : k'.mirror = some m := by rw [ek]; exact m3
      simp [Term.eval, e1, q, e2]
    obtain ⟨vm', X', st'⟩ := X.ldcMirror hx hown (mv hZ w) hev (g := mkF mm pc Ls st) rfl (hb hby hd)
    exact ⟨_, h, X', eT, r, st'⟩)
theorem r_getClass {l : Launch} {R : Room} {Z : State} {own nm : String} {code : ByteArray} {maxL : Nat} {ret : Option FieldType} {K : Kx} {fl : Bool} {n0 kz : Nat} {Q : Option Value → Heap → Vm → Prop} {h : Heap} {cells slots pc pc' : Nat} {Ls : Array Slot} {st : List Value} {a0 : Array Value} (C : Ctx l R Z own nm code maxL ret fl n0 kz K) {idx : Nat} {Cn : String} {a m : Addr} {W : Nat} (hd : decode code pc = .ok (.invokevirtual idx, 3)) (hp : pc + 3 = pc')
    (w1 : (Jvm.Cond.methodLink own idx ⟨"java/lang/Object", "getClass", "()Ljava/lang/Class;"⟩).before a0 Z = true) (w2 : (Jvm.Cond.declares ⟨"java/lang/Object", "getClass", "()Ljava/lang/Class;"⟩).before a0 Z = true) (w4 : (Jvm.Cond.selects Cn ⟨"java/lang/Object", "getClass", "()Ljava/lang/Class;"⟩ ⟨"java/lang/Object", "getClass", "()Ljava/lang/Class;"⟩).before a0 Z = true)
    (w5 : (Jvm.Cond.instanceMethod ⟨"java/lang/Object", "getClass", "()Ljava/lang/Class;"⟩).before a0 Z = true) (w6 : (Jvm.Cond.native ⟨"java/lang/Object", "getClass", "()Ljava/lang/Class;"⟩).before a0 Z = true) (E : Exa Z h a Cn) (M : MirA Z Cn m) (hsz : Ls.size = maxL) (hf : 1 ≤ R.frames) (hW : (st.map fun v => v.category).sum ≤ W) (hlo : W + 14 ≤ R.locals)
    (r : Run l R n0 Q K h cells slots pc' Ls (.ref m :: st)) : Run l R n0 Q K h cells slots pc Ls (.ref a :: st) := by
  subst hp
  exact Run.move (cells' := cells) (slots' := slots) (pc' := pc + 3) (Ls' := Ls) (rest := .ref m :: st) C (fun p e s mm args below meth c hx hby hml hnm hown hZ T locs X eT => by
    obtain ⟨cB, kB, i1, i2, i3⟩ := isOf hZ eT E
    obtain ⟨cc, kc, m1, m2, m3⟩ := M
    rw [hZ.alike.findClass] at i1
    cases i1.symm.trans m1
    obtain ⟨k', q, ek⟩ := hZ.alike.2.2 _ _ m2
    obtain ⟨vm', X', st'⟩ := X.getClassOf hx hown (mvT hZ w1) (mvT hZ w2) (nfSel (z := ⟨"java/lang/Object", "getClass", "()Ljava/lang/Class;"⟩) w4 s #[] hZ) (mvT hZ w4) (mvT hZ w5) (mvT hZ w6) (by rw [hZ.alike.findClass]; exact m1) i3 q (by rw [ek]; exact m3) (g := mkF mm pc Ls (.ref a :: st)) rfl (by show Ls.size = _; rw [hml]; exact hsz) rfl (hb hby hd) hf (by show 2 * 0 + _ + (3 + 11) ≤ _; omega)
    exact ⟨_, h, X', eT, r, st'⟩)
theorem stoL_of {Z : State} {h : Heap} {b : Addr} {k : ClassId} {ty : FieldType} {vd : List Value} {dd : Value} (B : AV Z h b k ty vd dd) : ∀ us : List Value, (∀ v ∈ us, Stv Z h k v) → StoL Z h b us
  | [], _ => trivial
  | v :: r, H => ⟨by
      obtain ⟨⟨c, A, q, -⟩, -⟩ := B
      rcases H v (List.mem_cons_self ..) with rfl | ⟨y, Cn, rfl, O, I⟩
      · exact Or.inl rfl
      · exact Sto.ofV A q O I, stoL_of B r fun w hw => H w (List.mem_cons_of_mem _ hw)⟩
theorem r_copyR {l : Launch} {R : Room} {Z : State} {own nm : String} {code : ByteArray} {maxL : Nat} {ret : Option FieldType} {K : Kx} {n0 kz : Nat} {Q : Option Value → Heap → Vm → Prop} {h : Heap} {cells slots pc pc' : Nat} {Ls : Array Slot} {st : List Value} {a0 : Array Value} (C : Ctx l R Z own nm code maxL ret true n0 kz K) {idx : Nat} {a b : Addr} {k k' : ClassId} {ty ty' : FieldType} {vs vd : List Value} {dv dd : Value} {sp dp n : Nat} {js jd jn : Int32} {W : Nat}
    (hd : decode code pc = .ok (.invokestatic idx, 3)) (hp : pc + 3 = pc') (w1 : (Jvm.Cond.methodLink own idx Jvm.Stand.acN).before a0 Z = true) (w2 : (Jvm.Cond.native Jvm.Stand.acN).before a0 Z = true) (w3 : (Jvm.Cond.static Jvm.Stand.acN).before a0 Z = true) (w4 : (Jvm.Cond.initialized "java/lang/System").before a0 Z = true) (A : AV Z h a k ty vs dv) (B : AV Z h b k' ty' vd dd) (hr : refKind ty = true ∧ refKind ty' = true) (hus : ∀ v ∈ (vs.drop sp).take n, Stv Z h k' v) (ejs : js = i32 sp) (ejd : jd = i32 dp) (ejn : jn = i32 n) (h4 : sp + n ≤ vs.length) (h5 : dp + n ≤ vd.length) (ge : n0 ≤ b) (hsz : Ls.size = maxL) (hf : 1 ≤ R.frames) (hW : (st.map fun v => v.category).sum ≤ W) (hlo : W + (nativeFrameWords "java/lang/System" "arraycopy" 5 + 11) ≤ R.locals)
    (r : ∀ h', Keep h h' [b] → AV Z h' b k' ty' (vd.take dp ++ (vs.drop sp).take n ++ vd.drop (dp + n)) dd → Run l R n0 Q K h' cells slots pc' Ls st) : Run l R n0 Q K h cells slots pc Ls (.int jn :: .int jd :: .ref b :: .int js :: .ref a :: st) := by
  obtain ⟨Pl, En, p, e, s, m, args, below, meth, c⟩ := K
  intro T locs X eT N
  obtain ⟨hx, hZ, hown, hby, hml, -, hnm, -, hcl, hfr, -⟩ := C
  subst hp ejs ejd ejn
  have la := A.2
  have lb := B.2
  have c1 := i32_clamp (n := sp) (by omega)
  have c2 := i32_clamp (n := dp) (by omega)
  have c3 := i32_clamp (n := n) (by omega)
  have c4 := i32_clamp la
  have c5 := i32_clamp lb
  obtain ⟨T', h', L, X', eT', N', Kp, B', stp⟩ := cpA (W := W) X hx hZ hown w1 w2 w3 w4 eT A.1 B.1 (us := (vs.drop sp).take n) (Or.inr ⟨hr.1, hr.2, stoL_of B _ hus⟩) (i32_nn (n := sp) (by omega)) (i32_nn (n := dp) (by omega)) (i32_nn (n := n) (by omega)) (by rw [c1, c3, c4]; exact h4) (by rw [c2, c3, c5]; exact h5)
    (by
      rw [c1, c3]
      apply List.ext_getElem?
      intro i
      by_cases hi : i < n
      · rw [List.getElem?_take_of_lt hi, List.getElem?_drop, List.getElem?_map, List.getElem?_range hi]
        have : sp + i < vs.length := by omega
        simp [List.getD_eq_getElem?_getD, this]
      · rw [List.getElem?_eq_none (by rw [List.length_take]; omega), List.getElem?_eq_none (by simp; omega)]) (by rw [c2, c3]; exact h5) (hfr _ N) ge (g := mkF m pc Ls (.int (i32 n) :: .int (i32 dp) :: .ref b :: .int (i32 sp) :: .ref a :: st)) rfl (by show Ls.size = _; rw [hml]; exact hsz) rfl (hb hby hd) hf (by show 2 * 0 + _ ≤ _; omega) hlo
  rw [c2, c3] at B'
  have el : (vd.take dp ++ (vs.drop sp).take n ++ vd.drop (dp + n)).length = vd.length := by
    simp only [List.length_append, List.length_take, List.length_drop]; omega
  obtain ⟨s2, o, k1, k2⟩ := r h' Kp ⟨by rw [el]; exact B', by rw [el]; exact lb⟩ T' L X' eT' (hcl rfl _ N')
  exact ⟨s2, o, stp _ k1, k2⟩
theorem AV.neTy {Z : State} {h : Heap} {a b : Addr} {k k' : ClassId} {ty ty' : FieldType} {vs vs' : List Value} {dv dv' : Value} (A : AV Z h a k ty vs dv) (B : AV Z h b k' ty' vs' dv') (q : ty ≠ ty') : a ≠ b := fun e => by
  subst e
  obtain ⟨⟨c, A1, -⟩, -⟩ := A
  obtain ⟨⟨c', B1, -⟩, -⟩ := B
  obtain rfl : c = c' := Option.some.inj (A1.1.symm.trans B1.1)
  obtain ⟨-, k1, z1, c1, z2⟩ := A1.2.1
  obtain ⟨-, k2, y1, c2, y2⟩ := B1.2.1
  cases z1.symm.trans y1
  rw [z2] at y2
  cases y2
  exact q rfl
/-- r_ldcSF, and what was booked before stays booked -/
theorem r_ldcSG {l : Launch} {R : Room} {Z : State} {own nm : String} {code : ByteArray} {maxL : Nat} {ret : Option FieldType} {K : Kx} {n0 : Nat} {Q : Option Value → Heap → Vm → Prop} {h : Heap} {cells slots pc pc' : Nat} {Ls : Array Slot} {st : List Value} {a0 : Array Value} {h0 : Heap} {vm : Vm} {k : Nat} {idx n : Nat} {text : String} {Ts : List String} {bs : List Int32} (W : Wb l R Z own nm code maxL ret n0 h0 K) (hn0 : h0.size ≤ n0) (D : Sn K vm k) (hk : k ≤ h.size) (hk2 : h0.size ≤ h.size) (hd : decode code pc = .ok (.ldc idx, 2)) (hp : pc + 2 = pc') (w : (Jvm.Cond.stringLink own idx text).before a0 Z = true) (wS : ∀ a ∈ Bundle.stringAtoms, a.before a0 Z = true) (hkeep : ∀ (b : Addr) (cl : Cell), Z.heap[b]? = some cl → h0[b]? = some cl)
    (I : IB Z vm Ts) (hnot : text ∉ Ts) (hh : Jvm.Lit.constHeld Z own idx) (hcw : Jvm.Lit.compactW.before a0 Z = true) (ht : (∀ c ∈ text.toList, c.toNat < 256) ∧ text.toList.map (fun c => Value.int (Jvm.Lit.byteI c.toNat.toUInt16)) = bs.map Value.int) (hbl : bs.length < 2147483648) (hn : 4 * text.toList.length ≤ n) (hbig : n ≤ 536870912) (hc : cells + 2 ≤ R.cells) (hl : slots + (n + 4) ≤ R.slots)
    (r : ∀ vm' k' h' a b kb, Sn K vm' k' → k' ≤ h'.size → Ext h h' → Str Z h' a b kb bs → IB Z vm' (text :: Ts) → Lit (Z.setVm vm') own idx a → (∀ {cn : String} {i : Nat} {x : Addr}, Lit (Z.setVm vm) cn i x → Lit (Z.setVm vm') cn i x) → Run l R n0 Q (Kw K (Fr n0) vm') h' (cells + 2) (slots + (n + 4)) pc' Ls (.ref a :: st)) : Run l R n0 Q (Kw K (Fr n0) vm) h cells slots pc Ls st := by
  obtain ⟨Pl, En, p, e, s, m, args, below, meth, c⟩ := K
  intro T locs X eT N
  subst hp
  obtain ⟨w1, w2, w3, w4, w5, w6, w7, w8, w9, w10⟩ := W
  have N' : Fr n0 locs := N
  have D' : s.Since vm k := D
  have hZ : Z.Warmed39 vm := State.Warmed39.trans w2 D'.1
  have hown : vm.findClass own = some m.cls := by rw [D'.1.alike.findClass]; exact w3
  have z31 : (i32 bs.length).toNatClampNeg = (bs.map Value.int).length := by rw [i32_clamp hbl, List.length_map]
  have w9' : (s.setVm vm).heap = h0 := w9
  obtain ⟨a, T', h', k1, b, kb, r1, r2, r3, r4, r5, r6, r7, r8, r9, r10, r11, r12, r13, r14, r15, r16⟩ := ldcSVL (Z := Z) (s := s.setVm vm) (vm0 := vm) X w1 hZ hown w wS eT (since_refl (s.setVm vm)) (by rw [w9']; exact hk2) (fun y hy => by rw [w9']; exact Nat.le_trans hn0 (N' y hy)) (fun b cl q => by rw [w9']; exact hkeep b cl q) I hnot hh hcw ht (i32_nn hbl) z31 (g := mkF m pc Ls st) rfl (hb w4 hd) hn hbig hc hl
  have r4' : (s.setVm vm).Since T'.vm h'.size := ⟨r4.1, fun j p h1 h2 => ⟨(r4.2 j p h1 h2).1, Nat.lt_of_lt_of_le (r4.2 j p h1 h2).2 r5⟩⟩
  have D2 : s.Since T'.vm h'.size := D'.trans r4' (Nat.le_trans hk r3.1)
  obtain ⟨s2, o, q1, q2⟩ := r T'.vm h'.size h' a b kb D2 (Nat.le_refl _) r3 ⟨r8, r9, r10, ⟨by rw [List.length_map]; exact r11, by rw [List.length_map]; exact hbl⟩⟩ r14 r15 (fun L => (State.resolvedAt?_warmed39 (s := s.setVm vm) r4.1 L : (s.setVm T'.vm).resolvedAt? _ _ = _)) T' locs r1 r2 N
  exact ⟨s2, o, r16 _ q1, q2⟩
section
open Jvm.Free.HMW
/-- a function object's class stays one under tables that say the same of classes -/
theorem fnX_al {xi : MethodName} {cF : ClassId} {mk : MethodId} {Z s : State} (hal : Z.vm.Alike s.vm) (h : FnX xi cF mk Z) : FnX xi cF mk s := by
  obtain ⟨kF, methK, h1, h2, h3, h4, h5⟩ := h
  obtain ⟨kF', q, -⟩ := hal.2.2 _ _ h1
  refine ⟨kF', methK, q, by rw [hal.method?]; exact h2, h3, h4, fun r0 r hn hr => ?_⟩
  have hn' : (Z.setVm s.vm).methodNamed? xi = some r0 := hn
  rw [State.methodNamed?_setVm hal] at hn'
  rw [hal.method?] at hr
  obtain ⟨a, b, c⟩ := h5 r0 r hn' hr
  refine ⟨by rw [hal.assignable]; exact a, by rw [hal.selectMethod]; exact b, ?_⟩
  simp only [hal.superclasses, hal.declaredIn]
  exact c
/-- the made class of a site whose method casts its one argument to the class cS (pool entry i) and hands it to the static method t (entry j), as the start's tables have it -/
def Mad (Z : State) (cK cS : ClassId) (t : MethodId) (fw : ByteArray) (i j : Nat) : Prop :=
  ∃ (k : Class) (file : ClassFile) (methk : Method) (ck : Code) (ci nt : Nat) (d : ClassId) (name desc : String), Z.vm.classes[cK]? = some k ∧ k.cf = some file ∧ plainName k.name = true ∧ Z.vm.method? ⟨cK, 1⟩ = some methk ∧ methk.code = some ck ∧ ck.code = fw ∧ ck.maxLocals = 2 ∧ methk.locks = false ∧ methk.sig.returnType = some (.object "java/lang/Object") ∧
    k.resolved[i]? = some (some (.cls cS)) ∧ k.resolved[j]? = some (some (.method t)) ∧ (file.constantPool[j]? = some (.methodref ci nt) ∨ file.constantPool[j]? = some (.interfaceMethodref ci nt)) ∧ file.constantPool.nameAndType? nt = some (name, desc) ∧ k.resolved[ci]? = some (some (.cls d)) ∧ t.cls = d
theorem Mad.warm {Z : State} {vm : Vm} {cK cS : ClassId} {t : MethodId} {fw : ByteArray} {i j : Nat} (h : Mad Z cK cS t fw i j) (hW : Z.Warmed39 vm) : Mad (Z.setVm vm) cK cS t fw i j := by
  obtain ⟨k, file, methk, ck, ci, nt, d, name, desc, h1, h2, h3, h4, h5, h6, h7, h8, h9, h10, h11, h12, h13, h14, h15⟩ := h
  have hal := hW.alike
  obtain ⟨k', q, ek⟩ := hal.2.2 _ _ h1
  have en : ∀ (x : Nat) (r : Resolved), k.resolved[x]? = some (some r) → k'.resolved[x]? = some (some r) := fun x r hr => by
    rcases hW.entry h1 q x with z | ⟨z, -⟩
    · rw [z]; exact hr
    · rw [hr] at z; cases z
  exact ⟨k', file, methk, ck, ci, nt, d, name, desc, q, by rw [ek]; exact h2, by rw [ek]; exact h3, by show vm.method? _ = _; rw [hal.method?]; exact h4, h5, h6, h7, h8, h9, en _ _ h10, en _ _ h11, h12, h13, en _ _ h14, h15⟩
section
variable {p : Program} {l : Launch} {e : Env} {R : Room} {s : State} {m : MethodId} {args : Array Value} {below : List Frame} {meth : Method} {c : Code} {T : State} {locs : List Loc} {cells slots : Nat} {Z : State} {h : Heap} {a0 : Array Value} {n0 : Nat}
/-- the static method of a resolved entry, which may intern -/
theorem staticRW (Y : Stand p l e R s m args below meth c T locs cells slots) (hx : p.tables.exec = Jvm.exec) {g : JFrame} (hg : g.method = m) (hsize : g.locals.size = c.maxLocals) {index : Nat} {y : MethodName} {t : MethodId} {kt : Class} {metht : Method}
    {argsL rest : List Value} (href : plainRef T e m.cls index) (hr : T.vm.methodReady m.cls index t) (hkt : T.vm.classes[t.cls]? = some kt) (hmt : T.vm.method? t = some metht) (hpoly : signaturePolymorphic kt metht = false)
    (hstatic : metht.isStatic = true) (hinit : kt.init = .initialized) (hlen : argsL.length = metht.sig.parameters.length) (hstack : g.stack = argsL.reverse ++ rest) (hnamed : T.methodNamed? y = some t)
    {W : Nat} {Pre : Pt → Array Value → Prop} {Post : Pt → Array Value → Option Value → Pt → Prop} (hK : BackS l R p e below s args y 3 W Pre Post) (hW : 2 * g.monitorRoom + (rest.map fun v => v.category).sum ≤ W)
    (hpre : Pre ⟨T, locs, cells, slots⟩ argsL.toArray) (hdg : decode c.code g.pc = .ok (.invokestatic index, 3)) :
    ∃ (v : Option Value) (B : Pt), Stand p l e R (s.setVm B.U.vm) m args below meth c B.U B.locs B.cells B.slots ∧ s.Since B.U.vm B.U.heap.size ∧ T.heap.size ≤ B.U.heap.size ∧ Post ⟨T, locs, cells, slots⟩ argsL.toArray v B ∧ Steps p.tables e below (T.setTop g) (B.U.setTop { g with pc := g.pc + 3, stack := v.toList ++ rest }) := by
  subst hg
  obtain ⟨v, B, Y', hS, hgr, hpost, hsteps⟩ := hK g.method meth c ⟨T, locs, cells, slots⟩ { g with stack := rest } (.invokestatic index) t argsL.toArray Y rfl hsize hdg hW hnamed hpre
  refine ⟨v, B, Y', hS, hgr, hpost, Steps.trans ?_ hsteps⟩
  jvm_step Y.here [hx, hdg, invokestatic.wp_ready (e := e) (s := T) (m := t) (k := kt) (meth := metht) (args := argsL) (rest := rest) (f := g) Y.here.top href hr hkt hmt hpoly hstatic hinit hlen hstack]
  intro acts
  rw [doInvoke_state]
  exact Steps.refl _
/-- f.m(x) on a function object whose made method casts x and hands it to a static method that may intern -/
theorem lamCall (X : Stand p l e R s m args below meth c T locs cells slots) (hx : p.tables.exec = Jvm.exec) (hZ : Z.Warmed39 s.vm) {own : String} {idx count : Nat} {xi : MethodName} (hown : s.vm.findClass own = some m.cls)
    (v1 : (Jvm.Cond.methodLink own idx xi).before a0 Z = true) (v2 : (Jvm.Cond.declares xi).before a0 Z = true) (v3 : (Jvm.Cond.interfaceMethod xi.cls xi.cls xi.name xi.desc).before a0 Z = true) (hfa : ((Jvm.Cond.interfaceMethod xi.cls xi.cls xi.name xi.desc).onTables && (Jvm.Cond.interfaceMethod xi.cls xi.cls xi.name xi.desc).keepsFace) = true) (hxi : xi.cls ≠ "java/lang/invoke/MethodHandle" ∧ xi.cls ≠ "java/lang/invoke/VarHandle") {ps : List FieldType} {rr : Option FieldType} (pd : parseMethodDescriptor xi.desc = some ⟨ps, rr⟩) (hps : ps.length = 1)
    {f : Addr} {cF : Cell} (hF : FnX xi cF.cls ⟨cF.cls, 1⟩ Z) (eT : T.heap = h) (hf : h[f]? = some cF) (hfv : cF.vm = .none) {cS : ClassId} {t : MethodId} {fw : ByteArray} {i j : Nat} (Md : Mad Z cF.cls cS t fw i j)
    (f0 : decode fw 0 = .ok (.aload_n 1, 1)) (f1 : decode fw 1 = .ok (.checkcast i, 3)) (f4 : decode fw 4 = .ok (.invokestatic j, 3)) (f7 : decode fw 7 = .ok (.areturn, 1)) {sa : Addr} {SC : String} (hS : Z.vm.findClass SC = some cS) (E : Exa Z h sa SC)
    {y : MethodName} {bytes : ByteArray} {mL : Nat} {rt : Option FieldType} {rm : Room} {V : Vm → Prop} {Q' : Option Value → Heap → Vm → Prop} (M : ConW l [] y bytes mL rt rm Z #[.ref sa] h n0 V Q') (hV : ∀ vm', s.WarmedH vm' → V vm') (hQ : ∀ v h vm, Q' v h vm → ∃ z, v = some (.ref z))
    (y1 : (Jvm.Cond.static y).before a0 Z = true) (y2 : (Jvm.Cond.initialized y.cls).before a0 Z = true) (y3 : (Jvm.Cond.code y bytes mL rt).before a0 Z = true) (hy : y.cls ≠ "java/lang/invoke/MethodHandle" ∧ y.cls ≠ "java/lang/invoke/VarHandle") (hnt : Z.methodNamed? y = some t) {ps' : List FieldType} {rr' : Option FieldType} (pd' : parseMethodDescriptor y.desc = some ⟨ps', rr'⟩) (hps' : ps'.length = 1)
    {pc : Nat} {Ls : Array Slot} {rest : List Value} {W : Nat} (hdg : decode c.code pc = .ok (.invokeinterface idx count, 5)) (hsz : Ls.size = c.maxLocals) (hW : (rest.map fun v => v.category).sum ≤ W)
    (hfr : rm.frames + 2 ≤ R.frames) (hlo : W + 13 + (mL + 11) + rm.locals ≤ R.locals) (hc : cells + rm.cells ≤ R.cells) (hs : slots + rm.slots ≤ R.slots) :
    ∃ (v : Option Value) (T' : State) (L : List Loc), Stand p l e R (s.setVm T'.vm) m args below meth c T' (locs ++ L) (cells + rm.cells) (slots + rm.slots) ∧ s.Since T'.vm T'.heap.size ∧ T.heap.size ≤ T'.heap.size ∧ Q' v T'.heap T'.vm ∧ Fr n0 L ∧
      Steps p.tables e below (T.setTop (mkF m pc Ls (.ref sa :: .ref f :: rest))) (T'.setTop (mkF m (pc + 5) Ls (v.toList ++ rest))) := by
  have hal := hZ.alike
  obtain ⟨r0, r, hn, hrm, hstR, hsigR⟩ := Cond.declares_spec (mvT (args := args) hZ v2)
  obtain ⟨cL, kL, r1, hcL, hkL, hiL, -, hn1⟩ := Cond.interfaceMethod_spec (mvT (args := args) hZ v3 hfa)
  cases hn.symm.trans hn1
  have hr0cls : r0.cls = cL := Option.some.inj ((findClass_of_methodNamed hn).symm.trans hcL)
  obtain ⟨kF, methK, hkF, hmK, hpubK, habsK, hFn'⟩ := fnX_al hal hF
  obtain ⟨hasg, hselK, hwayK⟩ := hFn' r0 r hn hrm
  have hlen1 : [Value.ref sa].length = r.sig.parameters.length := by
    have := Option.some.inj (pd.symm.trans hsigR)
    rw [← this]; exact hps.symm
  obtain ⟨vm₁, X₁, hstep₁⟩ := X.invokeinterface hx hown (mvT hZ v1) hn hrm hstR (by rw [hr0cls]; exact hkL) hiL hxi (a := f) (cell := cF) (kcell := kF) (by rw [eT]; exact hf)
    (fun z q => by rw [hfv] at q; cases q) hkF hasg (m' := ⟨cF.cls, 1⟩) (meth' := methK) (by rw [Launch.admits_selectMethod X.admits]; exact hselK) hmK hwayK hpubK habsK
    (g := mkF m pc Ls (.ref sa :: .ref f :: rest)) rfl (argsL := [.ref sa]) (rest := rest) hlen1 rfl hdg
  have hW1 : Z.Warmed39 vm₁ := wtrans hZ X₁.warmed
  obtain ⟨k, file, methk, ck, ci, nt, d, name, desc, h1, h2, h3, h4, h5, h6, h7, h8, h9, h10, h11, h12, h13, h14, h15⟩ := Md.warm hW1
  have h1' : vm₁.classes[cF.cls]? = some k := h1
  have h4' : vm₁.method? ⟨cF.cls, 1⟩ = some methk := h4
  have hpk : (T.setVm vm₁).plainMethod ⟨cF.cls, 1⟩ := State.plainMethod.of_name (fun k' hk' => by cases h1'.symm.trans hk'; exact h3)
  let R' : Room := { frames := rm.frames + 1, cells := rm.cells, slots := rm.slots, locals := (mL + 11) + rm.locals }
  obtain ⟨Y₀, hin⟩ := X₁.into (g := mkF m pc Ls rest) rfl hsz hdg #[.ref f, .ref sa] (R' := R') h4' h5 h8 hpk (by show rm.frames + 1 + 1 ≤ _; omega) (by show 2 * 0 + (rest.map fun v => v.category).sum + (ck.maxLocals + 11) + ((mL + 11) + rm.locals) ≤ _; rw [h7]; omega) hc hs
  generalize hU : ((T.setVm vm₁).setTop (mkF m pc Ls rest)).pushFrame (.java (entryFrame ⟨cF.cls, 1⟩ #[.ref f, .ref sa] ck.maxLocals)) = U at Y₀ hin
  have hvm : U.vm = vm₁ := by rw [← hU]; rfl
  have hhp : U.heap = T.heap := by rw [← hU]; rfl
  have hef : entryFrame (⟨cF.cls, 1⟩ : MethodId) #[.ref f, .ref sa] ck.maxLocals = mkF ⟨cF.cls, 1⟩ 0 #[.val (.ref f), .val (.ref sa)] [] := by rw [h7]; rfl
  -- the made method's own three steps
  have s1 : Steps p.tables e (.java (mkF m pc Ls rest) :: below) (U.setTop (mkF ⟨cF.cls, 1⟩ 0 #[.val (.ref f), .val (.ref sa)] [])) (U.setTop (mkF ⟨cF.cls, 1⟩ 1 #[.val (.ref f), .val (.ref sa)] [.ref sa])) :=
    XS.aloadN Y₀.here hx rfl (by rw [h6]; exact f0) rfl rfl (Steps.refl _)
  obtain ⟨cellS, kS, e1, e2, e3, e4, -⟩ := E
  obtain rfl : cellS.cls = cS := Option.some.inj (e2.symm.trans hS)
  obtain ⟨kS', e3', -⟩ := hW1.alike.2.2 _ _ e3
  have s2 := Y₀.checkcastR hx (g := mkF ⟨cF.cls, 1⟩ 1 #[.val (.ref f), .val (.ref sa)] [.ref sa]) rfl (index := i) (cT := cellS.cls) (by rw [hvm]; exact ⟨k, h1', h10⟩) rfl
    (Or.inr ⟨sa, cellS, kS', kS', rfl, by rw [hhp, eT]; exact e1, (fun q r => by rw [r] at e4; cases e4), by rw [hvm]; exact e3', by rw [hvm]; exact e3', by
      show Vm.assignableAux _ (255 + 1) _ _ = true
      rw [Vm.assignableAux]; simp only [beq_self_eq_true, Bool.true_or]⟩) (by rw [h6]; exact f1) s1
  have hnt1 : U.methodNamed? y = some t := by
    have q : (Z.setVm vm₁).methodNamed? y = some t := by rw [State.methodNamed?_setVm hW1.alike]; exact hnt
    have q' : (U.setVm U.vm).methodNamed? y = (Z.setVm U.vm).methodNamed? y := rfl
    rw [← hvm] at q
    exact q
  have w3' := mv (s := U) (args := #[.ref sa]) (by rw [hvm]; exact hW1) y3
  obtain ⟨metht, ct, hmt, hct, -, hlt, -, -, -, hsigt⟩ := Cond.code_spec hnt1 w3'
  obtain ⟨kt, hkt, hktn⟩ := className_of_methodNamed hnt1
  have hinit : kt.init = .initialized := Cond.initialized_spec (findClass_of_methodNamed hnt1) hkt (mv (s := U) (args := #[.ref sa]) (by rw [hvm]; exact hW1) y2)
  have hstat : metht.isStatic = true := by
    have := Cond.static_spec hnt1 hmt (mv (s := U) (args := #[.ref sa]) (by rw [hvm]; exact hW1) y1)
    exact this
  have hpolA : ∀ z : Method, signaturePolymorphic kt z = false := fun z => by
    unfold signaturePolymorphic
    have : kt.name = y.cls := hktn
    simp [this, hy.1, hy.2]
  obtain ⟨bb, hmem⟩ := memberRef_ask' (e := e) (vm := vm₁) (d := cF.cls) (index := j) h1' h2 h12 h13
  have href : plainRef U e cF.cls j := ⟨ci, name, desc, bb, d, kt, by rw [hvm]; exact hmem, by rw [hvm]; exact ⟨k, h1', h14⟩, by rw [← h15]; exact hkt, by simp [hpolA]⟩
  have hUb : (T.setVm vm₁).calling (mkF m pc Ls rest) ⟨cF.cls, 1⟩ #[.ref f, .ref sa] = (T.setVm vm₁).calling (mkF m pc Ls rest) ⟨cF.cls, 1⟩ #[.ref f, .ref sa] := rfl
  have hK := ConW.back (l := l) (R := R') (p := p) (e := e) (below := .java (mkF m pc Ls rest) :: below) (s := (T.setVm vm₁).calling (mkF m pc Ls rest) ⟨cF.cls, 1⟩ #[.ref f, .ref sa]) (args := #[.ref f, .ref sa]) (len := 3) (W := 0) M hW1 y3 y2 (Nat.le_refl _) (by show 0 + (mL + 11) + rm.locals ≤ (mL + 11) + rm.locals; omega)
  have hlen2 : [Value.ref sa].length = metht.sig.parameters.length := by
    have := Option.some.inj (pd'.symm.trans hsigt)
    rw [← this]; exact hps'.symm
  obtain ⟨v, ⟨B, L', k', n'⟩, Y₁, hS1, hgr, ⟨Lc, ⟨hQ', N'⟩, l', y', z'⟩, s3⟩ := staticRW Y₀ hx (g := mkF ⟨cF.cls, 1⟩ 4 #[.val (.ref f), .val (.ref sa)] [.ref sa]) rfl (by rw [h7]; rfl) (argsL := [.ref sa]) (rest := []) href (by rw [hvm]; exact ⟨k, h1', h11⟩) hkt hmt (hpolA _) hstat hinit hlen2 rfl hnt1 hK (by show 2 * 0 + 0 ≤ 0; omega)
    ⟨rfl, hhp.trans eT, by show 0 + rm.cells ≤ rm.cells; omega, by show 0 + rm.slots ≤ rm.slots; omega, hV _ (by rw [hvm]; exact X₁.warmed)⟩ (by rw [h6]; exact f4)
  dsimp only [Pt.U, Pt.locs, Pt.cells, Pt.slots] at Y₁ hS1 hgr l' y' z' s3 hQ' N'
  obtain ⟨z, rfl⟩ := hQ _ _ _ hQ'
  obtain ⟨fs, hleave, hrun, hend, hRE⟩ := Y₁.leaveW hS1 (Nat.le_refl _) (v := some (.ref z)) (fun hh => by rw [h9] at hh; cases hh) h8
  have s4 := retOut Y₁ hx (pc := 7) (Ls := #[.val (.ref f), .val (.ref sa)]) (rest := []) h9 (by rfl) (Or.inr (Or.inr (Or.inr (Or.inr ⟨rfl, rfl, rfl⟩)))) (by rw [h6]; exact f7) hleave
  have hWB : (s.setVm vm₁).Warmed39 B.vm := State.Warmed39.of_rootvm (s := (T.setVm vm₁).calling (mkF m pc Ls rest) ⟨cF.cls, 1⟩ #[.ref f, .ref sa]) rfl hRE.2.1
  have hW39 : s.Warmed39 B.vm := State.Warmed39.trans (t := s.setVm vm₁) X₁.warmed.wide hWB
  have X₂ := X₁.retabled hW39
  obtain ⟨T', X', -, -, ht⟩ := X₂.outOf (g := mkF m pc Ls rest) rfl hdg (mk := ⟨cF.cls, 1⟩) (a := #[.ref f, .ref sa]) (t := B.setFrames fs) (v := some (.ref z)) (L := L') (k := k') (n := n') hend (State.WarmedH.refl (((T.setVm vm₁).setVm B.vm).calling (mkF m pc Ls rest) ⟨cF.cls, 1⟩ #[.ref f, .ref sa])) (hRE.2.2.2.setVm B.vm)
  have ev : T'.vm = B.vm := by have := congrArg State.vm ht; simpa using this.symm
  have eh : T'.heap = B.heap := by have := congrArg State.heap ht; simpa using this.symm
  have hsT : s.heap.size ≤ T.heap.size := X.same.2.1
  have l'' : L' = Lc := l'
  subst l'' y' z'
  rw [Nat.zero_add, Nat.zero_add] at X'
  refine ⟨some (.ref z), T', L', by rw [ev]; exact X', ?_, by rw [eh, ← hhp]; exact hgr, by rw [eh, ev]; exact hQ', N', ?_⟩
  · rw [ev, eh]
    refine ⟨hW39, fun jj pp hj hp => ?_⟩
    have hi : vm₁.interned = s.vm.interned := X₁.warmed.interned_eq
    obtain ⟨q1, q2⟩ := hRE.2.2.1 jj pp (by show vm₁.interned.size ≤ jj; rw [hi]; exact hj) hp
    have q1' : T.heap.size ≤ pp.2 := q1
    exact ⟨Nat.le_trans hsT q1', q2⟩
  · refine hstep₁ _ fun acts => ?_
    rw [show (doInvoke e ((T.setVm vm₁).setTop { mkF m pc Ls (.ref sa :: .ref f :: rest) with stack := rest }) acts ⟨cF.cls, 1⟩ (.ref f :: [.ref sa]).toArray).1 = U.setTop (entryFrame ⟨cF.cls, 1⟩ #[.ref f, .ref sa] ck.maxLocals) from hin acts, hef]
    have s5 := Steps.weaken (mid := [.java (mkF m pc Ls rest)]) ((s2.trans s3).trans s4)
    rw [ht] at s5
    exact s5
end
/-- the method that is walked is the one called x -/
def Kn (K : Kx) (x : MethodName) : Prop := match K with | (_, _, _, _, s, m, _, _, _, _) => s.methodNamed? x = some m
theorem enterWN {l : Launch} {R : Room} {Z : State} {code : ByteArray} {maxL : Nat} {ret : Option FieldType} {n0 : Nat} {Q : Option Value → Heap → Vm → Prop} {Ls : Array Slot} {ws : List Jvm.Cond} {y : MethodName} {as : Array Value} {h0 : Heap} {V : Vm → Prop} (pn : plainFor y = true) (ef : ∀ m, entryFrame m as maxL = mkF m 0 Ls []) (H : ∀ K vm k, Wb l R Z y.cls y.name code maxL ret n0 h0 K → Sn K vm k → k ≤ h0.size → V vm → Kn K y → Run l R n0 Q (Kw K (· = []) vm) h0 0 0 0 Ls []) : ConW l ws y code maxL ret R Z as h0 n0 V Q := by
  refine MetFree.of_bodySF pn hisR ?_
  intro p e s m args below meth c s₁ Bd hml0 hP hK
  obtain ⟨rfl, hZ, hh, hV⟩ := hP
  have X0 : Stand p l e R s m args below meth c s₁ [] 0 0 := Stand.of_body Bd
  obtain ⟨s2, o, k1, k2, k3, k4⟩ := H (Fr n0, fun o t L => ReturnedEndW s o t L R.cells R.slots, p, e, s, m, args, below, meth, c) s.vm s.heap.size ⟨Bd.exec, hZ, findClass_of_methodNamed Bd.named, Bd.bytes, hml0, Bd.returns, (name_of_methodNamed Bd.named Bd.method).1, Bd.notSynchronized, hh, fun vm k v t A hS hk h1 h2 => ⟨⟨v, rfl⟩, hS.ended h1 hk h2⟩⟩ (since_refl s) (by rw [hh]; exact Nat.le_refl _) hV Bd.named s₁ [] X0 (by rw [← hh, Bd.state]; rfl) rfl
  exact ⟨s2, o, castTop (ef m) k1, k2, k3, k4⟩
section
variable {l : Launch} {R : Room} {Z : State} {own nm : String} {code : ByteArray} {maxL : Nat} {ret : Option FieldType} {K : Kx} {n0 : Nat} {Q : Option Value → Heap → Vm → Prop} {h h0 : Heap} {cells slots pc pc' : Nat} {Ls : Array Slot} {st : List Value} {a0 : Array Value} {vm : Vm} {k0 : Nat}
/-- a lambda's site that captures nothing: its one object -/
theorem r_indyK {Pl : List Loc → Prop} (B : Wb l R Z own nm code maxL ret n0 h0 K) (D : Sn K vm k0) {x : MethodName} (kn : Kn K x) {idx : Nat} {σ : Lambda.Shape} (hd : decode code pc = .ok (.invokedynamic idx, 5)) (hp : pc + 5 = pc') (w : (Jvm.Cond.lambdaSite x pc idx σ).before a0 Z = true) (hcap : σ.captured = []) (hsz : Ls.size = maxL) {W : Nat} (hW : (st.map fun v => v.category).sum ≤ W) (hlo : W + 3072 ≤ R.locals)
    (r : ∀ f cF, Z.heap[f]? = some cF → cF.vm = .none → (∃ d, Z.vm.findClass x.cls = some d ∧ Lambda.isMade { classPath := fun _ => none } Z.vm d σ cF.cls = true ∧ Z.lambdaCallable σ cF.cls = true) → Run l R n0 Q (Kw K Pl vm) h cells slots pc' Ls (.ref f :: st)) : Run l R n0 Q (Kw K Pl vm) h cells slots pc Ls st := by
  obtain ⟨Pl0, En, p, e, s, m, args, below, meth, c⟩ := K
  intro T locs X eT N
  obtain ⟨w1, w2, w3, w4, w5, w6, w7, w8, w9, w10⟩ := B
  have D' : s.Since vm k0 := D
  have hZ : Z.Warmed39 vm := State.Warmed39.trans w2 D'.1
  subst hp
  obtain ⟨cK, one, hat⟩ := Cond.lambdaSite_spec w
  obtain ⟨m', kz, cf, i0, p0, lk, hn, hk, -, -, -, hfind, hmade, hcan, hl⟩ := State.lambdaAt?_spec hat
  have kn' : s.methodNamed? x = some m := kn
  have em : m' = m := by
    have q : (Z.setVm s.vm).methodNamed? x = some m := kn'
    rw [State.methodNamed?_setVm w2.alike] at q
    exact Option.some.inj (hn.symm.trans q)
  subst em
  obtain ⟨k', hk', ek⟩ := hZ.alike.2.2 _ _ hk
  rcases hl with ⟨a, cell, rfl, -, -, hcell, rfl, hvm, -⟩ | ⟨-, -, hc⟩
  · obtain ⟨s2, o, k1, k2⟩ := r a cell hcell hvm ⟨m'.cls, findClass_of_methodNamed hn, hmade, hcan⟩ T locs X eT N
    exact ⟨s2, o, X.lambdaConstant w1 (g := mkF m' pc Ls st) rfl (by show Ls.size = _; rw [w5]; exact hsz) (hb w4 hd) (k := k') hk' (by rw [ek]; exact hfind) (by rw [X.admits.platform]; show 2 * 0 + (st.map fun v => v.category).sum + 3072 ≤ _; omega) k1, k2⟩
  · exact absurd hcap hc
/-- a function object's method, which hands its one argument to a static method that may intern -/
theorem r_fnW (B : Wb l R Z own nm code maxL ret n0 h0 K) (D : Sn K vm k0) (hk0 : k0 ≤ h.size) {idx count : Nat} {xi : MethodName}
    (v1 : (Jvm.Cond.methodLink own idx xi).before a0 Z = true) (v2 : (Jvm.Cond.declares xi).before a0 Z = true) (v3 : (Jvm.Cond.interfaceMethod xi.cls xi.cls xi.name xi.desc).before a0 Z = true) (hfa : ((Jvm.Cond.interfaceMethod xi.cls xi.cls xi.name xi.desc).onTables && (Jvm.Cond.interfaceMethod xi.cls xi.cls xi.name xi.desc).keepsFace) = true) (hxi : xi.cls ≠ "java/lang/invoke/MethodHandle" ∧ xi.cls ≠ "java/lang/invoke/VarHandle") {ps : List FieldType} {rr : Option FieldType} (pd : parseMethodDescriptor xi.desc = some ⟨ps, rr⟩) (hps : ps.length = 1)
    {f : Addr} {cF : Cell} (hF : FnX xi cF.cls ⟨cF.cls, 1⟩ Z) (hf : h[f]? = some cF) (hfv : cF.vm = .none) {cS : ClassId} {t : MethodId} {fw : ByteArray} {i j : Nat} (Md : Mad Z cF.cls cS t fw i j)
    (f0 : decode fw 0 = .ok (.aload_n 1, 1)) (f1 : decode fw 1 = .ok (.checkcast i, 3)) (f4 : decode fw 4 = .ok (.invokestatic j, 3)) (f7 : decode fw 7 = .ok (.areturn, 1)) {sa : Addr} {SC : String} (hS : Z.vm.findClass SC = some cS) (E : Exa Z h sa SC)
    {y : MethodName} {bytes : ByteArray} {mL : Nat} {rt : Option FieldType} {rm : Room} {V : Vm → Prop} {Q' : Option Value → Heap → Vm → Prop} (M : ConW l [] y bytes mL rt rm Z #[.ref sa] h n0 V Q') (hV : ∀ vm', ((KS K).setVm vm).WarmedH vm' → V vm') (hQ : ∀ v h vm, Q' v h vm → ∃ z, v = some (.ref z))
    (y1 : (Jvm.Cond.static y).before a0 Z = true) (y2 : (Jvm.Cond.initialized y.cls).before a0 Z = true) (y3 : (Jvm.Cond.code y bytes mL rt).before a0 Z = true) (hy : y.cls ≠ "java/lang/invoke/MethodHandle" ∧ y.cls ≠ "java/lang/invoke/VarHandle") (hnt : Z.methodNamed? y = some t) {ps' : List FieldType} {rr' : Option FieldType} (pd' : parseMethodDescriptor y.desc = some ⟨ps', rr'⟩) (hps' : ps'.length = 1)
    (hd : decode code pc = .ok (.invokeinterface idx count, 5)) (hp : pc + 5 = pc') (hsz : Ls.size = maxL) {W cells' slots' : Nat} (hW : (st.map fun v => v.category).sum ≤ W)
    (hfr : rm.frames + 2 ≤ R.frames) (hlo : W + 13 + (mL + 11) + rm.locals ≤ R.locals) (hc : cells + rm.cells ≤ R.cells) (hs : slots + rm.slots ≤ R.slots) (ec : cells + rm.cells = cells') (es : slots + rm.slots = slots')
    (r : ∀ v h' vm', Q' v h' vm' → h.size ≤ h'.size → Sn K vm' h'.size → Run l R n0 Q (Kw K (Fr n0) vm') h' cells' slots' pc' Ls (v.toList ++ st)) : Run l R n0 Q (Kw K (Fr n0) vm) h cells slots pc Ls (.ref sa :: .ref f :: st) := by
  obtain ⟨Pl, En, p, e, s, m, args, below, meth, c⟩ := K
  intro T locs X eT N
  obtain ⟨w1, w2, w3, w4, w5, w6, w7, w8, w9, w10⟩ := B
  have D' : s.Since vm k0 := D
  have hZ : Z.Warmed39 (s.setVm vm).vm := State.Warmed39.trans w2 D'.1
  have hown : (s.setVm vm).vm.findClass own = some m.cls := by rw [show (s.setVm vm).vm = vm from rfl, D'.1.alike.findClass]; exact w3
  subst hp ec es
  obtain ⟨v, T', L, X', hS', hgr, hQ', N', s'⟩ := lamCall X w1 hZ hown v1 v2 v3 hfa hxi pd hps hF eT hf hfv Md f0 f1 f4 f7 hS E M hV hQ y1 y2 y3 hy hnt pd' hps' (hb w4 hd) (by rw [w5]; exact hsz) hW hfr hlo hc hs
  have hk1 : k0 ≤ T.heap.size := by rw [eT]; exact hk0
  obtain ⟨s2, o, k1, k2⟩ := r v T'.heap T'.vm hQ' (by rw [← eT]; exact hgr) (D'.trans hS' (Nat.le_trans hk1 hgr)) T' _ X' rfl (Fr.app N N')
  exact ⟨s2, o, s'.trans k1, k2⟩
end
end
/-- the table finds the text at lt -/
def Fnd (vm : Vm) (text : String) (lt : Addr) : Prop := ∀ units : Array UInt16, utf16ToString? units = some text → vm.interned.find? (fun p => p.1 == units) = some (units, lt)
theorem Fnd.warm39 {s : State} {vm : Vm} {text : String} {lt : Addr} (F : Fnd s.vm text lt) (hW : s.Warmed39 vm) : Fnd vm text lt := fun units hu => hW.finds (F units hu)
theorem Fnd.warm {vm vm' : Vm} {text : String} {lt : Addr} (F : Fnd vm text lt) {s : State} (hW : (s.setVm vm).WarmedH vm') : Fnd vm' text lt := Fnd.warm39 (s := s.setVm vm) F hW.wide
theorem Fnd.at {K : Kx} {Pl : List Loc → Prop} {vm vm' : Vm} {text : String} {lt : Addr} (F : Fnd vm text lt) (hW : (KS (Kw K Pl vm)).WarmedH vm') : Fnd vm' text lt := Fnd.warm F (s := KS K) (by rw [← KS_Kw (Pl := Pl)]; exact hW)
/-- what the tables say of an entry that holds a String at the end: it held it at the start, or the table finds its text there -/
theorem lit_or {Z : State} {vm : Vm} {own text : String} {idx : Nat} {a : Addr} {a0 : Array Value} (w : (Jvm.Cond.stringLink own idx text).before a0 Z = true) (hW : Z.Warmed39 vm) (L : Lit (Z.setVm vm) own idx a) : Lit Z own idx a ∨ (∃ units : Array UInt16, utf16ToString? units = some text ∧ vm.interned.find? (fun p => p.1 == units) = some (units, a)) := by
  cases hc : Z.vm.findClass own with
  | none => simp [Cond.before, Cond.holds, Cond.value, hc] at w
  | some cc =>
    obtain ⟨k, cf, i, units, hk, hcf, hp, hu, hnm, htext, -⟩ := Cond.stringLink_spec hc w
    obtain ⟨k', hk', hke, -, ee, -⟩ := hW.2.2.2 cc k hk
    have hc' : vm.findClass own = some cc := by rw [hW.alike.findClass]; exact hc
    have L' : k'.resolved[idx]? = some (some (.string a)) := by
      have q : (Z.setVm vm).resolvedAt? own idx = some (.string a) := L
      simp only [State.resolvedAt?, Option.bind_eq_bind, show (Z.setVm vm).vm = vm from rfl, hc', hk', Option.bind_some] at q
      cases hr : k'.resolved[idx]? with
      | none => rw [hr] at q; simp at q
      | some x => rw [hr] at q; have q' : x = some (.string a) := by simpa using q
                  rw [q']
    rcases ee idx with e0 | ⟨hop, r, e1, hr | ⟨a3, t, si, us, rfl, q2, q3, q4, q5⟩⟩
    · left
      rw [e0] at L'
      simp [Lit, State.resolvedAt?, hc, hk, L']
    · exfalso
      cases e1.symm.trans L'
      simp [State.rightAt, hk, hcf, hnm] at hr
    · right
      have ea : a3 = a := by have := e1.symm.trans L'; simpa using this
      subst ea
      have es : si = i := by
        rw [hcf] at q3
        have := q3.symm.trans hp
        simpa using this
      subst es
      have eu : us = units := by
        rw [hcf] at q4
        simpa [ConstantPool.utf8?, hu] using q4.symm
      subst eu
      exact ⟨us, htext, q5⟩
/-- a constant whose entry held its String at the start -/
theorem lit_str {Z : State} {own text : String} {idx : Nat} {a : Addr} {a0 : Array Value} (hfit : Fit Z) (w : (Jvm.Cond.stringLink own idx text).before a0 Z = true) (L : Lit Z own idx a) (hh : Jvm.Lit.constHeld Z own idx) (hcw : Jvm.Lit.compactW.before a0 Z = true) (wS : ∀ a ∈ Bundle.stringAtoms, a.before a0 Z = true) {bs : List Int32} (ht : (∀ c ∈ text.toList, c.toNat < 256) ∧ text.toList.map (fun c => Value.int (Jvm.Lit.byteI c.toNat.toUInt16)) = bs.map Value.int) (hbl : bs.length < 2147483648) : ∃ (b : Nat) (kb : ClassId), Str Z Z.heap a b kb bs := by
  have z31 : (i32 bs.length).toNatClampNeg = (bs.map Value.int).length := by rw [i32_clamp hbl, List.length_map]
  obtain ⟨a', b, k, L', E, Fc, Fv, A⟩ := lit_start (s := Z) (args := a0) hfit (refOfLit w L) w hh hcw (wS _ (by simp [Bundle.stringAtoms])) ht (i32_nn hbl) z31
  have e : a' = a := by
    have q1 : Z.resolvedAt? own idx = some (.string a') := L'
    have q2 : Z.resolvedAt? own idx = some (.string a) := L
    have := q1.symm.trans q2
    simpa using this
  subst e
  exact ⟨b, k, E, Fc, Fv, ⟨by rw [List.length_map]; exact A, by rw [List.length_map]; exact hbl⟩⟩
section
variable {l : Launch} {R : Room} {Z : State} {own nm : String} {code : ByteArray} {maxL : Nat} {ret : Option FieldType} {K : Kx} {n0 : Nat} {Q : Option Value → Heap → Vm → Prop} {h : Heap} {cells slots pc pc' : Nat} {Ls : Array Slot} {st : List Value} {a0 : Array Value} {h0 : Heap} {vm : Vm} {k : Nat}
/-- a load of a text that the table finds already: the object that the table has, or the one that the entry held at the start -/
theorem r_ldcU {idx n : Nat} {text : String} {bs : List Int32} (W : Wb l R Z own nm code maxL ret n0 h0 K) (hn0 : h0.size ≤ n0) (D : Sn K vm k) (hk : k ≤ h.size) (hk2 : h0.size ≤ h.size) (hd : decode code pc = .ok (.ldc idx, 2)) (hp : pc + 2 = pc') (w : (Jvm.Cond.stringLink own idx text).before a0 Z = true) (wS : ∀ a ∈ Bundle.stringAtoms, a.before a0 Z = true) (hz : Ext Z.heap h) (hfit : Fit Z) (hh : Jvm.Lit.constHeld Z own idx) (hcw : Jvm.Lit.compactW.before a0 Z = true) (ht : (∀ c ∈ text.toList, c.toNat < 256) ∧ text.toList.map (fun c => Value.int (Jvm.Lit.byteI c.toNat.toUInt16)) = bs.map Value.int) (hbl : bs.length < 2147483648) (hn : 4 * text.toList.length ≤ n) (hbig : n ≤ 536870912) (hc : cells + 2 ≤ R.cells) (hl : slots + (n + 4) ≤ R.slots)
    {lt lb : Nat} {lk : ClassId} (F : Fnd vm text lt) (S : Str Z h lt lb lk bs)
    (r : ∀ vm' k' h' a b kb, Sn K vm' k' → k' ≤ h'.size → Ext h h' → Str Z h' a b kb bs → Run l R n0 Q (Kw K (Fr n0) vm') h' (cells + 2) (slots + (n + 4)) pc' Ls (.ref a :: st)) : Run l R n0 Q (Kw K (Fr n0) vm) h cells slots pc Ls st := by
  obtain ⟨Pl, En, p, e, s, m, args, below, meth, c⟩ := K
  intro T locs X eT N
  subst hp
  obtain ⟨w1, w2, w3, w4, w5, w6, w7, w8, w9, w10⟩ := W
  have N' : Fr n0 locs := N
  have D' : s.Since vm k := D
  have hZ : Z.Warmed39 vm := State.Warmed39.trans w2 D'.1
  have hown : vm.findClass own = some m.cls := by rw [D'.1.alike.findClass]; exact w3
  obtain ⟨a, T₂, X₂, hS₂, ⟨k₂, hk₂, hr₂⟩, hkeep, hI, stp⟩ := X.ldcStringCold w1 (own := own) hown (mvS (s := s.setVm vm) hZ w) (fun d hd => by
    have q := wS d hd
    simp only [Bundle.stringAtoms, List.mem_cons, List.not_mem_nil, or_false] at hd
    rcases hd with rfl | rfl | rfl | rfl | rfl | rfl | rfl
    · exact mv (s := s.setVm vm) hZ q
    · exact mv (s := s.setVm vm) hZ q
    · exact mvA (s := s.setVm vm) hZ q
    · exact mv (s := s.setVm vm) hZ q
    · exact mv (s := s.setVm vm) hZ q
    · exact mv (s := s.setVm vm) hZ q
    · exact mv (s := s.setVm vm) hZ q) (g := mkF m pc Ls st) rfl (hb w4 hd) hn hbig hc hl
  have E₂ : Ext T.heap T₂.heap := ext_of hkeep
  have E₃ : Ext h T₂.heap := by rw [← eT]; exact E₂
  have hW2 : Z.Warmed39 T₂.vm := State.Warmed39.trans (t := s.setVm vm) hZ hS₂.1
  have D2 : s.Since T₂.vm T₂.heap.size := D'.trans hS₂ (Nat.le_trans (by rw [eT]; exact hk) E₂.1)
  have L2 : Lit (Z.setVm T₂.vm) own idx a := by
    have hf : T₂.vm.findClass own = some m.cls := by rw [hS₂.1.alike.findClass]; exact hown
    simp [Lit, State.resolvedAt?, hf, hk₂, hr₂]
  have SA : ∃ (b : Nat) (kb : ClassId), Str Z T₂.heap a b kb bs := by
    rcases lit_or w hW2 L2 with L | ⟨units, hu, hf⟩
    · obtain ⟨b, kb, S'⟩ := lit_str hfit w L hh hcw wS ht hbl
      exact ⟨b, kb, (S'.ext hz).ext E₃⟩
    · have F2 := (Fnd.warm39 (s := s.setVm vm) F hS₂.1) units hu
      have ea : lt = a := by have := F2.symm.trans hf; simpa using this
      subst ea
      exact ⟨lb, lk, S.ext E₃⟩
  obtain ⟨b, kb, S'⟩ := SA
  obtain ⟨s2, o, q1, q2⟩ := r T₂.vm T₂.heap.size T₂.heap a b kb D2 (Nat.le_refl _) E₃ S' T₂ locs X₂ rfl N
  exact ⟨s2, o, stp _ q1, q2⟩
/-- the first load of a text: its String; and either nothing was booked, or the table finds the text there -/
theorem r_ldcE {idx n : Nat} {text : String} {Ts : List String} {bs : List Int32} (W : Wb l R Z own nm code maxL ret n0 h0 K) (hn0 : h0.size ≤ n0) (D : Sn K vm k) (hk : k ≤ h.size) (hk2 : h0.size ≤ h.size) (hd : decode code pc = .ok (.ldc idx, 2)) (hp : pc + 2 = pc') (w : (Jvm.Cond.stringLink own idx text).before a0 Z = true) (wS : ∀ a ∈ Bundle.stringAtoms, a.before a0 Z = true) (hkeep : ∀ (b : Addr) (cl : Cell), Z.heap[b]? = some cl → h0[b]? = some cl) (hz : Ext Z.heap h) (hfit : Fit Z)
    (I : IB Z vm Ts) (hnot : text ∉ Ts) (hh : Jvm.Lit.constHeld Z own idx) (hcw : Jvm.Lit.compactW.before a0 Z = true) (ht : (∀ c ∈ text.toList, c.toNat < 256) ∧ text.toList.map (fun c => Value.int (Jvm.Lit.byteI c.toNat.toUInt16)) = bs.map Value.int) (hu1 : ∀ u v : Array UInt16, utf16ToString? u = some text → utf16ToString? v = some text → u = v) (hbl : bs.length < 2147483648) (hn : 4 * text.toList.length ≤ n) (hbig : n ≤ 536870912) (hc : cells + 2 ≤ R.cells) (hl : slots + (n + 4) ≤ R.slots)
    (r : ∀ vm' k' h' a b kb, Sn K vm' k' → k' ≤ h'.size → Ext h h' → Str Z h' a b kb bs → (IB Z vm' Ts ∨ (IB Z vm' (text :: Ts) ∧ Fnd vm' text a)) → Run l R n0 Q (Kw K (Fr n0) vm') h' (cells + 2) (slots + (n + 4)) pc' Ls (.ref a :: st)) : Run l R n0 Q (Kw K (Fr n0) vm) h cells slots pc Ls st := by
  by_cases hL : ∃ a, Lit Z own idx a
  · obtain ⟨a, L⟩ := hL
    obtain ⟨b, kb, S⟩ := lit_str hfit w L hh hcw wS ht hbl
    have hZ : Z.Warmed39 vm := by
      obtain ⟨Pl, En, p, e, s, m, args, below, meth, c⟩ := K
      exact State.Warmed39.trans W.2.1 (show s.Since vm k from D).1
    have L' : Lit (Z.setVm vm) own idx a := State.resolvedAt?_warmed39 hZ L
    refine r_ldcA (pc' := pc') W D hd hp w L' ?_
    exact Run.le (Nat.le_add_right _ _) (Nat.le_add_right _ _) (r vm k h a b kb D hk ⟨Nat.le_refl _, fun _ _ q => q⟩ (S.ext hz) (Or.inl I))
  · refine r_ldcSG (n := n) (bs := bs) (pc' := pc') W hn0 D hk hk2 hd hp w wS hkeep I hnot hh hcw ht hbl hn hbig hc hl ?_
    intro vm' k' h' a b kb D2 hk' E S I2 L2 _
    have hZ2 : Z.Warmed39 vm' := by
      obtain ⟨Pl, En, p, e, s, m, args, below, meth, c⟩ := K
      exact State.Warmed39.trans W.2.1 (show s.Since vm' k' from D2).1
    refine r vm' k' h' a b kb D2 hk' E S (Or.inr ⟨I2, fun units hu => ?_⟩)
    rcases lit_or w hZ2 L2 with L | ⟨us, hus, hf⟩
    · exact absurd ⟨a, L⟩ hL
    · rw [hu1 units us hu hus]; exact hf
end
section
variable {l : Launch} {R : Room} {Z : State} {own nm : String} {code : ByteArray} {maxL : Nat} {ret : Option FieldType} {K : Kx} {n0 n1 : Nat} {Q : Option Value → Heap → Vm → Prop} {h : Heap} {cells slots pc pc' : Nat} {Ls : Array Slot} {st : List Value} {a0 : Array Value} {h0 : Heap} {vm : Vm} {k : Nat}
/-- what was written so far lies at n1 or above -/
theorem Wb.ctxF (W : Wb l R Z own nm code maxL ret n0 h0 K) (D : Sn K vm k) (q : n0 ≤ n1) : Ctx l R Z own nm code maxL ret false n0 k (Kw K (Fr n1) vm) := by
  obtain ⟨Pl, En, p, e, s, m, args, below, meth, c⟩ := K
  obtain ⟨w1, w2, w3, w4, w5, w6, w7, w8, w9, w10⟩ := W
  have D' : s.Since vm k := D
  exact ⟨w1, State.Warmed39.trans w2 D'.1, by rw [show (s.setVm vm).vm = vm from rfl, D'.1.alike.findClass]; exact w3, w4, w5, w6, w7, w8, (fun q => Bool.noConfusion q), (fun A a y hy => Nat.le_trans q (a y hy)), fun v t A h1 h2 h3 => w10 vm k v t A D' h1 h2 h3⟩
theorem Run.touchF (q : n0 ≤ n1) (r : Run l R n0 Q (Kw K (Fr n0) vm) h cells slots pc Ls st) : Run l R n0 Q (Kw K (Fr n1) vm) h cells slots pc Ls st := by
  obtain ⟨Pl, En, p, e, s, m, args, below, meth, c⟩ := K
  intro T locs X eT N
  exact r T locs X eT (fun y hy => Nat.le_trans q ((show Fr n1 locs from N) y hy))
/-- a constructor's call ahead of every write: what it writes lies at n1 or above -/
theorem r_callIF {kz : Nat} (C : Ctx l R Z own nm code maxL ret false n0 kz (Kw K (· = []) vm)) {idx : Nat} {y : MethodName} {bytes : ByteArray} {mL : Nat} {rm : Room} {a : Addr} {argsL : List Value} {Q' : Option Value → Heap → Prop} {ps : List FieldType} {rr : Option FieldType} {W cells' slots' : Nat} {stk : List Value}
    (M : Con l [] y bytes mL none rm Z (.ref a :: argsL).toArray h n1 Q') (hd : decode code pc = .ok (.invokespecial idx, 3)) (hp : pc + 3 = pc') (w1 : (Jvm.Cond.methodLink own idx y).before a0 Z = true) (w2 : (Jvm.Cond.instanceMethod y).before a0 Z = true) (w3 : (Jvm.Cond.initialized y.cls).before a0 Z = true) (w4 : (Jvm.Cond.code y bytes mL none).before a0 Z = true)
    (hin : y.name = "<init>") (hy : y.cls ≠ "java/lang/invoke/MethodHandle" ∧ y.cls ≠ "java/lang/invoke/VarHandle") (pd : parseMethodDescriptor y.desc = some ⟨ps, rr⟩) (hlen : argsL.length = ps.length) (hst : stk = argsL.reverse ++ .ref a :: st) (hsz : Ls.size = maxL) (hW : (st.map fun v => v.category).sum ≤ W)
    (hf : rm.frames + 1 ≤ R.frames) (hlo : W + (mL + 11) + rm.locals ≤ R.locals) (hc : cells + rm.cells ≤ R.cells) (hs : slots + rm.slots ≤ R.slots) (ec : cells + rm.cells = cells') (es : slots + rm.slots = slots')
    (r : ∀ v h', Q' v h' → Run l R n0 Q (Kw K (Fr n1) vm) h' cells' slots' pc' Ls (v.toList ++ st)) : Run l R n0 Q (Kw K (· = []) vm) h cells slots pc Ls stk := by
  obtain ⟨Pl, En, p, e, s, m, args, below, meth, c⟩ := K
  intro T locs X eT N
  obtain ⟨hx, hZ, hown, hby, hml, -, hnm, -, hcl, hfr, -⟩ := C
  subst hp hst ec es
  obtain ⟨v, _, ⟨T', L', k', n'⟩, -, X', ⟨Lc, ⟨hQ, N'⟩, l', y', z'⟩, s'⟩ := X.specialBack hx (y := y) hin hown (mvT hZ w1) (mvT hZ w2) (mvT hZ w4) hy (Con.back (W := W) M hZ w4 w3 hf hlo) (g := mkF m pc Ls (argsL.reverse ++ .ref a :: st)) rfl (by show Ls.size = _; rw [hml]; exact hsz) (Steps.refl _) (a := a) (argsL := argsL) (rest := st) (lenOf pd hlen) rfl (by show 2 * 0 + _ ≤ _; omega) (hb hby hd) (fun _ _ => ⟨rfl, eT, hc, hs⟩)
  dsimp only [Pt.U, Pt.locs, Pt.cells, Pt.slots] at X' l' y' z' s' hQ N'
  subst l' y' z'
  have N0 : locs = [] := N
  obtain ⟨s2, o, k1, k2⟩ := r v T'.heap hQ T' _ X' rfl (show Fr n1 _ by rw [N0]; exact N')
  exact ⟨s2, o, s'.trans k1, k2⟩
/-- a nest mate's static method that may intern -/
theorem r_callSN {k0 : Nat} {idx : Nat} {host : String} {y : MethodName} {bytes : ByteArray} {mL : Nat} {rt : Option FieldType} {rm : Room} {argsL : List Value} {V : Vm → Prop} {Q' : Option Value → Heap → Vm → Prop} {ps : List FieldType} {rr : Option FieldType} {W cells' slots' : Nat} {stk : List Value}
    (B : Wb l R Z own nm code maxL ret n0 h0 K) (D : Sn K vm k0) (hk0 : k0 ≤ h.size) (M : ConW l [] y bytes mL rt rm Z argsL.toArray h n0 V Q') (hV : ∀ vm', ((KS K).setVm vm).WarmedH vm' → V vm') (hd : decode code pc = .ok (.invokestatic idx, 3)) (hp : pc + 3 = pc') (v1 : (Jvm.Cond.methodLinkNest own idx y host).before a0 Z = true) (v2 : (Jvm.Cond.static y).before a0 Z = true) (v3 : (Jvm.Cond.initialized y.cls).before a0 Z = true) (v4 : (Jvm.Cond.code y bytes mL rt).before a0 Z = true)
    (hy : y.cls ≠ "java/lang/invoke/MethodHandle" ∧ y.cls ≠ "java/lang/invoke/VarHandle") (pd : parseMethodDescriptor y.desc = some ⟨ps, rr⟩) (hlen : argsL.length = ps.length) (hst : stk = argsL.reverse ++ st) (hsz : Ls.size = maxL) (hW : (st.map fun v => v.category).sum ≤ W)
    (hf : rm.frames + 1 ≤ R.frames) (hlo : W + (mL + 11) + rm.locals ≤ R.locals) (hc : cells + rm.cells ≤ R.cells) (hs : slots + rm.slots ≤ R.slots) (ec : cells + rm.cells = cells') (es : slots + rm.slots = slots')
    (r : ∀ v h' vm', Q' v h' vm' → h.size ≤ h'.size → Sn K vm' h'.size → Run l R n0 Q (Kw K (Fr n0) vm') h' cells' slots' pc' Ls (v.toList ++ st)) : Run l R n0 Q (Kw K (Fr n0) vm) h cells slots pc Ls stk := by
  obtain ⟨Pl, En, p, e, s, m, args, below, meth, c⟩ := K
  intro T locs X eT N
  obtain ⟨w1, w2, w3, w4, w5, w6, w7, w8, w9, w10⟩ := B
  have D' : s.Since vm k0 := D
  have hZ : Z.Warmed39 (s.setVm vm).vm := State.Warmed39.trans w2 D'.1
  have hown : (s.setVm vm).vm.findClass own = some m.cls := by rw [show (s.setVm vm).vm = vm from rfl, D'.1.alike.findClass]; exact w3
  subst hp hst ec es
  have hK := ConW.back (len := 3) (W := W) (R := R) (p := p) (e := e) (below := below) (s := s.setVm vm) (args := args) M hZ v4 v3 hf hlo
  have v4' : (Jvm.Cond.code y bytes mL rt).before args (s.setVm vm) = true := mvT hZ v4
  have v2' : (Jvm.Cond.static y).before args (s.setVm vm) = true := mvT hZ v2
  have v3' : (Jvm.Cond.initialized y.cls).before args (s.setVm vm) = true := mvT hZ v3
  obtain ⟨mk, hnamed⟩ := Cond.code_named v4'
  obtain ⟨methM, cM, hmethM, -, -, -, -, -, -, hsig⟩ := Cond.code_spec hnamed v4'
  obtain ⟨kP, hkP, -⟩ := className_of_methodNamed hnamed
  obtain ⟨vm₁, X₁, hstep₁⟩ := X.invokestaticNest w1 hown (Cond.methodLinkNest_wide hZ v1 :) hnamed hmethM (Cond.static_spec hnamed hmethM v2') hkP (Cond.initialized_spec (findClass_of_methodNamed hnamed) hkP v3') hy (g := mkF m pc Ls (argsL.reverse ++ st)) rfl (argsL := argsL) (rest := st) (lenOf pd hlen _ hsig) rfl (hb w4 hd)
  obtain ⟨v, ⟨T', L', k', n'⟩, X', hS, hgr, ⟨Lc, ⟨hQ, N'⟩, l', y', z'⟩, hsteps⟩ := hK m meth c ⟨T.setVm vm₁, locs, cells, slots⟩ (mkF m pc Ls st) (.invokestatic idx) mk argsL.toArray X₁ rfl (by show Ls.size = _; rw [w5]; exact hsz) (hb w4 hd) (by show 2 * 0 + (st.map fun v => v.category).sum ≤ W; omega) (X₁.named hnamed) ⟨rfl, eT, hc, hs, hV vm₁ X₁.warmed⟩
  have s' := (hstep₁ _ fun acts => by rw [doInvoke_state]; exact Steps.refl _).trans hsteps
  dsimp only [Pt.U, Pt.locs, Pt.cells, Pt.slots] at X' hS hgr l' y' z' s' hQ N'
  subst l' y' z'
  have hk1 : k0 ≤ T.heap.size := by rw [eT]; exact hk0
  obtain ⟨s2, o, k1, k2⟩ := r v T'.heap T'.vm hQ (by rw [← eT]; exact hgr) (D'.trans hS (Nat.le_trans hk1 hgr)) T' _ X' rfl (Fr.app N N')
  exact ⟨s2, o, s'.trans k1, k2⟩
/-- the first load of a text, all that was written lying at n1 or above; how the tables grew -/
theorem r_ldcSH {idx n : Nat} {text : String} {Ts : List String} {bs : List Int32} (W : Wb l R Z own nm code maxL ret n0 h0 K) (hn0 : h0.size ≤ n1) (D : Sn K vm k) (hk : k ≤ h.size) (hk2 : h0.size ≤ h.size) (hd : decode code pc = .ok (.ldc idx, 2)) (hp : pc + 2 = pc') (w : (Jvm.Cond.stringLink own idx text).before a0 Z = true) (wS : ∀ a ∈ Bundle.stringAtoms, a.before a0 Z = true) (hkeep : ∀ (b : Addr) (cl : Cell), Z.heap[b]? = some cl → h0[b]? = some cl)
    (I : IB Z vm Ts) (hnot : text ∉ Ts) (hh : Jvm.Lit.constHeld Z own idx) (hcw : Jvm.Lit.compactW.before a0 Z = true) (ht : (∀ c ∈ text.toList, c.toNat < 256) ∧ text.toList.map (fun c => Value.int (Jvm.Lit.byteI c.toNat.toUInt16)) = bs.map Value.int) (hbl : bs.length < 2147483648) (hn : 4 * text.toList.length ≤ n) (hbig : n ≤ 536870912) (hc : cells + 2 ≤ R.cells) (hl : slots + (n + 4) ≤ R.slots)
    (r : ∀ vm' k' h' a b kb, Sn K vm' k' → k' ≤ h'.size → Ext h h' → Str Z h' a b kb bs → IB Z vm' (text :: Ts) → ((KS K).setVm vm).Warmed39 vm' → Run l R n0 Q (Kw K (Fr n1) vm') h' (cells + 2) (slots + (n + 4)) pc' Ls (.ref a :: st)) : Run l R n0 Q (Kw K (Fr n1) vm) h cells slots pc Ls st := by
  obtain ⟨Pl, En, p, e, s, m, args, below, meth, c⟩ := K
  intro T locs X eT N
  subst hp
  obtain ⟨w1, w2, w3, w4, w5, w6, w7, w8, w9, w10⟩ := W
  have N' : Fr n1 locs := N
  have D' : s.Since vm k := D
  have hZ : Z.Warmed39 vm := State.Warmed39.trans w2 D'.1
  have hown : vm.findClass own = some m.cls := by rw [D'.1.alike.findClass]; exact w3
  have z31 : (i32 bs.length).toNatClampNeg = (bs.map Value.int).length := by rw [i32_clamp hbl, List.length_map]
  have w9' : (s.setVm vm).heap = h0 := w9
  obtain ⟨a, T', h', k1, b, kb, r1, r2, r3, r4, r5, r6, r7, r8, r9, r10, r11, r12, r13, r14, r15, r16⟩ := ldcSVL (Z := Z) (s := s.setVm vm) (vm0 := vm) X w1 hZ hown w wS eT (since_refl (s.setVm vm)) (by rw [w9']; exact hk2) (fun y hy => by rw [w9']; exact Nat.le_trans hn0 (N' y hy)) (fun b cl q => by rw [w9']; exact hkeep b cl q) I hnot hh hcw ht (i32_nn hbl) z31 (g := mkF m pc Ls st) rfl (hb w4 hd) hn hbig hc hl
  have r4' : (s.setVm vm).Since T'.vm h'.size := ⟨r4.1, fun j p h1 h2 => ⟨(r4.2 j p h1 h2).1, Nat.lt_of_lt_of_le (r4.2 j p h1 h2).2 r5⟩⟩
  have D2 : s.Since T'.vm h'.size := D'.trans r4' (Nat.le_trans hk r3.1)
  obtain ⟨s2, o, q1, q2⟩ := r T'.vm h'.size h' a b kb D2 (Nat.le_refl _) r3 ⟨r8, r9, r10, ⟨by rw [List.length_map]; exact r11, by rw [List.length_map]; exact hbl⟩⟩ r14 r4.1 T' locs r1 r2 N
  exact ⟨s2, o, r16 _ q1, q2⟩
/-- the texts that were loaded are among Ts; or "" was too, and the table finds it -/
def EMP (Z : State) (h : Heap) (vm : Vm) (Ts : List String) : Prop := IB Z vm Ts ∨ (IB Z vm ("" :: Ts) ∧ ∃ (lt lb : Nat) (lk : ClassId), Fnd vm "" lt ∧ Str Z h lt lb lk [])
theorem EMP.keep {Z : State} {h h' : Heap} {vm : Vm} {Ts : List String} (E : EMP Z h vm Ts) (Kp : Keep h h' []) : EMP Z h' vm Ts := E.elim Or.inl (fun ⟨i, lt, lb, lk, l, t⟩ => Or.inr ⟨i, lt, lb, lk, l, t.keep Kp nin0 nin0⟩)
theorem EMP.warm {Z s : State} {h : Heap} {vm vm' : Vm} {Ts : List String} (E : EMP Z h vm Ts) (hW : (s.setVm vm).WarmedH vm') : EMP Z h vm' Ts := E.elim (fun i => Or.inl (IB.warm i hW)) (fun ⟨i, lt, lb, lk, l, t⟩ => Or.inr ⟨IB.warm i hW, lt, lb, lk, Fnd.warm l hW, t⟩)
theorem EMP.at {Z : State} {K : Kx} {Pl : List Loc → Prop} {h : Heap} {vm vm' : Vm} {Ts : List String} (E : EMP Z h vm Ts) (hW : (KS (Kw K Pl vm)).WarmedH vm') : EMP Z h vm' Ts := EMP.warm (s := KS K) E (by rw [← KS_Kw (Pl := Pl)]; exact hW)
theorem EMP.mono {Z : State} {h : Heap} {vm : Vm} {Ts Ts' : List String} (E : EMP Z h vm Ts) (q : ∀ t ∈ Ts, t ∈ Ts') : EMP Z h vm Ts' := E.elim (fun i => Or.inl (IB.mono i q)) (fun ⟨i, x⟩ => Or.inr ⟨IB.mono i (fun t ht => by simp only [List.mem_cons] at ht ⊢; rcases ht with z | z; exact Or.inl z; exact Or.inr (q t z)), x⟩)
/-- a first load of a text, "" loaded or not -/
theorem r_ldcT {g : Heap} {idx n : Nat} {text : String} {Ts : List String} {bs : List Int32} (W : Wb l R Z own nm code maxL ret n0 h0 K) (hn0 : h0.size ≤ n1) (D : Sn K vm k) (hk : k ≤ h.size) (hk2 : h0.size ≤ h.size) (hd : decode code pc = .ok (.ldc idx, 2)) (hp : pc + 2 = pc') (w : (Jvm.Cond.stringLink own idx text).before a0 Z = true) (wS : ∀ a ∈ Bundle.stringAtoms, a.before a0 Z = true) (hkeep : ∀ (b : Addr) (cl : Cell), Z.heap[b]? = some cl → h0[b]? = some cl)
    (I : EMP Z g vm Ts) (hnot : text ∉ "" :: Ts) (hh : Jvm.Lit.constHeld Z own idx) (hcw : Jvm.Lit.compactW.before a0 Z = true) (ht : (∀ c ∈ text.toList, c.toNat < 256) ∧ text.toList.map (fun c => Value.int (Jvm.Lit.byteI c.toNat.toUInt16)) = bs.map Value.int) (hbl : bs.length < 2147483648) (hn : 4 * text.toList.length ≤ n) (hbig : n ≤ 536870912) (hc : cells + 2 ≤ R.cells) (hl : slots + (n + 4) ≤ R.slots)
    (r : ∀ vm' k' h' a b kb, Sn K vm' k' → k' ≤ h'.size → Ext h h' → Str Z h' a b kb bs → EMP Z g vm' (text :: Ts) → Run l R n0 Q (Kw K (Fr n1) vm') h' (cells + 2) (slots + (n + 4)) pc' Ls (.ref a :: st)) : Run l R n0 Q (Kw K (Fr n1) vm) h cells slots pc Ls st := by
  rcases I with i | ⟨i, lt, lb, lk, F, S⟩
  · exact r_ldcSH (n := n) (bs := bs) (pc' := pc') W hn0 D hk hk2 hd hp w wS hkeep i (fun q => hnot (List.mem_cons_of_mem _ q)) hh hcw ht hbl hn hbig hc hl (fun vm' k' h' a b kb q1 q2 q3 q4 q5 _ => r vm' k' h' a b kb q1 q2 q3 q4 (Or.inl q5))
  · exact r_ldcSH (n := n) (bs := bs) (pc' := pc') W hn0 D hk hk2 hd hp w wS hkeep i hnot hh hcw ht hbl hn hbig hc hl (fun vm' k' h' a b kb q1 q2 q3 q4 q5 q6 => r vm' k' h' a b kb q1 q2 q3 q4 (Or.inr ⟨IB.mono q5 (fun t ht => by simp only [List.mem_cons] at ht ⊢; rcases ht with z | z | z <;> simp [z]), lt, lb, lk, Fnd.warm39 (s := (KS K).setVm vm) F q6, S⟩))
theorem own_units {text : String} (ht : ∀ c ∈ text.toList, c.toNat < 256) (u v : Array UInt16) (hu : utf16ToString? u = some text) (hv : utf16ToString? v = some text) : u = v := by
  have e1 := units_of_text hu ht
  have e2 := units_of_text hv ht
  exact Array.toList_inj.mp (e1.trans e2.symm)
/-- the load of "", loaded or not -/
theorem r_ldcV {idx : Nat} {Ts : List String} (W : Wb l R Z own nm code maxL ret n0 h0 K) (hn0 : h0.size ≤ n0) (D : Sn K vm k) (hk : k ≤ h.size) (hk2 : h0.size ≤ h.size) (hd : decode code pc = .ok (.ldc idx, 2)) (hp : pc + 2 = pc') (w : (Jvm.Cond.stringLink own idx "").before a0 Z = true) (wS : ∀ a ∈ Bundle.stringAtoms, a.before a0 Z = true) (hkeep : ∀ (b : Addr) (cl : Cell), Z.heap[b]? = some cl → h0[b]? = some cl) (hz : Ext Z.heap h) (hfit : Fit Z)
    (I : EMP Z h vm Ts) (hnot : "" ∉ Ts) (hh : Jvm.Lit.constHeld Z own idx) (hcw : Jvm.Lit.compactW.before a0 Z = true) (hc : cells + 2 ≤ R.cells) (hl : slots + 4 ≤ R.slots)
    (r : ∀ vm' k' h' a b kb, Sn K vm' k' → k' ≤ h'.size → Ext h h' → Str Z h' a b kb [] → Run l R n0 Q (Kw K (Fr n0) vm') h' (cells + 2) (slots + 4) pc' Ls (.ref a :: st)) : Run l R n0 Q (Kw K (Fr n0) vm) h cells slots pc Ls st := by
  have ht : (∀ c ∈ "".toList, c.toNat < 256) ∧ "".toList.map (fun c => Value.int (Jvm.Lit.byteI c.toNat.toUInt16)) = ([] : List Int32).map Value.int := ⟨by decide, by decide⟩
  rcases I with i | ⟨i, lt, lb, lk, F, S⟩
  · exact r_ldcSH (n := 0) (bs := []) (pc' := pc') W hn0 D hk hk2 hd hp w wS hkeep i hnot hh hcw ht (by decide) (by decide) (by decide) hc (by rw [Nat.zero_add]; exact hl) (fun vm' k' h' a b kb q1 q2 q3 q4 q5 _ => by rw [Nat.zero_add]; exact r vm' k' h' a b kb q1 q2 q3 q4)
  · exact r_ldcU (n := 0) (bs := []) (pc' := pc') W hn0 D hk hk2 hd hp w wS hz hfit hh hcw ht (by decide) (by decide) (by decide) hc (by rw [Nat.zero_add]; exact hl) F S (fun vm' k' h' a b kb q1 q2 q3 q4 => by rw [Nat.zero_add]; exact r vm' k' h' a b kb q1 q2 q3 q4)
/-- the first load of "" -/
theorem r_ldcV0 {idx : Nat} {Ts : List String} (W : Wb l R Z own nm code maxL ret n0 h0 K) (hn0 : h0.size ≤ n0) (D : Sn K vm k) (hk : k ≤ h.size) (hk2 : h0.size ≤ h.size) (hd : decode code pc = .ok (.ldc idx, 2)) (hp : pc + 2 = pc') (w : (Jvm.Cond.stringLink own idx "").before a0 Z = true) (wS : ∀ a ∈ Bundle.stringAtoms, a.before a0 Z = true) (hkeep : ∀ (b : Addr) (cl : Cell), Z.heap[b]? = some cl → h0[b]? = some cl) (hz : Ext Z.heap h) (hfit : Fit Z)
    (I : IB Z vm Ts) (hnot : "" ∉ Ts) (hh : Jvm.Lit.constHeld Z own idx) (hcw : Jvm.Lit.compactW.before a0 Z = true) (hc : cells + 2 ≤ R.cells) (hl : slots + 4 ≤ R.slots)
    (r : ∀ vm' k' h' a b kb, Sn K vm' k' → k' ≤ h'.size → Ext h h' → Str Z h' a b kb [] → EMP Z h' vm' Ts → Run l R n0 Q (Kw K (Fr n0) vm') h' (cells + 2) (slots + 4) pc' Ls (.ref a :: st)) : Run l R n0 Q (Kw K (Fr n0) vm) h cells slots pc Ls st :=
  r_ldcE (n := 0) (bs := []) (pc' := pc') W hn0 D hk hk2 hd hp w wS hkeep hz hfit I hnot hh hcw ⟨by decide, by decide⟩ (fun u v hu hv => own_units (by decide) u v hu hv) (by decide) (by decide) (by decide) hc (by rw [Nat.zero_add]; exact hl) (fun vm' k' h' a b kb q1 q2 q3 q4 q5 => by rw [Nat.zero_add]; exact r vm' k' h' a b kb q1 q2 q3 q4 (q5.imp id (fun z => ⟨z.1, a, b, kb, z.2, q4⟩)))
end
end Jvm.OwnKit
namespace Jvm.Pilot.@@N@@
open Jvm Jvm.ClassFile Sem Op Lib Jvm.Free Jvm.Stand Jvm.LawKit Jvm.RoadKit Jvm.OwnKit Bundle Jvm.Pilot.@@N@@.Jvm.D
theorem w0 {Z : State} {a0 : Array Value} (hw : ∀ d ∈ tables_1, d.before a0 Z = true) : ((Jvm.Cond.constantLong "com/example/wrange/wrange/LengthWrittenPinLaw" (9 : Nat) (9223372036854775807 : Int64)) : Jvm.Cond).before a0 Z = true := hw _ (List.mem_of_getElem? (i := 0) rfl)
theorem w1 {Z : State} {a0 : Array Value} (hw : ∀ d ∈ tables_1, d.before a0 Z = true) : ((Jvm.Cond.arrayClass Jvm.ClassFile.FieldType.long) : Jvm.Cond).before a0 Z = true := hw _ (List.mem_of_getElem? (i := 1) rfl)
theorem w2 {Z : State} {a0 : Array Value} (hw : ∀ d ∈ tables_1, d.before a0 Z = true) : ((Jvm.Cond.constantLong "com/example/wrange/wrange/LengthWrittenPinLaw" (11 : Nat) (10 : Int64)) : Jvm.Cond).before a0 Z = true := hw _ (List.mem_of_getElem? (i := 2) rfl)
theorem w3 {Z : State} {a0 : Array Value} (hw : ∀ d ∈ tables_1, d.before a0 Z = true) : ((Jvm.Cond.constantLong "com/example/wrange/wrange/LengthWrittenPinLaw" (13 : Nat) (100 : Int64)) : Jvm.Cond).before a0 Z = true := hw _ (List.mem_of_getElem? (i := 3) rfl)
theorem w4 {Z : State} {a0 : Array Value} (hw : ∀ d ∈ tables_1, d.before a0 Z = true) : ((Jvm.Cond.constantLong "com/example/wrange/wrange/LengthWrittenPinLaw" (15 : Nat) (1000 : Int64)) : Jvm.Cond).before a0 Z = true := hw _ (List.mem_of_getElem? (i := 4) rfl)
theorem w5 {Z : State} {a0 : Array Value} (hw : ∀ d ∈ tables_1, d.before a0 Z = true) : ((Jvm.Cond.constantLong "com/example/wrange/wrange/LengthWrittenPinLaw" (17 : Nat) (10000 : Int64)) : Jvm.Cond).before a0 Z = true := hw _ (List.mem_of_getElem? (i := 5) rfl)
theorem w6 {Z : State} {a0 : Array Value} (hw : ∀ d ∈ tables_1, d.before a0 Z = true) : ((Jvm.Cond.constantLong "com/example/wrange/wrange/LengthWrittenPinLaw" (19 : Nat) (100000 : Int64)) : Jvm.Cond).before a0 Z = true := hw _ (List.mem_of_getElem? (i := 6) rfl)
theorem w7 {Z : State} {a0 : Array Value} (hw : ∀ d ∈ tables_1, d.before a0 Z = true) : ((Jvm.Cond.constantLong "com/example/wrange/wrange/LengthWrittenPinLaw" (21 : Nat) (1000000 : Int64)) : Jvm.Cond).before a0 Z = true := hw _ (List.mem_of_getElem? (i := 7) rfl)
theorem w8 {Z : State} {a0 : Array Value} (hw : ∀ d ∈ tables_1, d.before a0 Z = true) : ((Jvm.Cond.constantLong "com/example/wrange/wrange/LengthWrittenPinLaw" (23 : Nat) (10000000 : Int64)) : Jvm.Cond).before a0 Z = true := hw _ (List.mem_of_getElem? (i := 8) rfl)
theorem w9 {Z : State} {a0 : Array Value} (hw : ∀ d ∈ tables_1, d.before a0 Z = true) : ((Jvm.Cond.constantLong "com/example/wrange/wrange/LengthWrittenPinLaw" (25 : Nat) (100000000 : Int64)) : Jvm.Cond).before a0 Z = true := hw _ (List.mem_of_getElem? (i := 9) rfl)
theorem w10 {Z : State} {a0 : Array Value} (hw : ∀ d ∈ tables_1, d.before a0 Z = true) : ((Jvm.Cond.constantLong "com/example/wrange/wrange/LengthWrittenPinLaw" (27 : Nat) (1000000000 : Int64)) : Jvm.Cond).before a0 Z = true := hw _ (List.mem_of_getElem? (i := 10) rfl)
theorem w11 {Z : State} {a0 : Array Value} (hw : ∀ d ∈ tables_1, d.before a0 Z = true) : ((Jvm.Cond.constantLong "com/example/wrange/wrange/LengthWrittenPinLaw" (29 : Nat) (10000000000 : Int64)) : Jvm.Cond).before a0 Z = true := hw _ (List.mem_of_getElem? (i := 11) rfl)
theorem w12 {Z : State} {a0 : Array Value} (hw : ∀ d ∈ tables_1, d.before a0 Z = true) : ((Jvm.Cond.constantLong "com/example/wrange/wrange/LengthWrittenPinLaw" (31 : Nat) (100000000000 : Int64)) : Jvm.Cond).before a0 Z = true := hw _ (List.mem_of_getElem? (i := 12) rfl)
theorem w13 {Z : State} {a0 : Array Value} (hw : ∀ d ∈ tables_1, d.before a0 Z = true) : ((Jvm.Cond.constantLong "com/example/wrange/wrange/LengthWrittenPinLaw" (33 : Nat) (1000000000000 : Int64)) : Jvm.Cond).before a0 Z = true := hw _ (List.mem_of_getElem? (i := 13) rfl)
theorem w14 {Z : State} {a0 : Array Value} (hw : ∀ d ∈ tables_1, d.before a0 Z = true) : ((Jvm.Cond.constantLong "com/example/wrange/wrange/LengthWrittenPinLaw" (35 : Nat) (10000000000000 : Int64)) : Jvm.Cond).before a0 Z = true := hw _ (List.mem_of_getElem? (i := 14) rfl)
theorem w15 {Z : State} {a0 : Array Value} (hw : ∀ d ∈ tables_1, d.before a0 Z = true) : ((Jvm.Cond.constantLong "com/example/wrange/wrange/LengthWrittenPinLaw" (37 : Nat) (100000000000000 : Int64)) : Jvm.Cond).before a0 Z = true := hw _ (List.mem_of_getElem? (i := 15) rfl)
theorem w16 {Z : State} {a0 : Array Value} (hw : ∀ d ∈ tables_1, d.before a0 Z = true) : ((Jvm.Cond.constantLong "com/example/wrange/wrange/LengthWrittenPinLaw" (39 : Nat) (1000000000000000 : Int64)) : Jvm.Cond).before a0 Z = true := hw _ (List.mem_of_getElem? (i := 16) rfl)
theorem w17 {Z : State} {a0 : Array Value} (hw : ∀ d ∈ tables_1, d.before a0 Z = true) : ((Jvm.Cond.constantLong "com/example/wrange/wrange/LengthWrittenPinLaw" (41 : Nat) (10000000000000000 : Int64)) : Jvm.Cond).before a0 Z = true := hw _ (List.mem_of_getElem? (i := 17) rfl)
theorem w18 {Z : State} {a0 : Array Value} (hw : ∀ d ∈ tables_1, d.before a0 Z = true) : ((Jvm.Cond.constantLong "com/example/wrange/wrange/LengthWrittenPinLaw" (43 : Nat) (100000000000000000 : Int64)) : Jvm.Cond).before a0 Z = true := hw _ (List.mem_of_getElem? (i := 18) rfl)
theorem w19 {Z : State} {a0 : Array Value} (hw : ∀ d ∈ tables_1, d.before a0 Z = true) : ((Jvm.Cond.constantLong "com/example/wrange/wrange/LengthWrittenPinLaw" (45 : Nat) (1000000000000000000 : Int64)) : Jvm.Cond).before a0 Z = true := hw _ (List.mem_of_getElem? (i := 19) rfl)
theorem w20 {Z : State} {a0 : Array Value} (hw : ∀ d ∈ tables_1, d.before a0 Z = true) : ((Jvm.Cond.methodLink "com/example/wrange/wrange/LengthWrittenPinLaw" (47 : Nat) ({ cls := "com/example/wrange/wrange/LengthWrittenPinLaw", name := "digits", desc := "(J[J)I" } : Jvm.MethodName)) : Jvm.Cond).before a0 Z = true := hw _ (List.mem_of_getElem? (i := 20) rfl)
theorem w21 {Z : State} {a0 : Array Value} (hw : ∀ d ∈ tables_1, d.before a0 Z = true) : ((Jvm.Cond.static ({ cls := "com/example/wrange/wrange/LengthWrittenPinLaw", name := "digits", desc := "(J[J)I" } : Jvm.MethodName)) : Jvm.Cond).before a0 Z = true := hw _ (List.mem_of_getElem? (i := 21) rfl)
theorem w22 {Z : State} {a0 : Array Value} (hw : ∀ d ∈ tables_1, d.before a0 Z = true) : ((Jvm.Cond.initialized "com/example/wrange/wrange/LengthWrittenPinLaw") : Jvm.Cond).before a0 Z = true := hw _ (List.mem_of_getElem? (i := 22) rfl)
theorem w23 {Z : State} {a0 : Array Value} (hw : ∀ d ∈ tables_1, d.before a0 Z = true) : ((Jvm.Cond.code ({ cls := "com/example/wrange/wrange/LengthWrittenPinLaw", name := "digits", desc := "(J[J)I" } : Jvm.MethodName) method_2_code (4 : Nat) (Option.some Jvm.ClassFile.FieldType.int)) : Jvm.Cond).before a0 Z = true := hw _ (List.mem_of_getElem? (i := 23) rfl)
theorem w24 {Z : State} {a0 : Array Value} (hw : ∀ d ∈ tables_1, d.before a0 Z = true) : ((Jvm.Cond.constant "com/example/wrange/wrange/LengthWrittenPinLaw" (53 : Nat) (2147483647 : Int32)) : Jvm.Cond).before a0 Z = true := hw _ (List.mem_of_getElem? (i := 24) rfl)
theorem w25 {Z : State} {a0 : Array Value} (hw : ∀ d ∈ tables_1, d.before a0 Z = true) : ((Jvm.Cond.classLink "com/example/wrange/wrange/LengthWrittenPinLaw" (57 : Nat) "java/lang/String") : Jvm.Cond).before a0 Z = true := hw _ (List.mem_of_getElem? (i := 25) rfl)
theorem w26 {Z : State} {a0 : Array Value} (hw : ∀ d ∈ tables_1, d.before a0 Z = true) : ((Jvm.Cond.instantiable "java/lang/String" (4 : Nat)) : Jvm.Cond).before a0 Z = true := hw _ (List.mem_of_getElem? (i := 26) rfl)
theorem w27 {Z : State} {a0 : Array Value} (hw : ∀ d ∈ tables_1, d.before a0 Z = true) : ((Jvm.Cond.initialized "java/lang/String") : Jvm.Cond).before a0 Z = true := hw _ (List.mem_of_getElem? (i := 27) rfl)
theorem w28 {Z : State} {a0 : Array Value} (hw : ∀ d ∈ tables_1, d.before a0 Z = true) : ((Jvm.Cond.arrayClass Jvm.ClassFile.FieldType.char) : Jvm.Cond).before a0 Z = true := hw _ (List.mem_of_getElem? (i := 28) rfl)
theorem w29 {Z : State} {a0 : Array Value} (hw : ∀ d ∈ tables_1, d.before a0 Z = true) : ((Jvm.Cond.methodLink "com/example/wrange/wrange/LengthWrittenPinLaw" (62 : Nat) ({ cls := "java/lang/String", name := "<init>", desc := "([C)V" } : Jvm.MethodName)) : Jvm.Cond).before a0 Z = true := hw _ (List.mem_of_getElem? (i := 29) rfl)
theorem w30 {Z : State} {a0 : Array Value} (hw : ∀ d ∈ tables_1, d.before a0 Z = true) : ((Jvm.Cond.instanceMethod ({ cls := "java/lang/String", name := "<init>", desc := "([C)V" } : Jvm.MethodName)) : Jvm.Cond).before a0 Z = true := hw _ (List.mem_of_getElem? (i := 30) rfl)
theorem w31 {Z : State} {a0 : Array Value} (hw : ∀ d ∈ tables_1, d.before a0 Z = true) : ((Jvm.Cond.code ({ cls := "java/lang/String", name := "<init>", desc := "([C)V" } : Jvm.MethodName) jdk_42_method_3_code (2 : Nat) (Option.none : Option Jvm.ClassFile.FieldType)) : Jvm.Cond).before a0 Z = true := hw _ (List.mem_of_getElem? (i := 31) rfl)
theorem w32 {Z : State} {a0 : Array Value} (hw : ∀ d ∈ tables_1, d.before a0 Z = true) : ((Jvm.Cond.methodLink "java/lang/String" (27 : Nat) ({ cls := "java/lang/String", name := "<init>", desc := "([CIILjava/lang/Void;)V" } : Jvm.MethodName)) : Jvm.Cond).before a0 Z = true := hw _ (List.mem_of_getElem? (i := 32) rfl)
theorem w33 {Z : State} {a0 : Array Value} (hw : ∀ d ∈ tables_1, d.before a0 Z = true) : ((Jvm.Cond.instanceMethod ({ cls := "java/lang/String", name := "<init>", desc := "([CIILjava/lang/Void;)V" } : Jvm.MethodName)) : Jvm.Cond).before a0 Z = true := hw _ (List.mem_of_getElem? (i := 33) rfl)
theorem w34 {Z : State} {a0 : Array Value} (hw : ∀ d ∈ tables_1, d.before a0 Z = true) : ((Jvm.Cond.castable "java/lang/String" "java/lang/String") : Jvm.Cond).before a0 Z = true := hw _ (List.mem_of_getElem? (i := 34) rfl)
theorem w35 {Z : State} {a0 : Array Value} (hw : ∀ d ∈ tables_1, d.before a0 Z = true) : ((Jvm.Cond.code ({ cls := "java/lang/String", name := "<init>", desc := "([CIILjava/lang/Void;)V" } : Jvm.MethodName) jdk_42_method_149_code (6 : Nat) (Option.none : Option Jvm.ClassFile.FieldType)) : Jvm.Cond).before a0 Z = true := hw _ (List.mem_of_getElem? (i := 35) rfl)
theorem w36 {Z : State} {a0 : Array Value} (hw : ∀ d ∈ tables_1, d.before a0 Z = true) : ((Jvm.Cond.methodLink "java/lang/String" (1 : Nat) ({ cls := "java/lang/Object", name := "<init>", desc := "()V" } : Jvm.MethodName)) : Jvm.Cond).before a0 Z = true := hw _ (List.mem_of_getElem? (i := 36) rfl)
theorem w37 {Z : State} {a0 : Array Value} (hw : ∀ d ∈ tables_1, d.before a0 Z = true) : ((Jvm.Cond.instanceMethod ({ cls := "java/lang/Object", name := "<init>", desc := "()V" } : Jvm.MethodName)) : Jvm.Cond).before a0 Z = true := hw _ (List.mem_of_getElem? (i := 37) rfl)
theorem w38 {Z : State} {a0 : Array Value} (hw : ∀ d ∈ tables_1, d.before a0 Z = true) : ((Jvm.Cond.code ({ cls := "java/lang/Object", name := "<init>", desc := "()V" } : Jvm.MethodName) object_method_1_code (1 : Nat) (Option.none : Option Jvm.ClassFile.FieldType)) : Jvm.Cond).before a0 Z = true := hw _ (List.mem_of_getElem? (i := 38) rfl)
theorem w39 {Z : State} {a0 : Array Value} (hw : ∀ d ∈ tables_1, d.before a0 Z = true) : ((Jvm.Cond.fieldLink "java/lang/String" (38 : Nat) "java/lang/String" "COMPACT_STRINGS" "Z") : Jvm.Cond).before a0 Z = true := hw _ (List.mem_of_getElem? (i := 39) rfl)
theorem w40 {Z : State} {a0 : Array Value} (hw : ∀ d ∈ tables_1, d.before a0 Z = true) : ((Jvm.Cond.methodLink "java/lang/String" (177 : Nat) ({ cls := "java/lang/StringUTF16", name := "compress", desc := "([CII)[B" } : Jvm.MethodName)) : Jvm.Cond).before a0 Z = true := hw _ (List.mem_of_getElem? (i := 40) rfl)
theorem w41 {Z : State} {a0 : Array Value} (hw : ∀ d ∈ tables_1, d.before a0 Z = true) : ((Jvm.Cond.static ({ cls := "java/lang/StringUTF16", name := "compress", desc := "([CII)[B" } : Jvm.MethodName)) : Jvm.Cond).before a0 Z = true := hw _ (List.mem_of_getElem? (i := 41) rfl)
theorem w42 {Z : State} {a0 : Array Value} (hw : ∀ d ∈ tables_1, d.before a0 Z = true) : ((Jvm.Cond.initialized "java/lang/StringUTF16") : Jvm.Cond).before a0 Z = true := hw _ (List.mem_of_getElem? (i := 42) rfl)
theorem w43 {Z : State} {a0 : Array Value} (hw : ∀ d ∈ tables_1, d.before a0 Z = true) : ((Jvm.Cond.code ({ cls := "java/lang/StringUTF16", name := "compress", desc := "([CII)[B" } : Jvm.MethodName) jdk_52_method_16_code (6 : Nat) (Option.some (Jvm.ClassFile.FieldType.array Jvm.ClassFile.FieldType.byte))) : Jvm.Cond).before a0 Z = true := hw _ (List.mem_of_getElem? (i := 43) rfl)
theorem w44 {Z : State} {a0 : Array Value} (hw : ∀ d ∈ tables_1, d.before a0 Z = true) : ((Jvm.Cond.arrayClass Jvm.ClassFile.FieldType.byte) : Jvm.Cond).before a0 Z = true := hw _ (List.mem_of_getElem? (i := 44) rfl)
theorem w45 {Z : State} {a0 : Array Value} (hw : ∀ d ∈ tables_1, d.before a0 Z = true) : ((Jvm.Cond.methodLink "java/lang/StringUTF16" (115 : Nat) ({ cls := "java/lang/StringUTF16", name := "compress", desc := "([CI[BII)I" } : Jvm.MethodName)) : Jvm.Cond).before a0 Z = true := hw _ (List.mem_of_getElem? (i := 45) rfl)
theorem w46 {Z : State} {a0 : Array Value} (hw : ∀ d ∈ tables_1, d.before a0 Z = true) : ((Jvm.Cond.static ({ cls := "java/lang/StringUTF16", name := "compress", desc := "([CI[BII)I" } : Jvm.MethodName)) : Jvm.Cond).before a0 Z = true := hw _ (List.mem_of_getElem? (i := 46) rfl)
theorem w47 {Z : State} {a0 : Array Value} (hw : ∀ d ∈ tables_1, d.before a0 Z = true) : ((Jvm.Cond.code ({ cls := "java/lang/StringUTF16", name := "compress", desc := "([CI[BII)I" } : Jvm.MethodName) jdk_52_method_21_code (7 : Nat) (Option.some Jvm.ClassFile.FieldType.int)) : Jvm.Cond).before a0 Z = true := hw _ (List.mem_of_getElem? (i := 47) rfl)
theorem w48 {Z : State} {a0 : Array Value} (hw : ∀ d ∈ tables_1, d.before a0 Z = true) : ((Jvm.Cond.methodLink "java/lang/String" (47 : Nat) ({ cls := "java/lang/StringUTF16", name := "coderFromArrayLen", desc := "([BI)B" } : Jvm.MethodName)) : Jvm.Cond).before a0 Z = true := hw _ (List.mem_of_getElem? (i := 48) rfl)
theorem w49 {Z : State} {a0 : Array Value} (hw : ∀ d ∈ tables_1, d.before a0 Z = true) : ((Jvm.Cond.static ({ cls := "java/lang/StringUTF16", name := "coderFromArrayLen", desc := "([BI)B" } : Jvm.MethodName)) : Jvm.Cond).before a0 Z = true := hw _ (List.mem_of_getElem? (i := 49) rfl)
theorem w50 {Z : State} {a0 : Array Value} (hw : ∀ d ∈ tables_1, d.before a0 Z = true) : ((Jvm.Cond.code ({ cls := "java/lang/StringUTF16", name := "coderFromArrayLen", desc := "([BI)B" } : Jvm.MethodName) jdk_52_method_15_code (2 : Nat) (Option.some Jvm.ClassFile.FieldType.byte)) : Jvm.Cond).before a0 Z = true := hw _ (List.mem_of_getElem? (i := 50) rfl)
theorem w51 {Z : State} {a0 : Array Value} (hw : ∀ d ∈ tables_1, d.before a0 Z = true) : ((Jvm.Cond.fieldLink "java/lang/String" (15 : Nat) "java/lang/String" "coder" "B") : Jvm.Cond).before a0 Z = true := hw _ (List.mem_of_getElem? (i := 51) rfl)
theorem w52 {Z : State} {a0 : Array Value} (hw : ∀ d ∈ tables_1, d.before a0 Z = true) : ((Jvm.Cond.laysFinal "java/lang/String" "java/lang/String" "coder" "B") : Jvm.Cond).before a0 Z = true := hw _ (List.mem_of_getElem? (i := 52) rfl)
theorem w53 {Z : State} {a0 : Array Value} (hw : ∀ d ∈ tables_1, d.before a0 Z = true) : ((Jvm.Cond.fieldLink "java/lang/String" (9 : Nat) "java/lang/String" "value" "[B") : Jvm.Cond).before a0 Z = true := hw _ (List.mem_of_getElem? (i := 53) rfl)
theorem w54 {Z : State} {a0 : Array Value} (hw : ∀ d ∈ tables_1, d.before a0 Z = true) : ((Jvm.Cond.laysFinal "java/lang/String" "java/lang/String" "value" "[B") : Jvm.Cond).before a0 Z = true := hw _ (List.mem_of_getElem? (i := 54) rfl)
theorem w55 {Z : State} {a0 : Array Value} (hw : ∀ d ∈ tables_1, d.before a0 Z = true) : ((Jvm.Cond.methodLink "com/example/wrange/wrange/LengthWrittenPinLaw" (71 : Nat) ({ cls := "java/util/Optional", name := "empty", desc := "()Ljava/util/Optional;" } : Jvm.MethodName)) : Jvm.Cond).before a0 Z = true := hw _ (List.mem_of_getElem? (i := 55) rfl)
theorem w56 {Z : State} {a0 : Array Value} (hw : ∀ d ∈ tables_1, d.before a0 Z = true) : ((Jvm.Cond.static ({ cls := "java/util/Optional", name := "empty", desc := "()Ljava/util/Optional;" } : Jvm.MethodName)) : Jvm.Cond).before a0 Z = true := hw _ (List.mem_of_getElem? (i := 56) rfl)
theorem w57 {Z : State} {a0 : Array Value} (hw : ∀ d ∈ tables_1, d.before a0 Z = true) : ((Jvm.Cond.initialized "java/util/Optional") : Jvm.Cond).before a0 Z = true := hw _ (List.mem_of_getElem? (i := 57) rfl)
theorem w58 {Z : State} {a0 : Array Value} (hw : ∀ d ∈ tables_1, d.before a0 Z = true) : ((Jvm.Cond.code ({ cls := "java/util/Optional", name := "empty", desc := "()Ljava/util/Optional;" } : Jvm.MethodName) jdk_32_method_1_code (1 : Nat) (Option.some (Jvm.ClassFile.FieldType.object "java/util/Optional"))) : Jvm.Cond).before a0 Z = true := hw _ (List.mem_of_getElem? (i := 58) rfl)
theorem w59 {Z : State} {a0 : Array Value} (hw : ∀ d ∈ tables_1, d.before a0 Z = true) : ((Jvm.Cond.fieldLink "java/util/Optional" (1 : Nat) "java/util/Optional" "EMPTY" "Ljava/util/Optional;") : Jvm.Cond).before a0 Z = true := hw _ (List.mem_of_getElem? (i := 59) rfl)
theorem w60 {Z : State} {a0 : Array Value} (hw : ∀ d ∈ tables_1, d.before a0 Z = true) : ((Jvm.Cond.classLink "com/example/wrange/wrange/LengthWrittenPinLaw" (75 : Nat) "com/example/wrange/wrange/IntegrityCheck$Length") : Jvm.Cond).before a0 Z = true := hw _ (List.mem_of_getElem? (i := 60) rfl)
theorem w61 {Z : State} {a0 : Array Value} (hw : ∀ d ∈ tables_1, d.before a0 Z = true) : ((Jvm.Cond.instantiable "com/example/wrange/wrange/IntegrityCheck$Length" (2 : Nat)) : Jvm.Cond).before a0 Z = true := hw _ (List.mem_of_getElem? (i := 61) rfl)
theorem w62 {Z : State} {a0 : Array Value} (hw : ∀ d ∈ tables_1, d.before a0 Z = true) : ((Jvm.Cond.initialized "com/example/wrange/wrange/IntegrityCheck$Length") : Jvm.Cond).before a0 Z = true := hw _ (List.mem_of_getElem? (i := 62) rfl)
theorem w63 {Z : State} {a0 : Array Value} (hw : ∀ d ∈ tables_1, d.before a0 Z = true) : ((Jvm.Cond.methodLink "com/example/wrange/wrange/LengthWrittenPinLaw" (77 : Nat) ({ cls := "com/example/wrange/wrange/IntegrityCheck$Length", name := "<init>", desc := "(JLjava/util/Optional;)V" } : Jvm.MethodName)) : Jvm.Cond).before a0 Z = true := hw _ (List.mem_of_getElem? (i := 63) rfl)
theorem w64 {Z : State} {a0 : Array Value} (hw : ∀ d ∈ tables_1, d.before a0 Z = true) : ((Jvm.Cond.instanceMethod ({ cls := "com/example/wrange/wrange/IntegrityCheck$Length", name := "<init>", desc := "(JLjava/util/Optional;)V" } : Jvm.MethodName)) : Jvm.Cond).before a0 Z = true := hw _ (List.mem_of_getElem? (i := 64) rfl)
theorem w65 {Z : State} {a0 : Array Value} (hw : ∀ d ∈ tables_1, d.before a0 Z = true) : ((Jvm.Cond.code ({ cls := "com/example/wrange/wrange/IntegrityCheck$Length", name := "<init>", desc := "(JLjava/util/Optional;)V" } : Jvm.MethodName) prog_14_method_1_code (4 : Nat) (Option.none : Option Jvm.ClassFile.FieldType)) : Jvm.Cond).before a0 Z = true := hw _ (List.mem_of_getElem? (i := 65) rfl)
theorem w66 {Z : State} {a0 : Array Value} (hw : ∀ d ∈ tables_1, d.before a0 Z = true) : ((Jvm.Cond.methodLink "com/example/wrange/wrange/IntegrityCheck$Length" (1 : Nat) ({ cls := "java/lang/Record", name := "<init>", desc := "()V" } : Jvm.MethodName)) : Jvm.Cond).before a0 Z = true := hw _ (List.mem_of_getElem? (i := 66) rfl)
theorem w67 {Z : State} {a0 : Array Value} (hw : ∀ d ∈ tables_1, d.before a0 Z = true) : ((Jvm.Cond.instanceMethod ({ cls := "java/lang/Record", name := "<init>", desc := "()V" } : Jvm.MethodName)) : Jvm.Cond).before a0 Z = true := hw _ (List.mem_of_getElem? (i := 67) rfl)
theorem w69 {Z : State} {a0 : Array Value} (hw : ∀ d ∈ tables_1, d.before a0 Z = true) : ((Jvm.Cond.initialized "java/lang/Record") : Jvm.Cond).before a0 Z = true := hw _ (List.mem_of_getElem? (i := 69) rfl)
theorem w70 {Z : State} {a0 : Array Value} (hw : ∀ d ∈ tables_1, d.before a0 Z = true) : ((Jvm.Cond.code ({ cls := "java/lang/Record", name := "<init>", desc := "()V" } : Jvm.MethodName) jdk_30_method_1_code (1 : Nat) (Option.none : Option Jvm.ClassFile.FieldType)) : Jvm.Cond).before a0 Z = true := hw _ (List.mem_of_getElem? (i := 70) rfl)
theorem w71 {Z : State} {a0 : Array Value} (hw : ∀ d ∈ tables_1, d.before a0 Z = true) : ((Jvm.Cond.methodLink "java/lang/Record" (1 : Nat) ({ cls := "java/lang/Object", name := "<init>", desc := "()V" } : Jvm.MethodName)) : Jvm.Cond).before a0 Z = true := hw _ (List.mem_of_getElem? (i := 71) rfl)
theorem w72 {Z : State} {a0 : Array Value} (hw : ∀ d ∈ tables_1, d.before a0 Z = true) : ((Jvm.Cond.stringLink "com/example/wrange/wrange/IntegrityCheck$Length" (28 : Nat) "charset") : Jvm.Cond).before a0 Z = true := hw _ (List.mem_of_getElem? (i := 72) rfl)
theorem w73 {Z : State} {a0 : Array Value} (hw : ∀ d ∈ tables_1, d.before a0 Z = true) : ((Jvm.Cond.soleField "java/lang/String" "value") : Jvm.Cond).before a0 Z = true := hw _ (List.mem_of_getElem? (i := 73) rfl)
theorem w74 {Z : State} {a0 : Array Value} (hw : ∀ d ∈ tables_1, d.before a0 Z = true) : ((Jvm.Cond.soleField "java/lang/String" "coder") : Jvm.Cond).before a0 Z = true := hw _ (List.mem_of_getElem? (i := 74) rfl)
theorem w75 {Z : State} {a0 : Array Value} (hw : ∀ d ∈ tables_1, d.before a0 Z = true) : ((Jvm.Cond.methodLink "com/example/wrange/wrange/IntegrityCheck$Length" (30 : Nat) ({ cls := "java/util/Objects", name := "requireNonNull", desc := "(Ljava/lang/Object;Ljava/lang/String;)Ljava/lang/Object;" } : Jvm.MethodName)) : Jvm.Cond).before a0 Z = true := hw _ (List.mem_of_getElem? (i := 75) rfl)
theorem w76 {Z : State} {a0 : Array Value} (hw : ∀ d ∈ tables_1, d.before a0 Z = true) : ((Jvm.Cond.static ({ cls := "java/util/Objects", name := "requireNonNull", desc := "(Ljava/lang/Object;Ljava/lang/String;)Ljava/lang/Object;" } : Jvm.MethodName)) : Jvm.Cond).before a0 Z = true := hw _ (List.mem_of_getElem? (i := 76) rfl)
theorem w77 {Z : State} {a0 : Array Value} (hw : ∀ d ∈ tables_1, d.before a0 Z = true) : ((Jvm.Cond.initialized "java/util/Objects") : Jvm.Cond).before a0 Z = true := hw _ (List.mem_of_getElem? (i := 77) rfl)
theorem w78 {Z : State} {a0 : Array Value} (hw : ∀ d ∈ tables_1, d.before a0 Z = true) : ((Jvm.Cond.code ({ cls := "java/util/Objects", name := "requireNonNull", desc := "(Ljava/lang/Object;Ljava/lang/String;)Ljava/lang/Object;" } : Jvm.MethodName) jdk_31_method_11_code (2 : Nat) (Option.some (Jvm.ClassFile.FieldType.object "java/lang/Object"))) : Jvm.Cond).before a0 Z = true := hw _ (List.mem_of_getElem? (i := 78) rfl)
theorem w79 {Z : State} {a0 : Array Value} (hw : ∀ d ∈ tables_1, d.before a0 Z = true) : ((Jvm.Cond.fieldLink "com/example/wrange/wrange/IntegrityCheck$Length" (36 : Nat) "com/example/wrange/wrange/IntegrityCheck$Length" "characters" "J") : Jvm.Cond).before a0 Z = true := hw _ (List.mem_of_getElem? (i := 79) rfl)
theorem w80 {Z : State} {a0 : Array Value} (hw : ∀ d ∈ tables_1, d.before a0 Z = true) : ((Jvm.Cond.laysFinal "com/example/wrange/wrange/IntegrityCheck$Length" "com/example/wrange/wrange/IntegrityCheck$Length" "characters" "J") : Jvm.Cond).before a0 Z = true := hw _ (List.mem_of_getElem? (i := 80) rfl)
theorem w81 {Z : State} {a0 : Array Value} (hw : ∀ d ∈ tables_1, d.before a0 Z = true) : ((Jvm.Cond.fieldLink "com/example/wrange/wrange/IntegrityCheck$Length" (42 : Nat) "com/example/wrange/wrange/IntegrityCheck$Length" "charset" "Ljava/util/Optional;") : Jvm.Cond).before a0 Z = true := hw _ (List.mem_of_getElem? (i := 81) rfl)
theorem w82 {Z : State} {a0 : Array Value} (hw : ∀ d ∈ tables_1, d.before a0 Z = true) : ((Jvm.Cond.laysFinal "com/example/wrange/wrange/IntegrityCheck$Length" "com/example/wrange/wrange/IntegrityCheck$Length" "charset" "Ljava/util/Optional;") : Jvm.Cond).before a0 Z = true := hw _ (List.mem_of_getElem? (i := 82) rfl)
theorem w83 {Z : State} {a0 : Array Value} (hw : ∀ d ∈ tables_1, d.before a0 Z = true) : ((Jvm.Cond.methodLink "com/example/wrange/wrange/LengthWrittenPinLaw" (80 : Nat) ({ cls := "com/example/wrange/wrange/IntegrityCheck$Length", name := "written", desc := "()Ljava/lang/String;" } : Jvm.MethodName)) : Jvm.Cond).before a0 Z = true := hw _ (List.mem_of_getElem? (i := 83) rfl)
theorem w84 {Z : State} {a0 : Array Value} (hw : ∀ d ∈ tables_1, d.before a0 Z = true) : ((Jvm.Cond.declares ({ cls := "com/example/wrange/wrange/IntegrityCheck$Length", name := "written", desc := "()Ljava/lang/String;" } : Jvm.MethodName)) : Jvm.Cond).before a0 Z = true := hw _ (List.mem_of_getElem? (i := 84) rfl)
theorem w85 {Z : State} {a0 : Array Value} (hw : ∀ d ∈ tables_1, d.before a0 Z = true) : ((Jvm.Cond.instanceMethod ({ cls := "com/example/wrange/wrange/IntegrityCheck$Length", name := "written", desc := "()Ljava/lang/String;" } : Jvm.MethodName)) : Jvm.Cond).before a0 Z = true := hw _ (List.mem_of_getElem? (i := 85) rfl)
theorem w86 {Z : State} {a0 : Array Value} (hw : ∀ d ∈ tables_1, d.before a0 Z = true) : ((Jvm.Cond.selects "com/example/wrange/wrange/IntegrityCheck$Length" ({ cls := "com/example/wrange/wrange/IntegrityCheck$Length", name := "written", desc := "()Ljava/lang/String;" } : Jvm.MethodName) ({ cls := "com/example/wrange/wrange/IntegrityCheck$Length", name := "written", desc := "()Ljava/lang/String;" } : Jvm.MethodName)) : Jvm.Cond).before a0 Z = true := hw _ (List.mem_of_getElem? (i := 86) rfl)
theorem w87 {Z : State} {a0 : Array Value} (hw : ∀ d ∈ tables_1, d.before a0 Z = true) : ((Jvm.Cond.code ({ cls := "com/example/wrange/wrange/IntegrityCheck$Length", name := "written", desc := "()Ljava/lang/String;" } : Jvm.MethodName) prog_14_method_3_code (1 : Nat) (Option.some (Jvm.ClassFile.FieldType.object "java/lang/String"))) : Jvm.Cond).before a0 Z = true := hw _ (List.mem_of_getElem? (i := 87) rfl)
theorem w88 {Z : State} {a0 : Array Value} (hw : ∀ d ∈ tables_1, d.before a0 Z = true) : ((Jvm.Cond.classLink "com/example/wrange/wrange/IntegrityCheck$Length" (9 : Nat) "java/lang/StringBuilder") : Jvm.Cond).before a0 Z = true := hw _ (List.mem_of_getElem? (i := 88) rfl)
theorem w89 {Z : State} {a0 : Array Value} (hw : ∀ d ∈ tables_1, d.before a0 Z = true) : ((Jvm.Cond.instantiable "java/lang/StringBuilder" (4 : Nat)) : Jvm.Cond).before a0 Z = true := hw _ (List.mem_of_getElem? (i := 89) rfl)
theorem w90 {Z : State} {a0 : Array Value} (hw : ∀ d ∈ tables_1, d.before a0 Z = true) : ((Jvm.Cond.initialized "java/lang/StringBuilder") : Jvm.Cond).before a0 Z = true := hw _ (List.mem_of_getElem? (i := 90) rfl)
theorem w91 {Z : State} {a0 : Array Value} (hw : ∀ d ∈ tables_1, d.before a0 Z = true) : ((Jvm.Cond.methodLink "com/example/wrange/wrange/IntegrityCheck$Length" (11 : Nat) ({ cls := "java/lang/StringBuilder", name := "<init>", desc := "()V" } : Jvm.MethodName)) : Jvm.Cond).before a0 Z = true := hw _ (List.mem_of_getElem? (i := 91) rfl)
theorem w92 {Z : State} {a0 : Array Value} (hw : ∀ d ∈ tables_1, d.before a0 Z = true) : ((Jvm.Cond.instanceMethod ({ cls := "java/lang/StringBuilder", name := "<init>", desc := "()V" } : Jvm.MethodName)) : Jvm.Cond).before a0 Z = true := hw _ (List.mem_of_getElem? (i := 92) rfl)
theorem w93 {Z : State} {a0 : Array Value} (hw : ∀ d ∈ tables_1, d.before a0 Z = true) : ((Jvm.Cond.code ({ cls := "java/lang/StringBuilder", name := "<init>", desc := "()V" } : Jvm.MethodName) jdk_67_method_1_code (1 : Nat) (Option.none : Option Jvm.ClassFile.FieldType)) : Jvm.Cond).before a0 Z = true := hw _ (List.mem_of_getElem? (i := 93) rfl)
theorem w94 {Z : State} {a0 : Array Value} (hw : ∀ d ∈ tables_1, d.before a0 Z = true) : ((Jvm.Cond.methodLink "java/lang/StringBuilder" (1 : Nat) ({ cls := "java/lang/AbstractStringBuilder", name := "<init>", desc := "(I)V" } : Jvm.MethodName)) : Jvm.Cond).before a0 Z = true := hw _ (List.mem_of_getElem? (i := 94) rfl)
theorem w95 {Z : State} {a0 : Array Value} (hw : ∀ d ∈ tables_1, d.before a0 Z = true) : ((Jvm.Cond.instanceMethod ({ cls := "java/lang/AbstractStringBuilder", name := "<init>", desc := "(I)V" } : Jvm.MethodName)) : Jvm.Cond).before a0 Z = true := hw _ (List.mem_of_getElem? (i := 95) rfl)
theorem w97 {Z : State} {a0 : Array Value} (hw : ∀ d ∈ tables_1, d.before a0 Z = true) : ((Jvm.Cond.castable "java/lang/StringBuilder" "java/lang/AbstractStringBuilder") : Jvm.Cond).before a0 Z = true := hw _ (List.mem_of_getElem? (i := 97) rfl)
theorem w98 {Z : State} {a0 : Array Value} (hw : ∀ d ∈ tables_1, d.before a0 Z = true) : ((Jvm.Cond.initialized "java/lang/AbstractStringBuilder") : Jvm.Cond).before a0 Z = true := hw _ (List.mem_of_getElem? (i := 98) rfl)
theorem w99 {Z : State} {a0 : Array Value} (hw : ∀ d ∈ tables_1, d.before a0 Z = true) : ((Jvm.Cond.code ({ cls := "java/lang/AbstractStringBuilder", name := "<init>", desc := "(I)V" } : Jvm.MethodName) jdk_68_method_2_code (2 : Nat) (Option.none : Option Jvm.ClassFile.FieldType)) : Jvm.Cond).before a0 Z = true := hw _ (List.mem_of_getElem? (i := 99) rfl)
theorem w100 {Z : State} {a0 : Array Value} (hw : ∀ d ∈ tables_1, d.before a0 Z = true) : ((Jvm.Cond.methodLink "java/lang/AbstractStringBuilder" (3 : Nat) ({ cls := "java/lang/Object", name := "<init>", desc := "()V" } : Jvm.MethodName)) : Jvm.Cond).before a0 Z = true := hw _ (List.mem_of_getElem? (i := 100) rfl)
theorem w101 {Z : State} {a0 : Array Value} (hw : ∀ d ∈ tables_1, d.before a0 Z = true) : ((Jvm.Cond.fieldLink "java/lang/AbstractStringBuilder" (18 : Nat) "java/lang/String" "COMPACT_STRINGS" "Z") : Jvm.Cond).before a0 Z = true := hw _ (List.mem_of_getElem? (i := 101) rfl)
theorem w102 {Z : State} {a0 : Array Value} (hw : ∀ d ∈ tables_1, d.before a0 Z = true) : ((Jvm.Cond.fieldLink "java/lang/AbstractStringBuilder" (15 : Nat) "java/lang/AbstractStringBuilder" "value" "[B") : Jvm.Cond).before a0 Z = true := hw _ (List.mem_of_getElem? (i := 102) rfl)
theorem w103 {Z : State} {a0 : Array Value} (hw : ∀ d ∈ tables_1, d.before a0 Z = true) : ((Jvm.Cond.lays "java/lang/StringBuilder" "java/lang/AbstractStringBuilder" "value" "[B") : Jvm.Cond).before a0 Z = true := hw _ (List.mem_of_getElem? (i := 103) rfl)
theorem w104 {Z : State} {a0 : Array Value} (hw : ∀ d ∈ tables_1, d.before a0 Z = true) : ((Jvm.Cond.fieldLink "java/lang/AbstractStringBuilder" (22 : Nat) "java/lang/AbstractStringBuilder" "coder" "B") : Jvm.Cond).before a0 Z = true := hw _ (List.mem_of_getElem? (i := 104) rfl)
theorem w105 {Z : State} {a0 : Array Value} (hw : ∀ d ∈ tables_1, d.before a0 Z = true) : ((Jvm.Cond.lays "java/lang/StringBuilder" "java/lang/AbstractStringBuilder" "coder" "B") : Jvm.Cond).before a0 Z = true := hw _ (List.mem_of_getElem? (i := 105) rfl)
theorem w106 {Z : State} {a0 : Array Value} (hw : ∀ d ∈ tables_1, d.before a0 Z = true) : ((Jvm.Cond.stringLink "com/example/wrange/wrange/IntegrityCheck$Length" (51 : Nat) "length=") : Jvm.Cond).before a0 Z = true := hw _ (List.mem_of_getElem? (i := 106) rfl)
theorem w107 {Z : State} {a0 : Array Value} (hw : ∀ d ∈ tables_1, d.before a0 Z = true) : ((Jvm.Cond.methodLink "com/example/wrange/wrange/IntegrityCheck$Length" (14 : Nat) ({ cls := "java/lang/StringBuilder", name := "append", desc := "(Ljava/lang/String;)Ljava/lang/StringBuilder;" } : Jvm.MethodName)) : Jvm.Cond).before a0 Z = true := hw _ (List.mem_of_getElem? (i := 107) rfl)
theorem w108 {Z : State} {a0 : Array Value} (hw : ∀ d ∈ tables_1, d.before a0 Z = true) : ((Jvm.Cond.declares ({ cls := "java/lang/StringBuilder", name := "append", desc := "(Ljava/lang/String;)Ljava/lang/StringBuilder;" } : Jvm.MethodName)) : Jvm.Cond).before a0 Z = true := hw _ (List.mem_of_getElem? (i := 108) rfl)
theorem w109 {Z : State} {a0 : Array Value} (hw : ∀ d ∈ tables_1, d.before a0 Z = true) : ((Jvm.Cond.instanceMethod ({ cls := "java/lang/StringBuilder", name := "append", desc := "(Ljava/lang/String;)Ljava/lang/StringBuilder;" } : Jvm.MethodName)) : Jvm.Cond).before a0 Z = true := hw _ (List.mem_of_getElem? (i := 109) rfl)
theorem w110 {Z : State} {a0 : Array Value} (hw : ∀ d ∈ tables_1, d.before a0 Z = true) : ((Jvm.Cond.selects "java/lang/StringBuilder" ({ cls := "java/lang/StringBuilder", name := "append", desc := "(Ljava/lang/String;)Ljava/lang/StringBuilder;" } : Jvm.MethodName) ({ cls := "java/lang/StringBuilder", name := "append", desc := "(Ljava/lang/String;)Ljava/lang/StringBuilder;" } : Jvm.MethodName)) : Jvm.Cond).before a0 Z = true := hw _ (List.mem_of_getElem? (i := 110) rfl)
theorem w111 {Z : State} {a0 : Array Value} (hw : ∀ d ∈ tables_1, d.before a0 Z = true) : ((Jvm.Cond.code ({ cls := "java/lang/StringBuilder", name := "append", desc := "(Ljava/lang/String;)Ljava/lang/StringBuilder;" } : Jvm.MethodName) jdk_67_method_7_code (2 : Nat) (Option.some (Jvm.ClassFile.FieldType.object "java/lang/StringBuilder"))) : Jvm.Cond).before a0 Z = true := hw _ (List.mem_of_getElem? (i := 111) rfl)
theorem w112 {Z : State} {a0 : Array Value} (hw : ∀ d ∈ tables_1, d.before a0 Z = true) : ((Jvm.Cond.methodLink "java/lang/StringBuilder" (29 : Nat) ({ cls := "java/lang/AbstractStringBuilder", name := "append", desc := "(Ljava/lang/String;)Ljava/lang/AbstractStringBuilder;" } : Jvm.MethodName)) : Jvm.Cond).before a0 Z = true := hw _ (List.mem_of_getElem? (i := 112) rfl)
theorem w113 {Z : State} {a0 : Array Value} (hw : ∀ d ∈ tables_1, d.before a0 Z = true) : ((Jvm.Cond.instanceMethod ({ cls := "java/lang/AbstractStringBuilder", name := "append", desc := "(Ljava/lang/String;)Ljava/lang/AbstractStringBuilder;" } : Jvm.MethodName)) : Jvm.Cond).before a0 Z = true := hw _ (List.mem_of_getElem? (i := 113) rfl)
theorem w114 {Z : State} {a0 : Array Value} (hw : ∀ d ∈ tables_1, d.before a0 Z = true) : ((Jvm.Cond.superclass "java/lang/StringBuilder" "java/lang/AbstractStringBuilder") : Jvm.Cond).before a0 Z = true := hw _ (List.mem_of_getElem? (i := 114) rfl)
theorem w116 {Z : State} {a0 : Array Value} (hw : ∀ d ∈ tables_1, d.before a0 Z = true) : ((Jvm.Cond.code ({ cls := "java/lang/AbstractStringBuilder", name := "append", desc := "(Ljava/lang/String;)Ljava/lang/AbstractStringBuilder;" } : Jvm.MethodName) jdk_68_method_22_code (3 : Nat) (Option.some (Jvm.ClassFile.FieldType.object "java/lang/AbstractStringBuilder"))) : Jvm.Cond).before a0 Z = true := hw _ (List.mem_of_getElem? (i := 116) rfl)
theorem w117 {Z : State} {a0 : Array Value} (hw : ∀ d ∈ tables_1, d.before a0 Z = true) : ((Jvm.Cond.methodLink "java/lang/AbstractStringBuilder" (32 : Nat) ({ cls := "java/lang/String", name := "length", desc := "()I" } : Jvm.MethodName)) : Jvm.Cond).before a0 Z = true := hw _ (List.mem_of_getElem? (i := 117) rfl)
theorem w118 {Z : State} {a0 : Array Value} (hw : ∀ d ∈ tables_1, d.before a0 Z = true) : ((Jvm.Cond.declares ({ cls := "java/lang/String", name := "length", desc := "()I" } : Jvm.MethodName)) : Jvm.Cond).before a0 Z = true := hw _ (List.mem_of_getElem? (i := 118) rfl)
theorem w119 {Z : State} {a0 : Array Value} (hw : ∀ d ∈ tables_1, d.before a0 Z = true) : ((Jvm.Cond.instanceMethod ({ cls := "java/lang/String", name := "length", desc := "()I" } : Jvm.MethodName)) : Jvm.Cond).before a0 Z = true := hw _ (List.mem_of_getElem? (i := 119) rfl)
theorem w120 {Z : State} {a0 : Array Value} (hw : ∀ d ∈ tables_1, d.before a0 Z = true) : ((Jvm.Cond.selects "java/lang/String" ({ cls := "java/lang/String", name := "length", desc := "()I" } : Jvm.MethodName) ({ cls := "java/lang/String", name := "length", desc := "()I" } : Jvm.MethodName)) : Jvm.Cond).before a0 Z = true := hw _ (List.mem_of_getElem? (i := 120) rfl)
theorem w121 {Z : State} {a0 : Array Value} (hw : ∀ d ∈ tables_1, d.before a0 Z = true) : ((Jvm.Cond.code ({ cls := "java/lang/String", name := "length", desc := "()I" } : Jvm.MethodName) jdk_42_method_54_code (1 : Nat) (Option.some Jvm.ClassFile.FieldType.int)) : Jvm.Cond).before a0 Z = true := hw _ (List.mem_of_getElem? (i := 121) rfl)
theorem w122 {Z : State} {a0 : Array Value} (hw : ∀ d ∈ tables_1, d.before a0 Z = true) : ((Jvm.Cond.methodLink "java/lang/String" (335 : Nat) ({ cls := "java/lang/String", name := "coder", desc := "()B" } : Jvm.MethodName)) : Jvm.Cond).before a0 Z = true := hw _ (List.mem_of_getElem? (i := 122) rfl)
theorem w123 {Z : State} {a0 : Array Value} (hw : ∀ d ∈ tables_1, d.before a0 Z = true) : ((Jvm.Cond.declares ({ cls := "java/lang/String", name := "coder", desc := "()B" } : Jvm.MethodName)) : Jvm.Cond).before a0 Z = true := hw _ (List.mem_of_getElem? (i := 123) rfl)
theorem w124 {Z : State} {a0 : Array Value} (hw : ∀ d ∈ tables_1, d.before a0 Z = true) : ((Jvm.Cond.instanceMethod ({ cls := "java/lang/String", name := "coder", desc := "()B" } : Jvm.MethodName)) : Jvm.Cond).before a0 Z = true := hw _ (List.mem_of_getElem? (i := 124) rfl)
theorem w125 {Z : State} {a0 : Array Value} (hw : ∀ d ∈ tables_1, d.before a0 Z = true) : ((Jvm.Cond.selects "java/lang/String" ({ cls := "java/lang/String", name := "coder", desc := "()B" } : Jvm.MethodName) ({ cls := "java/lang/String", name := "coder", desc := "()B" } : Jvm.MethodName)) : Jvm.Cond).before a0 Z = true := hw _ (List.mem_of_getElem? (i := 125) rfl)
theorem w126 {Z : State} {a0 : Array Value} (hw : ∀ d ∈ tables_1, d.before a0 Z = true) : ((Jvm.Cond.code ({ cls := "java/lang/String", name := "coder", desc := "()B" } : Jvm.MethodName) jdk_42_method_152_code (1 : Nat) (Option.some Jvm.ClassFile.FieldType.byte)) : Jvm.Cond).before a0 Z = true := hw _ (List.mem_of_getElem? (i := 126) rfl)
theorem w127 {Z : State} {a0 : Array Value} (hw : ∀ d ∈ tables_1, d.before a0 Z = true) : ((Jvm.Cond.fieldLink "java/lang/AbstractStringBuilder" (79 : Nat) "java/lang/AbstractStringBuilder" "count" "I") : Jvm.Cond).before a0 Z = true := hw _ (List.mem_of_getElem? (i := 127) rfl)
theorem w128 {Z : State} {a0 : Array Value} (hw : ∀ d ∈ tables_1, d.before a0 Z = true) : ((Jvm.Cond.lays "java/lang/StringBuilder" "java/lang/AbstractStringBuilder" "count" "I") : Jvm.Cond).before a0 Z = true := hw _ (List.mem_of_getElem? (i := 128) rfl)
theorem w129 {Z : State} {a0 : Array Value} (hw : ∀ d ∈ tables_1, d.before a0 Z = true) : ((Jvm.Cond.methodLink "java/lang/AbstractStringBuilder" (100 : Nat) ({ cls := "java/lang/AbstractStringBuilder", name := "ensureCapacityInternal", desc := "(I)V" } : Jvm.MethodName)) : Jvm.Cond).before a0 Z = true := hw _ (List.mem_of_getElem? (i := 129) rfl)
theorem w130 {Z : State} {a0 : Array Value} (hw : ∀ d ∈ tables_1, d.before a0 Z = true) : ((Jvm.Cond.instanceMethod ({ cls := "java/lang/AbstractStringBuilder", name := "ensureCapacityInternal", desc := "(I)V" } : Jvm.MethodName)) : Jvm.Cond).before a0 Z = true := hw _ (List.mem_of_getElem? (i := 130) rfl)
theorem w131 {Z : State} {a0 : Array Value} (hw : ∀ d ∈ tables_1, d.before a0 Z = true) : ((Jvm.Cond.privateMethod ({ cls := "java/lang/AbstractStringBuilder", name := "ensureCapacityInternal", desc := "(I)V" } : Jvm.MethodName)) : Jvm.Cond).before a0 Z = true := hw _ (List.mem_of_getElem? (i := 131) rfl)
theorem w132 {Z : State} {a0 : Array Value} (hw : ∀ d ∈ tables_1, d.before a0 Z = true) : ((Jvm.Cond.selects "java/lang/StringBuilder" ({ cls := "java/lang/AbstractStringBuilder", name := "ensureCapacityInternal", desc := "(I)V" } : Jvm.MethodName) ({ cls := "java/lang/AbstractStringBuilder", name := "ensureCapacityInternal", desc := "(I)V" } : Jvm.MethodName)) : Jvm.Cond).before a0 Z = true := hw _ (List.mem_of_getElem? (i := 132) rfl)
theorem w133 {Z : State} {a0 : Array Value} (hw : ∀ d ∈ tables_1, d.before a0 Z = true) : ((Jvm.Cond.code ({ cls := "java/lang/AbstractStringBuilder", name := "ensureCapacityInternal", desc := "(I)V" } : Jvm.MethodName) jdk_68_method_9_code (3 : Nat) (Option.none : Option Jvm.ClassFile.FieldType)) : Jvm.Cond).before a0 Z = true := hw _ (List.mem_of_getElem? (i := 133) rfl)
theorem w134 {Z : State} {a0 : Array Value} (hw : ∀ d ∈ tables_1, d.before a0 Z = true) : ((Jvm.Cond.methodLink "java/lang/AbstractStringBuilder" (208 : Nat) ({ cls := "java/lang/AbstractStringBuilder", name := "putStringAt", desc := "(ILjava/lang/String;)V" } : Jvm.MethodName)) : Jvm.Cond).before a0 Z = true := hw _ (List.mem_of_getElem? (i := 134) rfl)
theorem w135 {Z : State} {a0 : Array Value} (hw : ∀ d ∈ tables_1, d.before a0 Z = true) : ((Jvm.Cond.instanceMethod ({ cls := "java/lang/AbstractStringBuilder", name := "putStringAt", desc := "(ILjava/lang/String;)V" } : Jvm.MethodName)) : Jvm.Cond).before a0 Z = true := hw _ (List.mem_of_getElem? (i := 135) rfl)
theorem w136 {Z : State} {a0 : Array Value} (hw : ∀ d ∈ tables_1, d.before a0 Z = true) : ((Jvm.Cond.privateMethod ({ cls := "java/lang/AbstractStringBuilder", name := "putStringAt", desc := "(ILjava/lang/String;)V" } : Jvm.MethodName)) : Jvm.Cond).before a0 Z = true := hw _ (List.mem_of_getElem? (i := 136) rfl)
theorem w137 {Z : State} {a0 : Array Value} (hw : ∀ d ∈ tables_1, d.before a0 Z = true) : ((Jvm.Cond.selects "java/lang/StringBuilder" ({ cls := "java/lang/AbstractStringBuilder", name := "putStringAt", desc := "(ILjava/lang/String;)V" } : Jvm.MethodName) ({ cls := "java/lang/AbstractStringBuilder", name := "putStringAt", desc := "(ILjava/lang/String;)V" } : Jvm.MethodName)) : Jvm.Cond).before a0 Z = true := hw _ (List.mem_of_getElem? (i := 137) rfl)
theorem w138 {Z : State} {a0 : Array Value} (hw : ∀ d ∈ tables_1, d.before a0 Z = true) : ((Jvm.Cond.code ({ cls := "java/lang/AbstractStringBuilder", name := "putStringAt", desc := "(ILjava/lang/String;)V" } : Jvm.MethodName) jdk_68_method_73_code (3 : Nat) (Option.none : Option Jvm.ClassFile.FieldType)) : Jvm.Cond).before a0 Z = true := hw _ (List.mem_of_getElem? (i := 138) rfl)
theorem w139 {Z : State} {a0 : Array Value} (hw : ∀ d ∈ tables_1, d.before a0 Z = true) : ((Jvm.Cond.methodLink "java/lang/AbstractStringBuilder" (397 : Nat) ({ cls := "java/lang/AbstractStringBuilder", name := "inflateIfNeededFor", desc := "(Ljava/lang/String;)V" } : Jvm.MethodName)) : Jvm.Cond).before a0 Z = true := hw _ (List.mem_of_getElem? (i := 139) rfl)
theorem w140 {Z : State} {a0 : Array Value} (hw : ∀ d ∈ tables_1, d.before a0 Z = true) : ((Jvm.Cond.instanceMethod ({ cls := "java/lang/AbstractStringBuilder", name := "inflateIfNeededFor", desc := "(Ljava/lang/String;)V" } : Jvm.MethodName)) : Jvm.Cond).before a0 Z = true := hw _ (List.mem_of_getElem? (i := 140) rfl)
theorem w141 {Z : State} {a0 : Array Value} (hw : ∀ d ∈ tables_1, d.before a0 Z = true) : ((Jvm.Cond.privateMethod ({ cls := "java/lang/AbstractStringBuilder", name := "inflateIfNeededFor", desc := "(Ljava/lang/String;)V" } : Jvm.MethodName)) : Jvm.Cond).before a0 Z = true := hw _ (List.mem_of_getElem? (i := 141) rfl)
theorem w142 {Z : State} {a0 : Array Value} (hw : ∀ d ∈ tables_1, d.before a0 Z = true) : ((Jvm.Cond.selects "java/lang/StringBuilder" ({ cls := "java/lang/AbstractStringBuilder", name := "inflateIfNeededFor", desc := "(Ljava/lang/String;)V" } : Jvm.MethodName) ({ cls := "java/lang/AbstractStringBuilder", name := "inflateIfNeededFor", desc := "(Ljava/lang/String;)V" } : Jvm.MethodName)) : Jvm.Cond).before a0 Z = true := hw _ (List.mem_of_getElem? (i := 142) rfl)
theorem w143 {Z : State} {a0 : Array Value} (hw : ∀ d ∈ tables_1, d.before a0 Z = true) : ((Jvm.Cond.code ({ cls := "java/lang/AbstractStringBuilder", name := "inflateIfNeededFor", desc := "(Ljava/lang/String;)V" } : Jvm.MethodName) jdk_68_method_71_code (2 : Nat) (Option.none : Option Jvm.ClassFile.FieldType)) : Jvm.Cond).before a0 Z = true := hw _ (List.mem_of_getElem? (i := 143) rfl)
theorem w144 {Z : State} {a0 : Array Value} (hw : ∀ d ∈ tables_1, d.before a0 Z = true) : ((Jvm.Cond.methodLink "java/lang/AbstractStringBuilder" (40 : Nat) ({ cls := "java/lang/String", name := "coder", desc := "()B" } : Jvm.MethodName)) : Jvm.Cond).before a0 Z = true := hw _ (List.mem_of_getElem? (i := 144) rfl)
theorem w145 {Z : State} {a0 : Array Value} (hw : ∀ d ∈ tables_1, d.before a0 Z = true) : ((Jvm.Cond.methodLink "java/lang/AbstractStringBuilder" (399 : Nat) ({ cls := "java/lang/String", name := "getBytes", desc := "([BIB)V" } : Jvm.MethodName)) : Jvm.Cond).before a0 Z = true := hw _ (List.mem_of_getElem? (i := 145) rfl)
theorem w146 {Z : State} {a0 : Array Value} (hw : ∀ d ∈ tables_1, d.before a0 Z = true) : ((Jvm.Cond.declares ({ cls := "java/lang/String", name := "getBytes", desc := "([BIB)V" } : Jvm.MethodName)) : Jvm.Cond).before a0 Z = true := hw _ (List.mem_of_getElem? (i := 146) rfl)
theorem w147 {Z : State} {a0 : Array Value} (hw : ∀ d ∈ tables_1, d.before a0 Z = true) : ((Jvm.Cond.instanceMethod ({ cls := "java/lang/String", name := "getBytes", desc := "([BIB)V" } : Jvm.MethodName)) : Jvm.Cond).before a0 Z = true := hw _ (List.mem_of_getElem? (i := 147) rfl)
theorem w148 {Z : State} {a0 : Array Value} (hw : ∀ d ∈ tables_1, d.before a0 Z = true) : ((Jvm.Cond.selects "java/lang/String" ({ cls := "java/lang/String", name := "getBytes", desc := "([BIB)V" } : Jvm.MethodName) ({ cls := "java/lang/String", name := "getBytes", desc := "([BIB)V" } : Jvm.MethodName)) : Jvm.Cond).before a0 Z = true := hw _ (List.mem_of_getElem? (i := 148) rfl)
theorem w149 {Z : State} {a0 : Array Value} (hw : ∀ d ∈ tables_1, d.before a0 Z = true) : ((Jvm.Cond.code ({ cls := "java/lang/String", name := "getBytes", desc := "([BIB)V" } : Jvm.MethodName) jdk_42_method_147_code (4 : Nat) (Option.none : Option Jvm.ClassFile.FieldType)) : Jvm.Cond).before a0 Z = true := hw _ (List.mem_of_getElem? (i := 149) rfl)
theorem w150 {Z : State} {a0 : Array Value} (hw : ∀ d ∈ tables_1, d.before a0 Z = true) : ((Jvm.Cond.methodLink "java/lang/String" (212 : Nat) ({ cls := "java/lang/System", name := "arraycopy", desc := "(Ljava/lang/Object;ILjava/lang/Object;II)V" } : Jvm.MethodName)) : Jvm.Cond).before a0 Z = true := hw _ (List.mem_of_getElem? (i := 150) rfl)
theorem w151 {Z : State} {a0 : Array Value} (hw : ∀ d ∈ tables_1, d.before a0 Z = true) : ((Jvm.Cond.static ({ cls := "java/lang/System", name := "arraycopy", desc := "(Ljava/lang/Object;ILjava/lang/Object;II)V" } : Jvm.MethodName)) : Jvm.Cond).before a0 Z = true := hw _ (List.mem_of_getElem? (i := 151) rfl)
theorem w152 {Z : State} {a0 : Array Value} (hw : ∀ d ∈ tables_1, d.before a0 Z = true) : ((Jvm.Cond.initialized "java/lang/System") : Jvm.Cond).before a0 Z = true := hw _ (List.mem_of_getElem? (i := 152) rfl)
theorem w153 {Z : State} {a0 : Array Value} (hw : ∀ d ∈ tables_1, d.before a0 Z = true) : ((Jvm.Cond.native ({ cls := "java/lang/System", name := "arraycopy", desc := "(Ljava/lang/Object;ILjava/lang/Object;II)V" } : Jvm.MethodName)) : Jvm.Cond).before a0 Z = true := hw _ (List.mem_of_getElem? (i := 153) rfl)
theorem w154 {Z : State} {a0 : Array Value} (hw : ∀ d ∈ tables_1, d.before a0 Z = true) : ((Jvm.Cond.methodLink "com/example/wrange/wrange/IntegrityCheck$Length" (18 : Nat) ({ cls := "java/lang/StringBuilder", name := "append", desc := "(J)Ljava/lang/StringBuilder;" } : Jvm.MethodName)) : Jvm.Cond).before a0 Z = true := hw _ (List.mem_of_getElem? (i := 154) rfl)
theorem w155 {Z : State} {a0 : Array Value} (hw : ∀ d ∈ tables_1, d.before a0 Z = true) : ((Jvm.Cond.declares ({ cls := "java/lang/StringBuilder", name := "append", desc := "(J)Ljava/lang/StringBuilder;" } : Jvm.MethodName)) : Jvm.Cond).before a0 Z = true := hw _ (List.mem_of_getElem? (i := 155) rfl)
theorem w156 {Z : State} {a0 : Array Value} (hw : ∀ d ∈ tables_1, d.before a0 Z = true) : ((Jvm.Cond.instanceMethod ({ cls := "java/lang/StringBuilder", name := "append", desc := "(J)Ljava/lang/StringBuilder;" } : Jvm.MethodName)) : Jvm.Cond).before a0 Z = true := hw _ (List.mem_of_getElem? (i := 156) rfl)
theorem w157 {Z : State} {a0 : Array Value} (hw : ∀ d ∈ tables_1, d.before a0 Z = true) : ((Jvm.Cond.selects "java/lang/StringBuilder" ({ cls := "java/lang/StringBuilder", name := "append", desc := "(J)Ljava/lang/StringBuilder;" } : Jvm.MethodName) ({ cls := "java/lang/StringBuilder", name := "append", desc := "(J)Ljava/lang/StringBuilder;" } : Jvm.MethodName)) : Jvm.Cond).before a0 Z = true := hw _ (List.mem_of_getElem? (i := 157) rfl)
theorem w158 {Z : State} {a0 : Array Value} (hw : ∀ d ∈ tables_1, d.before a0 Z = true) : ((Jvm.Cond.code ({ cls := "java/lang/StringBuilder", name := "append", desc := "(J)Ljava/lang/StringBuilder;" } : Jvm.MethodName) jdk_67_method_16_code (3 : Nat) (Option.some (Jvm.ClassFile.FieldType.object "java/lang/StringBuilder"))) : Jvm.Cond).before a0 Z = true := hw _ (List.mem_of_getElem? (i := 158) rfl)
theorem w159 {Z : State} {a0 : Array Value} (hw : ∀ d ∈ tables_1, d.before a0 Z = true) : ((Jvm.Cond.methodLink "java/lang/StringBuilder" (56 : Nat) ({ cls := "java/lang/AbstractStringBuilder", name := "append", desc := "(J)Ljava/lang/AbstractStringBuilder;" } : Jvm.MethodName)) : Jvm.Cond).before a0 Z = true := hw _ (List.mem_of_getElem? (i := 159) rfl)
theorem w160 {Z : State} {a0 : Array Value} (hw : ∀ d ∈ tables_1, d.before a0 Z = true) : ((Jvm.Cond.instanceMethod ({ cls := "java/lang/AbstractStringBuilder", name := "append", desc := "(J)Ljava/lang/AbstractStringBuilder;" } : Jvm.MethodName)) : Jvm.Cond).before a0 Z = true := hw _ (List.mem_of_getElem? (i := 160) rfl)
theorem w162 {Z : State} {a0 : Array Value} (hw : ∀ d ∈ tables_1, d.before a0 Z = true) : ((Jvm.Cond.code ({ cls := "java/lang/AbstractStringBuilder", name := "append", desc := "(J)Ljava/lang/AbstractStringBuilder;" } : Jvm.MethodName) jdk_68_method_33_code (5 : Nat) (Option.some (Jvm.ClassFile.FieldType.object "java/lang/AbstractStringBuilder"))) : Jvm.Cond).before a0 Z = true := hw _ (List.mem_of_getElem? (i := 162) rfl)
theorem w163 {Z : State} {a0 : Array Value} (hw : ∀ d ∈ tables_1, d.before a0 Z = true) : ((Jvm.Cond.methodLink "java/lang/AbstractStringBuilder" (254 : Nat) ({ cls := "java/lang/Long", name := "stringSize", desc := "(J)I" } : Jvm.MethodName)) : Jvm.Cond).before a0 Z = true := hw _ (List.mem_of_getElem? (i := 163) rfl)
theorem w164 {Z : State} {a0 : Array Value} (hw : ∀ d ∈ tables_1, d.before a0 Z = true) : ((Jvm.Cond.static ({ cls := "java/lang/Long", name := "stringSize", desc := "(J)I" } : Jvm.MethodName)) : Jvm.Cond).before a0 Z = true := hw _ (List.mem_of_getElem? (i := 164) rfl)
theorem w165 {Z : State} {a0 : Array Value} (hw : ∀ d ∈ tables_1, d.before a0 Z = true) : ((Jvm.Cond.initialized "java/lang/Long") : Jvm.Cond).before a0 Z = true := hw _ (List.mem_of_getElem? (i := 165) rfl)
theorem w166 {Z : State} {a0 : Array Value} (hw : ∀ d ∈ tables_1, d.before a0 Z = true) : ((Jvm.Cond.code ({ cls := "java/lang/Long", name := "stringSize", desc := "(J)I" } : Jvm.MethodName) jdk_35_method_15_code (6 : Nat) (Option.some Jvm.ClassFile.FieldType.int)) : Jvm.Cond).before a0 Z = true := hw _ (List.mem_of_getElem? (i := 166) rfl)
theorem w167 {Z : State} {a0 : Array Value} (hw : ∀ d ∈ tables_1, d.before a0 Z = true) : ((Jvm.Cond.constantLong "java/lang/Long" (140 : Nat) (-10 : Int64)) : Jvm.Cond).before a0 Z = true := hw _ (List.mem_of_getElem? (i := 167) rfl)
theorem w168 {Z : State} {a0 : Array Value} (hw : ∀ d ∈ tables_1, d.before a0 Z = true) : ((Jvm.Cond.methodLink "java/lang/AbstractStringBuilder" (83 : Nat) ({ cls := "java/lang/AbstractStringBuilder", name := "isLatin1", desc := "()Z" } : Jvm.MethodName)) : Jvm.Cond).before a0 Z = true := hw _ (List.mem_of_getElem? (i := 168) rfl)
theorem w169 {Z : State} {a0 : Array Value} (hw : ∀ d ∈ tables_1, d.before a0 Z = true) : ((Jvm.Cond.declares ({ cls := "java/lang/AbstractStringBuilder", name := "isLatin1", desc := "()Z" } : Jvm.MethodName)) : Jvm.Cond).before a0 Z = true := hw _ (List.mem_of_getElem? (i := 169) rfl)
theorem w170 {Z : State} {a0 : Array Value} (hw : ∀ d ∈ tables_1, d.before a0 Z = true) : ((Jvm.Cond.instanceMethod ({ cls := "java/lang/AbstractStringBuilder", name := "isLatin1", desc := "()Z" } : Jvm.MethodName)) : Jvm.Cond).before a0 Z = true := hw _ (List.mem_of_getElem? (i := 170) rfl)
theorem w171 {Z : State} {a0 : Array Value} (hw : ∀ d ∈ tables_1, d.before a0 Z = true) : ((Jvm.Cond.selects "java/lang/StringBuilder" ({ cls := "java/lang/AbstractStringBuilder", name := "isLatin1", desc := "()Z" } : Jvm.MethodName) ({ cls := "java/lang/AbstractStringBuilder", name := "isLatin1", desc := "()Z" } : Jvm.MethodName)) : Jvm.Cond).before a0 Z = true := hw _ (List.mem_of_getElem? (i := 171) rfl)
theorem w172 {Z : State} {a0 : Array Value} (hw : ∀ d ∈ tables_1, d.before a0 Z = true) : ((Jvm.Cond.code ({ cls := "java/lang/AbstractStringBuilder", name := "isLatin1", desc := "()Z" } : Jvm.MethodName) jdk_68_method_68_code (1 : Nat) (Option.some Jvm.ClassFile.FieldType.boolean)) : Jvm.Cond).before a0 Z = true := hw _ (List.mem_of_getElem? (i := 172) rfl)
theorem w173 {Z : State} {a0 : Array Value} (hw : ∀ d ∈ tables_1, d.before a0 Z = true) : ((Jvm.Cond.methodLink "java/lang/AbstractStringBuilder" (259 : Nat) ({ cls := "java/lang/Long", name := "getChars", desc := "(JI[B)I" } : Jvm.MethodName)) : Jvm.Cond).before a0 Z = true := hw _ (List.mem_of_getElem? (i := 173) rfl)
theorem w174 {Z : State} {a0 : Array Value} (hw : ∀ d ∈ tables_1, d.before a0 Z = true) : ((Jvm.Cond.static ({ cls := "java/lang/Long", name := "getChars", desc := "(JI[B)I" } : Jvm.MethodName)) : Jvm.Cond).before a0 Z = true := hw _ (List.mem_of_getElem? (i := 174) rfl)
theorem w175 {Z : State} {a0 : Array Value} (hw : ∀ d ∈ tables_1, d.before a0 Z = true) : ((Jvm.Cond.code ({ cls := "java/lang/Long", name := "getChars", desc := "(JI[B)I" } : Jvm.MethodName) jdk_35_method_14_code (11 : Nat) (Option.some Jvm.ClassFile.FieldType.int)) : Jvm.Cond).before a0 Z = true := hw _ (List.mem_of_getElem? (i := 175) rfl)
theorem w176 {Z : State} {a0 : Array Value} (hw : ∀ d ∈ tables_1, d.before a0 Z = true) : ((Jvm.Cond.constantLong "java/lang/Long" (129 : Nat) (-2147483648 : Int64)) : Jvm.Cond).before a0 Z = true := hw _ (List.mem_of_getElem? (i := 176) rfl)
theorem w177 {Z : State} {a0 : Array Value} (hw : ∀ d ∈ tables_1, d.before a0 Z = true) : ((Jvm.Cond.fieldLink "java/lang/Long" (133 : Nat) "java/lang/Integer" "DigitOnes" "[B") : Jvm.Cond).before a0 Z = true := hw _ (List.mem_of_getElem? (i := 177) rfl)
theorem w179 {Z : State} {a0 : Array Value} (hw : ∀ d ∈ tables_1, d.before a0 Z = true) : ((Jvm.Cond.methodLink "com/example/wrange/wrange/IntegrityCheck$Length" (21 : Nat) ({ cls := "java/lang/StringBuilder", name := "toString", desc := "()Ljava/lang/String;" } : Jvm.MethodName)) : Jvm.Cond).before a0 Z = true := hw _ (List.mem_of_getElem? (i := 179) rfl)
theorem w180 {Z : State} {a0 : Array Value} (hw : ∀ d ∈ tables_1, d.before a0 Z = true) : ((Jvm.Cond.declares ({ cls := "java/lang/StringBuilder", name := "toString", desc := "()Ljava/lang/String;" } : Jvm.MethodName)) : Jvm.Cond).before a0 Z = true := hw _ (List.mem_of_getElem? (i := 180) rfl)
theorem w181 {Z : State} {a0 : Array Value} (hw : ∀ d ∈ tables_1, d.before a0 Z = true) : ((Jvm.Cond.instanceMethod ({ cls := "java/lang/StringBuilder", name := "toString", desc := "()Ljava/lang/String;" } : Jvm.MethodName)) : Jvm.Cond).before a0 Z = true := hw _ (List.mem_of_getElem? (i := 181) rfl)
theorem w182 {Z : State} {a0 : Array Value} (hw : ∀ d ∈ tables_1, d.before a0 Z = true) : ((Jvm.Cond.selects "java/lang/StringBuilder" ({ cls := "java/lang/StringBuilder", name := "toString", desc := "()Ljava/lang/String;" } : Jvm.MethodName) ({ cls := "java/lang/StringBuilder", name := "toString", desc := "()Ljava/lang/String;" } : Jvm.MethodName)) : Jvm.Cond).before a0 Z = true := hw _ (List.mem_of_getElem? (i := 182) rfl)
theorem w183 {Z : State} {a0 : Array Value} (hw : ∀ d ∈ tables_1, d.before a0 Z = true) : ((Jvm.Cond.code ({ cls := "java/lang/StringBuilder", name := "toString", desc := "()Ljava/lang/String;" } : Jvm.MethodName) jdk_67_method_42_code (1 : Nat) (Option.some (Jvm.ClassFile.FieldType.object "java/lang/String"))) : Jvm.Cond).before a0 Z = true := hw _ (List.mem_of_getElem? (i := 183) rfl)
theorem w184 {Z : State} {a0 : Array Value} (hw : ∀ d ∈ tables_1, d.before a0 Z = true) : ((Jvm.Cond.classLink "java/lang/StringBuilder" (18 : Nat) "java/lang/String") : Jvm.Cond).before a0 Z = true := hw _ (List.mem_of_getElem? (i := 184) rfl)
theorem w185 {Z : State} {a0 : Array Value} (hw : ∀ d ∈ tables_1, d.before a0 Z = true) : ((Jvm.Cond.methodLink "java/lang/StringBuilder" (137 : Nat) ({ cls := "java/lang/String", name := "<init>", desc := "(Ljava/lang/StringBuilder;)V" } : Jvm.MethodName)) : Jvm.Cond).before a0 Z = true := hw _ (List.mem_of_getElem? (i := 185) rfl)
theorem w186 {Z : State} {a0 : Array Value} (hw : ∀ d ∈ tables_1, d.before a0 Z = true) : ((Jvm.Cond.instanceMethod ({ cls := "java/lang/String", name := "<init>", desc := "(Ljava/lang/StringBuilder;)V" } : Jvm.MethodName)) : Jvm.Cond).before a0 Z = true := hw _ (List.mem_of_getElem? (i := 186) rfl)
theorem w187 {Z : State} {a0 : Array Value} (hw : ∀ d ∈ tables_1, d.before a0 Z = true) : ((Jvm.Cond.code ({ cls := "java/lang/String", name := "<init>", desc := "(Ljava/lang/StringBuilder;)V" } : Jvm.MethodName) jdk_42_method_53_code (2 : Nat) (Option.none : Option Jvm.ClassFile.FieldType)) : Jvm.Cond).before a0 Z = true := hw _ (List.mem_of_getElem? (i := 187) rfl)
theorem w188 {Z : State} {a0 : Array Value} (hw : ∀ d ∈ tables_1, d.before a0 Z = true) : ((Jvm.Cond.methodLink "java/lang/String" (489 : Nat) ({ cls := "java/lang/String", name := "<init>", desc := "(Ljava/lang/AbstractStringBuilder;Ljava/lang/Void;)V" } : Jvm.MethodName)) : Jvm.Cond).before a0 Z = true := hw _ (List.mem_of_getElem? (i := 188) rfl)
theorem w189 {Z : State} {a0 : Array Value} (hw : ∀ d ∈ tables_1, d.before a0 Z = true) : ((Jvm.Cond.instanceMethod ({ cls := "java/lang/String", name := "<init>", desc := "(Ljava/lang/AbstractStringBuilder;Ljava/lang/Void;)V" } : Jvm.MethodName)) : Jvm.Cond).before a0 Z = true := hw _ (List.mem_of_getElem? (i := 189) rfl)
theorem w190 {Z : State} {a0 : Array Value} (hw : ∀ d ∈ tables_1, d.before a0 Z = true) : ((Jvm.Cond.code ({ cls := "java/lang/String", name := "<init>", desc := "(Ljava/lang/AbstractStringBuilder;Ljava/lang/Void;)V" } : Jvm.MethodName) jdk_42_method_150_code (5 : Nat) (Option.none : Option Jvm.ClassFile.FieldType)) : Jvm.Cond).before a0 Z = true := hw _ (List.mem_of_getElem? (i := 190) rfl)
theorem w191 {Z : State} {a0 : Array Value} (hw : ∀ d ∈ tables_1, d.before a0 Z = true) : ((Jvm.Cond.methodLink "java/lang/String" (552 : Nat) ({ cls := "java/lang/AbstractStringBuilder", name := "getValue", desc := "()[B" } : Jvm.MethodName)) : Jvm.Cond).before a0 Z = true := hw _ (List.mem_of_getElem? (i := 191) rfl)
theorem w192 {Z : State} {a0 : Array Value} (hw : ∀ d ∈ tables_1, d.before a0 Z = true) : ((Jvm.Cond.declares ({ cls := "java/lang/AbstractStringBuilder", name := "getValue", desc := "()[B" } : Jvm.MethodName)) : Jvm.Cond).before a0 Z = true := hw _ (List.mem_of_getElem? (i := 192) rfl)
theorem w193 {Z : State} {a0 : Array Value} (hw : ∀ d ∈ tables_1, d.before a0 Z = true) : ((Jvm.Cond.instanceMethod ({ cls := "java/lang/AbstractStringBuilder", name := "getValue", desc := "()[B" } : Jvm.MethodName)) : Jvm.Cond).before a0 Z = true := hw _ (List.mem_of_getElem? (i := 193) rfl)
theorem w194 {Z : State} {a0 : Array Value} (hw : ∀ d ∈ tables_1, d.before a0 Z = true) : ((Jvm.Cond.selects "java/lang/StringBuilder" ({ cls := "java/lang/AbstractStringBuilder", name := "getValue", desc := "()[B" } : Jvm.MethodName) ({ cls := "java/lang/AbstractStringBuilder", name := "getValue", desc := "()[B" } : Jvm.MethodName)) : Jvm.Cond).before a0 Z = true := hw _ (List.mem_of_getElem? (i := 194) rfl)
theorem w195 {Z : State} {a0 : Array Value} (hw : ∀ d ∈ tables_1, d.before a0 Z = true) : ((Jvm.Cond.code ({ cls := "java/lang/AbstractStringBuilder", name := "getValue", desc := "()[B" } : Jvm.MethodName) jdk_68_method_64_code (1 : Nat) (Option.some (Jvm.ClassFile.FieldType.array Jvm.ClassFile.FieldType.byte))) : Jvm.Cond).before a0 Z = true := hw _ (List.mem_of_getElem? (i := 195) rfl)
theorem w196 {Z : State} {a0 : Array Value} (hw : ∀ d ∈ tables_1, d.before a0 Z = true) : ((Jvm.Cond.methodLink "java/lang/String" (549 : Nat) ({ cls := "java/lang/AbstractStringBuilder", name := "length", desc := "()I" } : Jvm.MethodName)) : Jvm.Cond).before a0 Z = true := hw _ (List.mem_of_getElem? (i := 196) rfl)
theorem w197 {Z : State} {a0 : Array Value} (hw : ∀ d ∈ tables_1, d.before a0 Z = true) : ((Jvm.Cond.declares ({ cls := "java/lang/AbstractStringBuilder", name := "length", desc := "()I" } : Jvm.MethodName)) : Jvm.Cond).before a0 Z = true := hw _ (List.mem_of_getElem? (i := 197) rfl)
theorem w198 {Z : State} {a0 : Array Value} (hw : ∀ d ∈ tables_1, d.before a0 Z = true) : ((Jvm.Cond.instanceMethod ({ cls := "java/lang/AbstractStringBuilder", name := "length", desc := "()I" } : Jvm.MethodName)) : Jvm.Cond).before a0 Z = true := hw _ (List.mem_of_getElem? (i := 198) rfl)
theorem w199 {Z : State} {a0 : Array Value} (hw : ∀ d ∈ tables_1, d.before a0 Z = true) : ((Jvm.Cond.selects "java/lang/StringBuilder" ({ cls := "java/lang/AbstractStringBuilder", name := "length", desc := "()I" } : Jvm.MethodName) ({ cls := "java/lang/StringBuilder", name := "length", desc := "()I" } : Jvm.MethodName)) : Jvm.Cond).before a0 Z = true := hw _ (List.mem_of_getElem? (i := 199) rfl)
theorem w200 {Z : State} {a0 : Array Value} (hw : ∀ d ∈ tables_1, d.before a0 Z = true) : ((Jvm.Cond.instanceMethod ({ cls := "java/lang/StringBuilder", name := "length", desc := "()I" } : Jvm.MethodName)) : Jvm.Cond).before a0 Z = true := hw _ (List.mem_of_getElem? (i := 200) rfl)
theorem w201 {Z : State} {a0 : Array Value} (hw : ∀ d ∈ tables_1, d.before a0 Z = true) : ((Jvm.Cond.code ({ cls := "java/lang/StringBuilder", name := "length", desc := "()I" } : Jvm.MethodName) jdk_67_method_93_code (1 : Nat) (Option.some Jvm.ClassFile.FieldType.int)) : Jvm.Cond).before a0 Z = true := hw _ (List.mem_of_getElem? (i := 201) rfl)
theorem w202 {Z : State} {a0 : Array Value} (hw : ∀ d ∈ tables_1, d.before a0 Z = true) : ((Jvm.Cond.methodLink "java/lang/StringBuilder" (343 : Nat) ({ cls := "java/lang/AbstractStringBuilder", name := "length", desc := "()I" } : Jvm.MethodName)) : Jvm.Cond).before a0 Z = true := hw _ (List.mem_of_getElem? (i := 202) rfl)
theorem w203 {Z : State} {a0 : Array Value} (hw : ∀ d ∈ tables_1, d.before a0 Z = true) : ((Jvm.Cond.code ({ cls := "java/lang/AbstractStringBuilder", name := "length", desc := "()I" } : Jvm.MethodName) jdk_68_method_6_code (1 : Nat) (Option.some Jvm.ClassFile.FieldType.int)) : Jvm.Cond).before a0 Z = true := hw _ (List.mem_of_getElem? (i := 203) rfl)
theorem w204 {Z : State} {a0 : Array Value} (hw : ∀ d ∈ tables_1, d.before a0 Z = true) : ((Jvm.Cond.methodLink "java/lang/String" (1047 : Nat) ({ cls := "java/lang/AbstractStringBuilder", name := "isLatin1", desc := "()Z" } : Jvm.MethodName)) : Jvm.Cond).before a0 Z = true := hw _ (List.mem_of_getElem? (i := 204) rfl)
theorem w205 {Z : State} {a0 : Array Value} (hw : ∀ d ∈ tables_1, d.before a0 Z = true) : ((Jvm.Cond.methodLink "java/lang/String" (54 : Nat) ({ cls := "java/util/Arrays", name := "copyOfRange", desc := "([BII)[B" } : Jvm.MethodName)) : Jvm.Cond).before a0 Z = true := hw _ (List.mem_of_getElem? (i := 205) rfl)
theorem w206 {Z : State} {a0 : Array Value} (hw : ∀ d ∈ tables_1, d.before a0 Z = true) : ((Jvm.Cond.static ({ cls := "java/util/Arrays", name := "copyOfRange", desc := "([BII)[B" } : Jvm.MethodName)) : Jvm.Cond).before a0 Z = true := hw _ (List.mem_of_getElem? (i := 206) rfl)
theorem w207 {Z : State} {a0 : Array Value} (hw : ∀ d ∈ tables_1, d.before a0 Z = true) : ((Jvm.Cond.initialized "java/util/Arrays") : Jvm.Cond).before a0 Z = true := hw _ (List.mem_of_getElem? (i := 207) rfl)
theorem w208 {Z : State} {a0 : Array Value} (hw : ∀ d ∈ tables_1, d.before a0 Z = true) : ((Jvm.Cond.code ({ cls := "java/util/Arrays", name := "copyOfRange", desc := "([BII)[B" } : Jvm.MethodName) jdk_65_method_132_code (3 : Nat) (Option.some (Jvm.ClassFile.FieldType.array Jvm.ClassFile.FieldType.byte))) : Jvm.Cond).before a0 Z = true := hw _ (List.mem_of_getElem? (i := 208) rfl)
theorem w209 {Z : State} {a0 : Array Value} (hw : ∀ d ∈ tables_1, d.before a0 Z = true) : ((Jvm.Cond.methodLink "java/util/Arrays" (339 : Nat) ({ cls := "java/util/Arrays", name := "copyOfRangeByte", desc := "([BII)[B" } : Jvm.MethodName)) : Jvm.Cond).before a0 Z = true := hw _ (List.mem_of_getElem? (i := 209) rfl)
theorem w210 {Z : State} {a0 : Array Value} (hw : ∀ d ∈ tables_1, d.before a0 Z = true) : ((Jvm.Cond.static ({ cls := "java/util/Arrays", name := "copyOfRangeByte", desc := "([BII)[B" } : Jvm.MethodName)) : Jvm.Cond).before a0 Z = true := hw _ (List.mem_of_getElem? (i := 210) rfl)
theorem w211 {Z : State} {a0 : Array Value} (hw : ∀ d ∈ tables_1, d.before a0 Z = true) : ((Jvm.Cond.code ({ cls := "java/util/Arrays", name := "copyOfRangeByte", desc := "([BII)[B" } : Jvm.MethodName) jdk_65_method_133_code (5 : Nat) (Option.some (Jvm.ClassFile.FieldType.array Jvm.ClassFile.FieldType.byte))) : Jvm.Cond).before a0 Z = true := hw _ (List.mem_of_getElem? (i := 211) rfl)
theorem w212 {Z : State} {a0 : Array Value} (hw : ∀ d ∈ tables_1, d.before a0 Z = true) : ((Jvm.Cond.methodLink "java/util/Arrays" (343 : Nat) ({ cls := "java/util/Arrays", name := "checkLength", desc := "(II)V" } : Jvm.MethodName)) : Jvm.Cond).before a0 Z = true := hw _ (List.mem_of_getElem? (i := 212) rfl)
theorem w213 {Z : State} {a0 : Array Value} (hw : ∀ d ∈ tables_1, d.before a0 Z = true) : ((Jvm.Cond.static ({ cls := "java/util/Arrays", name := "checkLength", desc := "(II)V" } : Jvm.MethodName)) : Jvm.Cond).before a0 Z = true := hw _ (List.mem_of_getElem? (i := 213) rfl)
theorem w214 {Z : State} {a0 : Array Value} (hw : ∀ d ∈ tables_1, d.before a0 Z = true) : ((Jvm.Cond.code ({ cls := "java/util/Arrays", name := "checkLength", desc := "(II)V" } : Jvm.MethodName) jdk_65_method_131_code (2 : Nat) (Option.none : Option Jvm.ClassFile.FieldType)) : Jvm.Cond).before a0 Z = true := hw _ (List.mem_of_getElem? (i := 214) rfl)
theorem w215 {Z : State} {a0 : Array Value} (hw : ∀ d ∈ tables_1, d.before a0 Z = true) : ((Jvm.Cond.methodLink "java/util/Arrays" (304 : Nat) ({ cls := "java/lang/Math", name := "min", desc := "(II)I" } : Jvm.MethodName)) : Jvm.Cond).before a0 Z = true := hw _ (List.mem_of_getElem? (i := 215) rfl)
theorem w216 {Z : State} {a0 : Array Value} (hw : ∀ d ∈ tables_1, d.before a0 Z = true) : ((Jvm.Cond.static ({ cls := "java/lang/Math", name := "min", desc := "(II)I" } : Jvm.MethodName)) : Jvm.Cond).before a0 Z = true := hw _ (List.mem_of_getElem? (i := 216) rfl)
theorem w217 {Z : State} {a0 : Array Value} (hw : ∀ d ∈ tables_1, d.before a0 Z = true) : ((Jvm.Cond.initialized "java/lang/Math") : Jvm.Cond).before a0 Z = true := hw _ (List.mem_of_getElem? (i := 217) rfl)
theorem w218 {Z : State} {a0 : Array Value} (hw : ∀ d ∈ tables_1, d.before a0 Z = true) : ((Jvm.Cond.code ({ cls := "java/lang/Math", name := "min", desc := "(II)I" } : Jvm.MethodName) jdk_29_method_69_code (2 : Nat) (Option.some Jvm.ClassFile.FieldType.int)) : Jvm.Cond).before a0 Z = true := hw _ (List.mem_of_getElem? (i := 218) rfl)
theorem w219 {Z : State} {a0 : Array Value} (hw : ∀ d ∈ tables_1, d.before a0 Z = true) : ((Jvm.Cond.methodLink "java/util/Arrays" (150 : Nat) ({ cls := "java/lang/System", name := "arraycopy", desc := "(Ljava/lang/Object;ILjava/lang/Object;II)V" } : Jvm.MethodName)) : Jvm.Cond).before a0 Z = true := hw _ (List.mem_of_getElem? (i := 219) rfl)
theorem w220 {Z : State} {a0 : Array Value} (hw : ∀ d ∈ tables_1, d.before a0 Z = true) : ((Jvm.Cond.methodLinkNest "com/example/wrange/wrange/IntegrityCheck$Length" (53 : Nat) ({ cls := "com/example/wrange/wrange/IntegrityCheck", name := "withCharset", desc := "(Ljava/lang/String;Ljava/util/Optional;)Ljava/lang/String;" } : Jvm.MethodName) "com/example/wrange/wrange/IntegrityCheck") : Jvm.Cond).before a0 Z = true := hw _ (List.mem_of_getElem? (i := 220) rfl)
theorem w221 {Z : State} {a0 : Array Value} (hw : ∀ d ∈ tables_1, d.before a0 Z = true) : ((Jvm.Cond.static ({ cls := "com/example/wrange/wrange/IntegrityCheck", name := "withCharset", desc := "(Ljava/lang/String;Ljava/util/Optional;)Ljava/lang/String;" } : Jvm.MethodName)) : Jvm.Cond).before a0 Z = true := hw _ (List.mem_of_getElem? (i := 221) rfl)
theorem w222 {Z : State} {a0 : Array Value} (hw : ∀ d ∈ tables_1, d.before a0 Z = true) : ((Jvm.Cond.initialized "com/example/wrange/wrange/IntegrityCheck") : Jvm.Cond).before a0 Z = true := hw _ (List.mem_of_getElem? (i := 222) rfl)
theorem w223 {Z : State} {a0 : Array Value} (hw : ∀ d ∈ tables_1, d.before a0 Z = true) : ((Jvm.Cond.code ({ cls := "com/example/wrange/wrange/IntegrityCheck", name := "withCharset", desc := "(Ljava/lang/String;Ljava/util/Optional;)Ljava/lang/String;" } : Jvm.MethodName) prog_12_method_4_code (2 : Nat) (Option.some (Jvm.ClassFile.FieldType.object "java/lang/String"))) : Jvm.Cond).before a0 Z = true := hw _ (List.mem_of_getElem? (i := 223) rfl)
theorem w224 {Z : State} {a0 : Array Value} (hw : ∀ d ∈ tables_1, d.before a0 Z = true) : ((Jvm.Cond.classLink "com/example/wrange/wrange/IntegrityCheck" (1 : Nat) "java/lang/StringBuilder") : Jvm.Cond).before a0 Z = true := hw _ (List.mem_of_getElem? (i := 224) rfl)
theorem w225 {Z : State} {a0 : Array Value} (hw : ∀ d ∈ tables_1, d.before a0 Z = true) : ((Jvm.Cond.methodLink "com/example/wrange/wrange/IntegrityCheck" (3 : Nat) ({ cls := "java/lang/StringBuilder", name := "<init>", desc := "()V" } : Jvm.MethodName)) : Jvm.Cond).before a0 Z = true := hw _ (List.mem_of_getElem? (i := 225) rfl)
theorem w226 {Z : State} {a0 : Array Value} (hw : ∀ d ∈ tables_1, d.before a0 Z = true) : ((Jvm.Cond.methodLink "com/example/wrange/wrange/IntegrityCheck" (7 : Nat) ({ cls := "java/lang/StringBuilder", name := "append", desc := "(Ljava/lang/String;)Ljava/lang/StringBuilder;" } : Jvm.MethodName)) : Jvm.Cond).before a0 Z = true := hw _ (List.mem_of_getElem? (i := 226) rfl)
theorem w227 {Z : State} {a0 : Array Value} (hw : ∀ d ∈ tables_1, d.before a0 Z = true) : ((Jvm.Cond.lambdaSite ({ cls := "com/example/wrange/wrange/IntegrityCheck", name := "withCharset", desc := "(Ljava/lang/String;Ljava/util/Optional;)Ljava/lang/String;" } : Jvm.MethodName) (12 : Nat) (11 : Nat) (Jvm.Lambda.Shape.mk "java/util/function/Function" "apply" (Jvm.ClassFile.MethodDescriptor.mk ([(Jvm.ClassFile.FieldType.object "java/lang/Object")] : List Jvm.ClassFile.FieldType) (Option.some (Jvm.ClassFile.FieldType.object "java/lang/Object"))) ([] : List Jvm.ClassFile.FieldType) (6 : Nat) "com/example/wrange/wrange/IntegrityCheck" "lambda$withCharset$0" (Jvm.ClassFile.MethodDescriptor.mk ([(Jvm.ClassFile.FieldType.object "java/lang/String")] : List Jvm.ClassFile.FieldType) (Option.some (Jvm.ClassFile.FieldType.object "java/lang/String"))) true (Jvm.ClassFile.MethodDescriptor.mk ([(Jvm.ClassFile.FieldType.object "java/lang/String")] : List Jvm.ClassFile.FieldType) (Option.some (Jvm.ClassFile.FieldType.object "java/lang/String"))))) : Jvm.Cond).before a0 Z = true := hw _ (List.mem_of_getElem? (i := 227) rfl)
theorem w230 {Z : State} {a0 : Array Value} (hw : ∀ d ∈ tables_1, d.before a0 Z = true) : ((Jvm.Cond.methodLink "com/example/wrange/wrange/IntegrityCheck" (15 : Nat) ({ cls := "java/util/Optional", name := "map", desc := "(Ljava/util/function/Function;)Ljava/util/Optional;" } : Jvm.MethodName)) : Jvm.Cond).before a0 Z = true := hw _ (List.mem_of_getElem? (i := 230) rfl)
theorem w231 {Z : State} {a0 : Array Value} (hw : ∀ d ∈ tables_1, d.before a0 Z = true) : ((Jvm.Cond.declares ({ cls := "java/util/Optional", name := "map", desc := "(Ljava/util/function/Function;)Ljava/util/Optional;" } : Jvm.MethodName)) : Jvm.Cond).before a0 Z = true := hw _ (List.mem_of_getElem? (i := 231) rfl)
theorem w232 {Z : State} {a0 : Array Value} (hw : ∀ d ∈ tables_1, d.before a0 Z = true) : ((Jvm.Cond.instanceMethod ({ cls := "java/util/Optional", name := "map", desc := "(Ljava/util/function/Function;)Ljava/util/Optional;" } : Jvm.MethodName)) : Jvm.Cond).before a0 Z = true := hw _ (List.mem_of_getElem? (i := 232) rfl)
theorem w233 {Z : State} {a0 : Array Value} (hw : ∀ d ∈ tables_1, d.before a0 Z = true) : ((Jvm.Cond.selects "java/util/Optional" ({ cls := "java/util/Optional", name := "map", desc := "(Ljava/util/function/Function;)Ljava/util/Optional;" } : Jvm.MethodName) ({ cls := "java/util/Optional", name := "map", desc := "(Ljava/util/function/Function;)Ljava/util/Optional;" } : Jvm.MethodName)) : Jvm.Cond).before a0 Z = true := hw _ (List.mem_of_getElem? (i := 233) rfl)
theorem w234 {Z : State} {a0 : Array Value} (hw : ∀ d ∈ tables_1, d.before a0 Z = true) : ((Jvm.Cond.code ({ cls := "java/util/Optional", name := "map", desc := "(Ljava/util/function/Function;)Ljava/util/Optional;" } : Jvm.MethodName) jdk_32_method_11_code (2 : Nat) (Option.some (Jvm.ClassFile.FieldType.object "java/util/Optional"))) : Jvm.Cond).before a0 Z = true := hw _ (List.mem_of_getElem? (i := 234) rfl)
theorem w235 {Z : State} {a0 : Array Value} (hw : ∀ d ∈ tables_1, d.before a0 Z = true) : ((Jvm.Cond.methodLink "java/util/Optional" (17 : Nat) ({ cls := "java/util/Objects", name := "requireNonNull", desc := "(Ljava/lang/Object;)Ljava/lang/Object;" } : Jvm.MethodName)) : Jvm.Cond).before a0 Z = true := hw _ (List.mem_of_getElem? (i := 235) rfl)
theorem w236 {Z : State} {a0 : Array Value} (hw : ∀ d ∈ tables_1, d.before a0 Z = true) : ((Jvm.Cond.static ({ cls := "java/util/Objects", name := "requireNonNull", desc := "(Ljava/lang/Object;)Ljava/lang/Object;" } : Jvm.MethodName)) : Jvm.Cond).before a0 Z = true := hw _ (List.mem_of_getElem? (i := 236) rfl)
theorem w237 {Z : State} {a0 : Array Value} (hw : ∀ d ∈ tables_1, d.before a0 Z = true) : ((Jvm.Cond.code ({ cls := "java/util/Objects", name := "requireNonNull", desc := "(Ljava/lang/Object;)Ljava/lang/Object;" } : Jvm.MethodName) jdk_31_method_10_code (1 : Nat) (Option.some (Jvm.ClassFile.FieldType.object "java/lang/Object"))) : Jvm.Cond).before a0 Z = true := hw _ (List.mem_of_getElem? (i := 237) rfl)
theorem w238 {Z : State} {a0 : Array Value} (hw : ∀ d ∈ tables_1, d.before a0 Z = true) : ((Jvm.Cond.methodLink "java/util/Optional" (43 : Nat) ({ cls := "java/util/Optional", name := "isEmpty", desc := "()Z" } : Jvm.MethodName)) : Jvm.Cond).before a0 Z = true := hw _ (List.mem_of_getElem? (i := 238) rfl)
theorem w239 {Z : State} {a0 : Array Value} (hw : ∀ d ∈ tables_1, d.before a0 Z = true) : ((Jvm.Cond.declares ({ cls := "java/util/Optional", name := "isEmpty", desc := "()Z" } : Jvm.MethodName)) : Jvm.Cond).before a0 Z = true := hw _ (List.mem_of_getElem? (i := 239) rfl)
theorem w240 {Z : State} {a0 : Array Value} (hw : ∀ d ∈ tables_1, d.before a0 Z = true) : ((Jvm.Cond.instanceMethod ({ cls := "java/util/Optional", name := "isEmpty", desc := "()Z" } : Jvm.MethodName)) : Jvm.Cond).before a0 Z = true := hw _ (List.mem_of_getElem? (i := 240) rfl)
theorem w241 {Z : State} {a0 : Array Value} (hw : ∀ d ∈ tables_1, d.before a0 Z = true) : ((Jvm.Cond.selects "java/util/Optional" ({ cls := "java/util/Optional", name := "isEmpty", desc := "()Z" } : Jvm.MethodName) ({ cls := "java/util/Optional", name := "isEmpty", desc := "()Z" } : Jvm.MethodName)) : Jvm.Cond).before a0 Z = true := hw _ (List.mem_of_getElem? (i := 241) rfl)
theorem w242 {Z : State} {a0 : Array Value} (hw : ∀ d ∈ tables_1, d.before a0 Z = true) : ((Jvm.Cond.code ({ cls := "java/util/Optional", name := "isEmpty", desc := "()Z" } : Jvm.MethodName) jdk_32_method_7_code (1 : Nat) (Option.some Jvm.ClassFile.FieldType.boolean)) : Jvm.Cond).before a0 Z = true := hw _ (List.mem_of_getElem? (i := 242) rfl)
theorem w243 {Z : State} {a0 : Array Value} (hw : ∀ d ∈ tables_1, d.before a0 Z = true) : ((Jvm.Cond.fieldLink "java/util/Optional" (13 : Nat) "java/util/Optional" "value" "Ljava/lang/Object;") : Jvm.Cond).before a0 Z = true := hw _ (List.mem_of_getElem? (i := 243) rfl)
theorem w244 {Z : State} {a0 : Array Value} (hw : ∀ d ∈ tables_1, d.before a0 Z = true) : ((Jvm.Cond.laysFinal "java/util/Optional" "java/util/Optional" "value" "Ljava/lang/Object;") : Jvm.Cond).before a0 Z = true := hw _ (List.mem_of_getElem? (i := 244) rfl)
theorem w245 {Z : State} {a0 : Array Value} (hw : ∀ d ∈ tables_1, d.before a0 Z = true) : ((Jvm.Cond.methodLink "java/util/Optional" (53 : Nat) ({ cls := "java/util/Optional", name := "empty", desc := "()Ljava/util/Optional;" } : Jvm.MethodName)) : Jvm.Cond).before a0 Z = true := hw _ (List.mem_of_getElem? (i := 245) rfl)
theorem w246 {Z : State} {a0 : Array Value} (hw : ∀ d ∈ tables_1, d.before a0 Z = true) : ((Jvm.Cond.stringLink "com/example/wrange/wrange/IntegrityCheck" (21 : Nat) "") : Jvm.Cond).before a0 Z = true := hw _ (List.mem_of_getElem? (i := 246) rfl)
theorem w247 {Z : State} {a0 : Array Value} (hw : ∀ d ∈ tables_1, d.before a0 Z = true) : ((Jvm.Cond.methodLink "com/example/wrange/wrange/IntegrityCheck" (23 : Nat) ({ cls := "java/util/Optional", name := "orElse", desc := "(Ljava/lang/Object;)Ljava/lang/Object;" } : Jvm.MethodName)) : Jvm.Cond).before a0 Z = true := hw _ (List.mem_of_getElem? (i := 247) rfl)
theorem w248 {Z : State} {a0 : Array Value} (hw : ∀ d ∈ tables_1, d.before a0 Z = true) : ((Jvm.Cond.declares ({ cls := "java/util/Optional", name := "orElse", desc := "(Ljava/lang/Object;)Ljava/lang/Object;" } : Jvm.MethodName)) : Jvm.Cond).before a0 Z = true := hw _ (List.mem_of_getElem? (i := 248) rfl)
theorem w249 {Z : State} {a0 : Array Value} (hw : ∀ d ∈ tables_1, d.before a0 Z = true) : ((Jvm.Cond.instanceMethod ({ cls := "java/util/Optional", name := "orElse", desc := "(Ljava/lang/Object;)Ljava/lang/Object;" } : Jvm.MethodName)) : Jvm.Cond).before a0 Z = true := hw _ (List.mem_of_getElem? (i := 249) rfl)
theorem w250 {Z : State} {a0 : Array Value} (hw : ∀ d ∈ tables_1, d.before a0 Z = true) : ((Jvm.Cond.selects "java/util/Optional" ({ cls := "java/util/Optional", name := "orElse", desc := "(Ljava/lang/Object;)Ljava/lang/Object;" } : Jvm.MethodName) ({ cls := "java/util/Optional", name := "orElse", desc := "(Ljava/lang/Object;)Ljava/lang/Object;" } : Jvm.MethodName)) : Jvm.Cond).before a0 Z = true := hw _ (List.mem_of_getElem? (i := 250) rfl)
theorem w251 {Z : State} {a0 : Array Value} (hw : ∀ d ∈ tables_1, d.before a0 Z = true) : ((Jvm.Cond.code ({ cls := "java/util/Optional", name := "orElse", desc := "(Ljava/lang/Object;)Ljava/lang/Object;" } : Jvm.MethodName) jdk_32_method_15_code (2 : Nat) (Option.some (Jvm.ClassFile.FieldType.object "java/lang/Object"))) : Jvm.Cond).before a0 Z = true := hw _ (List.mem_of_getElem? (i := 251) rfl)
theorem w252 {Z : State} {a0 : Array Value} (hw : ∀ d ∈ tables_1, d.before a0 Z = true) : ((Jvm.Cond.classLink "com/example/wrange/wrange/IntegrityCheck" (27 : Nat) "java/lang/String") : Jvm.Cond).before a0 Z = true := hw _ (List.mem_of_getElem? (i := 252) rfl)
theorem w253 {Z : State} {a0 : Array Value} (hw : ∀ d ∈ tables_1, d.before a0 Z = true) : ((Jvm.Cond.methodLink "com/example/wrange/wrange/IntegrityCheck" (29 : Nat) ({ cls := "java/lang/StringBuilder", name := "toString", desc := "()Ljava/lang/String;" } : Jvm.MethodName)) : Jvm.Cond).before a0 Z = true := hw _ (List.mem_of_getElem? (i := 253) rfl)
theorem w254 {Z : State} {a0 : Array Value} (hw : ∀ d ∈ tables_1, d.before a0 Z = true) : ((Jvm.Cond.methodLink "com/example/wrange/wrange/LengthWrittenPinLaw" (84 : Nat) ({ cls := "java/lang/String", name := "length", desc := "()I" } : Jvm.MethodName)) : Jvm.Cond).before a0 Z = true := hw _ (List.mem_of_getElem? (i := 254) rfl)
theorem w255 {Z : State} {a0 : Array Value} (hw : ∀ d ∈ tables_1, d.before a0 Z = true) : ((Jvm.Cond.methodLink "com/example/wrange/wrange/LengthWrittenPinLaw" (88 : Nat) ({ cls := "java/lang/String", name := "charAt", desc := "(I)C" } : Jvm.MethodName)) : Jvm.Cond).before a0 Z = true := hw _ (List.mem_of_getElem? (i := 255) rfl)
theorem w256 {Z : State} {a0 : Array Value} (hw : ∀ d ∈ tables_1, d.before a0 Z = true) : ((Jvm.Cond.declares ({ cls := "java/lang/String", name := "charAt", desc := "(I)C" } : Jvm.MethodName)) : Jvm.Cond).before a0 Z = true := hw _ (List.mem_of_getElem? (i := 256) rfl)
theorem w257 {Z : State} {a0 : Array Value} (hw : ∀ d ∈ tables_1, d.before a0 Z = true) : ((Jvm.Cond.instanceMethod ({ cls := "java/lang/String", name := "charAt", desc := "(I)C" } : Jvm.MethodName)) : Jvm.Cond).before a0 Z = true := hw _ (List.mem_of_getElem? (i := 257) rfl)
theorem w258 {Z : State} {a0 : Array Value} (hw : ∀ d ∈ tables_1, d.before a0 Z = true) : ((Jvm.Cond.selects "java/lang/String" ({ cls := "java/lang/String", name := "charAt", desc := "(I)C" } : Jvm.MethodName) ({ cls := "java/lang/String", name := "charAt", desc := "(I)C" } : Jvm.MethodName)) : Jvm.Cond).before a0 Z = true := hw _ (List.mem_of_getElem? (i := 258) rfl)
theorem w259 {Z : State} {a0 : Array Value} (hw : ∀ d ∈ tables_1, d.before a0 Z = true) : ((Jvm.Cond.code ({ cls := "java/lang/String", name := "charAt", desc := "(I)C" } : Jvm.MethodName) jdk_42_method_56_code (2 : Nat) (Option.some Jvm.ClassFile.FieldType.char)) : Jvm.Cond).before a0 Z = true := hw _ (List.mem_of_getElem? (i := 259) rfl)
theorem w260 {Z : State} {a0 : Array Value} (hw : ∀ d ∈ tables_1, d.before a0 Z = true) : ((Jvm.Cond.methodLink "java/lang/String" (492 : Nat) ({ cls := "java/lang/String", name := "isLatin1", desc := "()Z" } : Jvm.MethodName)) : Jvm.Cond).before a0 Z = true := hw _ (List.mem_of_getElem? (i := 260) rfl)
theorem w261 {Z : State} {a0 : Array Value} (hw : ∀ d ∈ tables_1, d.before a0 Z = true) : ((Jvm.Cond.declares ({ cls := "java/lang/String", name := "isLatin1", desc := "()Z" } : Jvm.MethodName)) : Jvm.Cond).before a0 Z = true := hw _ (List.mem_of_getElem? (i := 261) rfl)
theorem w262 {Z : State} {a0 : Array Value} (hw : ∀ d ∈ tables_1, d.before a0 Z = true) : ((Jvm.Cond.instanceMethod ({ cls := "java/lang/String", name := "isLatin1", desc := "()Z" } : Jvm.MethodName)) : Jvm.Cond).before a0 Z = true := hw _ (List.mem_of_getElem? (i := 262) rfl)
theorem w263 {Z : State} {a0 : Array Value} (hw : ∀ d ∈ tables_1, d.before a0 Z = true) : ((Jvm.Cond.selects "java/lang/String" ({ cls := "java/lang/String", name := "isLatin1", desc := "()Z" } : Jvm.MethodName) ({ cls := "java/lang/String", name := "isLatin1", desc := "()Z" } : Jvm.MethodName)) : Jvm.Cond).before a0 Z = true := hw _ (List.mem_of_getElem? (i := 263) rfl)
theorem w264 {Z : State} {a0 : Array Value} (hw : ∀ d ∈ tables_1, d.before a0 Z = true) : ((Jvm.Cond.code ({ cls := "java/lang/String", name := "isLatin1", desc := "()Z" } : Jvm.MethodName) jdk_42_method_154_code (1 : Nat) (Option.some Jvm.ClassFile.FieldType.boolean)) : Jvm.Cond).before a0 Z = true := hw _ (List.mem_of_getElem? (i := 264) rfl)
theorem w265 {Z : State} {a0 : Array Value} (hw : ∀ d ∈ tables_1, d.before a0 Z = true) : ((Jvm.Cond.methodLink "java/lang/String" (495 : Nat) ({ cls := "java/lang/StringLatin1", name := "charAt", desc := "([BI)C" } : Jvm.MethodName)) : Jvm.Cond).before a0 Z = true := hw _ (List.mem_of_getElem? (i := 265) rfl)
theorem w266 {Z : State} {a0 : Array Value} (hw : ∀ d ∈ tables_1, d.before a0 Z = true) : ((Jvm.Cond.static ({ cls := "java/lang/StringLatin1", name := "charAt", desc := "([BI)C" } : Jvm.MethodName)) : Jvm.Cond).before a0 Z = true := hw _ (List.mem_of_getElem? (i := 266) rfl)
theorem w267 {Z : State} {a0 : Array Value} (hw : ∀ d ∈ tables_1, d.before a0 Z = true) : ((Jvm.Cond.initialized "java/lang/StringLatin1") : Jvm.Cond).before a0 Z = true := hw _ (List.mem_of_getElem? (i := 267) rfl)
theorem w268 {Z : State} {a0 : Array Value} (hw : ∀ d ∈ tables_1, d.before a0 Z = true) : ((Jvm.Cond.code ({ cls := "java/lang/StringLatin1", name := "charAt", desc := "([BI)C" } : Jvm.MethodName) jdk_43_method_2_code (2 : Nat) (Option.some Jvm.ClassFile.FieldType.char)) : Jvm.Cond).before a0 Z = true := hw _ (List.mem_of_getElem? (i := 268) rfl)
theorem w269 {Z : State} {a0 : Array Value} (hw : ∀ d ∈ tables_1, d.before a0 Z = true) : ((Jvm.Cond.methodLink "java/lang/StringLatin1" (9 : Nat) ({ cls := "java/lang/String", name := "checkIndex", desc := "(II)V" } : Jvm.MethodName)) : Jvm.Cond).before a0 Z = true := hw _ (List.mem_of_getElem? (i := 269) rfl)
theorem w270 {Z : State} {a0 : Array Value} (hw : ∀ d ∈ tables_1, d.before a0 Z = true) : ((Jvm.Cond.static ({ cls := "java/lang/String", name := "checkIndex", desc := "(II)V" } : Jvm.MethodName)) : Jvm.Cond).before a0 Z = true := hw _ (List.mem_of_getElem? (i := 270) rfl)
theorem w271 {Z : State} {a0 : Array Value} (hw : ∀ d ∈ tables_1, d.before a0 Z = true) : ((Jvm.Cond.code ({ cls := "java/lang/String", name := "checkIndex", desc := "(II)V" } : Jvm.MethodName) jdk_42_method_155_code (2 : Nat) (Option.none : Option Jvm.ClassFile.FieldType)) : Jvm.Cond).before a0 Z = true := hw _ (List.mem_of_getElem? (i := 271) rfl)
theorem w272 {Z : State} {a0 : Array Value} (hw : ∀ d ∈ tables_1, d.before a0 Z = true) : ((Jvm.Cond.fieldLink "java/lang/String" (1053 : Nat) "jdk/internal/util/Preconditions" "SIOOBE_FORMATTER" "Ljava/util/function/BiFunction;") : Jvm.Cond).before a0 Z = true := hw _ (List.mem_of_getElem? (i := 272) rfl)
theorem w273 {Z : State} {a0 : Array Value} (hw : ∀ d ∈ tables_1, d.before a0 Z = true) : ((Jvm.Cond.initialized "jdk/internal/util/Preconditions") : Jvm.Cond).before a0 Z = true := hw _ (List.mem_of_getElem? (i := 273) rfl)
theorem w274 {Z : State} {a0 : Array Value} (hw : ∀ d ∈ tables_1, d.before a0 Z = true) : ((Jvm.Cond.methodLink "java/lang/String" (1059 : Nat) ({ cls := "jdk/internal/util/Preconditions", name := "checkIndex", desc := "(IILjava/util/function/BiFunction;)I" } : Jvm.MethodName)) : Jvm.Cond).before a0 Z = true := hw _ (List.mem_of_getElem? (i := 274) rfl)
theorem w275 {Z : State} {a0 : Array Value} (hw : ∀ d ∈ tables_1, d.before a0 Z = true) : ((Jvm.Cond.static ({ cls := "jdk/internal/util/Preconditions", name := "checkIndex", desc := "(IILjava/util/function/BiFunction;)I" } : Jvm.MethodName)) : Jvm.Cond).before a0 Z = true := hw _ (List.mem_of_getElem? (i := 275) rfl)
theorem w276 {Z : State} {a0 : Array Value} (hw : ∀ d ∈ tables_1, d.before a0 Z = true) : ((Jvm.Cond.code ({ cls := "jdk/internal/util/Preconditions", name := "checkIndex", desc := "(IILjava/util/function/BiFunction;)I" } : Jvm.MethodName) jdk_41_method_11_code (3 : Nat) (Option.some Jvm.ClassFile.FieldType.int)) : Jvm.Cond).before a0 Z = true := hw _ (List.mem_of_getElem? (i := 276) rfl)
theorem w277 {Z : State} {a0 : Array Value} (hw : ∀ d ∈ tables_1, d.before a0 Z = true) : ((Jvm.Cond.constantLong "java/lang/Long" (53 : Nat) (10 : Int64)) : Jvm.Cond).before a0 Z = true := hw _ (List.mem_of_getElem? (i := 277) rfl)
theorem w278 {Z : State} {a0 : Array Value} (hw : ∀ d ∈ tables_1, d.before a0 Z = true) : ((Jvm.Cond.methodLink "java/lang/AbstractStringBuilder" (104 : Nat) ({ cls := "java/lang/AbstractStringBuilder", name := "newCapacity", desc := "(I)I" } : Jvm.MethodName)) : Jvm.Cond).before a0 Z = true := hw _ (List.mem_of_getElem? (i := 278) rfl)
theorem w279 {Z : State} {a0 : Array Value} (hw : ∀ d ∈ tables_1, d.before a0 Z = true) : ((Jvm.Cond.instanceMethod ({ cls := "java/lang/AbstractStringBuilder", name := "newCapacity", desc := "(I)I" } : Jvm.MethodName)) : Jvm.Cond).before a0 Z = true := hw _ (List.mem_of_getElem? (i := 279) rfl)
theorem w280 {Z : State} {a0 : Array Value} (hw : ∀ d ∈ tables_1, d.before a0 Z = true) : ((Jvm.Cond.privateMethod ({ cls := "java/lang/AbstractStringBuilder", name := "newCapacity", desc := "(I)I" } : Jvm.MethodName)) : Jvm.Cond).before a0 Z = true := hw _ (List.mem_of_getElem? (i := 280) rfl)
theorem w281 {Z : State} {a0 : Array Value} (hw : ∀ d ∈ tables_1, d.before a0 Z = true) : ((Jvm.Cond.selects "java/lang/StringBuilder" ({ cls := "java/lang/AbstractStringBuilder", name := "newCapacity", desc := "(I)I" } : Jvm.MethodName) ({ cls := "java/lang/AbstractStringBuilder", name := "newCapacity", desc := "(I)I" } : Jvm.MethodName)) : Jvm.Cond).before a0 Z = true := hw _ (List.mem_of_getElem? (i := 281) rfl)
theorem w282 {Z : State} {a0 : Array Value} (hw : ∀ d ∈ tables_1, d.before a0 Z = true) : ((Jvm.Cond.code ({ cls := "java/lang/AbstractStringBuilder", name := "newCapacity", desc := "(I)I" } : Jvm.MethodName) jdk_68_method_10_code (6 : Nat) (Option.some Jvm.ClassFile.FieldType.int)) : Jvm.Cond).before a0 Z = true := hw _ (List.mem_of_getElem? (i := 282) rfl)
theorem w283 {Z : State} {a0 : Array Value} (hw : ∀ d ∈ tables_1, d.before a0 Z = true) : ((Jvm.Cond.methodLink "java/lang/AbstractStringBuilder" (114 : Nat) ({ cls := "jdk/internal/util/ArraysSupport", name := "newLength", desc := "(III)I" } : Jvm.MethodName)) : Jvm.Cond).before a0 Z = true := hw _ (List.mem_of_getElem? (i := 283) rfl)
theorem w284 {Z : State} {a0 : Array Value} (hw : ∀ d ∈ tables_1, d.before a0 Z = true) : ((Jvm.Cond.static ({ cls := "jdk/internal/util/ArraysSupport", name := "newLength", desc := "(III)I" } : Jvm.MethodName)) : Jvm.Cond).before a0 Z = true := hw _ (List.mem_of_getElem? (i := 284) rfl)
theorem w285 {Z : State} {a0 : Array Value} (hw : ∀ d ∈ tables_1, d.before a0 Z = true) : ((Jvm.Cond.initialized "jdk/internal/util/ArraysSupport") : Jvm.Cond).before a0 Z = true := hw _ (List.mem_of_getElem? (i := 285) rfl)
theorem w286 {Z : State} {a0 : Array Value} (hw : ∀ d ∈ tables_1, d.before a0 Z = true) : ((Jvm.Cond.code ({ cls := "jdk/internal/util/ArraysSupport", name := "newLength", desc := "(III)I" } : Jvm.MethodName) jdk_48_method_27_code (4 : Nat) (Option.some Jvm.ClassFile.FieldType.int)) : Jvm.Cond).before a0 Z = true := hw _ (List.mem_of_getElem? (i := 286) rfl)
theorem w287 {Z : State} {a0 : Array Value} (hw : ∀ d ∈ tables_1, d.before a0 Z = true) : ((Jvm.Cond.methodLink "jdk/internal/util/ArraysSupport" (194 : Nat) ({ cls := "java/lang/Math", name := "max", desc := "(II)I" } : Jvm.MethodName)) : Jvm.Cond).before a0 Z = true := hw _ (List.mem_of_getElem? (i := 287) rfl)
theorem w288 {Z : State} {a0 : Array Value} (hw : ∀ d ∈ tables_1, d.before a0 Z = true) : ((Jvm.Cond.static ({ cls := "java/lang/Math", name := "max", desc := "(II)I" } : Jvm.MethodName)) : Jvm.Cond).before a0 Z = true := hw _ (List.mem_of_getElem? (i := 288) rfl)
theorem w289 {Z : State} {a0 : Array Value} (hw : ∀ d ∈ tables_1, d.before a0 Z = true) : ((Jvm.Cond.code ({ cls := "java/lang/Math", name := "max", desc := "(II)I" } : Jvm.MethodName) jdk_29_method_65_code (2 : Nat) (Option.some Jvm.ClassFile.FieldType.int)) : Jvm.Cond).before a0 Z = true := hw _ (List.mem_of_getElem? (i := 289) rfl)
theorem w290 {Z : State} {a0 : Array Value} (hw : ∀ d ∈ tables_1, d.before a0 Z = true) : ((Jvm.Cond.constant "jdk/internal/util/ArraysSupport" (200 : Nat) (2147483639 : Int32)) : Jvm.Cond).before a0 Z = true := hw _ (List.mem_of_getElem? (i := 290) rfl)
theorem w291 {Z : State} {a0 : Array Value} (hw : ∀ d ∈ tables_1, d.before a0 Z = true) : ((Jvm.Cond.constant "java/lang/AbstractStringBuilder" (39 : Nat) (2147483647 : Int32)) : Jvm.Cond).before a0 Z = true := hw _ (List.mem_of_getElem? (i := 291) rfl)
theorem w292 {Z : State} {a0 : Array Value} (hw : ∀ d ∈ tables_1, d.before a0 Z = true) : ((Jvm.Cond.methodLink "java/lang/AbstractStringBuilder" (108 : Nat) ({ cls := "java/util/Arrays", name := "copyOf", desc := "([BI)[B" } : Jvm.MethodName)) : Jvm.Cond).before a0 Z = true := hw _ (List.mem_of_getElem? (i := 292) rfl)
theorem w293 {Z : State} {a0 : Array Value} (hw : ∀ d ∈ tables_1, d.before a0 Z = true) : ((Jvm.Cond.static ({ cls := "java/util/Arrays", name := "copyOf", desc := "([BI)[B" } : Jvm.MethodName)) : Jvm.Cond).before a0 Z = true := hw _ (List.mem_of_getElem? (i := 293) rfl)
theorem w294 {Z : State} {a0 : Array Value} (hw : ∀ d ∈ tables_1, d.before a0 Z = true) : ((Jvm.Cond.code ({ cls := "java/util/Arrays", name := "copyOf", desc := "([BI)[B" } : Jvm.MethodName) jdk_65_method_121_code (3 : Nat) (Option.some (Jvm.ClassFile.FieldType.array Jvm.ClassFile.FieldType.byte))) : Jvm.Cond).before a0 Z = true := hw _ (List.mem_of_getElem? (i := 294) rfl)
theorem w295 {Z : State} {a0 : Array Value} (hw : ∀ d ∈ tables_1, d.before a0 Z = true) : ((Jvm.Cond.constantLong "java/lang/Long" (131 : Nat) (100 : Int64)) : Jvm.Cond).before a0 Z = true := hw _ (List.mem_of_getElem? (i := 295) rfl)
theorem w296 {Z : State} {a0 : Array Value} (hw : ∀ d ∈ tables_1, d.before a0 Z = true) : ((Jvm.Cond.fieldLink "java/lang/Long" (137 : Nat) "java/lang/Integer" "DigitTens" "[B") : Jvm.Cond).before a0 Z = true := hw _ (List.mem_of_getElem? (i := 296) rfl)
theorem w297 {Z : State} {a0 : Array Value} (hw : ∀ d ∈ tables_1, d.before a0 Z = true) : ((Jvm.Cond.stringLink "com/example/wrange/wrange/LengthWrittenPinLaw" (54 : Nat) "") : Jvm.Cond).before a0 Z = true := hw _ (List.mem_of_getElem? (i := 297) rfl)
theorem w298 {Z : State} {a0 : Array Value} (hw : ∀ d ∈ tables_1, d.before a0 Z = true) : ((Jvm.Cond.methodLink "com/example/wrange/wrange/LengthWrittenPinLaw" (56 : Nat) ({ cls := "java/lang/String", name := "valueOf", desc := "(C)Ljava/lang/String;" } : Jvm.MethodName)) : Jvm.Cond).before a0 Z = true := hw _ (List.mem_of_getElem? (i := 298) rfl)
theorem w299 {Z : State} {a0 : Array Value} (hw : ∀ d ∈ tables_1, d.before a0 Z = true) : ((Jvm.Cond.static ({ cls := "java/lang/String", name := "valueOf", desc := "(C)Ljava/lang/String;" } : Jvm.MethodName)) : Jvm.Cond).before a0 Z = true := hw _ (List.mem_of_getElem? (i := 299) rfl)
theorem w300 {Z : State} {a0 : Array Value} (hw : ∀ d ∈ tables_1, d.before a0 Z = true) : ((Jvm.Cond.code ({ cls := "java/lang/String", name := "valueOf", desc := "(C)Ljava/lang/String;" } : Jvm.MethodName) jdk_42_method_139_code (1 : Nat) (Option.some (Jvm.ClassFile.FieldType.object "java/lang/String"))) : Jvm.Cond).before a0 Z = true := hw _ (List.mem_of_getElem? (i := 300) rfl)
theorem w301 {Z : State} {a0 : Array Value} (hw : ∀ d ∈ tables_1, d.before a0 Z = true) : ((Jvm.Cond.methodLink "java/lang/String" (1015 : Nat) ({ cls := "java/lang/StringLatin1", name := "canEncode", desc := "(C)Z" } : Jvm.MethodName)) : Jvm.Cond).before a0 Z = true := hw _ (List.mem_of_getElem? (i := 301) rfl)
theorem w302 {Z : State} {a0 : Array Value} (hw : ∀ d ∈ tables_1, d.before a0 Z = true) : ((Jvm.Cond.static ({ cls := "java/lang/StringLatin1", name := "canEncode", desc := "(C)Z" } : Jvm.MethodName)) : Jvm.Cond).before a0 Z = true := hw _ (List.mem_of_getElem? (i := 302) rfl)
theorem w303 {Z : State} {a0 : Array Value} (hw : ∀ d ∈ tables_1, d.before a0 Z = true) : ((Jvm.Cond.code ({ cls := "java/lang/StringLatin1", name := "canEncode", desc := "(C)Z" } : Jvm.MethodName) jdk_43_method_3_code (1 : Nat) (Option.some Jvm.ClassFile.FieldType.boolean)) : Jvm.Cond).before a0 Z = true := hw _ (List.mem_of_getElem? (i := 303) rfl)
theorem w304 {Z : State} {a0 : Array Value} (hw : ∀ d ∈ tables_1, d.before a0 Z = true) : ((Jvm.Cond.classLink "java/lang/String" (10 : Nat) "java/lang/String") : Jvm.Cond).before a0 Z = true := hw _ (List.mem_of_getElem? (i := 304) rfl)
theorem w305 {Z : State} {a0 : Array Value} (hw : ∀ d ∈ tables_1, d.before a0 Z = true) : ((Jvm.Cond.methodLink "java/lang/String" (1018 : Nat) ({ cls := "java/lang/StringLatin1", name := "toBytes", desc := "(C)[B" } : Jvm.MethodName)) : Jvm.Cond).before a0 Z = true := hw _ (List.mem_of_getElem? (i := 305) rfl)
theorem w306 {Z : State} {a0 : Array Value} (hw : ∀ d ∈ tables_1, d.before a0 Z = true) : ((Jvm.Cond.static ({ cls := "java/lang/StringLatin1", name := "toBytes", desc := "(C)[B" } : Jvm.MethodName)) : Jvm.Cond).before a0 Z = true := hw _ (List.mem_of_getElem? (i := 306) rfl)
theorem w307 {Z : State} {a0 : Array Value} (hw : ∀ d ∈ tables_1, d.before a0 Z = true) : ((Jvm.Cond.code ({ cls := "java/lang/StringLatin1", name := "toBytes", desc := "(C)[B" } : Jvm.MethodName) jdk_43_method_46_code (1 : Nat) (Option.some (Jvm.ClassFile.FieldType.array Jvm.ClassFile.FieldType.byte))) : Jvm.Cond).before a0 Z = true := hw _ (List.mem_of_getElem? (i := 307) rfl)
theorem w308 {Z : State} {a0 : Array Value} (hw : ∀ d ∈ tables_1, d.before a0 Z = true) : ((Jvm.Cond.methodLink "java/lang/String" (209 : Nat) ({ cls := "java/lang/String", name := "<init>", desc := "([BB)V" } : Jvm.MethodName)) : Jvm.Cond).before a0 Z = true := hw _ (List.mem_of_getElem? (i := 308) rfl)
theorem w309 {Z : State} {a0 : Array Value} (hw : ∀ d ∈ tables_1, d.before a0 Z = true) : ((Jvm.Cond.instanceMethod ({ cls := "java/lang/String", name := "<init>", desc := "([BB)V" } : Jvm.MethodName)) : Jvm.Cond).before a0 Z = true := hw _ (List.mem_of_getElem? (i := 309) rfl)
theorem w310 {Z : State} {a0 : Array Value} (hw : ∀ d ∈ tables_1, d.before a0 Z = true) : ((Jvm.Cond.code ({ cls := "java/lang/String", name := "<init>", desc := "([BB)V" } : Jvm.MethodName) jdk_42_method_151_code (3 : Nat) (Option.none : Option Jvm.ClassFile.FieldType)) : Jvm.Cond).before a0 Z = true := hw _ (List.mem_of_getElem? (i := 310) rfl)
theorem w311 {Z : State} {a0 : Array Value} (hw : ∀ d ∈ tables_1, d.before a0 Z = true) : ((Jvm.Cond.methodLink "com/example/wrange/wrange/LengthWrittenPinLaw" (65 : Nat) ({ cls := "java/util/Optional", name := "of", desc := "(Ljava/lang/Object;)Ljava/util/Optional;" } : Jvm.MethodName)) : Jvm.Cond).before a0 Z = true := hw _ (List.mem_of_getElem? (i := 311) rfl)
theorem w312 {Z : State} {a0 : Array Value} (hw : ∀ d ∈ tables_1, d.before a0 Z = true) : ((Jvm.Cond.static ({ cls := "java/util/Optional", name := "of", desc := "(Ljava/lang/Object;)Ljava/util/Optional;" } : Jvm.MethodName)) : Jvm.Cond).before a0 Z = true := hw _ (List.mem_of_getElem? (i := 312) rfl)
theorem w313 {Z : State} {a0 : Array Value} (hw : ∀ d ∈ tables_1, d.before a0 Z = true) : ((Jvm.Cond.code ({ cls := "java/util/Optional", name := "of", desc := "(Ljava/lang/Object;)Ljava/util/Optional;" } : Jvm.MethodName) jdk_32_method_3_code (1 : Nat) (Option.some (Jvm.ClassFile.FieldType.object "java/util/Optional"))) : Jvm.Cond).before a0 Z = true := hw _ (List.mem_of_getElem? (i := 313) rfl)
theorem w314 {Z : State} {a0 : Array Value} (hw : ∀ d ∈ tables_1, d.before a0 Z = true) : ((Jvm.Cond.classLink "java/util/Optional" (2 : Nat) "java/util/Optional") : Jvm.Cond).before a0 Z = true := hw _ (List.mem_of_getElem? (i := 314) rfl)
theorem w315 {Z : State} {a0 : Array Value} (hw : ∀ d ∈ tables_1, d.before a0 Z = true) : ((Jvm.Cond.instantiable "java/util/Optional" (1 : Nat)) : Jvm.Cond).before a0 Z = true := hw _ (List.mem_of_getElem? (i := 315) rfl)
theorem w316 {Z : State} {a0 : Array Value} (hw : ∀ d ∈ tables_1, d.before a0 Z = true) : ((Jvm.Cond.methodLink "java/util/Optional" (23 : Nat) ({ cls := "java/util/Optional", name := "<init>", desc := "(Ljava/lang/Object;)V" } : Jvm.MethodName)) : Jvm.Cond).before a0 Z = true := hw _ (List.mem_of_getElem? (i := 316) rfl)
theorem w317 {Z : State} {a0 : Array Value} (hw : ∀ d ∈ tables_1, d.before a0 Z = true) : ((Jvm.Cond.instanceMethod ({ cls := "java/util/Optional", name := "<init>", desc := "(Ljava/lang/Object;)V" } : Jvm.MethodName)) : Jvm.Cond).before a0 Z = true := hw _ (List.mem_of_getElem? (i := 317) rfl)
theorem w319 {Z : State} {a0 : Array Value} (hw : ∀ d ∈ tables_1, d.before a0 Z = true) : ((Jvm.Cond.code ({ cls := "java/util/Optional", name := "<init>", desc := "(Ljava/lang/Object;)V" } : Jvm.MethodName) jdk_32_method_2_code (2 : Nat) (Option.none : Option Jvm.ClassFile.FieldType)) : Jvm.Cond).before a0 Z = true := hw _ (List.mem_of_getElem? (i := 319) rfl)
theorem w320 {Z : State} {a0 : Array Value} (hw : ∀ d ∈ tables_1, d.before a0 Z = true) : ((Jvm.Cond.methodLink "java/util/Optional" (7 : Nat) ({ cls := "java/lang/Object", name := "<init>", desc := "()V" } : Jvm.MethodName)) : Jvm.Cond).before a0 Z = true := hw _ (List.mem_of_getElem? (i := 320) rfl)
theorem w321 {Z : State} {a0 : Array Value} (hw : ∀ d ∈ tables_1, d.before a0 Z = true) : ((Jvm.Cond.methodLink "java/util/Optional" (57 : Nat) ({ cls := "java/util/function/Function", name := "apply", desc := "(Ljava/lang/Object;)Ljava/lang/Object;" } : Jvm.MethodName)) : Jvm.Cond).before a0 Z = true := hw _ (List.mem_of_getElem? (i := 321) rfl)
theorem w322 {Z : State} {a0 : Array Value} (hw : ∀ d ∈ tables_1, d.before a0 Z = true) : ((Jvm.Cond.declares ({ cls := "java/util/function/Function", name := "apply", desc := "(Ljava/lang/Object;)Ljava/lang/Object;" } : Jvm.MethodName)) : Jvm.Cond).before a0 Z = true := hw _ (List.mem_of_getElem? (i := 322) rfl)
theorem w323 {Z : State} {a0 : Array Value} (hw : ∀ d ∈ tables_1, d.before a0 Z = true) : ((Jvm.Cond.interfaceMethod "java/util/function/Function" "java/util/function/Function" "apply" "(Ljava/lang/Object;)Ljava/lang/Object;") : Jvm.Cond).before a0 Z = true := hw _ (List.mem_of_getElem? (i := 323) rfl)
theorem w324 {Z : State} {a0 : Array Value} (hw : ∀ d ∈ tables_1, d.before a0 Z = true) : ((Jvm.Cond.static ({ cls := "com/example/wrange/wrange/IntegrityCheck", name := "lambda$withCharset$0", desc := "(Ljava/lang/String;)Ljava/lang/String;" } : Jvm.MethodName)) : Jvm.Cond).before a0 Z = true := hw _ (List.mem_of_getElem? (i := 324) rfl)
theorem w325 {Z : State} {a0 : Array Value} (hw : ∀ d ∈ tables_1, d.before a0 Z = true) : ((Jvm.Cond.code ({ cls := "com/example/wrange/wrange/IntegrityCheck", name := "lambda$withCharset$0", desc := "(Ljava/lang/String;)Ljava/lang/String;" } : Jvm.MethodName) prog_12_method_5_code (1 : Nat) (Option.some (Jvm.ClassFile.FieldType.object "java/lang/String"))) : Jvm.Cond).before a0 Z = true := hw _ (List.mem_of_getElem? (i := 325) rfl)
theorem w326 {Z : State} {a0 : Array Value} (hw : ∀ d ∈ tables_1, d.before a0 Z = true) : ((Jvm.Cond.stringLink "com/example/wrange/wrange/IntegrityCheck" (33 : Nat) ",") : Jvm.Cond).before a0 Z = true := hw _ (List.mem_of_getElem? (i := 326) rfl)
theorem w327 {Z : State} {a0 : Array Value} (hw : ∀ d ∈ tables_1, d.before a0 Z = true) : ((Jvm.Cond.methodLink "java/util/Optional" (62 : Nat) ({ cls := "java/util/Optional", name := "ofNullable", desc := "(Ljava/lang/Object;)Ljava/util/Optional;" } : Jvm.MethodName)) : Jvm.Cond).before a0 Z = true := hw _ (List.mem_of_getElem? (i := 327) rfl)
theorem w328 {Z : State} {a0 : Array Value} (hw : ∀ d ∈ tables_1, d.before a0 Z = true) : ((Jvm.Cond.static ({ cls := "java/util/Optional", name := "ofNullable", desc := "(Ljava/lang/Object;)Ljava/util/Optional;" } : Jvm.MethodName)) : Jvm.Cond).before a0 Z = true := hw _ (List.mem_of_getElem? (i := 328) rfl)
theorem w329 {Z : State} {a0 : Array Value} (hw : ∀ d ∈ tables_1, d.before a0 Z = true) : ((Jvm.Cond.code ({ cls := "java/util/Optional", name := "ofNullable", desc := "(Ljava/lang/Object;)Ljava/util/Optional;" } : Jvm.MethodName) jdk_32_method_4_code (1 : Nat) (Option.some (Jvm.ClassFile.FieldType.object "java/util/Optional"))) : Jvm.Cond).before a0 Z = true := hw _ (List.mem_of_getElem? (i := 329) rfl)
theorem w330 {Z : State} {a0 : Array Value} (hw : ∀ d ∈ tables_1, d.before a0 Z = true) : ((Jvm.Cond.methodLink "java/util/Arrays" (310 : Nat) ({ cls := "[B", name := "clone", desc := "()Ljava/lang/Object;" } : Jvm.MethodName)) : Jvm.Cond).before a0 Z = true := hw _ (List.mem_of_getElem? (i := 330) rfl)
theorem w331 {Z : State} {a0 : Array Value} (hw : ∀ d ∈ tables_1, d.before a0 Z = true) : ((Jvm.Cond.sameMethod "[B" "java/lang/Object" "clone" "()Ljava/lang/Object;") : Jvm.Cond).before a0 Z = true := hw _ (List.mem_of_getElem? (i := 331) rfl)
theorem w333 {Z : State} {a0 : Array Value} (hw : ∀ d ∈ tables_1, d.before a0 Z = true) : ((Jvm.Cond.instanceMethod ({ cls := "java/lang/Object", name := "clone", desc := "()Ljava/lang/Object;" } : Jvm.MethodName)) : Jvm.Cond).before a0 Z = true := hw _ (List.mem_of_getElem? (i := 333) rfl)
theorem w334 {Z : State} {a0 : Array Value} (hw : ∀ d ∈ tables_1, d.before a0 Z = true) : ((Jvm.Cond.selects "[B" ({ cls := "[B", name := "clone", desc := "()Ljava/lang/Object;" } : Jvm.MethodName) ({ cls := "java/lang/Object", name := "clone", desc := "()Ljava/lang/Object;" } : Jvm.MethodName)) : Jvm.Cond).before a0 Z = true := hw _ (List.mem_of_getElem? (i := 334) rfl)
theorem w335 {Z : State} {a0 : Array Value} (hw : ∀ d ∈ tables_1, d.before a0 Z = true) : ((Jvm.Cond.native ({ cls := "java/lang/Object", name := "clone", desc := "()Ljava/lang/Object;" } : Jvm.MethodName)) : Jvm.Cond).before a0 Z = true := hw _ (List.mem_of_getElem? (i := 335) rfl)
theorem w336 {Z : State} {a0 : Array Value} (hw : ∀ d ∈ tables_1, d.before a0 Z = true) : ((Jvm.Cond.castable "[B" "java/lang/Cloneable") : Jvm.Cond).before a0 Z = true := hw _ (List.mem_of_getElem? (i := 336) rfl)
theorem w337 {Z : State} {a0 : Array Value} (hw : ∀ d ∈ tables_1, d.before a0 Z = true) : ((Jvm.Cond.classLink "java/util/Arrays" (311 : Nat) "[B") : Jvm.Cond).before a0 Z = true := hw _ (List.mem_of_getElem? (i := 337) rfl)
theorem w338 {Z : State} {a0 : Array Value} (hw : ∀ d ∈ tables_1, d.before a0 Z = true) : ((Jvm.Cond.castable "[B" "[B") : Jvm.Cond).before a0 Z = true := hw _ (List.mem_of_getElem? (i := 338) rfl)
theorem d1_0 : decode method_2_code 0 = .ok (.iconst 1, 1) := by decide +kernel
theorem d1_1 : decode method_2_code 1 = .ok (.istore_n 3, 1) := by decide +kernel
theorem d1_2 : decode method_2_code 2 = .ok (.lload_n 0, 1) := by decide +kernel
theorem d1_3 : decode method_2_code 3 = .ok (.aload_n 2, 1) := by decide +kernel
theorem d1_4 : decode method_2_code 4 = .ok (.iconst 1, 1) := by decide +kernel
theorem d1_5 : decode method_2_code 5 = .ok (.laload, 1) := by decide +kernel
theorem d1_6 : decode method_2_code 6 = .ok (.lcmp, 1) := by decide +kernel
theorem d1_7 : decode method_2_code 7 = .ok (.ifCond .lt 5, 3) := by decide +kernel
theorem d1_10 : decode method_2_code 10 = .ok (.iconst 2, 1) := by decide +kernel
theorem d1_11 : decode method_2_code 11 = .ok (.istore_n 3, 1) := by decide +kernel
theorem d1_12 : decode method_2_code 12 = .ok (.lload_n 0, 1) := by decide +kernel
theorem d1_13 : decode method_2_code 13 = .ok (.aload_n 2, 1) := by decide +kernel
theorem d1_14 : decode method_2_code 14 = .ok (.iconst 2, 1) := by decide +kernel
theorem d1_15 : decode method_2_code 15 = .ok (.laload, 1) := by decide +kernel
theorem d1_16 : decode method_2_code 16 = .ok (.lcmp, 1) := by decide +kernel
theorem d1_17 : decode method_2_code 17 = .ok (.ifCond .lt 5, 3) := by decide +kernel
theorem d1_20 : decode method_2_code 20 = .ok (.iconst 3, 1) := by decide +kernel
theorem d1_21 : decode method_2_code 21 = .ok (.istore_n 3, 1) := by decide +kernel
theorem d1_22 : decode method_2_code 22 = .ok (.lload_n 0, 1) := by decide +kernel
theorem d1_23 : decode method_2_code 23 = .ok (.aload_n 2, 1) := by decide +kernel
theorem d1_24 : decode method_2_code 24 = .ok (.iconst 3, 1) := by decide +kernel
theorem d1_25 : decode method_2_code 25 = .ok (.laload, 1) := by decide +kernel
theorem d1_26 : decode method_2_code 26 = .ok (.lcmp, 1) := by decide +kernel
theorem d1_27 : decode method_2_code 27 = .ok (.ifCond .lt 5, 3) := by decide +kernel
theorem d1_30 : decode method_2_code 30 = .ok (.iconst 4, 1) := by decide +kernel
theorem d1_31 : decode method_2_code 31 = .ok (.istore_n 3, 1) := by decide +kernel
theorem d1_32 : decode method_2_code 32 = .ok (.lload_n 0, 1) := by decide +kernel
theorem d1_33 : decode method_2_code 33 = .ok (.aload_n 2, 1) := by decide +kernel
theorem d1_34 : decode method_2_code 34 = .ok (.iconst 4, 1) := by decide +kernel
theorem d1_35 : decode method_2_code 35 = .ok (.laload, 1) := by decide +kernel
theorem d1_36 : decode method_2_code 36 = .ok (.lcmp, 1) := by decide +kernel
theorem d1_37 : decode method_2_code 37 = .ok (.ifCond .lt 5, 3) := by decide +kernel
theorem d1_40 : decode method_2_code 40 = .ok (.iconst 5, 1) := by decide +kernel
theorem d1_41 : decode method_2_code 41 = .ok (.istore_n 3, 1) := by decide +kernel
theorem d1_42 : decode method_2_code 42 = .ok (.lload_n 0, 1) := by decide +kernel
theorem d1_43 : decode method_2_code 43 = .ok (.aload_n 2, 1) := by decide +kernel
theorem d1_44 : decode method_2_code 44 = .ok (.iconst 5, 1) := by decide +kernel
theorem d1_45 : decode method_2_code 45 = .ok (.laload, 1) := by decide +kernel
theorem d1_46 : decode method_2_code 46 = .ok (.lcmp, 1) := by decide +kernel
theorem d1_47 : decode method_2_code 47 = .ok (.ifCond .lt 6, 3) := by decide +kernel
theorem d1_50 : decode method_2_code 50 = .ok (.bipush 6, 2) := by decide +kernel
theorem d1_52 : decode method_2_code 52 = .ok (.istore_n 3, 1) := by decide +kernel
theorem d1_53 : decode method_2_code 53 = .ok (.lload_n 0, 1) := by decide +kernel
theorem d1_54 : decode method_2_code 54 = .ok (.aload_n 2, 1) := by decide +kernel
theorem d1_55 : decode method_2_code 55 = .ok (.bipush 6, 2) := by decide +kernel
theorem d1_57 : decode method_2_code 57 = .ok (.laload, 1) := by decide +kernel
theorem d1_58 : decode method_2_code 58 = .ok (.lcmp, 1) := by decide +kernel
theorem d1_59 : decode method_2_code 59 = .ok (.ifCond .lt 6, 3) := by decide +kernel
theorem d1_62 : decode method_2_code 62 = .ok (.bipush 7, 2) := by decide +kernel
theorem d1_64 : decode method_2_code 64 = .ok (.istore_n 3, 1) := by decide +kernel
theorem d1_65 : decode method_2_code 65 = .ok (.lload_n 0, 1) := by decide +kernel
theorem d1_66 : decode method_2_code 66 = .ok (.aload_n 2, 1) := by decide +kernel
theorem d1_67 : decode method_2_code 67 = .ok (.bipush 7, 2) := by decide +kernel
theorem d1_69 : decode method_2_code 69 = .ok (.laload, 1) := by decide +kernel
theorem d1_70 : decode method_2_code 70 = .ok (.lcmp, 1) := by decide +kernel
theorem d1_71 : decode method_2_code 71 = .ok (.ifCond .lt 6, 3) := by decide +kernel
theorem d1_74 : decode method_2_code 74 = .ok (.bipush 8, 2) := by decide +kernel
theorem d1_76 : decode method_2_code 76 = .ok (.istore_n 3, 1) := by decide +kernel
theorem d1_77 : decode method_2_code 77 = .ok (.lload_n 0, 1) := by decide +kernel
theorem d1_78 : decode method_2_code 78 = .ok (.aload_n 2, 1) := by decide +kernel
theorem d1_79 : decode method_2_code 79 = .ok (.bipush 8, 2) := by decide +kernel
theorem d1_81 : decode method_2_code 81 = .ok (.laload, 1) := by decide +kernel
theorem d1_82 : decode method_2_code 82 = .ok (.lcmp, 1) := by decide +kernel
theorem d1_83 : decode method_2_code 83 = .ok (.ifCond .lt 6, 3) := by decide +kernel
theorem d1_86 : decode method_2_code 86 = .ok (.bipush 9, 2) := by decide +kernel
theorem d1_88 : decode method_2_code 88 = .ok (.istore_n 3, 1) := by decide +kernel
theorem d1_89 : decode method_2_code 89 = .ok (.lload_n 0, 1) := by decide +kernel
theorem d1_90 : decode method_2_code 90 = .ok (.aload_n 2, 1) := by decide +kernel
theorem d1_91 : decode method_2_code 91 = .ok (.bipush 9, 2) := by decide +kernel
theorem d1_93 : decode method_2_code 93 = .ok (.laload, 1) := by decide +kernel
theorem d1_94 : decode method_2_code 94 = .ok (.lcmp, 1) := by decide +kernel
theorem d1_95 : decode method_2_code 95 = .ok (.ifCond .lt 6, 3) := by decide +kernel
theorem d1_98 : decode method_2_code 98 = .ok (.bipush 10, 2) := by decide +kernel
theorem d1_100 : decode method_2_code 100 = .ok (.istore_n 3, 1) := by decide +kernel
theorem d1_101 : decode method_2_code 101 = .ok (.lload_n 0, 1) := by decide +kernel
theorem d1_102 : decode method_2_code 102 = .ok (.aload_n 2, 1) := by decide +kernel
theorem d1_103 : decode method_2_code 103 = .ok (.bipush 10, 2) := by decide +kernel
theorem d1_105 : decode method_2_code 105 = .ok (.laload, 1) := by decide +kernel
theorem d1_106 : decode method_2_code 106 = .ok (.lcmp, 1) := by decide +kernel
theorem d1_107 : decode method_2_code 107 = .ok (.ifCond .lt 6, 3) := by decide +kernel
theorem d1_110 : decode method_2_code 110 = .ok (.bipush 11, 2) := by decide +kernel
theorem d1_112 : decode method_2_code 112 = .ok (.istore_n 3, 1) := by decide +kernel
theorem d1_113 : decode method_2_code 113 = .ok (.lload_n 0, 1) := by decide +kernel
theorem d1_114 : decode method_2_code 114 = .ok (.aload_n 2, 1) := by decide +kernel
theorem d1_115 : decode method_2_code 115 = .ok (.bipush 11, 2) := by decide +kernel
theorem d1_117 : decode method_2_code 117 = .ok (.laload, 1) := by decide +kernel
theorem d1_118 : decode method_2_code 118 = .ok (.lcmp, 1) := by decide +kernel
theorem d1_119 : decode method_2_code 119 = .ok (.ifCond .lt 6, 3) := by decide +kernel
theorem d1_122 : decode method_2_code 122 = .ok (.bipush 12, 2) := by decide +kernel
theorem d1_124 : decode method_2_code 124 = .ok (.istore_n 3, 1) := by decide +kernel
theorem d1_125 : decode method_2_code 125 = .ok (.lload_n 0, 1) := by decide +kernel
theorem d1_126 : decode method_2_code 126 = .ok (.aload_n 2, 1) := by decide +kernel
theorem d1_127 : decode method_2_code 127 = .ok (.bipush 12, 2) := by decide +kernel
theorem d1_129 : decode method_2_code 129 = .ok (.laload, 1) := by decide +kernel
theorem d1_130 : decode method_2_code 130 = .ok (.lcmp, 1) := by decide +kernel
theorem d1_131 : decode method_2_code 131 = .ok (.ifCond .lt 6, 3) := by decide +kernel
theorem d1_134 : decode method_2_code 134 = .ok (.bipush 13, 2) := by decide +kernel
theorem d1_136 : decode method_2_code 136 = .ok (.istore_n 3, 1) := by decide +kernel
theorem d1_137 : decode method_2_code 137 = .ok (.lload_n 0, 1) := by decide +kernel
theorem d1_138 : decode method_2_code 138 = .ok (.aload_n 2, 1) := by decide +kernel
theorem d1_139 : decode method_2_code 139 = .ok (.bipush 13, 2) := by decide +kernel
theorem d1_141 : decode method_2_code 141 = .ok (.laload, 1) := by decide +kernel
theorem d1_142 : decode method_2_code 142 = .ok (.lcmp, 1) := by decide +kernel
theorem d1_143 : decode method_2_code 143 = .ok (.ifCond .lt 6, 3) := by decide +kernel
theorem d1_146 : decode method_2_code 146 = .ok (.bipush 14, 2) := by decide +kernel
theorem d1_148 : decode method_2_code 148 = .ok (.istore_n 3, 1) := by decide +kernel
theorem d1_149 : decode method_2_code 149 = .ok (.lload_n 0, 1) := by decide +kernel
theorem d1_150 : decode method_2_code 150 = .ok (.aload_n 2, 1) := by decide +kernel
theorem d1_151 : decode method_2_code 151 = .ok (.bipush 14, 2) := by decide +kernel
theorem d1_153 : decode method_2_code 153 = .ok (.laload, 1) := by decide +kernel
theorem d1_154 : decode method_2_code 154 = .ok (.lcmp, 1) := by decide +kernel
theorem d1_155 : decode method_2_code 155 = .ok (.ifCond .lt 6, 3) := by decide +kernel
theorem d1_158 : decode method_2_code 158 = .ok (.bipush 15, 2) := by decide +kernel
theorem d1_160 : decode method_2_code 160 = .ok (.istore_n 3, 1) := by decide +kernel
theorem d1_161 : decode method_2_code 161 = .ok (.lload_n 0, 1) := by decide +kernel
theorem d1_162 : decode method_2_code 162 = .ok (.aload_n 2, 1) := by decide +kernel
theorem d1_163 : decode method_2_code 163 = .ok (.bipush 15, 2) := by decide +kernel
theorem d1_165 : decode method_2_code 165 = .ok (.laload, 1) := by decide +kernel
theorem d1_166 : decode method_2_code 166 = .ok (.lcmp, 1) := by decide +kernel
theorem d1_167 : decode method_2_code 167 = .ok (.ifCond .lt 6, 3) := by decide +kernel
theorem d1_170 : decode method_2_code 170 = .ok (.bipush 16, 2) := by decide +kernel
theorem d1_172 : decode method_2_code 172 = .ok (.istore_n 3, 1) := by decide +kernel
theorem d1_173 : decode method_2_code 173 = .ok (.lload_n 0, 1) := by decide +kernel
theorem d1_174 : decode method_2_code 174 = .ok (.aload_n 2, 1) := by decide +kernel
theorem d1_175 : decode method_2_code 175 = .ok (.bipush 16, 2) := by decide +kernel
theorem d1_177 : decode method_2_code 177 = .ok (.laload, 1) := by decide +kernel
theorem d1_178 : decode method_2_code 178 = .ok (.lcmp, 1) := by decide +kernel
theorem d1_179 : decode method_2_code 179 = .ok (.ifCond .lt 6, 3) := by decide +kernel
theorem d1_182 : decode method_2_code 182 = .ok (.bipush 17, 2) := by decide +kernel
theorem d1_184 : decode method_2_code 184 = .ok (.istore_n 3, 1) := by decide +kernel
theorem d1_185 : decode method_2_code 185 = .ok (.lload_n 0, 1) := by decide +kernel
theorem d1_186 : decode method_2_code 186 = .ok (.aload_n 2, 1) := by decide +kernel
theorem d1_187 : decode method_2_code 187 = .ok (.bipush 17, 2) := by decide +kernel
theorem d1_189 : decode method_2_code 189 = .ok (.laload, 1) := by decide +kernel
theorem d1_190 : decode method_2_code 190 = .ok (.lcmp, 1) := by decide +kernel
theorem d1_191 : decode method_2_code 191 = .ok (.ifCond .lt 6, 3) := by decide +kernel
theorem d1_194 : decode method_2_code 194 = .ok (.bipush 18, 2) := by decide +kernel
theorem d1_196 : decode method_2_code 196 = .ok (.istore_n 3, 1) := by decide +kernel
theorem d1_197 : decode method_2_code 197 = .ok (.lload_n 0, 1) := by decide +kernel
theorem d1_198 : decode method_2_code 198 = .ok (.aload_n 2, 1) := by decide +kernel
theorem d1_199 : decode method_2_code 199 = .ok (.bipush 18, 2) := by decide +kernel
theorem d1_201 : decode method_2_code 201 = .ok (.laload, 1) := by decide +kernel
theorem d1_202 : decode method_2_code 202 = .ok (.lcmp, 1) := by decide +kernel
theorem d1_203 : decode method_2_code 203 = .ok (.ifCond .lt 6, 3) := by decide +kernel
theorem d1_206 : decode method_2_code 206 = .ok (.bipush 19, 2) := by decide +kernel
theorem d1_208 : decode method_2_code 208 = .ok (.istore_n 3, 1) := by decide +kernel
theorem d1_209 : decode method_2_code 209 = .ok (.iload_n 3, 1) := by decide +kernel
theorem d1_210 : decode method_2_code 210 = .ok (.ireturn, 1) := by decide +kernel
theorem d2_0 : decode jdk_42_method_3_code 0 = .ok (.aload_n 0, 1) := by decide +kernel
theorem d2_1 : decode jdk_42_method_3_code 1 = .ok (.aload_n 1, 1) := by decide +kernel
theorem d2_2 : decode jdk_42_method_3_code 2 = .ok (.iconst 0, 1) := by decide +kernel
theorem d2_3 : decode jdk_42_method_3_code 3 = .ok (.aload_n 1, 1) := by decide +kernel
theorem d2_4 : decode jdk_42_method_3_code 4 = .ok (.arraylength, 1) := by decide +kernel
theorem d2_5 : decode jdk_42_method_3_code 5 = .ok (.aconst_null, 1) := by decide +kernel
theorem d2_6 : decode jdk_42_method_3_code 6 = .ok (.invokespecial 27, 3) := by decide +kernel
theorem d2_9 : decode jdk_42_method_3_code 9 = .ok (.return_, 1) := by decide +kernel
theorem d3_0 : decode jdk_42_method_149_code 0 = .ok (.aload_n 0, 1) := by decide +kernel
theorem d3_1 : decode jdk_42_method_149_code 1 = .ok (.invokespecial 1, 3) := by decide +kernel
theorem d3_4 : decode jdk_42_method_149_code 4 = .ok (.iload_n 3, 1) := by decide +kernel
theorem d3_5 : decode jdk_42_method_149_code 5 = .ok (.ifCond .ne 22, 3) := by decide +kernel
theorem d3_27 : decode jdk_42_method_149_code 27 = .ok (.getstatic 38, 3) := by decide +kernel
theorem d3_30 : decode jdk_42_method_149_code 30 = .ok (.ifCond .eq 28, 3) := by decide +kernel
theorem d3_33 : decode jdk_42_method_149_code 33 = .ok (.aload_n 1, 1) := by decide +kernel
theorem d3_34 : decode jdk_42_method_149_code 34 = .ok (.iload_n 2, 1) := by decide +kernel
theorem d3_35 : decode jdk_42_method_149_code 35 = .ok (.iload_n 3, 1) := by decide +kernel
theorem d3_36 : decode jdk_42_method_149_code 36 = .ok (.invokestatic 177, 3) := by decide +kernel
theorem d3_39 : decode jdk_42_method_149_code 39 = .ok (.astore 5, 2) := by decide +kernel
theorem d3_41 : decode jdk_42_method_149_code 41 = .ok (.aload_n 0, 1) := by decide +kernel
theorem d3_42 : decode jdk_42_method_149_code 42 = .ok (.aload 5, 2) := by decide +kernel
theorem d3_44 : decode jdk_42_method_149_code 44 = .ok (.iload_n 3, 1) := by decide +kernel
theorem d3_45 : decode jdk_42_method_149_code 45 = .ok (.invokestatic 47, 3) := by decide +kernel
theorem d3_48 : decode jdk_42_method_149_code 48 = .ok (.putfield 15, 3) := by decide +kernel
theorem d3_51 : decode jdk_42_method_149_code 51 = .ok (.aload_n 0, 1) := by decide +kernel
theorem d3_52 : decode jdk_42_method_149_code 52 = .ok (.aload 5, 2) := by decide +kernel
theorem d3_54 : decode jdk_42_method_149_code 54 = .ok (.putfield 9, 3) := by decide +kernel
theorem d3_57 : decode jdk_42_method_149_code 57 = .ok (.return_, 1) := by decide +kernel
theorem d5_0 : decode jdk_52_method_16_code 0 = .ok (.iload_n 2, 1) := by decide +kernel
theorem d5_1 : decode jdk_52_method_16_code 1 = .ok (.newarray .byte, 2) := by decide +kernel
theorem d5_3 : decode jdk_52_method_16_code 3 = .ok (.astore_n 3, 1) := by decide +kernel
theorem d5_4 : decode jdk_52_method_16_code 4 = .ok (.aload_n 0, 1) := by decide +kernel
theorem d5_5 : decode jdk_52_method_16_code 5 = .ok (.iload_n 1, 1) := by decide +kernel
theorem d5_6 : decode jdk_52_method_16_code 6 = .ok (.aload_n 3, 1) := by decide +kernel
theorem d5_7 : decode jdk_52_method_16_code 7 = .ok (.iconst 0, 1) := by decide +kernel
theorem d5_8 : decode jdk_52_method_16_code 8 = .ok (.iload_n 2, 1) := by decide +kernel
theorem d5_9 : decode jdk_52_method_16_code 9 = .ok (.invokestatic 115, 3) := by decide +kernel
theorem d5_12 : decode jdk_52_method_16_code 12 = .ok (.istore 4, 2) := by decide +kernel
theorem d5_14 : decode jdk_52_method_16_code 14 = .ok (.iload 4, 2) := by decide +kernel
theorem d5_16 : decode jdk_52_method_16_code 16 = .ok (.iload_n 2, 1) := by decide +kernel
theorem d5_17 : decode jdk_52_method_16_code 17 = .ok (.if_icmp .eq 40, 3) := by decide +kernel
theorem d5_57 : decode jdk_52_method_16_code 57 = .ok (.aload_n 3, 1) := by decide +kernel
theorem d5_58 : decode jdk_52_method_16_code 58 = .ok (.areturn, 1) := by decide +kernel
theorem d6_0 : decode jdk_52_method_21_code 0 = .ok (.iconst 0, 1) := by decide +kernel
theorem d6_1 : decode jdk_52_method_21_code 1 = .ok (.istore 5, 2) := by decide +kernel
theorem d6_3 : decode jdk_52_method_21_code 3 = .ok (.iload 5, 2) := by decide +kernel
theorem d6_5 : decode jdk_52_method_21_code 5 = .ok (.iload 4, 2) := by decide +kernel
theorem d6_7 : decode jdk_52_method_21_code 7 = .ok (.if_icmp .ge 37, 3) := by decide +kernel
theorem d6_10 : decode jdk_52_method_21_code 10 = .ok (.aload_n 0, 1) := by decide +kernel
theorem d6_11 : decode jdk_52_method_21_code 11 = .ok (.iload_n 1, 1) := by decide +kernel
theorem d6_12 : decode jdk_52_method_21_code 12 = .ok (.caload, 1) := by decide +kernel
theorem d6_13 : decode jdk_52_method_21_code 13 = .ok (.istore 6, 2) := by decide +kernel
theorem d6_15 : decode jdk_52_method_21_code 15 = .ok (.iload 6, 2) := by decide +kernel
theorem d6_17 : decode jdk_52_method_21_code 17 = .ok (.sipush 255, 3) := by decide +kernel
theorem d6_20 : decode jdk_52_method_21_code 20 = .ok (.if_icmp .le 6, 3) := by decide +kernel
theorem d6_26 : decode jdk_52_method_21_code 26 = .ok (.aload_n 2, 1) := by decide +kernel
theorem d6_27 : decode jdk_52_method_21_code 27 = .ok (.iload_n 3, 1) := by decide +kernel
theorem d6_28 : decode jdk_52_method_21_code 28 = .ok (.iload 6, 2) := by decide +kernel
theorem d6_30 : decode jdk_52_method_21_code 30 = .ok (.i2b, 1) := by decide +kernel
theorem d6_31 : decode jdk_52_method_21_code 31 = .ok (.bastore, 1) := by decide +kernel
theorem d6_32 : decode jdk_52_method_21_code 32 = .ok (.iinc 1 1, 3) := by decide +kernel
theorem d6_35 : decode jdk_52_method_21_code 35 = .ok (.iinc 3 1, 3) := by decide +kernel
theorem d6_38 : decode jdk_52_method_21_code 38 = .ok (.iinc 5 1, 3) := by decide +kernel
theorem d6_41 : decode jdk_52_method_21_code 41 = .ok (.goto (-38), 3) := by decide +kernel
theorem d6_44 : decode jdk_52_method_21_code 44 = .ok (.iload 4, 2) := by decide +kernel
theorem d6_46 : decode jdk_52_method_21_code 46 = .ok (.ireturn, 1) := by decide +kernel
theorem d7_0 : decode jdk_52_method_15_code 0 = .ok (.iload_n 1, 1) := by decide +kernel
theorem d7_1 : decode jdk_52_method_15_code 1 = .ok (.aload_n 0, 1) := by decide +kernel
theorem d7_2 : decode jdk_52_method_15_code 2 = .ok (.arraylength, 1) := by decide +kernel
theorem d7_3 : decode jdk_52_method_15_code 3 = .ok (.isub, 1) := by decide +kernel
theorem d7_4 : decode jdk_52_method_15_code 4 = .ok (.bipush 31, 2) := by decide +kernel
theorem d7_6 : decode jdk_52_method_15_code 6 = .ok (.iushr, 1) := by decide +kernel
theorem d7_7 : decode jdk_52_method_15_code 7 = .ok (.i2b, 1) := by decide +kernel
theorem d7_8 : decode jdk_52_method_15_code 8 = .ok (.ireturn, 1) := by decide +kernel
theorem d8_0 : decode jdk_32_method_1_code 0 = .ok (.getstatic 1, 3) := by decide +kernel
theorem d8_3 : decode jdk_32_method_1_code 3 = .ok (.astore_n 0, 1) := by decide +kernel
theorem d8_4 : decode jdk_32_method_1_code 4 = .ok (.aload_n 0, 1) := by decide +kernel
theorem d8_5 : decode jdk_32_method_1_code 5 = .ok (.areturn, 1) := by decide +kernel
theorem d9_0 : decode prog_14_method_1_code 0 = .ok (.aload_n 0, 1) := by decide +kernel
theorem d9_1 : decode prog_14_method_1_code 1 = .ok (.invokespecial 1, 3) := by decide +kernel
theorem d9_4 : decode prog_14_method_1_code 4 = .ok (.lload_n 1, 1) := by decide +kernel
theorem d9_5 : decode prog_14_method_1_code 5 = .ok (.lconst 0, 1) := by decide +kernel
theorem d9_6 : decode prog_14_method_1_code 6 = .ok (.lcmp, 1) := by decide +kernel
theorem d9_7 : decode prog_14_method_1_code 7 = .ok (.ifCond .ge 30, 3) := by decide +kernel
theorem d9_37 : decode prog_14_method_1_code 37 = .ok (.aload_n 3, 1) := by decide +kernel
theorem d9_38 : decode prog_14_method_1_code 38 = .ok (.ldc 28, 2) := by decide +kernel
theorem d9_40 : decode prog_14_method_1_code 40 = .ok (.invokestatic 30, 3) := by decide +kernel
theorem d9_43 : decode prog_14_method_1_code 43 = .ok (.pop, 1) := by decide +kernel
theorem d9_44 : decode prog_14_method_1_code 44 = .ok (.aload_n 0, 1) := by decide +kernel
theorem d9_45 : decode prog_14_method_1_code 45 = .ok (.lload_n 1, 1) := by decide +kernel
theorem d9_46 : decode prog_14_method_1_code 46 = .ok (.putfield 36, 3) := by decide +kernel
theorem d9_49 : decode prog_14_method_1_code 49 = .ok (.aload_n 0, 1) := by decide +kernel
theorem d9_50 : decode prog_14_method_1_code 50 = .ok (.aload_n 3, 1) := by decide +kernel
theorem d9_51 : decode prog_14_method_1_code 51 = .ok (.putfield 42, 3) := by decide +kernel
theorem d9_54 : decode prog_14_method_1_code 54 = .ok (.return_, 1) := by decide +kernel
theorem d10_0 : decode jdk_30_method_1_code 0 = .ok (.aload_n 0, 1) := by decide +kernel
theorem d10_1 : decode jdk_30_method_1_code 1 = .ok (.invokespecial 1, 3) := by decide +kernel
theorem d10_4 : decode jdk_30_method_1_code 4 = .ok (.return_, 1) := by decide +kernel
theorem d11_0 : decode jdk_31_method_11_code 0 = .ok (.aload_n 0, 1) := by decide +kernel
theorem d11_1 : decode jdk_31_method_11_code 1 = .ok (.ifnonnull 12, 3) := by decide +kernel
theorem d11_13 : decode jdk_31_method_11_code 13 = .ok (.aload_n 0, 1) := by decide +kernel
theorem d11_14 : decode jdk_31_method_11_code 14 = .ok (.areturn, 1) := by decide +kernel
theorem d12_0 : decode prog_14_method_3_code 0 = .ok (.new 9, 3) := by decide +kernel
theorem d12_3 : decode prog_14_method_3_code 3 = .ok (.dup, 1) := by decide +kernel
theorem d12_4 : decode prog_14_method_3_code 4 = .ok (.invokespecial 11, 3) := by decide +kernel
theorem d12_7 : decode prog_14_method_3_code 7 = .ok (.ldc 51, 2) := by decide +kernel
theorem d12_9 : decode prog_14_method_3_code 9 = .ok (.invokevirtual 14, 3) := by decide +kernel
theorem d12_12 : decode prog_14_method_3_code 12 = .ok (.aload_n 0, 1) := by decide +kernel
theorem d12_13 : decode prog_14_method_3_code 13 = .ok (.getfield 36, 3) := by decide +kernel
theorem d12_16 : decode prog_14_method_3_code 16 = .ok (.invokevirtual 18, 3) := by decide +kernel
theorem d12_19 : decode prog_14_method_3_code 19 = .ok (.invokevirtual 21, 3) := by decide +kernel
theorem d12_22 : decode prog_14_method_3_code 22 = .ok (.aload_n 0, 1) := by decide +kernel
theorem d12_23 : decode prog_14_method_3_code 23 = .ok (.getfield 42, 3) := by decide +kernel
theorem d12_26 : decode prog_14_method_3_code 26 = .ok (.invokestatic 53, 3) := by decide +kernel
theorem d12_29 : decode prog_14_method_3_code 29 = .ok (.areturn, 1) := by decide +kernel
theorem d13_0 : decode jdk_67_method_1_code 0 = .ok (.aload_n 0, 1) := by decide +kernel
theorem d13_1 : decode jdk_67_method_1_code 1 = .ok (.bipush 16, 2) := by decide +kernel
theorem d13_3 : decode jdk_67_method_1_code 3 = .ok (.invokespecial 1, 3) := by decide +kernel
theorem d13_6 : decode jdk_67_method_1_code 6 = .ok (.return_, 1) := by decide +kernel
theorem d14_0 : decode jdk_68_method_2_code 0 = .ok (.aload_n 0, 1) := by decide +kernel
theorem d14_1 : decode jdk_68_method_2_code 1 = .ok (.invokespecial 3, 3) := by decide +kernel
theorem d14_4 : decode jdk_68_method_2_code 4 = .ok (.getstatic 18, 3) := by decide +kernel
theorem d14_7 : decode jdk_68_method_2_code 7 = .ok (.ifCond .eq 18, 3) := by decide +kernel
theorem d14_10 : decode jdk_68_method_2_code 10 = .ok (.aload_n 0, 1) := by decide +kernel
theorem d14_11 : decode jdk_68_method_2_code 11 = .ok (.iload_n 1, 1) := by decide +kernel
theorem d14_12 : decode jdk_68_method_2_code 12 = .ok (.newarray .byte, 2) := by decide +kernel
theorem d14_14 : decode jdk_68_method_2_code 14 = .ok (.putfield 15, 3) := by decide +kernel
theorem d14_17 : decode jdk_68_method_2_code 17 = .ok (.aload_n 0, 1) := by decide +kernel
theorem d14_18 : decode jdk_68_method_2_code 18 = .ok (.iconst 0, 1) := by decide +kernel
theorem d14_19 : decode jdk_68_method_2_code 19 = .ok (.putfield 22, 3) := by decide +kernel
theorem d14_22 : decode jdk_68_method_2_code 22 = .ok (.goto 16, 3) := by decide +kernel
theorem d14_38 : decode jdk_68_method_2_code 38 = .ok (.return_, 1) := by decide +kernel
theorem d15_0 : decode jdk_67_method_7_code 0 = .ok (.aload_n 0, 1) := by decide +kernel
theorem d15_1 : decode jdk_67_method_7_code 1 = .ok (.aload_n 1, 1) := by decide +kernel
theorem d15_2 : decode jdk_67_method_7_code 2 = .ok (.invokespecial 29, 3) := by decide +kernel
theorem d15_5 : decode jdk_67_method_7_code 5 = .ok (.pop, 1) := by decide +kernel
theorem d15_6 : decode jdk_67_method_7_code 6 = .ok (.aload_n 0, 1) := by decide +kernel
theorem d15_7 : decode jdk_67_method_7_code 7 = .ok (.areturn, 1) := by decide +kernel
theorem d16_0 : decode jdk_68_method_22_code 0 = .ok (.aload_n 1, 1) := by decide +kernel
theorem d16_1 : decode jdk_68_method_22_code 1 = .ok (.ifnonnull 8, 3) := by decide +kernel
theorem d16_9 : decode jdk_68_method_22_code 9 = .ok (.aload_n 1, 1) := by decide +kernel
theorem d16_10 : decode jdk_68_method_22_code 10 = .ok (.invokevirtual 32, 3) := by decide +kernel
theorem d16_13 : decode jdk_68_method_22_code 13 = .ok (.istore_n 2, 1) := by decide +kernel
theorem d16_14 : decode jdk_68_method_22_code 14 = .ok (.aload_n 0, 1) := by decide +kernel
theorem d16_15 : decode jdk_68_method_22_code 15 = .ok (.aload_n 0, 1) := by decide +kernel
theorem d16_16 : decode jdk_68_method_22_code 16 = .ok (.getfield 79, 3) := by decide +kernel
theorem d16_19 : decode jdk_68_method_22_code 19 = .ok (.iload_n 2, 1) := by decide +kernel
theorem d16_20 : decode jdk_68_method_22_code 20 = .ok (.iadd, 1) := by decide +kernel
theorem d16_21 : decode jdk_68_method_22_code 21 = .ok (.invokevirtual 100, 3) := by decide +kernel
theorem d16_24 : decode jdk_68_method_22_code 24 = .ok (.aload_n 0, 1) := by decide +kernel
theorem d16_25 : decode jdk_68_method_22_code 25 = .ok (.aload_n 0, 1) := by decide +kernel
theorem d16_26 : decode jdk_68_method_22_code 26 = .ok (.getfield 79, 3) := by decide +kernel
theorem d16_29 : decode jdk_68_method_22_code 29 = .ok (.aload_n 1, 1) := by decide +kernel
theorem d16_30 : decode jdk_68_method_22_code 30 = .ok (.invokevirtual 208, 3) := by decide +kernel
theorem d16_33 : decode jdk_68_method_22_code 33 = .ok (.aload_n 0, 1) := by decide +kernel
theorem d16_34 : decode jdk_68_method_22_code 34 = .ok (.dup, 1) := by decide +kernel
theorem d16_35 : decode jdk_68_method_22_code 35 = .ok (.getfield 79, 3) := by decide +kernel
theorem d16_38 : decode jdk_68_method_22_code 38 = .ok (.iload_n 2, 1) := by decide +kernel
theorem d16_39 : decode jdk_68_method_22_code 39 = .ok (.iadd, 1) := by decide +kernel
theorem d16_40 : decode jdk_68_method_22_code 40 = .ok (.putfield 79, 3) := by decide +kernel
theorem d16_43 : decode jdk_68_method_22_code 43 = .ok (.aload_n 0, 1) := by decide +kernel
theorem d16_44 : decode jdk_68_method_22_code 44 = .ok (.areturn, 1) := by decide +kernel
theorem d17_0 : decode jdk_42_method_54_code 0 = .ok (.aload_n 0, 1) := by decide +kernel
theorem d17_1 : decode jdk_42_method_54_code 1 = .ok (.getfield 9, 3) := by decide +kernel
theorem d17_4 : decode jdk_42_method_54_code 4 = .ok (.arraylength, 1) := by decide +kernel
theorem d17_5 : decode jdk_42_method_54_code 5 = .ok (.aload_n 0, 1) := by decide +kernel
theorem d17_6 : decode jdk_42_method_54_code 6 = .ok (.invokevirtual 335, 3) := by decide +kernel
theorem d17_9 : decode jdk_42_method_54_code 9 = .ok (.ishr, 1) := by decide +kernel
theorem d17_10 : decode jdk_42_method_54_code 10 = .ok (.ireturn, 1) := by decide +kernel
theorem d18_0 : decode jdk_42_method_152_code 0 = .ok (.getstatic 38, 3) := by decide +kernel
theorem d18_3 : decode jdk_42_method_152_code 3 = .ok (.ifCond .eq 10, 3) := by decide +kernel
theorem d18_6 : decode jdk_42_method_152_code 6 = .ok (.aload_n 0, 1) := by decide +kernel
theorem d18_7 : decode jdk_42_method_152_code 7 = .ok (.getfield 15, 3) := by decide +kernel
theorem d18_10 : decode jdk_42_method_152_code 10 = .ok (.goto 4, 3) := by decide +kernel
theorem d18_14 : decode jdk_42_method_152_code 14 = .ok (.ireturn, 1) := by decide +kernel
theorem d19_0 : decode jdk_68_method_9_code 0 = .ok (.aload_n 0, 1) := by decide +kernel
theorem d19_1 : decode jdk_68_method_9_code 1 = .ok (.getfield 15, 3) := by decide +kernel
theorem d19_4 : decode jdk_68_method_9_code 4 = .ok (.arraylength, 1) := by decide +kernel
theorem d19_5 : decode jdk_68_method_9_code 5 = .ok (.aload_n 0, 1) := by decide +kernel
theorem d19_6 : decode jdk_68_method_9_code 6 = .ok (.getfield 22, 3) := by decide +kernel
theorem d19_9 : decode jdk_68_method_9_code 9 = .ok (.ishr, 1) := by decide +kernel
theorem d19_10 : decode jdk_68_method_9_code 10 = .ok (.istore_n 2, 1) := by decide +kernel
theorem d19_11 : decode jdk_68_method_9_code 11 = .ok (.iload_n 1, 1) := by decide +kernel
theorem d19_12 : decode jdk_68_method_9_code 12 = .ok (.iload_n 2, 1) := by decide +kernel
theorem d19_13 : decode jdk_68_method_9_code 13 = .ok (.isub, 1) := by decide +kernel
theorem d19_14 : decode jdk_68_method_9_code 14 = .ok (.ifCond .le 24, 3) := by decide +kernel
theorem d19_17 : decode jdk_68_method_9_code 17 = .ok (.aload_n 0, 1) := by decide +kernel
theorem d19_18 : decode jdk_68_method_9_code 18 = .ok (.aload_n 0, 1) := by decide +kernel
theorem d19_19 : decode jdk_68_method_9_code 19 = .ok (.getfield 15, 3) := by decide +kernel
theorem d19_22 : decode jdk_68_method_9_code 22 = .ok (.aload_n 0, 1) := by decide +kernel
theorem d19_23 : decode jdk_68_method_9_code 23 = .ok (.iload_n 1, 1) := by decide +kernel
theorem d19_24 : decode jdk_68_method_9_code 24 = .ok (.invokevirtual 104, 3) := by decide +kernel
theorem d19_27 : decode jdk_68_method_9_code 27 = .ok (.aload_n 0, 1) := by decide +kernel
theorem d19_28 : decode jdk_68_method_9_code 28 = .ok (.getfield 22, 3) := by decide +kernel
theorem d19_31 : decode jdk_68_method_9_code 31 = .ok (.ishl, 1) := by decide +kernel
theorem d19_32 : decode jdk_68_method_9_code 32 = .ok (.invokestatic 108, 3) := by decide +kernel
theorem d19_35 : decode jdk_68_method_9_code 35 = .ok (.putfield 15, 3) := by decide +kernel
theorem d19_38 : decode jdk_68_method_9_code 38 = .ok (.return_, 1) := by decide +kernel
theorem d20_0 : decode jdk_68_method_73_code 0 = .ok (.aload_n 0, 1) := by decide +kernel
theorem d20_1 : decode jdk_68_method_73_code 1 = .ok (.aload_n 2, 1) := by decide +kernel
theorem d20_2 : decode jdk_68_method_73_code 2 = .ok (.invokevirtual 397, 3) := by decide +kernel
theorem d20_5 : decode jdk_68_method_73_code 5 = .ok (.aload_n 2, 1) := by decide +kernel
theorem d20_6 : decode jdk_68_method_73_code 6 = .ok (.aload_n 0, 1) := by decide +kernel
theorem d20_7 : decode jdk_68_method_73_code 7 = .ok (.getfield 15, 3) := by decide +kernel
theorem d20_10 : decode jdk_68_method_73_code 10 = .ok (.iload_n 1, 1) := by decide +kernel
theorem d20_11 : decode jdk_68_method_73_code 11 = .ok (.aload_n 0, 1) := by decide +kernel
theorem d20_12 : decode jdk_68_method_73_code 12 = .ok (.getfield 22, 3) := by decide +kernel
theorem d20_15 : decode jdk_68_method_73_code 15 = .ok (.invokevirtual 399, 3) := by decide +kernel
theorem d20_18 : decode jdk_68_method_73_code 18 = .ok (.return_, 1) := by decide +kernel
theorem d21_0 : decode jdk_68_method_71_code 0 = .ok (.getstatic 18, 3) := by decide +kernel
theorem d21_3 : decode jdk_68_method_71_code 3 = .ok (.ifCond .eq 18, 3) := by decide +kernel
theorem d21_6 : decode jdk_68_method_71_code 6 = .ok (.aload_n 0, 1) := by decide +kernel
theorem d21_7 : decode jdk_68_method_71_code 7 = .ok (.getfield 22, 3) := by decide +kernel
theorem d21_10 : decode jdk_68_method_71_code 10 = .ok (.aload_n 1, 1) := by decide +kernel
theorem d21_11 : decode jdk_68_method_71_code 11 = .ok (.invokevirtual 40, 3) := by decide +kernel
theorem d21_14 : decode jdk_68_method_71_code 14 = .ok (.if_icmp .eq 7, 3) := by decide +kernel
theorem d21_21 : decode jdk_68_method_71_code 21 = .ok (.return_, 1) := by decide +kernel
theorem d22_0 : decode jdk_42_method_147_code 0 = .ok (.aload_n 0, 1) := by decide +kernel
theorem d22_1 : decode jdk_42_method_147_code 1 = .ok (.invokevirtual 335, 3) := by decide +kernel
theorem d22_4 : decode jdk_42_method_147_code 4 = .ok (.iload_n 3, 1) := by decide +kernel
theorem d22_5 : decode jdk_42_method_147_code 5 = .ok (.if_icmp .ne 23, 3) := by decide +kernel
theorem d22_8 : decode jdk_42_method_147_code 8 = .ok (.aload_n 0, 1) := by decide +kernel
theorem d22_9 : decode jdk_42_method_147_code 9 = .ok (.getfield 9, 3) := by decide +kernel
theorem d22_12 : decode jdk_42_method_147_code 12 = .ok (.iconst 0, 1) := by decide +kernel
theorem d22_13 : decode jdk_42_method_147_code 13 = .ok (.aload_n 1, 1) := by decide +kernel
theorem d22_14 : decode jdk_42_method_147_code 14 = .ok (.iload_n 2, 1) := by decide +kernel
theorem d22_15 : decode jdk_42_method_147_code 15 = .ok (.iload_n 3, 1) := by decide +kernel
theorem d22_16 : decode jdk_42_method_147_code 16 = .ok (.ishl, 1) := by decide +kernel
theorem d22_17 : decode jdk_42_method_147_code 17 = .ok (.aload_n 0, 1) := by decide +kernel
theorem d22_18 : decode jdk_42_method_147_code 18 = .ok (.getfield 9, 3) := by decide +kernel
theorem d22_21 : decode jdk_42_method_147_code 21 = .ok (.arraylength, 1) := by decide +kernel
theorem d22_22 : decode jdk_42_method_147_code 22 = .ok (.invokestatic 212, 3) := by decide +kernel
theorem d22_25 : decode jdk_42_method_147_code 25 = .ok (.goto 18, 3) := by decide +kernel
theorem d22_43 : decode jdk_42_method_147_code 43 = .ok (.return_, 1) := by decide +kernel
theorem d23_0 : decode jdk_67_method_16_code 0 = .ok (.aload_n 0, 1) := by decide +kernel
theorem d23_1 : decode jdk_67_method_16_code 1 = .ok (.lload_n 1, 1) := by decide +kernel
theorem d23_2 : decode jdk_67_method_16_code 2 = .ok (.invokespecial 56, 3) := by decide +kernel
theorem d23_5 : decode jdk_67_method_16_code 5 = .ok (.pop, 1) := by decide +kernel
theorem d23_6 : decode jdk_67_method_16_code 6 = .ok (.aload_n 0, 1) := by decide +kernel
theorem d23_7 : decode jdk_67_method_16_code 7 = .ok (.areturn, 1) := by decide +kernel
theorem d24_0 : decode jdk_68_method_33_code 0 = .ok (.aload_n 0, 1) := by decide +kernel
theorem d24_1 : decode jdk_68_method_33_code 1 = .ok (.getfield 79, 3) := by decide +kernel
theorem d24_4 : decode jdk_68_method_33_code 4 = .ok (.istore_n 3, 1) := by decide +kernel
theorem d24_5 : decode jdk_68_method_33_code 5 = .ok (.iload_n 3, 1) := by decide +kernel
theorem d24_6 : decode jdk_68_method_33_code 6 = .ok (.lload_n 1, 1) := by decide +kernel
theorem d24_7 : decode jdk_68_method_33_code 7 = .ok (.invokestatic 254, 3) := by decide +kernel
theorem d24_10 : decode jdk_68_method_33_code 10 = .ok (.iadd, 1) := by decide +kernel
theorem d24_11 : decode jdk_68_method_33_code 11 = .ok (.istore 4, 2) := by decide +kernel
theorem d24_13 : decode jdk_68_method_33_code 13 = .ok (.aload_n 0, 1) := by decide +kernel
theorem d24_14 : decode jdk_68_method_33_code 14 = .ok (.iload 4, 2) := by decide +kernel
theorem d24_16 : decode jdk_68_method_33_code 16 = .ok (.invokevirtual 100, 3) := by decide +kernel
theorem d24_19 : decode jdk_68_method_33_code 19 = .ok (.aload_n 0, 1) := by decide +kernel
theorem d24_20 : decode jdk_68_method_33_code 20 = .ok (.invokevirtual 83, 3) := by decide +kernel
theorem d24_23 : decode jdk_68_method_33_code 23 = .ok (.ifCond .eq 17, 3) := by decide +kernel
theorem d24_26 : decode jdk_68_method_33_code 26 = .ok (.lload_n 1, 1) := by decide +kernel
theorem d24_27 : decode jdk_68_method_33_code 27 = .ok (.iload 4, 2) := by decide +kernel
theorem d24_29 : decode jdk_68_method_33_code 29 = .ok (.aload_n 0, 1) := by decide +kernel
theorem d24_30 : decode jdk_68_method_33_code 30 = .ok (.getfield 15, 3) := by decide +kernel
theorem d24_33 : decode jdk_68_method_33_code 33 = .ok (.invokestatic 259, 3) := by decide +kernel
theorem d24_36 : decode jdk_68_method_33_code 36 = .ok (.pop, 1) := by decide +kernel
theorem d24_37 : decode jdk_68_method_33_code 37 = .ok (.goto 15, 3) := by decide +kernel
theorem d24_52 : decode jdk_68_method_33_code 52 = .ok (.aload_n 0, 1) := by decide +kernel
theorem d24_53 : decode jdk_68_method_33_code 53 = .ok (.iload 4, 2) := by decide +kernel
theorem d24_55 : decode jdk_68_method_33_code 55 = .ok (.putfield 79, 3) := by decide +kernel
theorem d24_58 : decode jdk_68_method_33_code 58 = .ok (.aload_n 0, 1) := by decide +kernel
theorem d24_59 : decode jdk_68_method_33_code 59 = .ok (.areturn, 1) := by decide +kernel
theorem d25_0 : decode jdk_35_method_15_code 0 = .ok (.iconst 1, 1) := by decide +kernel
theorem d25_1 : decode jdk_35_method_15_code 1 = .ok (.istore_n 2, 1) := by decide +kernel
theorem d25_2 : decode jdk_35_method_15_code 2 = .ok (.lload_n 0, 1) := by decide +kernel
theorem d25_3 : decode jdk_35_method_15_code 3 = .ok (.lconst 0, 1) := by decide +kernel
theorem d25_4 : decode jdk_35_method_15_code 4 = .ok (.lcmp, 1) := by decide +kernel
theorem d25_5 : decode jdk_35_method_15_code 5 = .ok (.ifCond .lt 8, 3) := by decide +kernel
theorem d25_8 : decode jdk_35_method_15_code 8 = .ok (.iconst 0, 1) := by decide +kernel
theorem d25_9 : decode jdk_35_method_15_code 9 = .ok (.istore_n 2, 1) := by decide +kernel
theorem d25_10 : decode jdk_35_method_15_code 10 = .ok (.lload_n 0, 1) := by decide +kernel
theorem d25_11 : decode jdk_35_method_15_code 11 = .ok (.lneg, 1) := by decide +kernel
theorem d25_12 : decode jdk_35_method_15_code 12 = .ok (.lstore_n 0, 1) := by decide +kernel
theorem d25_13 : decode jdk_35_method_15_code 13 = .ok (.ldc2_w 140, 3) := by decide +kernel
theorem d25_16 : decode jdk_35_method_15_code 16 = .ok (.lstore_n 3, 1) := by decide +kernel
theorem d25_17 : decode jdk_35_method_15_code 17 = .ok (.iconst 1, 1) := by decide +kernel
theorem d25_18 : decode jdk_35_method_15_code 18 = .ok (.istore 5, 2) := by decide +kernel
theorem d25_20 : decode jdk_35_method_15_code 20 = .ok (.iload 5, 2) := by decide +kernel
theorem d25_22 : decode jdk_35_method_15_code 22 = .ok (.bipush 19, 2) := by decide +kernel
theorem d25_24 : decode jdk_35_method_15_code 24 = .ok (.if_icmp .ge 26, 3) := by decide +kernel
theorem d25_27 : decode jdk_35_method_15_code 27 = .ok (.lload_n 0, 1) := by decide +kernel
theorem d25_28 : decode jdk_35_method_15_code 28 = .ok (.lload_n 3, 1) := by decide +kernel
theorem d25_29 : decode jdk_35_method_15_code 29 = .ok (.lcmp, 1) := by decide +kernel
theorem d25_30 : decode jdk_35_method_15_code 30 = .ok (.ifCond .le 8, 3) := by decide +kernel
theorem d25_33 : decode jdk_35_method_15_code 33 = .ok (.iload 5, 2) := by decide +kernel
theorem d25_35 : decode jdk_35_method_15_code 35 = .ok (.iload_n 2, 1) := by decide +kernel
theorem d25_36 : decode jdk_35_method_15_code 36 = .ok (.iadd, 1) := by decide +kernel
theorem d25_37 : decode jdk_35_method_15_code 37 = .ok (.ireturn, 1) := by decide +kernel
theorem d25_38 : decode jdk_35_method_15_code 38 = .ok (.ldc2_w 53, 3) := by decide +kernel
theorem d25_41 : decode jdk_35_method_15_code 41 = .ok (.lload_n 3, 1) := by decide +kernel
theorem d25_42 : decode jdk_35_method_15_code 42 = .ok (.lmul, 1) := by decide +kernel
theorem d25_43 : decode jdk_35_method_15_code 43 = .ok (.lstore_n 3, 1) := by decide +kernel
theorem d25_44 : decode jdk_35_method_15_code 44 = .ok (.iinc 5 1, 3) := by decide +kernel
theorem d25_47 : decode jdk_35_method_15_code 47 = .ok (.goto (-27), 3) := by decide +kernel
theorem d25_50 : decode jdk_35_method_15_code 50 = .ok (.bipush 19, 2) := by decide +kernel
theorem d25_52 : decode jdk_35_method_15_code 52 = .ok (.iload_n 2, 1) := by decide +kernel
theorem d25_53 : decode jdk_35_method_15_code 53 = .ok (.iadd, 1) := by decide +kernel
theorem d25_54 : decode jdk_35_method_15_code 54 = .ok (.ireturn, 1) := by decide +kernel
theorem d26_0 : decode jdk_68_method_68_code 0 = .ok (.getstatic 18, 3) := by decide +kernel
theorem d26_3 : decode jdk_68_method_68_code 3 = .ok (.ifCond .eq 14, 3) := by decide +kernel
theorem d26_6 : decode jdk_68_method_68_code 6 = .ok (.aload_n 0, 1) := by decide +kernel
theorem d26_7 : decode jdk_68_method_68_code 7 = .ok (.getfield 22, 3) := by decide +kernel
theorem d26_10 : decode jdk_68_method_68_code 10 = .ok (.ifCond .ne 7, 3) := by decide +kernel
theorem d26_13 : decode jdk_68_method_68_code 13 = .ok (.iconst 1, 1) := by decide +kernel
theorem d26_14 : decode jdk_68_method_68_code 14 = .ok (.goto 4, 3) := by decide +kernel
theorem d26_18 : decode jdk_68_method_68_code 18 = .ok (.ireturn, 1) := by decide +kernel
theorem d27_0 : decode jdk_35_method_14_code 0 = .ok (.iload_n 2, 1) := by decide +kernel
theorem d27_1 : decode jdk_35_method_14_code 1 = .ok (.istore 7, 2) := by decide +kernel
theorem d27_3 : decode jdk_35_method_14_code 3 = .ok (.lload_n 0, 1) := by decide +kernel
theorem d27_4 : decode jdk_35_method_14_code 4 = .ok (.lconst 0, 1) := by decide +kernel
theorem d27_5 : decode jdk_35_method_14_code 5 = .ok (.lcmp, 1) := by decide +kernel
theorem d27_6 : decode jdk_35_method_14_code 6 = .ok (.ifCond .ge 7, 3) := by decide +kernel
theorem d27_13 : decode jdk_35_method_14_code 13 = .ok (.iconst 0, 1) := by decide +kernel
theorem d27_14 : decode jdk_35_method_14_code 14 = .ok (.istore 8, 2) := by decide +kernel
theorem d27_16 : decode jdk_35_method_14_code 16 = .ok (.iload 8, 2) := by decide +kernel
theorem d27_18 : decode jdk_35_method_14_code 18 = .ok (.ifCond .ne 6, 3) := by decide +kernel
theorem d27_21 : decode jdk_35_method_14_code 21 = .ok (.lload_n 0, 1) := by decide +kernel
theorem d27_22 : decode jdk_35_method_14_code 22 = .ok (.lneg, 1) := by decide +kernel
theorem d27_23 : decode jdk_35_method_14_code 23 = .ok (.lstore_n 0, 1) := by decide +kernel
theorem d27_24 : decode jdk_35_method_14_code 24 = .ok (.lload_n 0, 1) := by decide +kernel
theorem d27_25 : decode jdk_35_method_14_code 25 = .ok (.ldc2_w 129, 3) := by decide +kernel
theorem d27_28 : decode jdk_35_method_14_code 28 = .ok (.lcmp, 1) := by decide +kernel
theorem d27_29 : decode jdk_35_method_14_code 29 = .ok (.ifCond .gt 53, 3) := by decide +kernel
theorem d27_32 : decode jdk_35_method_14_code 32 = .ok (.lload_n 0, 1) := by decide +kernel
theorem d27_33 : decode jdk_35_method_14_code 33 = .ok (.ldc2_w 131, 3) := by decide +kernel
theorem d27_36 : decode jdk_35_method_14_code 36 = .ok (.ldiv, 1) := by decide +kernel
theorem d27_37 : decode jdk_35_method_14_code 37 = .ok (.lstore 4, 2) := by decide +kernel
theorem d27_39 : decode jdk_35_method_14_code 39 = .ok (.lload 4, 2) := by decide +kernel
theorem d27_41 : decode jdk_35_method_14_code 41 = .ok (.ldc2_w 131, 3) := by decide +kernel
theorem d27_44 : decode jdk_35_method_14_code 44 = .ok (.lmul, 1) := by decide +kernel
theorem d27_45 : decode jdk_35_method_14_code 45 = .ok (.lload_n 0, 1) := by decide +kernel
theorem d27_46 : decode jdk_35_method_14_code 46 = .ok (.lsub, 1) := by decide +kernel
theorem d27_47 : decode jdk_35_method_14_code 47 = .ok (.l2i, 1) := by decide +kernel
theorem d27_48 : decode jdk_35_method_14_code 48 = .ok (.istore 6, 2) := by decide +kernel
theorem d27_50 : decode jdk_35_method_14_code 50 = .ok (.lload 4, 2) := by decide +kernel
theorem d27_52 : decode jdk_35_method_14_code 52 = .ok (.lstore_n 0, 1) := by decide +kernel
theorem d27_53 : decode jdk_35_method_14_code 53 = .ok (.aload_n 3, 1) := by decide +kernel
theorem d27_54 : decode jdk_35_method_14_code 54 = .ok (.iinc 7 (-1), 3) := by decide +kernel
theorem d27_57 : decode jdk_35_method_14_code 57 = .ok (.iload 7, 2) := by decide +kernel
theorem d27_59 : decode jdk_35_method_14_code 59 = .ok (.getstatic 133, 3) := by decide +kernel
theorem d27_62 : decode jdk_35_method_14_code 62 = .ok (.iload 6, 2) := by decide +kernel
theorem d27_64 : decode jdk_35_method_14_code 64 = .ok (.baload, 1) := by decide +kernel
theorem d27_65 : decode jdk_35_method_14_code 65 = .ok (.bastore, 1) := by decide +kernel
theorem d27_66 : decode jdk_35_method_14_code 66 = .ok (.aload_n 3, 1) := by decide +kernel
theorem d27_67 : decode jdk_35_method_14_code 67 = .ok (.iinc 7 (-1), 3) := by decide +kernel
theorem d27_70 : decode jdk_35_method_14_code 70 = .ok (.iload 7, 2) := by decide +kernel
theorem d27_72 : decode jdk_35_method_14_code 72 = .ok (.getstatic 137, 3) := by decide +kernel
theorem d27_75 : decode jdk_35_method_14_code 75 = .ok (.iload 6, 2) := by decide +kernel
theorem d27_77 : decode jdk_35_method_14_code 77 = .ok (.baload, 1) := by decide +kernel
theorem d27_78 : decode jdk_35_method_14_code 78 = .ok (.bastore, 1) := by decide +kernel
theorem d27_79 : decode jdk_35_method_14_code 79 = .ok (.goto (-55), 3) := by decide +kernel
theorem d27_82 : decode jdk_35_method_14_code 82 = .ok (.lload_n 0, 1) := by decide +kernel
theorem d27_83 : decode jdk_35_method_14_code 83 = .ok (.l2i, 1) := by decide +kernel
theorem d27_84 : decode jdk_35_method_14_code 84 = .ok (.istore 10, 2) := by decide +kernel
theorem d27_86 : decode jdk_35_method_14_code 86 = .ok (.iload 10, 2) := by decide +kernel
theorem d27_88 : decode jdk_35_method_14_code 88 = .ok (.bipush (-100), 2) := by decide +kernel
theorem d27_90 : decode jdk_35_method_14_code 90 = .ok (.if_icmp .gt 53, 3) := by decide +kernel
theorem d27_93 : decode jdk_35_method_14_code 93 = .ok (.iload 10, 2) := by decide +kernel
theorem d27_95 : decode jdk_35_method_14_code 95 = .ok (.bipush 100, 2) := by decide +kernel
theorem d27_97 : decode jdk_35_method_14_code 97 = .ok (.idiv, 1) := by decide +kernel
theorem d27_98 : decode jdk_35_method_14_code 98 = .ok (.istore 9, 2) := by decide +kernel
theorem d27_100 : decode jdk_35_method_14_code 100 = .ok (.iload 9, 2) := by decide +kernel
theorem d27_102 : decode jdk_35_method_14_code 102 = .ok (.bipush 100, 2) := by decide +kernel
theorem d27_104 : decode jdk_35_method_14_code 104 = .ok (.imul, 1) := by decide +kernel
theorem d27_105 : decode jdk_35_method_14_code 105 = .ok (.iload 10, 2) := by decide +kernel
theorem d27_107 : decode jdk_35_method_14_code 107 = .ok (.isub, 1) := by decide +kernel
theorem d27_108 : decode jdk_35_method_14_code 108 = .ok (.istore 6, 2) := by decide +kernel
theorem d27_110 : decode jdk_35_method_14_code 110 = .ok (.iload 9, 2) := by decide +kernel
theorem d27_112 : decode jdk_35_method_14_code 112 = .ok (.istore 10, 2) := by decide +kernel
theorem d27_114 : decode jdk_35_method_14_code 114 = .ok (.aload_n 3, 1) := by decide +kernel
theorem d27_115 : decode jdk_35_method_14_code 115 = .ok (.iinc 7 (-1), 3) := by decide +kernel
theorem d27_118 : decode jdk_35_method_14_code 118 = .ok (.iload 7, 2) := by decide +kernel
theorem d27_120 : decode jdk_35_method_14_code 120 = .ok (.getstatic 133, 3) := by decide +kernel
theorem d27_123 : decode jdk_35_method_14_code 123 = .ok (.iload 6, 2) := by decide +kernel
theorem d27_125 : decode jdk_35_method_14_code 125 = .ok (.baload, 1) := by decide +kernel
theorem d27_126 : decode jdk_35_method_14_code 126 = .ok (.bastore, 1) := by decide +kernel
theorem d27_127 : decode jdk_35_method_14_code 127 = .ok (.aload_n 3, 1) := by decide +kernel
theorem d27_128 : decode jdk_35_method_14_code 128 = .ok (.iinc 7 (-1), 3) := by decide +kernel
theorem d27_131 : decode jdk_35_method_14_code 131 = .ok (.iload 7, 2) := by decide +kernel
theorem d27_133 : decode jdk_35_method_14_code 133 = .ok (.getstatic 137, 3) := by decide +kernel
theorem d27_136 : decode jdk_35_method_14_code 136 = .ok (.iload 6, 2) := by decide +kernel
theorem d27_138 : decode jdk_35_method_14_code 138 = .ok (.baload, 1) := by decide +kernel
theorem d27_139 : decode jdk_35_method_14_code 139 = .ok (.bastore, 1) := by decide +kernel
theorem d27_140 : decode jdk_35_method_14_code 140 = .ok (.goto (-54), 3) := by decide +kernel
theorem d27_143 : decode jdk_35_method_14_code 143 = .ok (.aload_n 3, 1) := by decide +kernel
theorem d27_144 : decode jdk_35_method_14_code 144 = .ok (.iinc 7 (-1), 3) := by decide +kernel
theorem d27_147 : decode jdk_35_method_14_code 147 = .ok (.iload 7, 2) := by decide +kernel
theorem d27_149 : decode jdk_35_method_14_code 149 = .ok (.getstatic 133, 3) := by decide +kernel
theorem d27_152 : decode jdk_35_method_14_code 152 = .ok (.iload 10, 2) := by decide +kernel
theorem d27_154 : decode jdk_35_method_14_code 154 = .ok (.ineg, 1) := by decide +kernel
theorem d27_155 : decode jdk_35_method_14_code 155 = .ok (.baload, 1) := by decide +kernel
theorem d27_156 : decode jdk_35_method_14_code 156 = .ok (.bastore, 1) := by decide +kernel
theorem d27_157 : decode jdk_35_method_14_code 157 = .ok (.iload 10, 2) := by decide +kernel
theorem d27_159 : decode jdk_35_method_14_code 159 = .ok (.bipush (-9), 2) := by decide +kernel
theorem d27_161 : decode jdk_35_method_14_code 161 = .ok (.if_icmp .ge 17, 3) := by decide +kernel
theorem d27_164 : decode jdk_35_method_14_code 164 = .ok (.aload_n 3, 1) := by decide +kernel
theorem d27_165 : decode jdk_35_method_14_code 165 = .ok (.iinc 7 (-1), 3) := by decide +kernel
theorem d27_168 : decode jdk_35_method_14_code 168 = .ok (.iload 7, 2) := by decide +kernel
theorem d27_170 : decode jdk_35_method_14_code 170 = .ok (.getstatic 137, 3) := by decide +kernel
theorem d27_173 : decode jdk_35_method_14_code 173 = .ok (.iload 10, 2) := by decide +kernel
theorem d27_175 : decode jdk_35_method_14_code 175 = .ok (.ineg, 1) := by decide +kernel
theorem d27_176 : decode jdk_35_method_14_code 176 = .ok (.baload, 1) := by decide +kernel
theorem d27_177 : decode jdk_35_method_14_code 177 = .ok (.bastore, 1) := by decide +kernel
theorem d27_178 : decode jdk_35_method_14_code 178 = .ok (.iload 8, 2) := by decide +kernel
theorem d27_180 : decode jdk_35_method_14_code 180 = .ok (.ifCond .eq 12, 3) := by decide +kernel
theorem d27_192 : decode jdk_35_method_14_code 192 = .ok (.iload 7, 2) := by decide +kernel
theorem d27_194 : decode jdk_35_method_14_code 194 = .ok (.ireturn, 1) := by decide +kernel
theorem d28_0 : decode jdk_67_method_42_code 0 = .ok (.new 18, 3) := by decide +kernel
theorem d28_3 : decode jdk_67_method_42_code 3 = .ok (.dup, 1) := by decide +kernel
theorem d28_4 : decode jdk_67_method_42_code 4 = .ok (.aload_n 0, 1) := by decide +kernel
theorem d28_5 : decode jdk_67_method_42_code 5 = .ok (.invokespecial 137, 3) := by decide +kernel
theorem d28_8 : decode jdk_67_method_42_code 8 = .ok (.areturn, 1) := by decide +kernel
theorem d29_0 : decode jdk_42_method_53_code 0 = .ok (.aload_n 0, 1) := by decide +kernel
theorem d29_1 : decode jdk_42_method_53_code 1 = .ok (.aload_n 1, 1) := by decide +kernel
theorem d29_2 : decode jdk_42_method_53_code 2 = .ok (.aconst_null, 1) := by decide +kernel
theorem d29_3 : decode jdk_42_method_53_code 3 = .ok (.invokespecial 489, 3) := by decide +kernel
theorem d29_6 : decode jdk_42_method_53_code 6 = .ok (.return_, 1) := by decide +kernel
theorem d30_0 : decode jdk_42_method_150_code 0 = .ok (.aload_n 0, 1) := by decide +kernel
theorem d30_1 : decode jdk_42_method_150_code 1 = .ok (.invokespecial 1, 3) := by decide +kernel
theorem d30_4 : decode jdk_42_method_150_code 4 = .ok (.aload_n 1, 1) := by decide +kernel
theorem d30_5 : decode jdk_42_method_150_code 5 = .ok (.invokevirtual 552, 3) := by decide +kernel
theorem d30_8 : decode jdk_42_method_150_code 8 = .ok (.astore_n 3, 1) := by decide +kernel
theorem d30_9 : decode jdk_42_method_150_code 9 = .ok (.aload_n 1, 1) := by decide +kernel
theorem d30_10 : decode jdk_42_method_150_code 10 = .ok (.invokevirtual 549, 3) := by decide +kernel
theorem d30_13 : decode jdk_42_method_150_code 13 = .ok (.istore 4, 2) := by decide +kernel
theorem d30_15 : decode jdk_42_method_150_code 15 = .ok (.aload_n 1, 1) := by decide +kernel
theorem d30_16 : decode jdk_42_method_150_code 16 = .ok (.invokevirtual 1047, 3) := by decide +kernel
theorem d30_19 : decode jdk_42_method_150_code 19 = .ok (.ifCond .eq 22, 3) := by decide +kernel
theorem d30_22 : decode jdk_42_method_150_code 22 = .ok (.aload_n 0, 1) := by decide +kernel
theorem d30_23 : decode jdk_42_method_150_code 23 = .ok (.iconst 0, 1) := by decide +kernel
theorem d30_24 : decode jdk_42_method_150_code 24 = .ok (.putfield 15, 3) := by decide +kernel
theorem d30_27 : decode jdk_42_method_150_code 27 = .ok (.aload_n 0, 1) := by decide +kernel
theorem d30_28 : decode jdk_42_method_150_code 28 = .ok (.aload_n 3, 1) := by decide +kernel
theorem d30_29 : decode jdk_42_method_150_code 29 = .ok (.iconst 0, 1) := by decide +kernel
theorem d30_30 : decode jdk_42_method_150_code 30 = .ok (.iload 4, 2) := by decide +kernel
theorem d30_32 : decode jdk_42_method_150_code 32 = .ok (.invokestatic 54, 3) := by decide +kernel
theorem d30_35 : decode jdk_42_method_150_code 35 = .ok (.putfield 9, 3) := by decide +kernel
theorem d30_38 : decode jdk_42_method_150_code 38 = .ok (.goto 59, 3) := by decide +kernel
theorem d30_97 : decode jdk_42_method_150_code 97 = .ok (.return_, 1) := by decide +kernel
theorem d31_0 : decode jdk_68_method_64_code 0 = .ok (.aload_n 0, 1) := by decide +kernel
theorem d31_1 : decode jdk_68_method_64_code 1 = .ok (.getfield 15, 3) := by decide +kernel
theorem d31_4 : decode jdk_68_method_64_code 4 = .ok (.areturn, 1) := by decide +kernel
theorem d32_0 : decode jdk_67_method_93_code 0 = .ok (.aload_n 0, 1) := by decide +kernel
theorem d32_1 : decode jdk_67_method_93_code 1 = .ok (.invokespecial 343, 3) := by decide +kernel
theorem d32_4 : decode jdk_67_method_93_code 4 = .ok (.ireturn, 1) := by decide +kernel
theorem d33_0 : decode jdk_68_method_6_code 0 = .ok (.aload_n 0, 1) := by decide +kernel
theorem d33_1 : decode jdk_68_method_6_code 1 = .ok (.getfield 79, 3) := by decide +kernel
theorem d33_4 : decode jdk_68_method_6_code 4 = .ok (.ireturn, 1) := by decide +kernel
theorem d34_0 : decode jdk_65_method_132_code 0 = .ok (.iload_n 1, 1) := by decide +kernel
theorem d34_1 : decode jdk_65_method_132_code 1 = .ok (.ifCond .ne 9, 3) := by decide +kernel
theorem d34_4 : decode jdk_65_method_132_code 4 = .ok (.iload_n 2, 1) := by decide +kernel
theorem d34_5 : decode jdk_65_method_132_code 5 = .ok (.aload_n 0, 1) := by decide +kernel
theorem d34_6 : decode jdk_65_method_132_code 6 = .ok (.arraylength, 1) := by decide +kernel
theorem d34_7 : decode jdk_65_method_132_code 7 = .ok (.if_icmp .eq 10, 3) := by decide +kernel
theorem d34_10 : decode jdk_65_method_132_code 10 = .ok (.aload_n 0, 1) := by decide +kernel
theorem d34_11 : decode jdk_65_method_132_code 11 = .ok (.iload_n 1, 1) := by decide +kernel
theorem d34_12 : decode jdk_65_method_132_code 12 = .ok (.iload_n 2, 1) := by decide +kernel
theorem d34_13 : decode jdk_65_method_132_code 13 = .ok (.invokestatic 339, 3) := by decide +kernel
theorem d34_16 : decode jdk_65_method_132_code 16 = .ok (.areturn, 1) := by decide +kernel
theorem d34_17 : decode jdk_65_method_132_code 17 = .ok (.aload_n 0, 1) := by decide +kernel
theorem d34_18 : decode jdk_65_method_132_code 18 = .ok (.invokevirtual 310, 3) := by decide +kernel
theorem d34_21 : decode jdk_65_method_132_code 21 = .ok (.checkcast 311, 3) := by decide +kernel
theorem d34_24 : decode jdk_65_method_132_code 24 = .ok (.areturn, 1) := by decide +kernel
theorem d35_0 : decode jdk_65_method_133_code 0 = .ok (.iload_n 1, 1) := by decide +kernel
theorem d35_1 : decode jdk_65_method_133_code 1 = .ok (.iload_n 2, 1) := by decide +kernel
theorem d35_2 : decode jdk_65_method_133_code 2 = .ok (.invokestatic 343, 3) := by decide +kernel
theorem d35_5 : decode jdk_65_method_133_code 5 = .ok (.iload_n 2, 1) := by decide +kernel
theorem d35_6 : decode jdk_65_method_133_code 6 = .ok (.iload_n 1, 1) := by decide +kernel
theorem d35_7 : decode jdk_65_method_133_code 7 = .ok (.isub, 1) := by decide +kernel
theorem d35_8 : decode jdk_65_method_133_code 8 = .ok (.istore_n 3, 1) := by decide +kernel
theorem d35_9 : decode jdk_65_method_133_code 9 = .ok (.iload_n 3, 1) := by decide +kernel
theorem d35_10 : decode jdk_65_method_133_code 10 = .ok (.newarray .byte, 2) := by decide +kernel
theorem d35_12 : decode jdk_65_method_133_code 12 = .ok (.astore 4, 2) := by decide +kernel
theorem d35_14 : decode jdk_65_method_133_code 14 = .ok (.aload_n 0, 1) := by decide +kernel
theorem d35_15 : decode jdk_65_method_133_code 15 = .ok (.iload_n 1, 1) := by decide +kernel
theorem d35_16 : decode jdk_65_method_133_code 16 = .ok (.aload 4, 2) := by decide +kernel
theorem d35_18 : decode jdk_65_method_133_code 18 = .ok (.iconst 0, 1) := by decide +kernel
theorem d35_19 : decode jdk_65_method_133_code 19 = .ok (.aload_n 0, 1) := by decide +kernel
theorem d35_20 : decode jdk_65_method_133_code 20 = .ok (.arraylength, 1) := by decide +kernel
theorem d35_21 : decode jdk_65_method_133_code 21 = .ok (.iload_n 1, 1) := by decide +kernel
theorem d35_22 : decode jdk_65_method_133_code 22 = .ok (.isub, 1) := by decide +kernel
theorem d35_23 : decode jdk_65_method_133_code 23 = .ok (.iload_n 3, 1) := by decide +kernel
theorem d35_24 : decode jdk_65_method_133_code 24 = .ok (.invokestatic 304, 3) := by decide +kernel
theorem d35_27 : decode jdk_65_method_133_code 27 = .ok (.invokestatic 150, 3) := by decide +kernel
theorem d35_30 : decode jdk_65_method_133_code 30 = .ok (.aload 4, 2) := by decide +kernel
theorem d35_32 : decode jdk_65_method_133_code 32 = .ok (.areturn, 1) := by decide +kernel
theorem d36_0 : decode jdk_65_method_131_code 0 = .ok (.iload_n 1, 1) := by decide +kernel
theorem d36_1 : decode jdk_65_method_131_code 1 = .ok (.iload_n 0, 1) := by decide +kernel
theorem d36_2 : decode jdk_65_method_131_code 2 = .ok (.if_icmp .ge 35, 3) := by decide +kernel
theorem d36_37 : decode jdk_65_method_131_code 37 = .ok (.return_, 1) := by decide +kernel
theorem d37_0 : decode jdk_29_method_69_code 0 = .ok (.iload_n 0, 1) := by decide +kernel
theorem d37_1 : decode jdk_29_method_69_code 1 = .ok (.iload_n 1, 1) := by decide +kernel
theorem d37_2 : decode jdk_29_method_69_code 2 = .ok (.if_icmp .gt 7, 3) := by decide +kernel
theorem d37_5 : decode jdk_29_method_69_code 5 = .ok (.iload_n 0, 1) := by decide +kernel
theorem d37_6 : decode jdk_29_method_69_code 6 = .ok (.goto 4, 3) := by decide +kernel
theorem d37_9 : decode jdk_29_method_69_code 9 = .ok (.iload_n 1, 1) := by decide +kernel
theorem d37_10 : decode jdk_29_method_69_code 10 = .ok (.ireturn, 1) := by decide +kernel
theorem d38_0 : decode prog_12_method_4_code 0 = .ok (.new 1, 3) := by decide +kernel
theorem d38_3 : decode prog_12_method_4_code 3 = .ok (.dup, 1) := by decide +kernel
theorem d38_4 : decode prog_12_method_4_code 4 = .ok (.invokespecial 3, 3) := by decide +kernel
theorem d38_7 : decode prog_12_method_4_code 7 = .ok (.aload_n 0, 1) := by decide +kernel
theorem d38_8 : decode prog_12_method_4_code 8 = .ok (.invokevirtual 7, 3) := by decide +kernel
theorem d38_11 : decode prog_12_method_4_code 11 = .ok (.aload_n 1, 1) := by decide +kernel
theorem d38_12 : decode prog_12_method_4_code 12 = .ok (.invokedynamic 11, 5) := by decide +kernel
theorem d38_17 : decode prog_12_method_4_code 17 = .ok (.invokevirtual 15, 3) := by decide +kernel
theorem d38_20 : decode prog_12_method_4_code 20 = .ok (.ldc 21, 2) := by decide +kernel
theorem d38_22 : decode prog_12_method_4_code 22 = .ok (.invokevirtual 23, 3) := by decide +kernel
theorem d38_25 : decode prog_12_method_4_code 25 = .ok (.checkcast 27, 3) := by decide +kernel
theorem d38_28 : decode prog_12_method_4_code 28 = .ok (.invokevirtual 7, 3) := by decide +kernel
theorem d38_31 : decode prog_12_method_4_code 31 = .ok (.invokevirtual 29, 3) := by decide +kernel
theorem d38_34 : decode prog_12_method_4_code 34 = .ok (.areturn, 1) := by decide +kernel
theorem d39_0 : decode jdk_32_method_11_code 0 = .ok (.aload_n 1, 1) := by decide +kernel
theorem d39_1 : decode jdk_32_method_11_code 1 = .ok (.invokestatic 17, 3) := by decide +kernel
theorem d39_4 : decode jdk_32_method_11_code 4 = .ok (.pop, 1) := by decide +kernel
theorem d39_5 : decode jdk_32_method_11_code 5 = .ok (.aload_n 0, 1) := by decide +kernel
theorem d39_6 : decode jdk_32_method_11_code 6 = .ok (.invokevirtual 43, 3) := by decide +kernel
theorem d39_9 : decode jdk_32_method_11_code 9 = .ok (.ifCond .eq 7, 3) := by decide +kernel
theorem d39_12 : decode jdk_32_method_11_code 12 = .ok (.invokestatic 53, 3) := by decide +kernel
theorem d39_15 : decode jdk_32_method_11_code 15 = .ok (.areturn, 1) := by decide +kernel
theorem d39_16 : decode jdk_32_method_11_code 16 = .ok (.aload_n 1, 1) := by decide +kernel
theorem d39_17 : decode jdk_32_method_11_code 17 = .ok (.aload_n 0, 1) := by decide +kernel
theorem d39_18 : decode jdk_32_method_11_code 18 = .ok (.getfield 13, 3) := by decide +kernel
theorem d39_21 : decode jdk_32_method_11_code 21 = .ok (.invokeinterface 57 2, 5) := by decide +kernel
theorem d39_26 : decode jdk_32_method_11_code 26 = .ok (.invokestatic 62, 3) := by decide +kernel
theorem d39_29 : decode jdk_32_method_11_code 29 = .ok (.areturn, 1) := by decide +kernel
theorem d40_0 : decode jdk_31_method_10_code 0 = .ok (.aload_n 0, 1) := by decide +kernel
theorem d40_1 : decode jdk_31_method_10_code 1 = .ok (.ifnonnull 11, 3) := by decide +kernel
theorem d40_12 : decode jdk_31_method_10_code 12 = .ok (.aload_n 0, 1) := by decide +kernel
theorem d40_13 : decode jdk_31_method_10_code 13 = .ok (.areturn, 1) := by decide +kernel
theorem d41_0 : decode jdk_32_method_7_code 0 = .ok (.aload_n 0, 1) := by decide +kernel
theorem d41_1 : decode jdk_32_method_7_code 1 = .ok (.getfield 13, 3) := by decide +kernel
theorem d41_4 : decode jdk_32_method_7_code 4 = .ok (.ifnonnull 7, 3) := by decide +kernel
theorem d41_7 : decode jdk_32_method_7_code 7 = .ok (.iconst 1, 1) := by decide +kernel
theorem d41_8 : decode jdk_32_method_7_code 8 = .ok (.goto 4, 3) := by decide +kernel
theorem d41_11 : decode jdk_32_method_7_code 11 = .ok (.iconst 0, 1) := by decide +kernel
theorem d41_12 : decode jdk_32_method_7_code 12 = .ok (.ireturn, 1) := by decide +kernel
theorem d42_0 : decode jdk_32_method_15_code 0 = .ok (.aload_n 0, 1) := by decide +kernel
theorem d42_1 : decode jdk_32_method_15_code 1 = .ok (.getfield 13, 3) := by decide +kernel
theorem d42_4 : decode jdk_32_method_15_code 4 = .ok (.ifnull 10, 3) := by decide +kernel
theorem d42_7 : decode jdk_32_method_15_code 7 = .ok (.aload_n 0, 1) := by decide +kernel
theorem d42_8 : decode jdk_32_method_15_code 8 = .ok (.getfield 13, 3) := by decide +kernel
theorem d42_11 : decode jdk_32_method_15_code 11 = .ok (.goto 4, 3) := by decide +kernel
theorem d42_14 : decode jdk_32_method_15_code 14 = .ok (.aload_n 1, 1) := by decide +kernel
theorem d42_15 : decode jdk_32_method_15_code 15 = .ok (.areturn, 1) := by decide +kernel
theorem d43_0 : decode jdk_42_method_56_code 0 = .ok (.aload_n 0, 1) := by decide +kernel
theorem d43_1 : decode jdk_42_method_56_code 1 = .ok (.invokevirtual 492, 3) := by decide +kernel
theorem d43_4 : decode jdk_42_method_56_code 4 = .ok (.ifCond .eq 12, 3) := by decide +kernel
theorem d43_7 : decode jdk_42_method_56_code 7 = .ok (.aload_n 0, 1) := by decide +kernel
theorem d43_8 : decode jdk_42_method_56_code 8 = .ok (.getfield 9, 3) := by decide +kernel
theorem d43_11 : decode jdk_42_method_56_code 11 = .ok (.iload_n 1, 1) := by decide +kernel
theorem d43_12 : decode jdk_42_method_56_code 12 = .ok (.invokestatic 495, 3) := by decide +kernel
theorem d43_15 : decode jdk_42_method_56_code 15 = .ok (.ireturn, 1) := by decide +kernel
theorem d44_0 : decode jdk_42_method_154_code 0 = .ok (.getstatic 38, 3) := by decide +kernel
theorem d44_3 : decode jdk_42_method_154_code 3 = .ok (.ifCond .eq 14, 3) := by decide +kernel
theorem d44_6 : decode jdk_42_method_154_code 6 = .ok (.aload_n 0, 1) := by decide +kernel
theorem d44_7 : decode jdk_42_method_154_code 7 = .ok (.getfield 15, 3) := by decide +kernel
theorem d44_10 : decode jdk_42_method_154_code 10 = .ok (.ifCond .ne 7, 3) := by decide +kernel
theorem d44_13 : decode jdk_42_method_154_code 13 = .ok (.iconst 1, 1) := by decide +kernel
theorem d44_14 : decode jdk_42_method_154_code 14 = .ok (.goto 4, 3) := by decide +kernel
theorem d44_18 : decode jdk_42_method_154_code 18 = .ok (.ireturn, 1) := by decide +kernel
theorem d45_0 : decode jdk_43_method_2_code 0 = .ok (.iload_n 1, 1) := by decide +kernel
theorem d45_1 : decode jdk_43_method_2_code 1 = .ok (.aload_n 0, 1) := by decide +kernel
theorem d45_2 : decode jdk_43_method_2_code 2 = .ok (.arraylength, 1) := by decide +kernel
theorem d45_3 : decode jdk_43_method_2_code 3 = .ok (.invokestatic 9, 3) := by decide +kernel
theorem d45_6 : decode jdk_43_method_2_code 6 = .ok (.aload_n 0, 1) := by decide +kernel
theorem d45_7 : decode jdk_43_method_2_code 7 = .ok (.iload_n 1, 1) := by decide +kernel
theorem d45_8 : decode jdk_43_method_2_code 8 = .ok (.baload, 1) := by decide +kernel
theorem d45_9 : decode jdk_43_method_2_code 9 = .ok (.sipush 255, 3) := by decide +kernel
theorem d45_12 : decode jdk_43_method_2_code 12 = .ok (.iand, 1) := by decide +kernel
theorem d45_13 : decode jdk_43_method_2_code 13 = .ok (.i2c, 1) := by decide +kernel
theorem d45_14 : decode jdk_43_method_2_code 14 = .ok (.ireturn, 1) := by decide +kernel
theorem d46_0 : decode jdk_42_method_155_code 0 = .ok (.iload_n 0, 1) := by decide +kernel
theorem d46_1 : decode jdk_42_method_155_code 1 = .ok (.iload_n 1, 1) := by decide +kernel
theorem d46_2 : decode jdk_42_method_155_code 2 = .ok (.getstatic 1053, 3) := by decide +kernel
theorem d46_5 : decode jdk_42_method_155_code 5 = .ok (.invokestatic 1059, 3) := by decide +kernel
theorem d46_8 : decode jdk_42_method_155_code 8 = .ok (.pop, 1) := by decide +kernel
theorem d46_9 : decode jdk_42_method_155_code 9 = .ok (.return_, 1) := by decide +kernel
theorem d47_0 : decode jdk_41_method_11_code 0 = .ok (.iload_n 0, 1) := by decide +kernel
theorem d47_1 : decode jdk_41_method_11_code 1 = .ok (.ifCond .lt 8, 3) := by decide +kernel
theorem d47_4 : decode jdk_41_method_11_code 4 = .ok (.iload_n 0, 1) := by decide +kernel
theorem d47_5 : decode jdk_41_method_11_code 5 = .ok (.iload_n 1, 1) := by decide +kernel
theorem d47_6 : decode jdk_41_method_11_code 6 = .ok (.if_icmp .lt 10, 3) := by decide +kernel
theorem d47_16 : decode jdk_41_method_11_code 16 = .ok (.iload_n 0, 1) := by decide +kernel
theorem d47_17 : decode jdk_41_method_11_code 17 = .ok (.ireturn, 1) := by decide +kernel
theorem d48_0 : decode jdk_68_method_10_code 0 = .ok (.aload_n 0, 1) := by decide +kernel
theorem d48_1 : decode jdk_68_method_10_code 1 = .ok (.getfield 15, 3) := by decide +kernel
theorem d48_4 : decode jdk_68_method_10_code 4 = .ok (.arraylength, 1) := by decide +kernel
theorem d48_5 : decode jdk_68_method_10_code 5 = .ok (.istore_n 2, 1) := by decide +kernel
theorem d48_6 : decode jdk_68_method_10_code 6 = .ok (.iload_n 1, 1) := by decide +kernel
theorem d48_7 : decode jdk_68_method_10_code 7 = .ok (.aload_n 0, 1) := by decide +kernel
theorem d48_8 : decode jdk_68_method_10_code 8 = .ok (.getfield 22, 3) := by decide +kernel
theorem d48_11 : decode jdk_68_method_10_code 11 = .ok (.ishl, 1) := by decide +kernel
theorem d48_12 : decode jdk_68_method_10_code 12 = .ok (.istore_n 3, 1) := by decide +kernel
theorem d48_13 : decode jdk_68_method_10_code 13 = .ok (.iload_n 3, 1) := by decide +kernel
theorem d48_14 : decode jdk_68_method_10_code 14 = .ok (.iload_n 2, 1) := by decide +kernel
theorem d48_15 : decode jdk_68_method_10_code 15 = .ok (.isub, 1) := by decide +kernel
theorem d48_16 : decode jdk_68_method_10_code 16 = .ok (.istore 4, 2) := by decide +kernel
theorem d48_18 : decode jdk_68_method_10_code 18 = .ok (.iload_n 2, 1) := by decide +kernel
theorem d48_19 : decode jdk_68_method_10_code 19 = .ok (.iload 4, 2) := by decide +kernel
theorem d48_21 : decode jdk_68_method_10_code 21 = .ok (.iload_n 2, 1) := by decide +kernel
theorem d48_22 : decode jdk_68_method_10_code 22 = .ok (.iconst 2, 1) := by decide +kernel
theorem d48_23 : decode jdk_68_method_10_code 23 = .ok (.aload_n 0, 1) := by decide +kernel
theorem d48_24 : decode jdk_68_method_10_code 24 = .ok (.getfield 22, 3) := by decide +kernel
theorem d48_27 : decode jdk_68_method_10_code 27 = .ok (.ishl, 1) := by decide +kernel
theorem d48_28 : decode jdk_68_method_10_code 28 = .ok (.iadd, 1) := by decide +kernel
theorem d48_29 : decode jdk_68_method_10_code 29 = .ok (.invokestatic 114, 3) := by decide +kernel
theorem d48_32 : decode jdk_68_method_10_code 32 = .ok (.istore 5, 2) := by decide +kernel
theorem d48_34 : decode jdk_68_method_10_code 34 = .ok (.iload 5, 2) := by decide +kernel
theorem d48_36 : decode jdk_68_method_10_code 36 = .ok (.ldc 39, 2) := by decide +kernel
theorem d48_38 : decode jdk_68_method_10_code 38 = .ok (.if_icmp .ne 13, 3) := by decide +kernel
theorem d48_51 : decode jdk_68_method_10_code 51 = .ok (.iload 5, 2) := by decide +kernel
theorem d48_53 : decode jdk_68_method_10_code 53 = .ok (.aload_n 0, 1) := by decide +kernel
theorem d48_54 : decode jdk_68_method_10_code 54 = .ok (.getfield 22, 3) := by decide +kernel
theorem d48_57 : decode jdk_68_method_10_code 57 = .ok (.ishr, 1) := by decide +kernel
theorem d48_58 : decode jdk_68_method_10_code 58 = .ok (.ireturn, 1) := by decide +kernel
theorem d49_0 : decode jdk_48_method_27_code 0 = .ok (.iload_n 0, 1) := by decide +kernel
theorem d49_1 : decode jdk_48_method_27_code 1 = .ok (.iload_n 1, 1) := by decide +kernel
theorem d49_2 : decode jdk_48_method_27_code 2 = .ok (.iload_n 2, 1) := by decide +kernel
theorem d49_3 : decode jdk_48_method_27_code 3 = .ok (.invokestatic 194, 3) := by decide +kernel
theorem d49_6 : decode jdk_48_method_27_code 6 = .ok (.iadd, 1) := by decide +kernel
theorem d49_7 : decode jdk_48_method_27_code 7 = .ok (.istore_n 3, 1) := by decide +kernel
theorem d49_8 : decode jdk_48_method_27_code 8 = .ok (.iconst 0, 1) := by decide +kernel
theorem d49_9 : decode jdk_48_method_27_code 9 = .ok (.iload_n 3, 1) := by decide +kernel
theorem d49_10 : decode jdk_48_method_27_code 10 = .ok (.if_icmp .ge 11, 3) := by decide +kernel
theorem d49_13 : decode jdk_48_method_27_code 13 = .ok (.iload_n 3, 1) := by decide +kernel
theorem d49_14 : decode jdk_48_method_27_code 14 = .ok (.ldc 200, 2) := by decide +kernel
theorem d49_16 : decode jdk_48_method_27_code 16 = .ok (.if_icmp .gt 5, 3) := by decide +kernel
theorem d49_19 : decode jdk_48_method_27_code 19 = .ok (.iload_n 3, 1) := by decide +kernel
theorem d49_20 : decode jdk_48_method_27_code 20 = .ok (.ireturn, 1) := by decide +kernel
theorem d50_0 : decode jdk_29_method_65_code 0 = .ok (.iload_n 0, 1) := by decide +kernel
theorem d50_1 : decode jdk_29_method_65_code 1 = .ok (.iload_n 1, 1) := by decide +kernel
theorem d50_2 : decode jdk_29_method_65_code 2 = .ok (.if_icmp .lt 7, 3) := by decide +kernel
theorem d50_5 : decode jdk_29_method_65_code 5 = .ok (.iload_n 0, 1) := by decide +kernel
theorem d50_6 : decode jdk_29_method_65_code 6 = .ok (.goto 4, 3) := by decide +kernel
theorem d50_9 : decode jdk_29_method_65_code 9 = .ok (.iload_n 1, 1) := by decide +kernel
theorem d50_10 : decode jdk_29_method_65_code 10 = .ok (.ireturn, 1) := by decide +kernel
theorem d51_0 : decode jdk_65_method_121_code 0 = .ok (.iload_n 1, 1) := by decide +kernel
theorem d51_1 : decode jdk_65_method_121_code 1 = .ok (.aload_n 0, 1) := by decide +kernel
theorem d51_2 : decode jdk_65_method_121_code 2 = .ok (.arraylength, 1) := by decide +kernel
theorem d51_3 : decode jdk_65_method_121_code 3 = .ok (.if_icmp .ne 11, 3) := by decide +kernel
theorem d51_14 : decode jdk_65_method_121_code 14 = .ok (.iload_n 1, 1) := by decide +kernel
theorem d51_15 : decode jdk_65_method_121_code 15 = .ok (.newarray .byte, 2) := by decide +kernel
theorem d51_17 : decode jdk_65_method_121_code 17 = .ok (.astore_n 2, 1) := by decide +kernel
theorem d51_18 : decode jdk_65_method_121_code 18 = .ok (.aload_n 0, 1) := by decide +kernel
theorem d51_19 : decode jdk_65_method_121_code 19 = .ok (.iconst 0, 1) := by decide +kernel
theorem d51_20 : decode jdk_65_method_121_code 20 = .ok (.aload_n 2, 1) := by decide +kernel
theorem d51_21 : decode jdk_65_method_121_code 21 = .ok (.iconst 0, 1) := by decide +kernel
theorem d51_22 : decode jdk_65_method_121_code 22 = .ok (.aload_n 0, 1) := by decide +kernel
theorem d51_23 : decode jdk_65_method_121_code 23 = .ok (.arraylength, 1) := by decide +kernel
theorem d51_24 : decode jdk_65_method_121_code 24 = .ok (.iload_n 1, 1) := by decide +kernel
theorem d51_25 : decode jdk_65_method_121_code 25 = .ok (.invokestatic 304, 3) := by decide +kernel
theorem d51_28 : decode jdk_65_method_121_code 28 = .ok (.invokestatic 150, 3) := by decide +kernel
theorem d51_31 : decode jdk_65_method_121_code 31 = .ok (.aload_n 2, 1) := by decide +kernel
theorem d51_32 : decode jdk_65_method_121_code 32 = .ok (.areturn, 1) := by decide +kernel
theorem d52_0 : decode jdk_42_method_139_code 0 = .ok (.getstatic 38, 3) := by decide +kernel
theorem d52_3 : decode jdk_42_method_139_code 3 = .ok (.ifCond .eq 23, 3) := by decide +kernel
theorem d52_6 : decode jdk_42_method_139_code 6 = .ok (.iload_n 0, 1) := by decide +kernel
theorem d52_7 : decode jdk_42_method_139_code 7 = .ok (.invokestatic 1015, 3) := by decide +kernel
theorem d52_10 : decode jdk_42_method_139_code 10 = .ok (.ifCond .eq 16, 3) := by decide +kernel
theorem d52_13 : decode jdk_42_method_139_code 13 = .ok (.new 10, 3) := by decide +kernel
theorem d52_16 : decode jdk_42_method_139_code 16 = .ok (.dup, 1) := by decide +kernel
theorem d52_17 : decode jdk_42_method_139_code 17 = .ok (.iload_n 0, 1) := by decide +kernel
theorem d52_18 : decode jdk_42_method_139_code 18 = .ok (.invokestatic 1018, 3) := by decide +kernel
theorem d52_21 : decode jdk_42_method_139_code 21 = .ok (.iconst 0, 1) := by decide +kernel
theorem d52_22 : decode jdk_42_method_139_code 22 = .ok (.invokespecial 209, 3) := by decide +kernel
theorem d52_25 : decode jdk_42_method_139_code 25 = .ok (.areturn, 1) := by decide +kernel
theorem d53_0 : decode jdk_43_method_3_code 0 = .ok (.iload_n 0, 1) := by decide +kernel
theorem d53_1 : decode jdk_43_method_3_code 1 = .ok (.sipush 255, 3) := by decide +kernel
theorem d53_4 : decode jdk_43_method_3_code 4 = .ok (.if_icmp .gt 7, 3) := by decide +kernel
theorem d53_7 : decode jdk_43_method_3_code 7 = .ok (.iconst 1, 1) := by decide +kernel
theorem d53_8 : decode jdk_43_method_3_code 8 = .ok (.goto 4, 3) := by decide +kernel
theorem d53_12 : decode jdk_43_method_3_code 12 = .ok (.ireturn, 1) := by decide +kernel
theorem d54_0 : decode jdk_43_method_46_code 0 = .ok (.iconst 1, 1) := by decide +kernel
theorem d54_1 : decode jdk_43_method_46_code 1 = .ok (.newarray .byte, 2) := by decide +kernel
theorem d54_3 : decode jdk_43_method_46_code 3 = .ok (.dup, 1) := by decide +kernel
theorem d54_4 : decode jdk_43_method_46_code 4 = .ok (.iconst 0, 1) := by decide +kernel
theorem d54_5 : decode jdk_43_method_46_code 5 = .ok (.iload_n 0, 1) := by decide +kernel
theorem d54_6 : decode jdk_43_method_46_code 6 = .ok (.i2b, 1) := by decide +kernel
theorem d54_7 : decode jdk_43_method_46_code 7 = .ok (.bastore, 1) := by decide +kernel
theorem d54_8 : decode jdk_43_method_46_code 8 = .ok (.areturn, 1) := by decide +kernel
theorem d55_0 : decode jdk_42_method_151_code 0 = .ok (.aload_n 0, 1) := by decide +kernel
theorem d55_1 : decode jdk_42_method_151_code 1 = .ok (.invokespecial 1, 3) := by decide +kernel
theorem d55_4 : decode jdk_42_method_151_code 4 = .ok (.aload_n 0, 1) := by decide +kernel
theorem d55_5 : decode jdk_42_method_151_code 5 = .ok (.aload_n 1, 1) := by decide +kernel
theorem d55_6 : decode jdk_42_method_151_code 6 = .ok (.putfield 9, 3) := by decide +kernel
theorem d55_9 : decode jdk_42_method_151_code 9 = .ok (.aload_n 0, 1) := by decide +kernel
theorem d55_10 : decode jdk_42_method_151_code 10 = .ok (.iload_n 2, 1) := by decide +kernel
theorem d55_11 : decode jdk_42_method_151_code 11 = .ok (.putfield 15, 3) := by decide +kernel
theorem d55_14 : decode jdk_42_method_151_code 14 = .ok (.return_, 1) := by decide +kernel
theorem d56_0 : decode jdk_32_method_3_code 0 = .ok (.new 2, 3) := by decide +kernel
theorem d56_3 : decode jdk_32_method_3_code 3 = .ok (.dup, 1) := by decide +kernel
theorem d56_4 : decode jdk_32_method_3_code 4 = .ok (.aload_n 0, 1) := by decide +kernel
theorem d56_5 : decode jdk_32_method_3_code 5 = .ok (.invokestatic 17, 3) := by decide +kernel
theorem d56_8 : decode jdk_32_method_3_code 8 = .ok (.invokespecial 23, 3) := by decide +kernel
theorem d56_11 : decode jdk_32_method_3_code 11 = .ok (.areturn, 1) := by decide +kernel
theorem d57_0 : decode jdk_32_method_2_code 0 = .ok (.aload_n 0, 1) := by decide +kernel
theorem d57_1 : decode jdk_32_method_2_code 1 = .ok (.invokespecial 7, 3) := by decide +kernel
theorem d57_4 : decode jdk_32_method_2_code 4 = .ok (.aload_n 0, 1) := by decide +kernel
theorem d57_5 : decode jdk_32_method_2_code 5 = .ok (.aload_n 1, 1) := by decide +kernel
theorem d57_6 : decode jdk_32_method_2_code 6 = .ok (.putfield 13, 3) := by decide +kernel
theorem d57_9 : decode jdk_32_method_2_code 9 = .ok (.return_, 1) := by decide +kernel
theorem d58_0 : decode prog_12_method_5_code 0 = .ok (.new 1, 3) := by decide +kernel
theorem d58_3 : decode prog_12_method_5_code 3 = .ok (.dup, 1) := by decide +kernel
theorem d58_4 : decode prog_12_method_5_code 4 = .ok (.invokespecial 3, 3) := by decide +kernel
theorem d58_7 : decode prog_12_method_5_code 7 = .ok (.ldc 33, 2) := by decide +kernel
theorem d58_9 : decode prog_12_method_5_code 9 = .ok (.invokevirtual 7, 3) := by decide +kernel
theorem d58_12 : decode prog_12_method_5_code 12 = .ok (.aload_n 0, 1) := by decide +kernel
theorem d58_13 : decode prog_12_method_5_code 13 = .ok (.invokevirtual 7, 3) := by decide +kernel
theorem d58_16 : decode prog_12_method_5_code 16 = .ok (.invokevirtual 29, 3) := by decide +kernel
theorem d58_19 : decode prog_12_method_5_code 19 = .ok (.areturn, 1) := by decide +kernel
theorem d59_0 : decode jdk_32_method_4_code 0 = .ok (.aload_n 0, 1) := by decide +kernel
theorem d59_1 : decode jdk_32_method_4_code 1 = .ok (.ifnonnull 9, 3) := by decide +kernel
theorem d59_10 : decode jdk_32_method_4_code 10 = .ok (.new 2, 3) := by decide +kernel
theorem d59_13 : decode jdk_32_method_4_code 13 = .ok (.dup, 1) := by decide +kernel
theorem d59_14 : decode jdk_32_method_4_code 14 = .ok (.aload_n 0, 1) := by decide +kernel
theorem d59_15 : decode jdk_32_method_4_code 15 = .ok (.invokespecial 23, 3) := by decide +kernel
theorem d59_18 : decode jdk_32_method_4_code 18 = .ok (.areturn, 1) := by decide +kernel
theorem pn0 : plainFor (⟨"java/lang/String", "coder", "()B"⟩ : MethodName) = true := by first | exact plainFor_of_name (by first | (simp [plainName, overriddenIn]; done) | decide +kernel) | decide +kernel
theorem pn1 : plainFor (⟨"java/lang/String", "length", "()I"⟩ : MethodName) = true := by first | exact plainFor_of_name (by first | (simp [plainName, overriddenIn]; done) | decide +kernel) | decide +kernel
theorem pn2 : plainFor (⟨"java/lang/Math", "min", "(II)I"⟩ : MethodName) = true := by first | exact plainFor_of_name (by first | (simp [plainName, overriddenIn]; done) | decide +kernel) | decide +kernel
theorem pn3 : plainFor (⟨"java/lang/AbstractStringBuilder", "<init>", "(I)V"⟩ : MethodName) = true := by first | exact plainFor_of_name (by first | (simp [plainName, overriddenIn]; done) | decide +kernel) | decide +kernel
theorem pn4 : plainFor (⟨"java/lang/StringBuilder", "<init>", "()V"⟩ : MethodName) = true := by first | exact plainFor_of_name (by first | (simp [plainName, overriddenIn]; done) | decide +kernel) | decide +kernel
theorem pn5 : plainFor (⟨"java/lang/Math", "max", "(II)I"⟩ : MethodName) = true := by first | exact plainFor_of_name (by first | (simp [plainName, overriddenIn]; done) | decide +kernel) | decide +kernel
theorem pn6 : plainFor (⟨"jdk/internal/util/ArraysSupport", "newLength", "(III)I"⟩ : MethodName) = true := by first | exact plainFor_of_name (by first | (simp [plainName, overriddenIn]; done) | decide +kernel) | decide +kernel
theorem pn7 : plainFor (⟨"java/lang/AbstractStringBuilder", "newCapacity", "(I)I"⟩ : MethodName) = true := by first | exact plainFor_of_name (by first | (simp [plainName, overriddenIn]; done) | decide +kernel) | decide +kernel
theorem pn8 : plainFor (⟨"java/util/Arrays", "copyOf", "([BI)[B"⟩ : MethodName) = true := by first | exact plainFor_of_name (by first | (simp [plainName, overriddenIn]; done) | decide +kernel) | decide +kernel
theorem pn9 : plainFor (⟨"java/lang/AbstractStringBuilder", "ensureCapacityInternal", "(I)V"⟩ : MethodName) = true := by first | exact plainFor_of_name (by first | (simp [plainName, overriddenIn]; done) | decide +kernel) | decide +kernel
theorem pn10 : plainFor (⟨"java/lang/AbstractStringBuilder", "inflateIfNeededFor", "(Ljava/lang/String;)V"⟩ : MethodName) = true := by first | exact plainFor_of_name (by first | (simp [plainName, overriddenIn]; done) | decide +kernel) | decide +kernel
theorem pn11 : plainFor (⟨"java/lang/String", "getBytes", "([BIB)V"⟩ : MethodName) = true := by first | exact plainFor_of_name (by first | (simp [plainName, overriddenIn]; done) | decide +kernel) | decide +kernel
theorem pn12 : plainFor (⟨"java/lang/AbstractStringBuilder", "putStringAt", "(ILjava/lang/String;)V"⟩ : MethodName) = true := by first | exact plainFor_of_name (by first | (simp [plainName, overriddenIn]; done) | decide +kernel) | decide +kernel
theorem pn13 : plainFor (⟨"java/lang/AbstractStringBuilder", "append", "(Ljava/lang/String;)Ljava/lang/AbstractStringBuilder;"⟩ : MethodName) = true := by first | exact plainFor_of_name (by first | (simp [plainName, overriddenIn]; done) | decide +kernel) | decide +kernel
theorem pn14 : plainFor (⟨"java/lang/StringBuilder", "append", "(Ljava/lang/String;)Ljava/lang/StringBuilder;"⟩ : MethodName) = true := by first | exact plainFor_of_name (by first | (simp [plainName, overriddenIn]; done) | decide +kernel) | decide +kernel
theorem pn15 : plainFor (⟨"java/lang/AbstractStringBuilder", "getValue", "()[B"⟩ : MethodName) = true := by first | exact plainFor_of_name (by first | (simp [plainName, overriddenIn]; done) | decide +kernel) | decide +kernel
theorem pn16 : plainFor (⟨"java/lang/AbstractStringBuilder", "length", "()I"⟩ : MethodName) = true := by first | exact plainFor_of_name (by first | (simp [plainName, overriddenIn]; done) | decide +kernel) | decide +kernel
theorem pn17 : plainFor (⟨"java/lang/StringBuilder", "length", "()I"⟩ : MethodName) = true := by first | exact plainFor_of_name (by first | (simp [plainName, overriddenIn]; done) | decide +kernel) | decide +kernel
theorem pn18 : plainFor (⟨"java/lang/AbstractStringBuilder", "isLatin1", "()Z"⟩ : MethodName) = true := by first | exact plainFor_of_name (by first | (simp [plainName, overriddenIn]; done) | decide +kernel) | decide +kernel
theorem pn19 : plainFor (⟨"java/util/Arrays", "checkLength", "(II)V"⟩ : MethodName) = true := by first | exact plainFor_of_name (by first | (simp [plainName, overriddenIn]; done) | decide +kernel) | decide +kernel
theorem pn20 : plainFor (⟨"java/util/Arrays", "copyOfRangeByte", "([BII)[B"⟩ : MethodName) = true := by first | exact plainFor_of_name (by first | (simp [plainName, overriddenIn]; done) | decide +kernel) | decide +kernel
theorem pn21 : plainFor (⟨"java/util/Arrays", "copyOfRange", "([BII)[B"⟩ : MethodName) = true := by first | exact plainFor_of_name (by first | (simp [plainName, overriddenIn]; done) | decide +kernel) | decide +kernel
theorem pn22 : plainFor (⟨"java/lang/String", "<init>", "(Ljava/lang/AbstractStringBuilder;Ljava/lang/Void;)V"⟩ : MethodName) = true := by first | exact plainFor_of_name (by first | (simp [plainName, overriddenIn]; done) | decide +kernel) | decide +kernel
theorem pn23 : plainFor (⟨"java/lang/String", "<init>", "(Ljava/lang/StringBuilder;)V"⟩ : MethodName) = true := by first | exact plainFor_of_name (by first | (simp [plainName, overriddenIn]; done) | decide +kernel) | decide +kernel
theorem pn24 : plainFor (⟨"java/lang/StringBuilder", "toString", "()Ljava/lang/String;"⟩ : MethodName) = true := by first | exact plainFor_of_name (by first | (simp [plainName, overriddenIn]; done) | decide +kernel) | decide +kernel
theorem pn25 : plainFor (⟨"java/lang/Long", "stringSize", "(J)I"⟩ : MethodName) = true := by first | exact plainFor_of_name (by first | (simp [plainName, overriddenIn]; done) | decide +kernel) | decide +kernel
theorem pn26 : plainFor (⟨"java/lang/Long", "getChars", "(JI[B)I"⟩ : MethodName) = true := by first | exact plainFor_of_name (by first | (simp [plainName, overriddenIn]; done) | decide +kernel) | decide +kernel
theorem pn27 : plainFor (⟨"java/lang/AbstractStringBuilder", "append", "(J)Ljava/lang/AbstractStringBuilder;"⟩ : MethodName) = true := by first | exact plainFor_of_name (by first | (simp [plainName, overriddenIn]; done) | decide +kernel) | decide +kernel
theorem pn28 : plainFor (⟨"java/lang/StringBuilder", "append", "(J)Ljava/lang/StringBuilder;"⟩ : MethodName) = true := by first | exact plainFor_of_name (by first | (simp [plainName, overriddenIn]; done) | decide +kernel) | decide +kernel
theorem pn29 : plainFor (⟨"java/util/Objects", "requireNonNull", "(Ljava/lang/Object;)Ljava/lang/Object;"⟩ : MethodName) = true := by first | exact plainFor_of_name (by first | (simp [plainName, overriddenIn]; done) | decide +kernel) | decide +kernel
theorem pn30 : plainFor (⟨"java/util/Objects", "requireNonNull", "(Ljava/lang/Object;Ljava/lang/String;)Ljava/lang/Object;"⟩ : MethodName) = true := by first | exact plainFor_of_name (by first | (simp [plainName, overriddenIn]; done) | decide +kernel) | decide +kernel
theorem pn31 : plainFor (⟨"java/lang/Record", "<init>", "()V"⟩ : MethodName) = true := by first | exact plainFor_of_name (by first | (simp [plainName, overriddenIn]; done) | decide +kernel) | decide +kernel
theorem pn32 : plainFor (⟨"java/util/Optional", "<init>", "(Ljava/lang/Object;)V"⟩ : MethodName) = true := by first | exact plainFor_of_name (by first | (simp [plainName, overriddenIn]; done) | decide +kernel) | decide +kernel
theorem pn33 : plainFor (⟨"java/util/Optional", "of", "(Ljava/lang/Object;)Ljava/util/Optional;"⟩ : MethodName) = true := by first | exact plainFor_of_name (by first | (simp [plainName, overriddenIn]; done) | decide +kernel) | decide +kernel
theorem pn34 : plainFor (⟨"java/util/Optional", "ofNullable", "(Ljava/lang/Object;)Ljava/util/Optional;"⟩ : MethodName) = true := by first | exact plainFor_of_name (by first | (simp [plainName, overriddenIn]; done) | decide +kernel) | decide +kernel
theorem pn35 : plainFor (⟨"java/util/Optional", "empty", "()Ljava/util/Optional;"⟩ : MethodName) = true := by first | exact plainFor_of_name (by first | (simp [plainName, overriddenIn]; done) | decide +kernel) | decide +kernel
theorem pn36 : plainFor (⟨"java/util/Optional", "isEmpty", "()Z"⟩ : MethodName) = true := by first | exact plainFor_of_name (by first | (simp [plainName, overriddenIn]; done) | decide +kernel) | decide +kernel
theorem pn37 : plainFor (⟨"java/util/Optional", "orElse", "(Ljava/lang/Object;)Ljava/lang/Object;"⟩ : MethodName) = true := by first | exact plainFor_of_name (by first | (simp [plainName, overriddenIn]; done) | decide +kernel) | decide +kernel
theorem pn38 : plainFor (⟨"com/example/wrange/wrange/IntegrityCheck", "lambda$withCharset$0", "(Ljava/lang/String;)Ljava/lang/String;"⟩ : MethodName) = true := by first | exact plainFor_of_name (by first | (simp [plainName, overriddenIn]; done) | decide +kernel) | decide +kernel
theorem pn39 : plainFor (⟨"java/util/Optional", "map", "(Ljava/util/function/Function;)Ljava/util/Optional;"⟩ : MethodName) = true := by first | exact plainFor_of_name (by first | (simp [plainName, overriddenIn]; done) | decide +kernel) | decide +kernel
theorem pn40 : plainFor (⟨"com/example/wrange/wrange/IntegrityCheck", "withCharset", "(Ljava/lang/String;Ljava/util/Optional;)Ljava/lang/String;"⟩ : MethodName) = true := by first | exact plainFor_of_name (by first | (simp [plainName, overriddenIn]; done) | decide +kernel) | decide +kernel
theorem pn41 : plainFor (⟨"com/example/wrange/wrange/IntegrityCheck$Length", "written", "()Ljava/lang/String;"⟩ : MethodName) = true := by first | exact plainFor_of_name (by first | (simp [plainName, overriddenIn]; done) | decide +kernel) | decide +kernel
theorem pn42 : plainFor (⟨"com/example/wrange/wrange/IntegrityCheck$Length", "<init>", "(JLjava/util/Optional;)V"⟩ : MethodName) = true := by first | exact plainFor_of_name (by first | (simp [plainName, overriddenIn]; done) | decide +kernel) | decide +kernel
theorem pn43 : plainFor (⟨"com/example/wrange/wrange/LengthWrittenPinLaw", "digits", "(J[J)I"⟩ : MethodName) = true := by first | exact plainFor_of_name (by first | (simp [plainName, overriddenIn]; done) | decide +kernel) | decide +kernel
theorem pn44 : plainFor (⟨"java/lang/StringLatin1", "canEncode", "(C)Z"⟩ : MethodName) = true := by first | exact plainFor_of_name (by first | (simp [plainName, overriddenIn]; done) | decide +kernel) | decide +kernel
theorem pn45 : plainFor (⟨"java/lang/StringLatin1", "toBytes", "(C)[B"⟩ : MethodName) = true := by first | exact plainFor_of_name (by first | (simp [plainName, overriddenIn]; done) | decide +kernel) | decide +kernel
theorem pn46 : plainFor (⟨"java/lang/String", "<init>", "([BB)V"⟩ : MethodName) = true := by first | exact plainFor_of_name (by first | (simp [plainName, overriddenIn]; done) | decide +kernel) | decide +kernel
theorem pn47 : plainFor (⟨"java/lang/String", "valueOf", "(C)Ljava/lang/String;"⟩ : MethodName) = true := by first | exact plainFor_of_name (by first | (simp [plainName, overriddenIn]; done) | decide +kernel) | decide +kernel
theorem pn48 : plainFor (⟨"java/lang/StringUTF16", "compress", "([CI[BII)I"⟩ : MethodName) = true := by first | exact plainFor_of_name (by first | (simp [plainName, overriddenIn]; done) | decide +kernel) | decide +kernel
theorem pn49 : plainFor (⟨"java/lang/StringUTF16", "compress", "([CII)[B"⟩ : MethodName) = true := by first | exact plainFor_of_name (by first | (simp [plainName, overriddenIn]; done) | decide +kernel) | decide +kernel
theorem pn50 : plainFor (⟨"java/lang/StringUTF16", "coderFromArrayLen", "([BI)B"⟩ : MethodName) = true := by first | exact plainFor_of_name (by first | (simp [plainName, overriddenIn]; done) | decide +kernel) | decide +kernel
theorem pn51 : plainFor (⟨"java/lang/String", "<init>", "([CIILjava/lang/Void;)V"⟩ : MethodName) = true := by first | exact plainFor_of_name (by first | (simp [plainName, overriddenIn]; done) | decide +kernel) | decide +kernel
theorem pn52 : plainFor (⟨"java/lang/String", "<init>", "([C)V"⟩ : MethodName) = true := by first | exact plainFor_of_name (by first | (simp [plainName, overriddenIn]; done) | decide +kernel) | decide +kernel
theorem pn53 : plainFor (⟨"java/lang/String", "isLatin1", "()Z"⟩ : MethodName) = true := by first | exact plainFor_of_name (by first | (simp [plainName, overriddenIn]; done) | decide +kernel) | decide +kernel
theorem pn54 : plainFor (⟨"jdk/internal/util/Preconditions", "checkIndex", "(IILjava/util/function/BiFunction;)I"⟩ : MethodName) = true := by first | exact plainFor_of_name (by first | (simp [plainName, overriddenIn]; done) | decide +kernel) | decide +kernel
theorem pn55 : plainFor (⟨"java/lang/String", "checkIndex", "(II)V"⟩ : MethodName) = true := by first | exact plainFor_of_name (by first | (simp [plainName, overriddenIn]; done) | decide +kernel) | decide +kernel
theorem pn56 : plainFor (⟨"java/lang/StringLatin1", "charAt", "([BI)C"⟩ : MethodName) = true := by first | exact plainFor_of_name (by first | (simp [plainName, overriddenIn]; done) | decide +kernel) | decide +kernel
theorem pn57 : plainFor (⟨"java/lang/String", "charAt", "(I)C"⟩ : MethodName) = true := by first | exact plainFor_of_name (by first | (simp [plainName, overriddenIn]; done) | decide +kernel) | decide +kernel
theorem pn58 : plainFor (⟨"com/example/wrange/wrange/LengthWrittenPinLaw", "law", "(JII)Z"⟩ : MethodName) = true := by first | exact plainFor_of_name (by first | (simp [plainName, overriddenIn]; done) | decide +kernel) | decide +kernel
theorem pd0 : parseMethodDescriptor "()B" = some ⟨[], some .byte⟩ := by decide +kernel
theorem pd1 : parseMethodDescriptor "(I)V" = some ⟨[.int], none⟩ := by decide +kernel
theorem pd2 : parseMethodDescriptor "(II)I" = some ⟨[.int, .int], some .int⟩ := by decide +kernel
theorem pd3 : parseMethodDescriptor "(III)I" = some ⟨[.int, .int, .int], some .int⟩ := by decide +kernel
theorem pd4 : parseMethodDescriptor "(I)I" = some ⟨[.int], some .int⟩ := by decide +kernel
theorem pd5 : parseMethodDescriptor "([BI)[B" = some ⟨[(.array .byte), .int], some (.array .byte)⟩ := by decide +kernel
theorem pd6 : parseMethodDescriptor "(Ljava/lang/String;)V" = some ⟨[(.object "java/lang/String")], none⟩ := by decide +kernel
theorem pd7 : parseMethodDescriptor "([BIB)V" = some ⟨[(.array .byte), .int, .byte], none⟩ := by decide +kernel
theorem pd8 : parseMethodDescriptor "()I" = some ⟨[], some .int⟩ := by decide +kernel
theorem pd9 : parseMethodDescriptor "(ILjava/lang/String;)V" = some ⟨[.int, (.object "java/lang/String")], none⟩ := by decide +kernel
theorem pd10 : parseMethodDescriptor "(Ljava/lang/String;)Ljava/lang/AbstractStringBuilder;" = some ⟨[(.object "java/lang/String")], some (.object "java/lang/AbstractStringBuilder")⟩ := by decide +kernel
theorem pd11 : parseMethodDescriptor "(II)V" = some ⟨[.int, .int], none⟩ := by decide +kernel
theorem pd12 : parseMethodDescriptor "([BII)[B" = some ⟨[(.array .byte), .int, .int], some (.array .byte)⟩ := by decide +kernel
theorem pd13 : parseMethodDescriptor "()[B" = some ⟨[], some (.array .byte)⟩ := by decide +kernel
theorem pd14 : parseMethodDescriptor "()Z" = some ⟨[], some .boolean⟩ := by decide +kernel
theorem pd15 : parseMethodDescriptor "(Ljava/lang/AbstractStringBuilder;Ljava/lang/Void;)V" = some ⟨[(.object "java/lang/AbstractStringBuilder"), (.object "java/lang/Void")], none⟩ := by decide +kernel
theorem pd16 : parseMethodDescriptor "(Ljava/lang/StringBuilder;)V" = some ⟨[(.object "java/lang/StringBuilder")], none⟩ := by decide +kernel
theorem pd17 : parseMethodDescriptor "(J)I" = some ⟨[.long], some .int⟩ := by decide +kernel
theorem pd18 : parseMethodDescriptor "(JI[B)I" = some ⟨[.long, .int, (.array .byte)], some .int⟩ := by decide +kernel
theorem pd19 : parseMethodDescriptor "(J)Ljava/lang/AbstractStringBuilder;" = some ⟨[.long], some (.object "java/lang/AbstractStringBuilder")⟩ := by decide +kernel
theorem pd20 : parseMethodDescriptor "(Ljava/lang/Object;)Ljava/lang/Object;" = some ⟨[(.object "java/lang/Object")], some (.object "java/lang/Object")⟩ := by decide +kernel
theorem pd21 : parseMethodDescriptor "(Ljava/lang/Object;)V" = some ⟨[(.object "java/lang/Object")], none⟩ := by decide +kernel
theorem pd22 : parseMethodDescriptor "()V" = some ⟨[], none⟩ := by decide +kernel
theorem pd23 : parseMethodDescriptor "(Ljava/lang/String;)Ljava/lang/StringBuilder;" = some ⟨[(.object "java/lang/String")], some (.object "java/lang/StringBuilder")⟩ := by decide +kernel
theorem pd24 : parseMethodDescriptor "()Ljava/lang/String;" = some ⟨[], some (.object "java/lang/String")⟩ := by decide +kernel
theorem pd25 : parseMethodDescriptor "()Ljava/util/Optional;" = some ⟨[], some (.object "java/util/Optional")⟩ := by decide +kernel
theorem pd26 : parseMethodDescriptor "(Ljava/lang/String;)Ljava/lang/String;" = some ⟨[(.object "java/lang/String")], some (.object "java/lang/String")⟩ := by decide +kernel
theorem pd27 : parseMethodDescriptor "(Ljava/lang/Object;)Ljava/util/Optional;" = some ⟨[(.object "java/lang/Object")], some (.object "java/util/Optional")⟩ := by decide +kernel
theorem pd28 : parseMethodDescriptor "(Ljava/util/function/Function;)Ljava/util/Optional;" = some ⟨[(.object "java/util/function/Function")], some (.object "java/util/Optional")⟩ := by decide +kernel
theorem pd29 : parseMethodDescriptor "(J)Ljava/lang/StringBuilder;" = some ⟨[.long], some (.object "java/lang/StringBuilder")⟩ := by decide +kernel
theorem pd30 : parseMethodDescriptor "(Ljava/lang/String;Ljava/util/Optional;)Ljava/lang/String;" = some ⟨[(.object "java/lang/String"), (.object "java/util/Optional")], some (.object "java/lang/String")⟩ := by decide +kernel
theorem pd31 : parseMethodDescriptor "(Ljava/lang/Object;Ljava/lang/String;)Ljava/lang/Object;" = some ⟨[(.object "java/lang/Object"), (.object "java/lang/String")], some (.object "java/lang/Object")⟩ := by decide +kernel
theorem pd32 : parseMethodDescriptor "(C)Z" = some ⟨[.char], some .boolean⟩ := by decide +kernel
theorem pd33 : parseMethodDescriptor "(C)[B" = some ⟨[.char], some (.array .byte)⟩ := by decide +kernel
theorem pd34 : parseMethodDescriptor "([BB)V" = some ⟨[(.array .byte), .byte], none⟩ := by decide +kernel
theorem pd35 : parseMethodDescriptor "([CI[BII)I" = some ⟨[(.array .char), .int, (.array .byte), .int, .int], some .int⟩ := by decide +kernel
theorem pd36 : parseMethodDescriptor "([CII)[B" = some ⟨[(.array .char), .int, .int], some (.array .byte)⟩ := by decide +kernel
theorem pd37 : parseMethodDescriptor "([BI)B" = some ⟨[(.array .byte), .int], some .byte⟩ := by decide +kernel
theorem pd38 : parseMethodDescriptor "([CIILjava/lang/Void;)V" = some ⟨[(.array .char), .int, .int, (.object "java/lang/Void")], none⟩ := by decide +kernel
theorem pd39 : parseMethodDescriptor "(IILjava/util/function/BiFunction;)I" = some ⟨[.int, .int, (.object "java/util/function/BiFunction")], some .int⟩ := by decide +kernel
theorem pd40 : parseMethodDescriptor "([BI)C" = some ⟨[(.array .byte), .int], some .char⟩ := by decide +kernel
theorem pd41 : parseMethodDescriptor "(J[J)I" = some ⟨[.long, (.array .long)], some .int⟩ := by decide +kernel
theorem pd42 : parseMethodDescriptor "(JLjava/util/Optional;)V" = some ⟨[.long, (.object "java/util/Optional")], none⟩ := by decide +kernel
theorem pd43 : parseMethodDescriptor "(I)C" = some ⟨[.int], some .char⟩ := by decide +kernel
theorem pd44 : parseMethodDescriptor "([C)V" = some ⟨[(.array .char)], none⟩ := by decide +kernel
theorem pd45 : parseMethodDescriptor "(C)Ljava/lang/String;" = some ⟨[.char], some (.object "java/lang/String")⟩ := by decide +kernel
theorem sn0 {Z : State} {a0 : Array Value} (hw : ∀ d ∈ tables_1, d.before a0 Z = true) : Jvm.RoadKit.slotOf Z "java/lang/AbstractStringBuilder" "coder" "B" ≠ Jvm.RoadKit.slotOf Z "java/lang/AbstractStringBuilder" "value" "[B" := slot_ne (C := "java/lang/StringBuilder") (Or.inl (w105 hw)) (Or.inl (w103 hw)) (by decide) (t := .byte) (by decide) (t' := (.array .byte)) (by decide)
theorem sn1 {Z : State} {a0 : Array Value} (hw : ∀ d ∈ tables_1, d.before a0 Z = true) : Jvm.RoadKit.slotOf Z "java/lang/AbstractStringBuilder" "count" "I" ≠ Jvm.RoadKit.slotOf Z "java/lang/AbstractStringBuilder" "value" "[B" := slot_ne (C := "java/lang/StringBuilder") (Or.inl (w128 hw)) (Or.inl (w103 hw)) (by decide) (t := .int) (by decide) (t' := (.array .byte)) (by decide)
theorem sn2 {Z : State} {a0 : Array Value} (hw : ∀ d ∈ tables_1, d.before a0 Z = true) : Jvm.RoadKit.slotOf Z "java/lang/AbstractStringBuilder" "value" "[B" ≠ Jvm.RoadKit.slotOf Z "java/lang/AbstractStringBuilder" "coder" "B" := slot_ne (C := "java/lang/StringBuilder") (Or.inl (w103 hw)) (Or.inl (w105 hw)) (by decide) (t := (.array .byte)) (by decide) (t' := .byte) (by decide)
theorem sn3 {Z : State} {a0 : Array Value} (hw : ∀ d ∈ tables_1, d.before a0 Z = true) : Jvm.RoadKit.slotOf Z "java/lang/AbstractStringBuilder" "count" "I" ≠ Jvm.RoadKit.slotOf Z "java/lang/AbstractStringBuilder" "coder" "B" := slot_ne (C := "java/lang/StringBuilder") (Or.inl (w128 hw)) (Or.inl (w105 hw)) (by decide) (t := .int) (by decide) (t' := .byte) (by decide)
theorem sn4 {Z : State} {a0 : Array Value} (hw : ∀ d ∈ tables_1, d.before a0 Z = true) : Jvm.RoadKit.slotOf Z "java/lang/AbstractStringBuilder" "value" "[B" ≠ Jvm.RoadKit.slotOf Z "java/lang/AbstractStringBuilder" "count" "I" := slot_ne (C := "java/lang/StringBuilder") (Or.inl (w103 hw)) (Or.inl (w128 hw)) (by decide) (t := (.array .byte)) (by decide) (t' := .int) (by decide)
theorem sn5 {Z : State} {a0 : Array Value} (hw : ∀ d ∈ tables_1, d.before a0 Z = true) : Jvm.RoadKit.slotOf Z "java/lang/AbstractStringBuilder" "coder" "B" ≠ Jvm.RoadKit.slotOf Z "java/lang/AbstractStringBuilder" "count" "I" := slot_ne (C := "java/lang/StringBuilder") (Or.inl (w105 hw)) (Or.inl (w128 hw)) (by decide) (t := .byte) (by decide) (t' := .int) (by decide)
theorem sn6 {Z : State} {a0 : Array Value} (hw : ∀ d ∈ tables_1, d.before a0 Z = true) : Jvm.RoadKit.slotOf Z "java/lang/String" "value" "[B" ≠ Jvm.RoadKit.slotOf Z "java/lang/String" "coder" "B" := slot_ne (C := "java/lang/String") (Or.inr (w54 hw)) (Or.inr (w52 hw)) (by decide) (t := (.array .byte)) (by decide) (t' := .byte) (by decide)
theorem sn7 {Z : State} {a0 : Array Value} (hw : ∀ d ∈ tables_1, d.before a0 Z = true) : Jvm.RoadKit.slotOf Z "java/lang/String" "coder" "B" ≠ Jvm.RoadKit.slotOf Z "java/lang/String" "value" "[B" := slot_ne (C := "java/lang/String") (Or.inr (w52 hw)) (Or.inr (w54 hw)) (by decide) (t := .byte) (by decide) (t' := (.array .byte)) (by decide)
theorem sn8 {Z : State} {a0 : Array Value} (hw : ∀ d ∈ tables_1, d.before a0 Z = true) : Jvm.RoadKit.slotOf Z "com/example/wrange/wrange/IntegrityCheck$Length" "charset" "Ljava/util/Optional;" ≠ Jvm.RoadKit.slotOf Z "com/example/wrange/wrange/IntegrityCheck$Length" "characters" "J" := slot_ne (C := "com/example/wrange/wrange/IntegrityCheck$Length") (Or.inr (w82 hw)) (Or.inr (w80 hw)) (by decide) (t := (.object "java/util/Optional")) (by decide) (t' := .long) (by decide)
theorem sn9 {Z : State} {a0 : Array Value} (hw : ∀ d ∈ tables_1, d.before a0 Z = true) : Jvm.RoadKit.slotOf Z "com/example/wrange/wrange/IntegrityCheck$Length" "characters" "J" ≠ Jvm.RoadKit.slotOf Z "com/example/wrange/wrange/IntegrityCheck$Length" "charset" "Ljava/util/Optional;" := slot_ne (C := "com/example/wrange/wrange/IntegrityCheck$Length") (Or.inr (w80 hw)) (Or.inr (w82 hw)) (by decide) (t := .long) (by decide) (t' := (.object "java/util/Optional")) (by decide)

/-- a Latin-1 StringBuilder of these signs, -/
def own_SN (Z : State) (h : Heap) (a b : Nat) (k : ClassId) (vs : List Value) (cs : List Nat) : Prop := Exa Z h a "java/lang/StringBuilder" ∧ Fld Z h a "java/lang/AbstractStringBuilder" "value" "[B" (.ref b) ∧ Fld Z h a "java/lang/AbstractStringBuilder" "coder" "B" (.int 0) ∧ Fld Z h a "java/lang/AbstractStringBuilder" "count" "I" (.int (i32 cs.length)) ∧ AV Z h b k .byte vs (.int 0) ∧ (vs.length = 16 ∨ vs.length = 34) ∧ vs.take cs.length = (cs.map by8).map Value.int ∧ cs.length ≤ vs.length ∧ a ≠ b ∧ Exa Z h b "[B"
theorem own_SN.ext {Z : State} {h h' : Heap} {a b : Nat} {k : ClassId} {vs : List Value} {cs : List Nat} (F : own_SN Z h a b k vs cs) (E : Ext h h') : own_SN Z h' a b k vs cs := ⟨F.1.ext E, F.2.1.ext E, F.2.2.1.ext E, F.2.2.2.1.ext E, F.2.2.2.2.1.ext E, F.2.2.2.2.2.1, F.2.2.2.2.2.2.1, F.2.2.2.2.2.2.2.1, F.2.2.2.2.2.2.2.2.1, F.2.2.2.2.2.2.2.2.2.ext E⟩
theorem own_SN.keep {Z : State} {h h' : Heap} {a b : Nat} {k : ClassId} {vs : List Value} {cs : List Nat} {ws : List Addr} (F : own_SN Z h a b k vs cs) (Kp : Keep h h' ws) (q1 : a ∉ ws) (q2 : b ∉ ws) : own_SN Z h' a b k vs cs := ⟨F.1.keep Kp, F.2.1.keep Kp q1, F.2.2.1.keep Kp q1, F.2.2.2.1.keep Kp q1, F.2.2.2.2.1.keep Kp q2, F.2.2.2.2.2.1, F.2.2.2.2.2.2.1, F.2.2.2.2.2.2.2.1, F.2.2.2.2.2.2.2.2.1, F.2.2.2.2.2.2.2.2.2.keep Kp⟩
theorem own_sbtake {vs ds : List Value} {n : Nat} (h : n + ds.length ≤ vs.length) : (vs.take n ++ ds ++ vs.drop (n + ds.length)).take (n + ds.length) = vs.take n ++ ds := by
  rw [List.take_append_of_le_length (by rw [List.length_append, List.length_take]; omega), List.take_of_length_le (by rw [List.length_append, List.length_take]; omega)]
theorem own_shl0 (x : Int32) : x <<< ((0 : Int32) &&& 31) = x := by
  show x <<< (0 : Int32) = x
  simp
theorem own_suble {m n : Nat} (hm : m < 1000000) (hn : n < 1000000) : (0 : Int32) < i32 m - i32 n ↔ n < m := by
  have e : (i32 m - i32 n).toInt = (m : Int) - n := by
    rw [Int32.toInt_sub, i32_toInt (by omega), i32_toInt (by omega)]
    exact bm32 (by omega) (by omega)
  rw [Int32.lt_iff_toInt_lt, e]; show (0 : Int) < _ ↔ _; omega

/-- the decimal signs of a number -/
def own_dig (n : Nat) : List Nat := if n < 10 then [48 + n] else own_dig (n / 10) ++ [48 + n % 10]
termination_by n
theorem own_dig1 {n : Nat} (h : n < 10) : own_dig n = [48 + n] := by rw [own_dig, if_pos h]
theorem own_digS {n : Nat} (h : ¬ n < 10) : own_dig n = own_dig (n / 10) ++ [48 + n % 10] := by rw [own_dig, if_neg h]
theorem own_dig2 {n : Nat} (h : ¬ n < 10) (h2 : n < 100) : own_dig n = [48 + n / 10, 48 + n % 10] := by rw [own_digS h, own_dig1 (by omega)]; rfl
theorem own_dig3 {n : Nat} (h : 100 ≤ n) : own_dig n = own_dig (n / 100) ++ [48 + n % 100 / 10, 48 + n % 100 % 10] := by
  rw [own_digS (by omega), own_digS (n := n / 10) (by omega), List.append_assoc, Nat.div_div_eq_div_mul, show n % 100 / 10 = n / 10 % 10 by omega, show n % 100 % 10 = n % 10 by omega]; rfl
theorem own_digpos (n : Nat) : 1 ≤ (own_dig n).length := by
  rw [own_dig]; split
  · simp
  · simp
theorem own_dlen : ∀ (k n : Nat), (own_dig n).length ≤ k + 1 ↔ n < 10 ^ (k + 1)
  | 0, n => by
    by_cases h : n < 10
    · rw [own_dig1 h]; simp; exact h
    · rw [own_digS h]; have := own_digpos (n / 10); simp only [List.length_append, List.length_singleton]; omega
  | k + 1, n => by
    by_cases h : n < 10
    · rw [own_dig1 h]
      have : 10 ^ 1 ≤ 10 ^ (k + 1 + 1) := Nat.pow_le_pow_right (by decide) (by omega)
      simp only [List.length_singleton]; omega
    · rw [own_digS h, List.length_append, List.length_singleton]
      have := own_dlen k (n / 10)
      rw [Nat.div_lt_iff_lt_mul (by decide), ← Nat.pow_succ] at this
      omega
theorem own_dlt (j n : Nat) (h : 0 < n ∨ j = 0) : j < (own_dig n).length ↔ (10 ^ j ≤ n ∨ j = 0) := by
  cases j with
  | zero => have := own_digpos n; simp; omega
  | succ k => have := own_dlen k n; simp only [Nat.add_one_ne_zero, or_false]; omega
theorem own_dget : ∀ (j n : Nat), j < (own_dig n).length → (own_dig n)[(own_dig n).length - 1 - j]? = some (48 + n / 10 ^ j % 10)
  | 0, n, _ => by
    by_cases h : n < 10
    · rw [own_dig1 h]; simp; omega
    · rw [own_digS h]; simp
  | j + 1, n, hj => by
    by_cases h : n < 10
    · rw [own_dig1 h] at hj; simp at hj
    · rw [own_digS h] at hj ⊢
      rw [List.length_append, List.length_singleton] at hj ⊢
      have ih := own_dget j (n / 10) (by omega)
      rw [List.getElem?_append_left (by omega), show (own_dig (n / 10)).length + 1 - 1 - (j + 1) = (own_dig (n / 10)).length - 1 - j by omega, ih, Nat.div_div_eq_div_mul, Nat.pow_succ, Nat.mul_comm]
theorem own_dmem : ∀ (k n : Nat), n < 10 ^ (k + 1) → ∀ c ∈ own_dig n, c < 58
  | 0, n, h, c, hc => by rw [own_dig1 (by simpa using h)] at hc; simp at hc; omega
  | k + 1, n, h, c, hc => by
    by_cases h1 : n < 10
    · rw [own_dig1 h1] at hc; simp at hc; omega
    · rw [own_digS h1] at hc
      rcases List.mem_append.mp hc with z | z
      · exact own_dmem k (n / 10) (by rw [Nat.div_lt_iff_lt_mul (by decide), ← Nat.pow_succ]; exact h) c z
      · simp at z; omega
/-- minus a number -/
def own_m (n : Nat) : Int32 := -(i32 n)
theorem own_mInt {n : Nat} (h : n ≤ 2147483648) : (own_m n).toInt = -(n : Int) := by
  unfold own_m i32
  rw [Int32.toInt_neg]
  rcases Nat.lt_or_ge n 2147483648 with h | h'
  · rw [show (Int32.ofNat n).toInt = (n : Int) from i32_toInt h, bm32 (by omega) (by omega)]
  · obtain rfl : n = 2147483648 := by omega
    rfl
theorem own_mlt {a b : Nat} (ha : a ≤ 2147483648) (hb : b ≤ 2147483648) : own_m a < own_m b ↔ b < a := by
  rw [Int32.lt_iff_toInt_lt, own_mInt ha, own_mInt hb]; omega
theorem own_mneg {x : Int32} (h : x < 0) : x = own_m x.toInt.natAbs ∧ x.toInt.natAbs ≤ 2147483648 ∧ 0 < x.toInt.natAbs := by
  have h0 : x.toInt < 0 := Int32.lt_iff_toInt_lt.mp h
  have := x.le_toInt
  have hb : x.toInt.natAbs ≤ 2147483648 := by omega
  refine ⟨Int32.toInt_inj.mp ?_, hb, by omega⟩
  rw [own_mInt hb]; omega
theorem own_mpos {x : Int32} (h : ¬ x < 0) : -x = own_m x.toInt.natAbs ∧ x.toInt.natAbs < 2147483648 := by
  have h0 : ¬ x.toInt < 0 := fun z => h (Int32.lt_iff_toInt_lt.mpr z)
  have := x.toInt_lt
  have hb : x.toInt.natAbs < 2147483648 := by omega
  refine ⟨Int32.toInt_inj.mp ?_, hb⟩
  rw [own_mInt (by omega), Int32.toInt_neg, show -x.toInt = -(x.toInt.natAbs : Int) by omega, bm32 (by omega) (by omega)]
theorem own_mmul (a b : Nat) : i32 a * own_m b = own_m (a * b) := by
  unfold own_m; rw [Int32.mul_neg, i32_mul]
theorem own_mdiv {n : Nat} (h : n ≤ 2147483648) : own_m n / 100 = own_m (n / 100) := by
  refine Int32.toInt_inj.mp ?_
  rw [Int32.toInt_div_of_ne_right _ _ (by decide), own_mInt h, own_mInt (by omega), show (100 : Int32).toInt = 100 from rfl, Int.neg_tdiv]; rfl
theorem own_mrem {n : Nat} (h : n ≤ 2147483648) : own_m (n / 100) * 100 - own_m n = i32 (n % 100) := by
  refine Int32.toInt_inj.mp ?_
  rw [Int32.toInt_sub, Int32.toInt_mul, own_mInt h, own_mInt (by omega), i32_toInt (by omega), show (100 : Int32).toInt = 100 from rfl, bm32 (n := -((n / 100 : Nat) : Int) * 100) (by omega) (by omega), bm32 (by omega) (by omega)]
  omega
theorem own_mback {n : Nat} : -(own_m n) = i32 n := by unfold own_m; exact Int32.neg_neg
theorem own_setp {α : Type} (vs R : List α) (p : Nat) (v : α) (h : p + 1 ≤ vs.length) : (vs.take (p + 1) ++ R).set p v = vs.take p ++ (v :: R) := by
  rw [List.set_append_left _ _ (by rw [List.length_take]; omega), List.take_add_one, List.getElem?_eq_getElem (by omega), List.set_append_right _ _ (by rw [List.length_take]; omega)]
  simp [List.length_take, Nat.min_eq_left (show p ≤ vs.length by omega)]
/-- the signs of an int -/
def own_num (x : Int32) : List Nat := (if x < 0 then [45] else []) ++ own_dig x.toInt.natAbs
theorem own_numLen (x : Int32) : (own_num x).length ≤ 11 ∧ (own_dig x.toInt.natAbs).length ≤ 10 := by
  have h1 := x.le_toInt
  have h2 := x.toInt_lt
  have := (own_dlen 9 x.toInt.natAbs).mpr (by omega)
  unfold own_num
  rw [List.length_append]; split <;> simp <;> omega
theorem own_numMem (x : Int32) : ∀ c ∈ own_num x, c < 128 := by
  have h1 := x.le_toInt
  have h2 := x.toInt_lt
  intro c hc
  rcases List.mem_append.mp hc with z | z
  · split at z <;> simp at z; omega
  · have := own_dmem 9 x.toInt.natAbs (by omega) c z; omega
theorem own_m10 : (-10 : Int32) = own_m (10 ^ 1) := by decide
theorem own_mstep (i : Nat) : (10 : Int32) * own_m (10 ^ i) = own_m (10 ^ (i + 1)) := by
  rw [show (10 : Int32) = i32 10 from rfl, own_mmul, Nat.pow_succ, Nat.mul_comm]
theorem own_m100 {n : Nat} (h : n ≤ 2147483648) : (-100 : Int32) < own_m n ↔ n < 100 := by
  rw [show (-100 : Int32) = own_m 100 by decide, own_mlt (by decide) h]
theorem own_m9 {n : Nat} (h : n ≤ 2147483648) : own_m n < (-9 : Int32) ↔ 9 < n := by
  rw [show (-9 : Int32) = own_m 9 by decide, own_mlt h (by decide)]
theorem own_dec1 (p : Nat) : i32 (p + 1) + (-1 : Int32) = i32 p := by
  rw [← i32_add, show i32 1 = (1 : Int32) from rfl, Int32.add_assoc, show (1 : Int32) + -1 = 0 by decide, Int32.add_zero]
theorem own_pow9 {i : Nat} (h : i < 10) : 10 ^ i ≤ 1000000000 := Nat.pow_le_pow_right (n := 10) (by decide) (show i ≤ 9 by omega)
def own_ones : List Value := (List.range 100).map (fun j => Value.int (by8 (48 + j % 10)))
def own_tens : List Value := (List.range 100).map (fun j => Value.int (by8 (48 + j / 10)))
theorem own_onesAt {j : Nat} (h : j < 100) : own_ones[j]? = some (.int (by8 (48 + j % 10))) := by simp [own_ones, h]
theorem own_tensAt {j : Nat} (h : j < 100) : own_tens[j]? = some (.int (by8 (48 + j / 10))) := by simp [own_tens, h]
/-- Integer's two tables of signs, as the start has them -/
def own_DT (Z : State) (t1 t2 : Nat) (q1 q2 : ClassId) : Prop := Sta Z Z.heap "java/lang/Integer" "DigitOnes" "[B" (.ref t1) ∧ Sta Z Z.heap "java/lang/Integer" "DigitTens" "[B" (.ref t2) ∧ AV Z Z.heap t1 q1 .byte own_ones (.int 0) ∧ AV Z Z.heap t2 q2 .byte own_tens (.int 0)

/-- minus a number, a long -/
def own_ml (n : Nat) : Int64 := -(i64 n)
theorem bm64 {n : Int} (h1 : -9223372036854775808 ≤ n) (h2 : n < 9223372036854775808) : n.bmod (2 ^ 64) = n := Int.bmod_eq_of_le (by omega) (by omega)
theorem own_mlInt {n : Nat} (h : n < 9223372036854775808) : (own_ml n).toInt = -(n : Int) := by
  unfold own_ml
  rw [Int64.toInt_neg, i64_toInt h, bm64 (by omega) (by omega)]
theorem own_mllt {a b : Nat} (ha : a < 9223372036854775808) (hb : b < 9223372036854775808) : own_ml a < own_ml b ↔ b < a := by
  rw [Int64.lt_iff_toInt_lt, own_mlInt ha, own_mlInt hb]; omega
theorem own_mlmul (a b : Nat) : i64 a * own_ml b = own_ml (a * b) := by
  unfold own_ml; rw [Int64.mul_neg, i64_mul]
theorem own_ml10 : (-10 : Int64) = own_ml (10 ^ 1) := by decide
theorem own_mlstep (i : Nat) : (10 : Int64) * own_ml (10 ^ i) = own_ml (10 ^ (i + 1)) := by
  rw [show (10 : Int64) = i64 10 from rfl, own_mlmul, Nat.pow_succ, Nat.mul_comm]
theorem own_mlMin {n : Nat} (h : n < 9223372036854775808) : (-2147483648 : Int64) < own_ml n ↔ n < 2147483648 := by
  rw [show (-2147483648 : Int64) = own_ml 2147483648 by decide, own_mllt (by decide) h]
theorem own_mldiv {n : Nat} (h : n < 9223372036854775808) : own_ml n / 100 = own_ml (n / 100) := by
  refine Int64.toInt_inj.mp ?_
  rw [Int64.toInt_div_of_ne_right _ _ (by decide), own_mlInt h, own_mlInt (by omega), show (100 : Int64).toInt = 100 from rfl, Int.neg_tdiv]; rfl
theorem own_mlrem {n : Nat} (h : n < 9223372036854775808) : own_ml (n / 100) * 100 - own_ml n = i64 (n % 100) := by
  refine Int64.toInt_inj.mp ?_
  rw [Int64.toInt_sub, Int64.toInt_mul, own_mlInt h, own_mlInt (by omega), i64_toInt (by omega), show (100 : Int64).toInt = 100 from rfl, bm64 (n := -((n / 100 : Nat) : Int) * 100) (by omega) (by omega), bm64 (by omega) (by omega)]
  omega
theorem own_ml32 {n : Nat} (h : n < 2147483648) : (own_ml n).toInt32 = own_m n := by
  refine Int32.toInt_inj.mp ?_
  rw [Int64.toInt_toInt32, own_mlInt (by omega), own_mInt (by omega)]
  exact bm32 (by omega) (by omega)
theorem own_pow18 {i : Nat} (h : i < 19) : 10 ^ i ≤ 1000000000000000000 := Nat.pow_le_pow_right (n := 10) (by decide) (show i ≤ 18 by omega)
theorem own_dlen19 {N : Nat} (h : N < 9223372036854775808) : (own_dig N).length ≤ 19 := (own_dlen 18 N).mpr (by omega)

/-- an Optional that holds v -/
def own_O (Z : State) (h : Heap) (o : Nat) (v : Value) : Prop := Exa Z h o "java/util/Optional" ∧ Fld Z h o "java/util/Optional" "value" "Ljava/lang/Object;" v
theorem own_O.ext {Z : State} {h h' : Heap} {o : Nat} {v : Value} (F : own_O Z h o v) (E : Ext h h') : own_O Z h' o v := ⟨F.1.ext E, F.2.ext E⟩
theorem own_O.keep {Z : State} {h h' : Heap} {o : Nat} {v : Value} {ws : List Addr} (F : own_O Z h o v) (Kp : Keep h h' ws) (q : o ∉ ws) : own_O Z h' o v := ⟨F.1.keep Kp, F.2.keep Kp q⟩
/-- an Optional of a Latin-1 String, or an empty one -/
def own_OO (Z : State) (h : Heap) (o : Nat) (nm : Option (List Nat)) : Prop := (nm = none ∧ own_O Z h o .null) ∨ ∃ (ds : List Nat) (x sb : Nat) (sk : ClassId), nm = some ds ∧ own_O Z h o (.ref x) ∧ St Z h x sb sk ds
theorem own_OO.ext {Z : State} {h h' : Heap} {o : Nat} {nm : Option (List Nat)} (F : own_OO Z h o nm) (E : Ext h h') : own_OO Z h' o nm := F.elim (fun x => Or.inl ⟨x.1, x.2.ext E⟩) (fun ⟨ds, x, sb, sk, q1, q2, q3⟩ => Or.inr ⟨ds, x, sb, sk, q1, q2.ext E, q3.ext E⟩)
theorem own_OO.keep {Z : State} {h h' : Heap} {o : Nat} {nm : Option (List Nat)} (F : own_OO Z h o nm) (Kp : Keep h h' []) : own_OO Z h' o nm := F.elim (fun x => Or.inl ⟨x.1, x.2.keep Kp nin0⟩) (fun ⟨ds, x, sb, sk, q1, q2, q3⟩ => Or.inr ⟨ds, x, sb, sk, q1, q2.keep Kp nin0, q3.keep Kp nin0 nin0⟩)
/-- Optional.EMPTY, as the start has it -/
def own_OE (Z : State) (em : Nat) : Prop := Sta Z Z.heap "java/util/Optional" "EMPTY" "Ljava/util/Optional;" (.ref em) ∧ own_O Z Z.heap em .null

theorem own_apart {Z : State} {h : Heap} {a b sa sb : Nat} {k sk : ClassId} {vs : List Value} {cs ds : List Nat} {a0 : Array Value} {n1 n2 : Nat} (w1 : (Jvm.Cond.instantiable "java/lang/String" n1).before a0 Z = true) (w2 : (Jvm.Cond.instantiable "java/lang/StringBuilder" n2).before a0 Z = true) (B : own_SN Z h a b k vs cs) (S : St Z h sa sb sk ds) (hd : ds.length < 16) : sa ≠ a ∧ sb ≠ a ∧ sa ≠ b ∧ sb ≠ b :=
  ⟨Exa.neC S.1 B.1 (by decide), fun e => Exa.neArv B.1 S.2.2.2.1 w2 e.symm, fun e => Exa.neArv S.1 B.2.2.2.2.1.1 w1 e, AV.neLen S.2.2.2 B.2.2.2.2.1 (by rw [own_blen]; have := B.2.2.2.2.2.1; omega)⟩

/-- the site's shape, the class file that the rule writes for it, and its one method -/
def own_sh : Jvm.Lambda.Shape := (Jvm.Lambda.Shape.mk "java/util/function/Function" "apply" (Jvm.ClassFile.MethodDescriptor.mk ([(Jvm.ClassFile.FieldType.object "java/lang/Object")] : List Jvm.ClassFile.FieldType) (Option.some (Jvm.ClassFile.FieldType.object "java/lang/Object"))) ([] : List Jvm.ClassFile.FieldType) (6 : Nat) "com/example/wrange/wrange/IntegrityCheck" "lambda$withCharset$0" (Jvm.ClassFile.MethodDescriptor.mk ([(Jvm.ClassFile.FieldType.object "java/lang/String")] : List Jvm.ClassFile.FieldType) (Option.some (Jvm.ClassFile.FieldType.object "java/lang/String"))) true (Jvm.ClassFile.MethodDescriptor.mk ([(Jvm.ClassFile.FieldType.object "java/lang/String")] : List Jvm.ClassFile.FieldType) (Option.some (Jvm.ClassFile.FieldType.object "java/lang/String"))))
def own_D : ClassFile := (own_sh.file "com/example/wrange/wrange/IntegrityCheck").getD { minorVersion := 0, majorVersion := 0, constantPool := #[], accessFlags := 0, thisClass := 0, superClass := 0, interfaces := #[], fields := #[], methods := #[], attributes := #[] }
def own_fw : Method := ((layoutMethods own_D).bind (·[1]?)).getD default
def own_fb : ByteArray := ⟨#[43, 192, 0, 14, 184, 0, 20, 176]⟩
theorem own_f0 : decode own_fb 0 = .ok (.aload_n 1, 1) := by decide +kernel
theorem own_f1 : decode own_fb 1 = .ok (.checkcast 14, 3) := by decide +kernel
theorem own_f4 : decode own_fb 4 = .ok (.invokestatic 20, 3) := by decide +kernel
theorem own_f7 : decode own_fb 7 = .ok (.areturn, 1) := by decide +kernel
theorem own_file : own_sh.file "com/example/wrange/wrange/IntegrityCheck" = some own_D := by
  have h : (own_sh.file "com/example/wrange/wrange/IntegrityCheck").isSome = true := by decide +kernel
  obtain ⟨x, hx⟩ := Option.isSome_iff_exists.mp h
  simp [own_D, hx]
theorem own_second : ∀ ms, layoutMethods own_D = some ms → ms[1]? = some own_fw := by
  intro ms hms
  have h : ((layoutMethods own_D).bind (·[1]?)).isSome = true := by decide +kernel
  obtain ⟨x, hx⟩ := Option.isSome_iff_exists.mp h
  have hf : own_fw = x := by simp [own_fw, hx]
  rw [hms] at hx
  rw [hf]
  exact hx
theorem own_fcode : (own_fw.code.map fun c => (c.code.data, c.maxLocals)) = some (own_fb.data, 2) := by decide +kernel
theorem own_fflags : (own_fw.accessFlags, own_fw.sig.returnType) = (0x0001, some (FieldType.object "java/lang/Object")) := by decide +kernel
theorem own_e14 : own_D.constantPool[14]? = some (.class_ 13) ∧ own_D.constantPool.string? 13 = some "java/lang/String" ∧ 14 ≠ own_D.thisClass := by decide +kernel
theorem own_e16 : own_D.constantPool[16]? = some (.class_ 15) ∧ own_D.constantPool.string? 15 = some "com/example/wrange/wrange/IntegrityCheck" ∧ 16 ≠ own_D.thisClass := by decide +kernel
theorem own_e20 : own_D.constantPool[20]? = some (.interfaceMethodref 16 19) ∧ own_D.constantPool.className? 16 = some "com/example/wrange/wrange/IntegrityCheck" ∧ own_D.constantPool.nameAndType? 19 = some ("lambda$withCharset$0", "(Ljava/lang/String;)Ljava/lang/String;") := by decide +kernel
theorem own_resI {e : Setting} {vm : Vm} {cf : ClassFile} {fields : Array Field} {self : ClassId} {i ci nt : Nat} {cn name desc : String} {owner : ClassId} {k : Class} {m : MethodId} (hi : cf.constantPool[i]? = some (.interfaceMethodref ci nt)) (hc : cf.constantPool.className? ci = some cn)
    (hf : vm.findClass cn = some owner) (hk : vm.classes[owner]? = some k) (hnt : cf.constantPool.nameAndType? nt = some (name, desc)) (hl : ((methodIn owner name desc k.isInterface none).ask e vm).1 = .ok m) :
    (Lambda.resolvedOf e vm cf fields self)[i]? = some (some (.method m)) := by
  simp [Lambda.resolvedOf, Array.getElem?_mapIdx, hi, hc, hf, hk, hnt, hl]
def own_xi : MethodName := ⟨"java/util/function/Function", "apply", "(Ljava/lang/Object;)Ljava/lang/Object;"⟩
def own_la : MethodName := ⟨"com/example/wrange/wrange/IntegrityCheck", "lambda$withCharset$0", "(Ljava/lang/String;)Ljava/lang/String;"⟩
/-- what stands ready for a call of the site's object -/
def own_FO (Z : State) (f : Nat) : Prop := ∃ (cF : Cell) (cS : ClassId) (t : MethodId), Z.heap[f]? = some cF ∧ cF.vm = .none ∧ Jvm.Free.HMW.FnX own_xi cF.cls ⟨cF.cls, 1⟩ Z ∧ Z.vm.findClass "java/lang/String" = some cS ∧ Z.methodNamed? own_la = some t ∧ Mad Z cF.cls cS t own_fb 14 20
theorem own_made {Z : State} {a0 : Array Value} {f : Nat} {cF : Cell} {d : ClassId} {bytes : ByteArray} {mL : Nat} {rt : Option FieldType} {ys : MethodName} (hf : Z.heap[f]? = some cF) (hv : cF.vm = .none) (hd : Z.vm.findClass "com/example/wrange/wrange/IntegrityCheck" = some d) (h : Lambda.isMade { classPath := fun _ => none } Z.vm d own_sh cF.cls = true) (hcan : Z.lambdaCallable own_sh cF.cls = true)
    (wc : (Jvm.Cond.code own_la bytes mL rt).before a0 Z = true) (wi : (Jvm.Cond.interfaceMethod own_xi.cls own_xi.cls own_xi.name own_xi.desc).before a0 Z = true) (ws : (Jvm.Cond.instanceMethod ys).before a0 Z = true) (hys : ys.cls = "java/lang/String") : own_FO Z f := by
  obtain ⟨t, hnt⟩ := Cond.code_named wc
  have hdt : Z.vm.findClass "com/example/wrange/wrange/IntegrityCheck" = some t.cls := findClass_of_methodNamed hnt
  obtain ⟨kt, hkt, hname⟩ := className_of_methodNamed hnt
  have ed : d = t.cls := Option.some.inj (hd.symm.trans hdt)
  subst ed
  obtain ⟨ms, -, hns, -⟩ := Cond.instanceMethod_spec ws
  have hS : Z.vm.findClass "java/lang/String" = some ms.cls := by rw [← hys]; exact findClass_of_methodNamed hns
  have hlook := Jvm.Free.Fw.look_of_named hnt (by decide)
  obtain ⟨dk', k, ok, tk, file, cf, object, iface, toy, lay, methods, target, found, hd', hk, hfile, hcf, -, -, -, -, hms, ht, htk, hg, -, hrec, -, -, -, -, hpool, hmeth, -, -, hres, -⟩ := Lambda.isMade_spec h
  cases hkt.symm.trans hd'
  rw [show kt.name = "com/example/wrange/wrange/IntegrityCheck" from hname, own_file] at hcf
  cases hcf
  obtain ⟨b, hb, hsame⟩ := hmeth 1 own_fw (own_second methods hms)
  simp only [Lambda.sameMethod, Bool.and_eq_true, decide_eq_true_eq] at hsame
  obtain ⟨⟨hn, -, hsig, hfl⟩, hcode⟩ := hsame
  have fc := own_fcode
  have ff := own_fflags
  simp only [Prod.mk.injEq] at ff
  have hmk : Z.vm.method? ⟨cF.cls, 1⟩ = some b := by simp [Vm.method?, hk, hb]
  have hfx : Jvm.Free.HMW.FnX own_xi cF.cls ⟨cF.cls, 1⟩ Z := Jvm.Free.HMW.FnX.of_site h hcan rfl rfl (by decide +kernel) wi hk hmk (by rw [← hfl]; exact ff.1)
  refine ⟨cF, ms.cls, t, hf, hv, hfx, hS, hnt, ?_⟩
  cases hfc : own_fw.code with
  | none => rw [hfc] at fc; cases fc
  | some x =>
    cases hbc : b.code with
    | none => simp [hfc, hbc] at hcode
    | some y =>
      simp only [hfc, hbc, Bool.and_eq_true, decide_eq_true_eq] at hcode
      simp only [hfc, Option.map_some, Option.some.injEq, Prod.mk.injEq] at fc
      refine ⟨k, file, b, y, 16, 19, t.cls, "lambda$withCharset$0", "(Ljava/lang/String;)Ljava/lang/String;", hk, hfile, by rw [hrec.1, hname]; decide, hmk, hbc, ?_, by rw [← hcode.1.1.1.1.2.1]; exact fc.2, ?_, by rw [← hsig]; exact ff.2,
        hres 14 _ (Lambda.resolvedOf_class own_e14.1 own_e14.2.2 own_e14.2.1 hS), hres 20 _ (own_resI own_e20.1 own_e20.2.1 hdt hkt own_e20.2.2 (hlook _ _ hdt hkt)), Or.inr (by rw [hpool.2.1]; exact own_e20.1), by rw [hpool.2.1]; exact own_e20.2.2, hres 16 _ (Lambda.resolvedOf_class own_e16.1 own_e16.2.2 own_e16.2.1 hdt), rfl⟩
      · rw [← hcode.1.1.1.1.2.2]
        exact ByteArray.ext fc.1
      · simp [Method.locks, Method.isSynchronized, ← hfl, ff.1, hasFlag, Acc.synchronized]

theorem own_OO.exa {Z : State} {h : Heap} {o : Nat} {nm : Option (List Nat)} (F : own_OO Z h o nm) : Exa Z h o "java/util/Optional" := F.elim (fun x => x.2.1) (fun ⟨_, _, _, _, _, q, _⟩ => q.1)
def own_tx (nm : Option (List Nat)) : List Nat := (nm.map (44 :: ·)).getD []
theorem own_txLen {nm : Option (List Nat)} (h : ∀ ds, nm = some ds → ds.length ≤ 2) : (own_tx nm).length ≤ 3 := by
  cases nm with
  | none => exact Nat.zero_le _
  | some ds => have := h ds rfl; show (44 :: ds).length ≤ 3; rw [List.length_cons]; omega
def own_pre : List Nat := [108, 101, 110, 103, 116, 104, 61]
def own_w (N : Nat) (nm : Option (List Nat)) : List Nat := own_pre ++ (own_dig N ++ own_tx nm)
theorem own_wLen (N : Nat) (nm : Option (List Nat)) : (own_w N nm).length = 7 + (own_dig N).length + (own_tx nm).length := by
  rw [own_w, List.length_append, List.length_append, ← Nat.add_assoc]; rfl
theorem own_nx (A B : List Nat) (n : Nat) (h : A.length = n) (i : Nat) : (A ++ B)[n + i]? = B[i]? := by
  subst h; rw [List.getElem?_append_right (by omega), Nat.add_sub_cancel_left]
theorem own_fst {A B : List Nat} {i c : Nat} (h : A[i]? = some c) : (A ++ B)[i]? = some c := by
  rw [List.getElem?_append_left (lt_of_get h)]; exact h
theorem own_w0 {N : Nat} {nm : Option (List Nat)} {i c : Nat} (h : own_pre[i]? = some c) : (own_w N nm)[i]? = some c := own_fst h
theorem own_wD {N : Nat} {nm : Option (List Nat)} {d j : Nat} (ed : d = (own_dig N).length) (h : j < d) : (own_w N nm)[6 + d - j]? = some (48 + N / 10 ^ j % 10) := by
  subst ed
  have e := own_dget j N h
  rw [own_w, show 6 + (own_dig N).length - j = 7 + ((own_dig N).length - 1 - j) by omega, own_nx _ _ 7 rfl]
  exact own_fst e
theorem own_wT {N : Nat} {nm : Option (List Nat)} {d i c : Nat} (ed : d = (own_dig N).length) (h : (own_tx nm)[i]? = some c) : (own_w N nm)[7 + d + i]? = some c := by
  subst ed
  rw [own_w, Nat.add_assoc, own_nx _ _ 7 rfl, own_nx _ _ _ rfl]; exact h
def own_pows : List Value := (List.range 19).map (fun i => Value.long (i64 (10 ^ i)))
theorem own_powAt {k : Nat} (h : k < 19) : own_pows[k]? = some (.long (i64 (10 ^ k))) := by simp [own_pows, h]
theorem own_powSet : (((((((((((((((((((List.replicate 19 (defaultValue .long)).set 0 (Value.long (1 : Int64))).set 1 (Value.long (10 : Int64))).set 2 (Value.long (100 : Int64))).set 3 (Value.long (1000 : Int64))).set 4 (Value.long (10000 : Int64))).set 5 (Value.long (100000 : Int64))).set 6 (Value.long (1000000 : Int64))).set 7 (Value.long (10000000 : Int64))).set 8 (Value.long (100000000 : Int64))).set 9 (Value.long (1000000000 : Int64))).set 10 (Value.long (10000000000 : Int64))).set 11 (Value.long (100000000000 : Int64))).set 12 (Value.long (1000000000000 : Int64))).set 13 (Value.long (10000000000000 : Int64))).set 14 (Value.long (100000000000000 : Int64))).set 15 (Value.long (1000000000000000 : Int64))).set 16 (Value.long (10000000000000000 : Int64))).set 17 (Value.long (100000000000000000 : Int64))).set 18 (Value.long (1000000000000000000 : Int64)) = own_pows := by
  rfl

theorem own_ss {s : State} {args : Array Value} (hsets : ∀ w ∈ jdkStatics_1, w.before args s = true) : ∃ (cc : Int32) (fv : Value), own_SS s cc fv := by
  have h1 := Cond.before_iff.mp (hsets _ (List.mem_of_getElem? (i := 1) rfl))
  have h2 := Cond.before_iff.mp (hsets _ (List.mem_of_getElem? (i := 2) rfl))
  have h8 := Cond.before_iff.mp (hsets _ (List.mem_of_getElem? (i := 8) rfl))
  obtain ⟨cc, ec⟩ := is_v h1
  obtain ⟨fv, ef, hr⟩ := isR_v h8
  refine ⟨cc, fv, Sta.start ec (Or.inl (hsets _ (List.mem_of_getElem? (i := 0) rfl))), fun q => ?_, Sta.start ef (Or.inl (hsets _ (List.mem_of_getElem? (i := 7) rfl))), hr⟩
  have x1 := not_v h2
  have x2 := eq_i ec (Term.int_eval 0) (by rw [q])
  rw [x2] at x1
  cases x1

set_option maxRecDepth 65536 in
set_option maxHeartbeats 4000000 in
theorem c_coder (l : Launch) (Z : State) (a0 : Array Value) (hw : ∀ d ∈ tables_1, d.before a0 Z = true) (n0 : Nat) (h0 : Heap) (cc : Int32) (fv : Value) (ss : own_SS Z cc fv) (ol : Od Z n0 h0) (a : Nat) (F : Fld Z h0 a "java/lang/String" "coder" "B" (.int 0)) :
    Con l [] (⟨"java/lang/String", "coder", "()B"⟩ : MethodName) jdk_42_method_152_code 1 (some .byte) ({ frames := 0, cells := 0, slots := 0, locals := 0 } : Room) Z #[(.ref a)] h0 n0 (fun v h => v = some (.int 0) ∧ h0 = h) := by
  refine enter (Ls := #[.val (.ref a)]) pn0 (fun m => by first | (simp [entryFrame, mkF, argsToLocals, Value.category]; done) | rfl) ?_
  intro K C
  refine r_getS C (pc' := 3) d18_0 rfl (w39 hw) Via.refl (ss.1.ext ol.2) ?_
  refine r_if_eq_f C (pc' := 6) d18_3 rfl ss.2.1 ?_
  refine r_aloadN C (pc' := 7) d18_6 rfl rfl rfl ?_
  refine r_getF C (pc' := 10) d18_7 rfl (w51 hw) Via.refl F ?_
  refine r_goto C (pc' := 14) d18_10 (by decide) (by decide) ?_
  exact r_breturn C d18_14 rfl (by decide) (by decide) (Nat.zero_le _) (fun _ _ => ⟨rfl, rfl⟩)
set_option maxRecDepth 65536 in
set_option maxHeartbeats 4000000 in
theorem c_length (l : Launch) (Z : State) (a0 : Array Value) (hw : ∀ d ∈ tables_1, d.before a0 Z = true) (n0 : Nat) (h0 : Heap) (cc : Int32) (fv : Value) (ss : own_SS Z cc fv) (ol : Od Z n0 h0) (a b : Nat) (k : ClassId) (cs : List Nat) (S : St Z h0 a b k cs) :
    Con l [] (⟨"java/lang/String", "length", "()I"⟩ : MethodName) jdk_42_method_54_code 1 (some .int) ({ frames := 1, cells := 0, slots := 0, locals := 13 } : Room) Z #[(.ref a)] h0 n0 (fun v h => v = some (.int (i32 cs.length)) ∧ h0 = h) := by
  refine enter (Ls := #[.val (.ref a)]) pn1 (fun m => by first | (simp [entryFrame, mkF, argsToLocals, Value.category]; done) | rfl) ?_
  intro K C
  refine r_aloadN C (pc' := 1) d17_0 rfl rfl rfl ?_
  refine r_getF C (pc' := 4) d17_1 rfl (w53 hw) Via.refl S.2.2.1 ?_
  refine r_lengthV C (pc' := 5) (n := cs.length) d17_4 rfl S.2.2.2 (own_blen cs) ?_
  refine r_aloadN C (pc' := 6) d17_5 rfl rfl rfl ?_
  refine r_callV C (pc' := 9) (argsL := []) (c_coder l Z a0 hw n0 h0 cc fv ss ol a S.2.1) S.1 d17_6 rfl (w122 hw) (w123 hw) (nfSel (z := ({ cls := "java/lang/String", name := "coder", desc := "()B" } : Jvm.MethodName)) (w125 hw)) (w125 hw) (w124 hw) (w27 hw) (w126 hw) (by decide) pd0 (st := [.int (i32 cs.length)]) rfl rfl rfl (W := 1) (Nat.le_of_eq rfl) (by decide) (by decide) (by decide) (by decide) (cells' := 0) (slots' := 0) rfl rfl ?_
  rintro _ _ ⟨rfl, rfl⟩
  show Run _ _ _ _ _ _ _ _ 9 #[.val (.ref a)] [.int (0 : Int32), .int (i32 cs.length)]
  refine r_ishr C (pc' := 10) d17_9 rfl ?_
  rw [own_shr0]
  exact r_ireturn C d17_10 (by decide) (by decide) (Nat.zero_le _) (fun _ _ => ⟨rfl, rfl⟩)
set_option maxRecDepth 65536 in
set_option maxHeartbeats 4000000 in
theorem c_min (l : Launch) (Z : State) (a0 : Array Value) (hw : ∀ d ∈ tables_1, d.before a0 Z = true) (n0 : Nat) (h0 : Heap) (x y : Nat) (hx : x < 2147483648) (hy : y < 2147483648) :
    Con l [] (⟨"java/lang/Math", "min", "(II)I"⟩ : MethodName) jdk_29_method_69_code 2 (some .int) ({ frames := 0, cells := 0, slots := 0, locals := 0 } : Room) Z #[(.int (i32 x)), (.int (i32 y))] h0 n0 (fun v h => v = some (.int (i32 (min x y))) ∧ h0 = h) := by
  refine enter (Ls := #[.val (.int (i32 x)), .val (.int (i32 y))]) pn2 (fun m => by first | (simp [entryFrame, mkF, argsToLocals, Value.category]; done) | rfl) ?_
  intro K C
  refine r_iloadN C (pc' := 1) d37_0 rfl rfl ?_
  refine r_iloadN C (pc' := 2) d37_1 rfl rfl ?_
  refine r_icmp_gt C (pt := 9) (pc' := 5) d37_2 (by decide) (by decide) rfl ?_ ?_
  · intro q
    have q' : y < x := (i32_lt hy hx).mp q
    refine r_iloadN C (pc' := 10) d37_9 rfl rfl ?_
    exact r_ireturn C d37_10 (by decide) (by decide) (Nat.zero_le _) (fun _ _ => ⟨by rw [Nat.min_eq_right (by omega)], rfl⟩)
  · intro q
    have q' : ¬ y < x := fun z => q ((i32_lt hy hx).mpr z)
    refine r_iloadN C (pc' := 6) d37_5 rfl rfl ?_
    refine r_goto C (pc' := 10) d37_6 (by decide) (by decide) ?_
    exact r_ireturn C d37_10 (by decide) (by decide) (Nat.zero_le _) (fun _ _ => ⟨by rw [Nat.min_eq_left (by omega)], rfl⟩)
set_option maxRecDepth 65536 in
set_option maxHeartbeats 4000000 in
theorem n_asbinit (l : Launch) (Z : State) (a0 : Array Value) (hw : ∀ d ∈ tables_1, d.before a0 Z = true) (n0 : Nat) (h0 : Heap) (cc : Int32) (fv : Value) (ss : own_SS Z cc fv) (ol : Od Z n0 h0) (a : Nat) (ge : n0 ≤ a) (hn : n0 ≤ h0.size) (E : Exa Z h0 a "java/lang/StringBuilder") (Fv : Fld Z h0 a "java/lang/AbstractStringBuilder" "value" "[B" .null) (Fc : Fld Z h0 a "java/lang/AbstractStringBuilder" "coder" "B" (.int 0)) (Fn : Fld Z h0 a "java/lang/AbstractStringBuilder" "count" "I" (.int 0)) :
    Con l [] (⟨"java/lang/AbstractStringBuilder", "<init>", "(I)V"⟩ : MethodName) jdk_68_method_2_code 2 none ({ frames := 1, cells := 1, slots := 16, locals := 12 } : Room) Z #[(.ref a), (.int (16 : Int32))] h0 n0 (fun v h => v = none ∧ Keep h0 h [a] ∧ ∃ (b : Nat) (k : ClassId), own_SN Z h a b k (List.replicate 16 (.int 0)) [] ∧ b = h0.size) := by
  refine enter (Ls := #[.val (.ref a), .val (.int (16 : Int32))]) pn3 (fun m => by first | (simp [entryFrame, mkF, argsToLocals, Value.category]; done) | rfl) ?_
  intro K C
  have ha := exaLt E
  refine r_aloadN C (pc' := 1) d14_0 rfl rfl rfl ?_
  refine r_initO C (pc' := 4) (W := 0) d14_1 rfl (w100 hw) (w37 hw) (w38 hw) rfl (by decide) (Nat.le_of_eq rfl) (by decide) ?_
  refine r_getS C (pc' := 7) d14_4 rfl (w101 hw) Via.refl (ss.1.ext ol.2) ?_
  refine r_if_eq_f C (pc' := 10) d14_7 rfl ss.2.1 ?_
  refine r_aloadN C (pc' := 11) d14_10 rfl rfl rfl ?_
  refine r_iloadN C (pc' := 12) d14_11 rfl rfl ?_
  refine r_newarrayE C (pc' := 14) (ty := .byte) (ad := "[B") (m := 16) (cap := 16) d14_12 rfl rfl (w44 hw) (by decide) rfl (by decide) (by decide) (by decide) (by decide) ?_
  intro h1 b kb gb E1 B Eb
  have x1 := E1.1
  replace Fv := Fv.ext E1
  replace Fc := Fc.ext E1
  replace Fn := Fn.ext E1
  replace E := E.ext E1
  refine r_putF C (pc' := 17) d14_14 rfl (w102 hw) Via.refl Fv E (Or.inl (w103 hw)) (w89 hw) (ty := (.array .byte)) (by decide) rfl rfl ge ?_
  intro h2 W2
  replace Fv := Fv.same W2
  replace Fc := Fc.other W2 (Or.inr (sn0 (Z := Z) hw))
  replace Fn := Fn.other W2 (Or.inr (sn1 (Z := Z) hw))
  replace E := E.wr W2
  replace B := B.other W2 (nn (by omega))
  replace Eb := Eb.wr W2
  refine r_aloadN C (pc' := 18) d14_17 rfl rfl rfl ?_
  refine r_iconst C (pc' := 19) (v := 0) d14_18 rfl rfl ?_
  refine r_putF C (pc' := 22) d14_19 rfl (w104 hw) Via.refl Fc E (Or.inl (w105 hw)) (w89 hw) (ty := .byte) (by decide) rfl rfl ge ?_
  intro h3 W3
  replace Fv := Fv.other W3 (Or.inr (sn2 (Z := Z) hw))
  replace Fc := Fc.same W3
  replace Fn := Fn.other W3 (Or.inr (sn3 (Z := Z) hw))
  replace E := E.wr W3
  replace B := B.other W3 (nn (by omega))
  replace Eb := Eb.wr W3
  refine r_goto C (pc' := 38) d14_22 (by decide) (by decide) ?_
  exact r_return C d14_38 (by decide) (by decide) (Nat.zero_le _) (fun _ _ => ⟨rfl, (((Keep.refl h0 [a]).ext E1).wr W2 (Or.inl (by simp))).wr W3 (Or.inl (by simp)), b, kb, ⟨E, Fv, Fc, Fn, B, Or.inl rfl, rfl, by decide, by omega, Eb⟩, gb⟩)
set_option maxRecDepth 65536 in
set_option maxHeartbeats 4000000 in
theorem n_sbinit (l : Launch) (Z : State) (a0 : Array Value) (hw : ∀ d ∈ tables_1, d.before a0 Z = true) (n0 : Nat) (h0 : Heap) (cc : Int32) (fv : Value) (ss : own_SS Z cc fv) (ol : Od Z n0 h0) (a : Nat) (ge : n0 ≤ a) (hn : n0 ≤ h0.size) (E : Exa Z h0 a "java/lang/StringBuilder") (Fv : Fld Z h0 a "java/lang/AbstractStringBuilder" "value" "[B" .null) (Fc : Fld Z h0 a "java/lang/AbstractStringBuilder" "coder" "B" (.int 0)) (Fn : Fld Z h0 a "java/lang/AbstractStringBuilder" "count" "I" (.int 0)) :
    Con l [] (⟨"java/lang/StringBuilder", "<init>", "()V"⟩ : MethodName) jdk_67_method_1_code 1 none ({ frames := 2, cells := 1, slots := 16, locals := 25 } : Room) Z #[(.ref a)] h0 n0 (fun v h => v = none ∧ Keep h0 h [a] ∧ ∃ (b : Nat) (k : ClassId), own_SN Z h a b k (List.replicate 16 (.int 0)) [] ∧ b = h0.size) := by
  refine enter (Ls := #[.val (.ref a)]) pn4 (fun m => by first | (simp [entryFrame, mkF, argsToLocals, Value.category]; done) | rfl) ?_
  intro K C
  refine r_aloadN C (pc' := 1) d13_0 rfl rfl rfl ?_
  refine r_bipush C (pc' := 3) (v := (16)) d13_1 rfl rfl ?_
  refine r_callI C (pc' := 6) (argsL := [.int (16 : Int32)]) (n_asbinit l Z a0 hw n0 h0 cc fv ss ol a ge hn E Fv Fc Fn) d13_3 rfl (w94 hw) (w95 hw) (w98 hw) (w99 hw) rfl (by decide) pd1 (st := []) rfl rfl rfl (W := 0) (Nat.le_of_eq rfl) (by decide) (by decide) (by decide) (by decide) (cells' := 1) (slots' := 16) rfl rfl ?_
  rintro _ h1 ⟨rfl, K1, r⟩
  show Run _ _ _ _ _ h1 _ _ 6 #[.val (.ref a)] []
  exact r_return C d13_6 (by decide) (by decide) (Nat.zero_le _) (fun _ _ => ⟨rfl, K1, r⟩)
set_option maxRecDepth 65536 in
set_option maxHeartbeats 4000000 in
theorem n_max (l : Launch) (Z : State) (a0 : Array Value) (hw : ∀ d ∈ tables_1, d.before a0 Z = true) (n0 : Nat) (h0 : Heap) (x y : Nat) (hx : x < 2147483648) (hy : y < 2147483648) :
    Con l [] (⟨"java/lang/Math", "max", "(II)I"⟩ : MethodName) jdk_29_method_65_code 2 (some .int) ({ frames := 0, cells := 0, slots := 0, locals := 0 } : Room) Z #[(.int (i32 x)), (.int (i32 y))] h0 n0 (fun v h => v = some (.int (i32 (max x y))) ∧ h0 = h) := by
  refine enter (Ls := #[.val (.int (i32 x)), .val (.int (i32 y))]) pn5 (fun m => by first | (simp [entryFrame, mkF, argsToLocals, Value.category]; done) | rfl) ?_
  intro K C
  refine r_iloadN C (pc' := 1) d50_0 rfl rfl ?_
  refine r_iloadN C (pc' := 2) d50_1 rfl rfl ?_
  refine r_icmp_lt C (pt := 9) (pc' := 5) d50_2 (by decide) (by decide) rfl ?_ ?_
  · intro q
    have q' : x < y := (i32_lt hx hy).mp q
    refine r_iloadN C (pc' := 10) d50_9 rfl rfl ?_
    exact r_ireturn C d50_10 (by decide) (by decide) (Nat.zero_le _) (fun _ _ => ⟨by rw [Nat.max_eq_right (by omega)], rfl⟩)
  · intro q
    have q' : ¬ x < y := fun z => q ((i32_lt hx hy).mpr z)
    refine r_iloadN C (pc' := 6) d50_5 rfl rfl ?_
    refine r_goto C (pc' := 10) d50_6 (by decide) (by decide) ?_
    exact r_ireturn C d50_10 (by decide) (by decide) (Nat.zero_le _) (fun _ _ => ⟨by rw [Nat.max_eq_left (by omega)], rfl⟩)
set_option maxRecDepth 65536 in
set_option maxHeartbeats 4000000 in
theorem n_newLength (l : Launch) (Z : State) (a0 : Array Value) (hw : ∀ d ∈ tables_1, d.before a0 Z = true) (n0 : Nat) (h0 : Heap) (o x y : Nat) (ho : 0 < o) (h1 : o < 1000000) (h2 : x < 1000000) (h3 : y < 1000000) :
    Con l [] (⟨"jdk/internal/util/ArraysSupport", "newLength", "(III)I"⟩ : MethodName) jdk_48_method_27_code 4 (some .int) ({ frames := 1, cells := 0, slots := 0, locals := 14 } : Room) Z #[(.int (i32 o)), (.int (i32 x)), (.int (i32 y))] h0 n0 (fun v h => v = some (.int (i32 (o + max x y))) ∧ h0 = h) := by
  refine enter (Ls := #[.val (.int (i32 o)), .val (.int (i32 x)), .val (.int (i32 y)), .unset]) pn6 (fun m => by first | (simp [entryFrame, mkF, argsToLocals, Value.category]; done) | rfl) ?_
  intro K C
  refine r_iloadN C (pc' := 1) d49_0 rfl rfl ?_
  refine r_iloadN C (pc' := 2) d49_1 rfl rfl ?_
  refine r_iloadN C (pc' := 3) d49_2 rfl rfl ?_
  refine r_callS C (pc' := 6) (argsL := [.int (i32 x), .int (i32 y)]) (n_max l Z a0 hw n0 h0 x y (by omega) (by omega)) d49_3 rfl (w287 hw) (w288 hw) (w217 hw) (w289 hw) (by decide) pd2 (st := [.int (i32 o)]) rfl rfl rfl (W := 1) (Nat.le_of_eq rfl) (by decide) (by decide) (by decide) (by decide) (cells' := 0) (slots' := 0) rfl rfl ?_
  rintro _ _ ⟨rfl, rfl⟩
  show Run _ _ _ _ _ _ _ _ 6 #[.val (.int (i32 o)), .val (.int (i32 x)), .val (.int (i32 y)), .unset] [.int (i32 (max x y)), .int (i32 o)]
  refine r_iadd C (pc' := 7) d49_6 rfl ?_
  rw [i32_add]
  refine r_istoreN C (pc' := 8) (Ls' := #[.val (.int (i32 o)), .val (.int (i32 x)), .val (.int (i32 y)), .val (.int (i32 (o + max x y)))]) d49_7 rfl rfl ?_
  refine r_iconst C (pc' := 9) (v := 0) d49_8 rfl rfl ?_
  refine r_iloadN C (pc' := 10) d49_9 rfl rfl ?_
  refine r_icmp_ge_f C (pc' := 13) d49_10 rfl ((i32_lt (a := 0) (by decide) (by omega)).mpr (by omega)) ?_
  refine r_iloadN C (pc' := 14) d49_13 rfl rfl ?_
  refine r_ldcI C (pc' := 16) d49_14 rfl (w290 hw) ?_
  refine r_icmp_gt_f C (pc' := 19) d49_16 rfl (fun q => absurd ((i32_lt (a := 2147483639) (by decide) (by omega)).mp q) (by omega)) ?_
  refine r_iloadN C (pc' := 20) d49_19 rfl rfl ?_
  exact r_ireturn C d49_20 (by decide) (by decide) (Nat.zero_le _) (fun _ _ => ⟨rfl, rfl⟩)
set_option maxRecDepth 65536 in
set_option maxHeartbeats 4000000 in
theorem n_newCap (l : Launch) (Z : State) (a0 : Array Value) (hw : ∀ d ∈ tables_1, d.before a0 Z = true) (n0 : Nat) (h0 : Heap) (a b : Nat) (k : ClassId) (vs : List Value) (cs : List Nat) (B : own_SN Z h0 a b k vs cs) (m : Nat) (hm : vs.length < m) (hm2 : m ≤ 2 * vs.length + 2) :
    Con l [] (⟨"java/lang/AbstractStringBuilder", "newCapacity", "(I)I"⟩ : MethodName) jdk_68_method_10_code 6 (some .int) ({ frames := 2, cells := 0, slots := 0, locals := 29 } : Room) Z #[(.ref a), (.int (i32 m))] h0 n0 (fun v h => v = some (.int (i32 (2 * vs.length + 2))) ∧ h0 = h) := by
  refine enter (Ls := #[.val (.ref a), .val (.int (i32 m)), .unset, .unset, .unset, .unset]) pn7 (fun m => by first | (simp [entryFrame, mkF, argsToLocals, Value.category]; done) | rfl) ?_
  intro K C
  have hv := B.2.2.2.2.2.1
  refine r_aloadN C (pc' := 1) d48_0 rfl rfl rfl ?_
  refine r_getF C (pc' := 4) d48_1 rfl (w102 hw) Via.refl B.2.1 ?_
  refine r_lengthV C (pc' := 5) (n := vs.length) d48_4 rfl B.2.2.2.2.1 rfl ?_
  refine r_istoreN C (pc' := 6) (Ls' := #[.val (.ref a), .val (.int (i32 m)), .val (.int (i32 vs.length)), .unset, .unset, .unset]) d48_5 rfl rfl ?_
  refine r_iloadN C (pc' := 7) d48_6 rfl rfl ?_
  refine r_aloadN C (pc' := 8) d48_7 rfl rfl rfl ?_
  refine r_getF C (pc' := 11) d48_8 rfl (w104 hw) Via.refl B.2.2.1 ?_
  refine r_ishl C (pc' := 12) d48_11 rfl ?_
  rw [own_shl0]
  refine r_istoreN C (pc' := 13) (Ls' := #[.val (.ref a), .val (.int (i32 m)), .val (.int (i32 vs.length)), .val (.int (i32 m)), .unset, .unset]) d48_12 rfl rfl ?_
  refine r_iloadN C (pc' := 14) d48_13 rfl rfl ?_
  refine r_iloadN C (pc' := 15) d48_14 rfl rfl ?_
  refine r_isub C (pc' := 16) d48_15 rfl ?_
  rw [show i32 m - i32 vs.length = i32 (m - vs.length) from i32_sub (by omega)]
  refine r_istore C (pc' := 18) (Ls' := #[.val (.ref a), .val (.int (i32 m)), .val (.int (i32 vs.length)), .val (.int (i32 m)), .val (.int (i32 (m - vs.length))), .unset]) d48_16 rfl rfl ?_
  refine r_iloadN C (pc' := 19) d48_18 rfl rfl ?_
  refine r_iload C (pc' := 21) d48_19 rfl rfl ?_
  refine r_iloadN C (pc' := 22) d48_21 rfl rfl ?_
  refine r_iconst C (pc' := 23) (v := 2) d48_22 rfl rfl ?_
  refine r_aloadN C (pc' := 24) d48_23 rfl rfl rfl ?_
  refine r_getF C (pc' := 27) d48_24 rfl (w104 hw) Via.refl B.2.2.1 ?_
  refine r_ishl C (pc' := 28) d48_27 rfl ?_
  refine r_iadd C (pc' := 29) d48_28 rfl ?_
  rw [own_shl0, show i32 vs.length + (2 : Int32) = i32 (vs.length + 2) from i32_add _ 2]
  refine r_callS C (pc' := 32) (argsL := [.int (i32 vs.length), .int (i32 (m - vs.length)), .int (i32 (vs.length + 2))]) (n_newLength l Z a0 hw n0 h0 vs.length (m - vs.length) (vs.length + 2) (by omega) (by omega) (by omega) (by omega)) d48_29 rfl (w283 hw) (w284 hw) (w285 hw) (w286 hw) (by decide) pd3 (st := []) rfl rfl rfl (W := 0) (Nat.le_of_eq rfl) (by decide) (by decide) (by decide) (by decide) (cells' := 0) (slots' := 0) rfl rfl ?_
  rintro _ _ ⟨rfl, rfl⟩
  show Run _ _ _ _ _ _ _ _ 32 #[.val (.ref a), .val (.int (i32 m)), .val (.int (i32 vs.length)), .val (.int (i32 m)), .val (.int (i32 (m - vs.length))), .unset] [.int (i32 (vs.length + max (m - vs.length) (vs.length + 2)))]
  rw [show vs.length + max (m - vs.length) (vs.length + 2) = 2 * vs.length + 2 by omega]
  refine r_istore C (pc' := 34) (Ls' := #[.val (.ref a), .val (.int (i32 m)), .val (.int (i32 vs.length)), .val (.int (i32 m)), .val (.int (i32 (m - vs.length))), .val (.int (i32 (2 * vs.length + 2)))]) d48_32 rfl rfl ?_
  refine r_iload C (pc' := 36) d48_34 rfl rfl ?_
  refine r_ldcI C (pc' := 38) d48_36 rfl (w291 hw) ?_
  refine r_icmp_ne_t C (pc' := 51) d48_38 (by decide) (by decide) (fun q => absurd ((i32_eq (b := 2147483647) (by omega) (by decide)).mp q) (by omega)) ?_
  refine r_iload C (pc' := 53) d48_51 rfl rfl ?_
  refine r_aloadN C (pc' := 54) d48_53 rfl rfl rfl ?_
  refine r_getF C (pc' := 57) d48_54 rfl (w104 hw) Via.refl B.2.2.1 ?_
  refine r_ishr C (pc' := 58) d48_57 rfl ?_
  rw [own_shr0]
  exact r_ireturn C d48_58 (by decide) (by decide) (Nat.zero_le _) (fun _ _ => ⟨rfl, rfl⟩)
set_option maxRecDepth 65536 in
set_option maxHeartbeats 4000000 in
theorem n_copyOf (l : Launch) (Z : State) (a0 : Array Value) (hw : ∀ d ∈ tables_1, d.before a0 Z = true) (n0 : Nat) (h0 : Heap) (hn0 : n0 ≤ h0.size) (b : Nat) (k : ClassId) (vs : List Value) (A : AV Z h0 b k .byte vs (.int 0)) (hv : 2 * vs.length + 2 ≤ 34) :
    Con l [] (⟨"java/util/Arrays", "copyOf", "([BI)[B"⟩ : MethodName) jdk_65_method_121_code 3 (some (.array .byte)) ({ frames := 1, cells := 1, slots := 34, locals := 40 } : Room) Z #[(.ref b), (.int (i32 (2 * vs.length + 2)))] h0 n0 (fun v h => ∃ (b2 : Nat) (k2 : ClassId), v = some (.ref b2) ∧ b2 = h0.size ∧ Keep h0 h [] ∧ AV Z h b2 k2 .byte (vs ++ List.replicate (vs.length + 2) (.int 0)) (.int 0) ∧ Exa Z h b2 "[B") := by
  refine enter (Ls := #[.val (.ref b), .val (.int (i32 (2 * vs.length + 2))), .unset]) pn8 (fun m => by first | (simp [entryFrame, mkF, argsToLocals, Value.category]; done) | rfl) ?_
  intro K C
  have lb := A.lt
  refine r_iloadN C (pc' := 1) d51_0 rfl rfl ?_
  refine r_aloadN C (pc' := 2) d51_1 rfl rfl rfl ?_
  refine r_lengthV C (pc' := 3) (n := vs.length) d51_2 rfl A rfl ?_
  refine r_icmp_ne_t C (pc' := 14) d51_3 (by decide) (by decide) (fun q => absurd ((i32_eq (by omega) (by omega)).mp q) (by omega)) ?_
  refine r_iloadN C (pc' := 15) d51_14 rfl rfl ?_
  refine r_newarrayE C (pc' := 17) (ty := .byte) (ad := "[B") (m := (2 * vs.length + 2)) (cap := 34) d51_15 rfl rfl (w44 hw) (by decide) rfl (by omega) (by decide) (by decide) (by decide) ?_
  intro h1 b2 k2 gb E1 B1 Eb
  have x1 := E1.1
  refine r_astoreN C (pc' := 18) (Ls' := #[.val (.ref b), .val (.int (i32 (2 * vs.length + 2))), .val (.ref b2)]) d51_17 rfl rfl rfl ?_
  refine r_aloadN C (pc' := 19) d51_18 rfl rfl rfl ?_
  refine r_iconst C (pc' := 20) (v := 0) d51_19 rfl rfl ?_
  refine r_aloadN C (pc' := 21) d51_20 rfl rfl rfl ?_
  refine r_iconst C (pc' := 22) (v := 0) d51_21 rfl rfl ?_
  refine r_aloadN C (pc' := 23) d51_22 rfl rfl rfl ?_
  refine r_lengthV C (pc' := 24) (n := vs.length) d51_23 rfl (A.ext E1) rfl ?_
  refine r_iloadN C (pc' := 25) d51_24 rfl rfl ?_
  refine r_callS C (pc' := 28) (argsL := [.int (i32 vs.length), .int (i32 (2 * vs.length + 2))]) (c_min l Z a0 hw n0 h1 vs.length (2 * vs.length + 2) (by omega) (by omega)) d51_25 rfl (w215 hw) (w216 hw) (w217 hw) (w218 hw) (by decide) pd2 (st := [.int (0 : Int32), .ref b2, .int (0 : Int32), .ref b]) rfl rfl rfl (W := 4) (Nat.le_of_eq rfl) (by decide) (by decide) (by decide) (by decide) (cells' := 1) (slots' := 34) rfl rfl ?_
  rintro _ _ ⟨rfl, rfl⟩
  show Run _ _ _ _ _ _ _ _ 28 #[.val (.ref b), .val (.int (i32 (2 * vs.length + 2))), .val (.ref b2)] [.int (i32 (min vs.length (2 * vs.length + 2))), .int (0 : Int32), .ref b2, .int (0 : Int32), .ref b]
  rw [Nat.min_eq_left (by omega)]
  refine r_copy C (pc' := 31) (sp := 0) (dp := 0) (n := vs.length) (W := 0) d51_28 rfl (w219 hw) (w153 hw) (w151 hw) (w152 hw) (A.ext E1) B1 rfl rfl rfl rfl (by omega) (by rw [List.length_replicate]; omega) (by omega) rfl (by decide) (Nat.le_of_eq rfl) (by decide) ?_
  intro h2 K2 B2
  refine r_aloadN C (pc' := 32) d51_31 rfl rfl rfl ?_
  have B3 := B2.cast (show _ = vs ++ List.replicate (vs.length + 2) (.int 0) by rw [List.take_zero, List.drop_zero, List.nil_append, List.take_length, Nat.zero_add, show 2 * vs.length + 2 = vs.length + (vs.length + 2) by omega, List.drop_replicate, Nat.add_sub_cancel_left]; rfl)
  exact r_areturn C d51_32 rfl rfl (by decide) (by decide) (Nat.zero_le _) (fun _ _ => ⟨b2, k2, rfl, gb, ((Keep.refl h0 []).ext E1).trans K2 (allS (Or.inr (by omega)) all0), B3, Eb.keep K2⟩)
set_option maxRecDepth 65536 in
set_option maxHeartbeats 4000000 in
theorem n_ensure (l : Launch) (Z : State) (a0 : Array Value) (hw : ∀ d ∈ tables_1, d.before a0 Z = true) (n0 : Nat) (h0 : Heap) (a b : Nat) (k : ClassId) (vs : List Value) (cs : List Nat) (B : own_SN Z h0 a b k vs cs) (hn0 : n0 ≤ h0.size) (ge : n0 ≤ a) (m : Nat) (hm : m ≤ 34) (hg : m ≤ 2 * vs.length + 2) :
    Con l [] (⟨"java/lang/AbstractStringBuilder", "ensureCapacityInternal", "(I)V"⟩ : MethodName) jdk_68_method_9_code 3 none ({ frames := 3, cells := 1, slots := 34, locals := 55 } : Room) Z #[(.ref a), (.int (i32 m))] h0 n0 (fun v h => v = none ∧ Keep h0 h [a] ∧ ∃ (b' : Nat) (k' : ClassId) (vs' : List Value), own_SN Z h a b' k' vs' cs ∧ m ≤ vs'.length ∧ (b' = b ∨ h0.size ≤ b')) := by
  refine enter (Ls := #[.val (.ref a), .val (.int (i32 m)), .unset]) pn9 (fun m => by first | (simp [entryFrame, mkF, argsToLocals, Value.category]; done) | rfl) ?_
  intro K C
  have hv := B.2.2.2.2.2.1
  have la := exaLt B.1
  refine r_aloadN C (pc' := 1) d19_0 rfl rfl rfl ?_
  refine r_getF C (pc' := 4) d19_1 rfl (w102 hw) Via.refl B.2.1 ?_
  refine r_lengthV C (pc' := 5) (n := vs.length) d19_4 rfl B.2.2.2.2.1 rfl ?_
  refine r_aloadN C (pc' := 6) d19_5 rfl rfl rfl ?_
  refine r_getF C (pc' := 9) d19_6 rfl (w104 hw) Via.refl B.2.2.1 ?_
  refine r_ishr C (pc' := 10) d19_9 rfl ?_
  rw [own_shr0]
  refine r_istoreN C (pc' := 11) (Ls' := #[.val (.ref a), .val (.int (i32 m)), .val (.int (i32 vs.length))]) d19_10 rfl rfl ?_
  refine r_iloadN C (pc' := 12) d19_11 rfl rfl ?_
  refine r_iloadN C (pc' := 13) d19_12 rfl rfl ?_
  refine r_isub C (pc' := 14) d19_13 rfl ?_
  refine r_if_le C (pt := 38) (pc' := 17) d19_14 (by decide) (by decide) rfl ?_ ?_
  · intro q
    have q' : ¬ vs.length < m := fun z => q ((own_suble (by omega) (by omega)).mpr z)
    exact r_return C d19_38 (by decide) (by decide) (Nat.zero_le _) (fun _ _ => ⟨rfl, Keep.refl _ _, b, k, vs, B, by omega, Or.inl rfl⟩)
  · intro q
    have q' : vs.length < m := (own_suble (by omega) (by omega)).mp q
    refine r_aloadN C (pc' := 18) d19_17 rfl rfl rfl ?_
    refine r_aloadN C (pc' := 19) d19_18 rfl rfl rfl ?_
    refine r_getF C (pc' := 22) d19_19 rfl (w102 hw) Via.refl B.2.1 ?_
    refine r_aloadN C (pc' := 23) d19_22 rfl rfl rfl ?_
    refine r_iloadN C (pc' := 24) d19_23 rfl rfl ?_
    refine r_callPX C (pc' := 27) (argsL := [.int (i32 m)]) (n_newCap l Z a0 hw n0 h0 a b k vs cs B m q' hg) B.1 d19_24 rfl (w278 hw) (w279 hw) (w281 hw) (w280 hw) (w98 hw) (w282 hw) (by decide) pd4 (st := [.ref b, .ref a]) rfl rfl rfl (W := 2) (Nat.le_of_eq rfl) (by decide) (by decide) (by decide) (by decide) (cells' := 0) (slots' := 0) rfl rfl ?_
    rintro _ _ ⟨rfl, rfl⟩
    show Run _ _ _ _ _ _ _ _ 27 #[.val (.ref a), .val (.int (i32 m)), .val (.int (i32 vs.length))] [.int (i32 (2 * vs.length + 2)), .ref b, .ref a]
    refine r_aloadN C (pc' := 28) d19_27 rfl rfl rfl ?_
    refine r_getF C (pc' := 31) d19_28 rfl (w104 hw) Via.refl B.2.2.1 ?_
    refine r_ishl C (pc' := 32) d19_31 rfl ?_
    rw [own_shl0]
    refine r_callS C (pc' := 35) (argsL := [.ref b, .int (i32 (2 * vs.length + 2))]) (n_copyOf l Z a0 hw n0 _ hn0 b k vs B.2.2.2.2.1 (by omega)) d19_32 rfl (w292 hw) (w293 hw) (w207 hw) (w294 hw) (by decide) pd5 (st := [.ref a]) rfl rfl rfl (W := 1) (Nat.le_of_eq rfl) (by decide) (by decide) (by decide) (by decide) (cells' := 1) (slots' := 34) rfl rfl ?_
    rintro _ h1 ⟨b2, k2, rfl, gb, K1, A1, Eb⟩
    show Run _ _ _ _ _ h1 _ _ 35 #[.val (.ref a), .val (.int (i32 m)), .val (.int (i32 vs.length))] [.ref b2, .ref a]
    obtain ⟨E, Fv, Fc, Fn, A, e1, e2, e3, nab, Ex⟩ := B
    replace E := E.keep K1
    replace Fv := Fv.keep K1 nin0
    replace Fc := Fc.keep K1 nin0
    replace Fn := Fn.keep K1 nin0
    refine r_putF C (pc' := 38) d19_35 rfl (w102 hw) Via.refl Fv E (Or.inl (w103 hw)) (w89 hw) (ty := (.array .byte)) (by decide) rfl rfl ge ?_
    intro h2 W2
    replace Fv := Fv.same W2
    replace Fc := Fc.other W2 (Or.inr (sn0 (Z := Z) hw))
    replace Fn := Fn.other W2 (Or.inr (sn1 (Z := Z) hw))
    replace E := E.wr W2
    replace A1 := A1.other W2 (nn (by omega))
    replace Eb := Eb.wr W2
    have hl2 : (vs ++ List.replicate (vs.length + 2) (Value.int 0)).length = 2 * vs.length + 2 := by rw [List.length_append, List.length_replicate]; omega
    exact r_return C d19_38 (by decide) (by decide) (Nat.zero_le _) (fun _ _ => ⟨rfl, ((Keep.refl h0 [a]).trans K1 all0).wr W2 (Or.inl (by simp)), b2, k2, _, ⟨E, Fv, Fc, Fn, A1, by rw [hl2]; omega, by rw [List.take_append_of_le_length e3]; exact e2, by rw [hl2]; omega, by omega, Eb⟩, by rw [hl2]; omega, Or.inr (by omega)⟩)
set_option maxRecDepth 65536 in
set_option maxHeartbeats 4000000 in
theorem n_inflate (l : Launch) (Z : State) (a0 : Array Value) (hw : ∀ d ∈ tables_1, d.before a0 Z = true) (n0 : Nat) (h0 : Heap) (cc : Int32) (fv : Value) (ss : own_SS Z cc fv) (ol : Od Z n0 h0) (a b : Nat) (k : ClassId) (vs : List Value) (cs : List Nat) (B : own_SN Z h0 a b k vs cs) (sa sb : Nat) (sk : ClassId) (ds : List Nat) (S : St Z h0 sa sb sk ds) :
    Con l [] (⟨"java/lang/AbstractStringBuilder", "inflateIfNeededFor", "(Ljava/lang/String;)V"⟩ : MethodName) jdk_68_method_71_code 2 none ({ frames := 1, cells := 0, slots := 0, locals := 13 } : Room) Z #[(.ref a), (.ref sa)] h0 n0 (fun v h => v = none ∧ h0 = h) := by
  refine enter (Ls := #[.val (.ref a), .val (.ref sa)]) pn10 (fun m => by first | (simp [entryFrame, mkF, argsToLocals, Value.category]; done) | rfl) ?_
  intro K C
  refine r_getS C (pc' := 3) d21_0 rfl (w101 hw) Via.refl (ss.1.ext ol.2) ?_
  refine r_if_eq_f C (pc' := 6) d21_3 rfl ss.2.1 ?_
  refine r_aloadN C (pc' := 7) d21_6 rfl rfl rfl ?_
  refine r_getF C (pc' := 10) d21_7 rfl (w104 hw) Via.refl B.2.2.1 ?_
  refine r_aloadN C (pc' := 11) d21_10 rfl rfl rfl ?_
  refine r_callV C (pc' := 14) (argsL := []) (c_coder l Z a0 hw n0 h0 cc fv ss ol sa S.2.1) S.1 d21_11 rfl (w144 hw) (w123 hw) (nfSel (z := ({ cls := "java/lang/String", name := "coder", desc := "()B" } : Jvm.MethodName)) (w125 hw)) (w125 hw) (w124 hw) (w27 hw) (w126 hw) (by decide) pd0 (st := [.int (0 : Int32)]) rfl rfl rfl (W := 1) (Nat.le_of_eq rfl) (by decide) (by decide) (by decide) (by decide) (cells' := 0) (slots' := 0) rfl rfl ?_
  rintro _ _ ⟨rfl, rfl⟩
  show Run _ _ _ _ _ _ _ _ 14 #[.val (.ref a), .val (.ref sa)] [.int (0 : Int32), .int (0 : Int32)]
  refine r_icmp_eq_t C (pc' := 21) d21_14 (by decide) (by decide) (by decide) ?_
  exact r_return C d21_21 (by decide) (by decide) (Nat.zero_le _) (fun _ _ => ⟨rfl, rfl⟩)
set_option maxRecDepth 65536 in
set_option maxHeartbeats 4000000 in
theorem c_getBytes (l : Launch) (Z : State) (a0 : Array Value) (hw : ∀ d ∈ tables_1, d.before a0 Z = true) (n0 : Nat) (h0 : Heap) (cc : Int32) (fv : Value) (ss : own_SS Z cc fv) (ol : Od Z n0 h0) (sa sb : Nat) (sk : ClassId) (ds : List Nat) (S : St Z h0 sa sb sk ds) (b : Nat) (k : ClassId) (vs : List Value) (A : AV Z h0 b k .byte vs (.int 0)) (n : Nat) (hn : n + ds.length ≤ vs.length) (ge : n0 ≤ b) :
    Con l [] (⟨"java/lang/String", "getBytes", "([BIB)V"⟩ : MethodName) jdk_42_method_147_code 4 none ({ frames := 1, cells := 0, slots := 0, locals := 40 } : Room) Z #[(.ref sa), (.ref b), (.int (i32 n)), (.int (0 : Int32))] h0 n0 (fun v h => v = none ∧ Keep h0 h [b] ∧ AV Z h b k .byte (vs.take n ++ (ds.map by8).map Value.int ++ vs.drop (n + ds.length)) (.int 0)) := by
  refine enter (Ls := #[.val (.ref sa), .val (.ref b), .val (.int (i32 n)), .val (.int (0 : Int32))]) pn11 (fun m => by first | (simp [entryFrame, mkF, argsToLocals, Value.category]; done) | rfl) ?_
  intro K C
  refine r_aloadN C (pc' := 1) d22_0 rfl rfl rfl ?_
  refine r_callV C (pc' := 4) (argsL := []) (c_coder l Z a0 hw n0 h0 cc fv ss ol sa S.2.1) S.1 d22_1 rfl (w122 hw) (w123 hw) (nfSel (z := ({ cls := "java/lang/String", name := "coder", desc := "()B" } : Jvm.MethodName)) (w125 hw)) (w125 hw) (w124 hw) (w27 hw) (w126 hw) (by decide) pd0 (st := []) rfl rfl rfl (W := 0) (Nat.le_of_eq rfl) (by decide) (by decide) (by decide) (by decide) (cells' := 0) (slots' := 0) rfl rfl ?_
  rintro _ _ ⟨rfl, rfl⟩
  show Run _ _ _ _ _ _ _ _ 4 #[.val (.ref sa), .val (.ref b), .val (.int (i32 n)), .val (.int (0 : Int32))] [.int (0 : Int32)]
  refine r_iloadN C (pc' := 5) d22_4 rfl rfl ?_
  refine r_icmp_ne_f C (pc' := 8) d22_5 rfl (by decide) ?_
  refine r_aloadN C (pc' := 9) d22_8 rfl rfl rfl ?_
  refine r_getF C (pc' := 12) d22_9 rfl (w53 hw) Via.refl S.2.2.1 ?_
  refine r_iconst C (pc' := 13) (v := 0) d22_12 rfl rfl ?_
  refine r_aloadN C (pc' := 14) d22_13 rfl rfl rfl ?_
  refine r_iloadN C (pc' := 15) d22_14 rfl rfl ?_
  refine r_iloadN C (pc' := 16) d22_15 rfl rfl ?_
  refine r_ishl C (pc' := 17) d22_16 rfl ?_
  refine r_aloadN C (pc' := 18) d22_17 rfl rfl rfl ?_
  refine r_getF C (pc' := 21) d22_18 rfl (w53 hw) Via.refl S.2.2.1 ?_
  refine r_lengthV C (pc' := 22) (n := ds.length) d22_21 rfl S.2.2.2 (own_blen ds) ?_
  refine r_copy C (pc' := 25) (sp := 0) (dp := n) (n := ds.length) (W := 0) d22_22 rfl (w150 hw) (w153 hw) (w151 hw) (w152 hw) S.2.2.2 A rfl rfl (own_shl0 (i32 n)) rfl (by rw [own_blen]; omega) (by omega) ge rfl (by decide) (Nat.le_of_eq rfl) (by decide) ?_
  intro h1 K1 A1
  refine r_goto C (pc' := 43) d22_25 (by decide) (by decide) ?_
  rw [List.drop_zero, List.take_of_length_le (l := (ds.map by8).map Value.int) (by rw [own_blen]; exact Nat.le_refl _)] at A1
  exact r_return C d22_43 (by decide) (by decide) (Nat.zero_le _) (fun _ _ => ⟨rfl, K1, A1⟩)
set_option maxRecDepth 65536 in
set_option maxHeartbeats 4000000 in
theorem n_putAt (l : Launch) (Z : State) (a0 : Array Value) (hw : ∀ d ∈ tables_1, d.before a0 Z = true) (n0 : Nat) (h0 : Heap) (cc : Int32) (fv : Value) (ss : own_SS Z cc fv) (ol : Od Z n0 h0) (a b : Nat) (k : ClassId) (vs : List Value) (cs : List Nat) (B : own_SN Z h0 a b k vs cs) (sa sb : Nat) (sk : ClassId) (ds : List Nat) (S : St Z h0 sa sb sk ds) (n : Nat) (hn : n + ds.length ≤ vs.length) (ge : n0 ≤ b) :
    Con l [] (⟨"java/lang/AbstractStringBuilder", "putStringAt", "(ILjava/lang/String;)V"⟩ : MethodName) jdk_68_method_73_code 3 none ({ frames := 2, cells := 0, slots := 0, locals := 55 } : Room) Z #[(.ref a), (.int (i32 n)), (.ref sa)] h0 n0 (fun v h => v = none ∧ Keep h0 h [b] ∧ AV Z h b k .byte (vs.take n ++ (ds.map by8).map Value.int ++ vs.drop (n + ds.length)) (.int 0)) := by
  refine enter (Ls := #[.val (.ref a), .val (.int (i32 n)), .val (.ref sa)]) pn12 (fun m => by first | (simp [entryFrame, mkF, argsToLocals, Value.category]; done) | rfl) ?_
  intro K C
  refine r_aloadN C (pc' := 1) d20_0 rfl rfl rfl ?_
  refine r_aloadN C (pc' := 2) d20_1 rfl rfl rfl ?_
  refine r_callPX C (pc' := 5) (argsL := [.ref sa]) (n_inflate l Z a0 hw n0 h0 cc fv ss ol a b k vs cs B sa sb sk ds S) B.1 d20_2 rfl (w139 hw) (w140 hw) (w142 hw) (w141 hw) (w98 hw) (w143 hw) (by decide) pd6 (st := []) rfl rfl rfl (W := 0) (Nat.le_of_eq rfl) (by decide) (by decide) (by decide) (by decide) (cells' := 0) (slots' := 0) rfl rfl ?_
  rintro _ _ ⟨rfl, rfl⟩
  show Run _ _ _ _ _ _ _ _ 5 #[.val (.ref a), .val (.int (i32 n)), .val (.ref sa)] []
  refine r_aloadN C (pc' := 6) d20_5 rfl rfl rfl ?_
  refine r_aloadN C (pc' := 7) d20_6 rfl rfl rfl ?_
  refine r_getF C (pc' := 10) d20_7 rfl (w102 hw) Via.refl B.2.1 ?_
  refine r_iloadN C (pc' := 11) d20_10 rfl rfl ?_
  refine r_aloadN C (pc' := 12) d20_11 rfl rfl rfl ?_
  refine r_getF C (pc' := 15) d20_12 rfl (w104 hw) Via.refl B.2.2.1 ?_
  refine r_callV C (pc' := 18) (argsL := [.ref b, .int (i32 n), .int (0 : Int32)]) (c_getBytes l Z a0 hw n0 _ cc fv ss ol sa sb sk ds S b k vs B.2.2.2.2.1 n hn ge) S.1 d20_15 rfl (w145 hw) (w146 hw) (nfSel (z := ({ cls := "java/lang/String", name := "getBytes", desc := "([BIB)V" } : Jvm.MethodName)) (w148 hw)) (w148 hw) (w147 hw) (w27 hw) (w149 hw) (by decide) pd7 (st := []) rfl rfl rfl (W := 0) (Nat.le_of_eq rfl) (by decide) (by decide) (by decide) (by decide) (cells' := 0) (slots' := 0) rfl rfl ?_
  rintro _ h1 ⟨rfl, K1, A1⟩
  show Run _ _ _ _ _ h1 _ _ 18 #[.val (.ref a), .val (.int (i32 n)), .val (.ref sa)] []
  exact r_return C d20_18 (by decide) (by decide) (Nat.zero_le _) (fun _ _ => ⟨rfl, K1, A1⟩)
set_option maxRecDepth 65536 in
set_option maxHeartbeats 4000000 in
theorem n_asbappend (l : Launch) (Z : State) (a0 : Array Value) (hw : ∀ d ∈ tables_1, d.before a0 Z = true) (n0 : Nat) (h0 : Heap) (cc : Int32) (fv : Value) (ss : own_SS Z cc fv) (ol : Od Z n0 h0) (a b : Nat) (k : ClassId) (vs : List Value) (cs : List Nat) (B : own_SN Z h0 a b k vs cs) (sa sb : Nat) (sk : ClassId) (ds : List Nat) (S : St Z h0 sa sb sk ds) (hn0 : n0 ≤ h0.size) (hn : cs.length + ds.length ≤ 34) (hg : cs.length + ds.length ≤ 2 * vs.length + 2) (ge : n0 ≤ a) (geb : n0 ≤ b) (nsa : sa ≠ a) (nsb : sb ≠ a) (nsa2 : sa ≠ b) (nsb2 : sb ≠ b) :
    Con l [] (⟨"java/lang/AbstractStringBuilder", "append", "(Ljava/lang/String;)Ljava/lang/AbstractStringBuilder;"⟩ : MethodName) jdk_68_method_22_code 3 (some (.object "java/lang/AbstractStringBuilder")) ({ frames := 4, cells := 1, slots := 34, locals := 69 } : Room) Z #[(.ref a), (.ref sa)] h0 n0 (fun v h => v = some (.ref a) ∧ Keep h0 h [a, b] ∧ ∃ (b' : Nat) (k' : ClassId) (ws : List Value), own_SN Z h a b' k' ws (cs ++ ds) ∧ (b' = b ∨ h0.size ≤ b')) := by
  refine enter (Ls := #[.val (.ref a), .val (.ref sa), .unset]) pn13 (fun m => by first | (simp [entryFrame, mkF, argsToLocals, Value.category]; done) | rfl) ?_
  intro K C
  have lsa := S.lt
  have lb0 := B.2.2.2.2.1.lt
  refine r_aloadN C (pc' := 1) d16_0 rfl rfl rfl ?_
  refine r_ifnonnull_t C (pc' := 9) d16_1 (by decide) (by decide) rfl (fun e => nomatch e) ?_
  refine r_aloadN C (pc' := 10) d16_9 rfl rfl rfl ?_
  refine r_callV C (pc' := 13) (argsL := []) (c_length l Z a0 hw n0 h0 cc fv ss ol sa sb sk ds S) S.1 d16_10 rfl (w117 hw) (w118 hw) (nfSel (z := ({ cls := "java/lang/String", name := "length", desc := "()I" } : Jvm.MethodName)) (w120 hw)) (w120 hw) (w119 hw) (w27 hw) (w121 hw) (by decide) pd8 (st := []) rfl rfl rfl (W := 0) (Nat.le_of_eq rfl) (by decide) (by decide) (by decide) (by decide) (cells' := 0) (slots' := 0) rfl rfl ?_
  rintro _ _ ⟨rfl, rfl⟩
  show Run _ _ _ _ _ _ _ _ 13 #[.val (.ref a), .val (.ref sa), .unset] [.int (i32 ds.length)]
  refine r_istoreN C (pc' := 14) (Ls' := #[.val (.ref a), .val (.ref sa), .val (.int (i32 ds.length))]) d16_13 rfl rfl ?_
  refine r_aloadN C (pc' := 15) d16_14 rfl rfl rfl ?_
  refine r_aloadN C (pc' := 16) d16_15 rfl rfl rfl ?_
  refine r_getF C (pc' := 19) d16_16 rfl (w127 hw) Via.refl B.2.2.2.1 ?_
  refine r_iloadN C (pc' := 20) d16_19 rfl rfl ?_
  refine r_iadd C (pc' := 21) d16_20 rfl ?_
  rw [i32_add]
  refine r_callPX C (pc' := 24) (argsL := [.int (i32 (cs.length + ds.length))]) (n_ensure l Z a0 hw n0 _ a b k vs cs B hn0 ge _ hn hg) B.1 d16_21 rfl (w129 hw) (w130 hw) (w132 hw) (w131 hw) (w98 hw) (w133 hw) (by decide) pd1 (st := []) rfl rfl rfl (W := 0) (Nat.le_of_eq rfl) (by decide) (by decide) (by decide) (by decide) (cells' := 1) (slots' := 34) rfl rfl ?_
  rintro _ h1 ⟨rfl, K1, b', k', vs', B', hle, hb'⟩
  show Run _ _ _ _ _ h1 _ _ 24 #[.val (.ref a), .val (.ref sa), .val (.int (i32 ds.length))] []
  have x1 := K1.1
  replace S := S.keep K1 (ninS (nn nsa) nin0) (ninS (nn nsb) nin0)
  replace ol := ol.keep K1 (allS ge all0)
  clear B
  have nsa3 : sa ≠ b' := by omega
  have nsb3 : sb ≠ b' := by omega
  refine r_aloadN C (pc' := 25) d16_24 rfl rfl rfl ?_
  refine r_aloadN C (pc' := 26) d16_25 rfl rfl rfl ?_
  refine r_getF C (pc' := 29) d16_26 rfl (w127 hw) Via.refl B'.2.2.2.1 ?_
  refine r_aloadN C (pc' := 30) d16_29 rfl rfl rfl ?_
  refine r_callPX C (pc' := 33) (argsL := [.int (i32 cs.length), .ref sa]) (n_putAt l Z a0 hw n0 _ cc fv ss ol a b' k' vs' cs B' sa sb sk ds S cs.length hle (by omega)) B'.1 d16_30 rfl (w134 hw) (w135 hw) (w137 hw) (w136 hw) (w98 hw) (w138 hw) (by decide) pd9 (st := []) rfl rfl rfl (W := 0) (Nat.le_of_eq rfl) (by decide) (by decide) (by decide) (by decide) (cells' := 1) (slots' := 34) rfl rfl ?_
  rintro _ h2 ⟨rfl, K2, A1⟩
  show Run _ _ _ _ _ h2 _ _ 33 #[.val (.ref a), .val (.ref sa), .val (.int (i32 ds.length))] []
  refine r_aloadN C (pc' := 34) d16_33 rfl rfl rfl ?_
  refine r_dup C (pc' := 35) d16_34 rfl rfl ?_
  obtain ⟨E, Fv, Fc, Fn, A, e1, e2, e3, nab, Eb⟩ := B'
  replace E := E.keep K2
  replace Eb := Eb.keep K2
  replace Fv := Fv.keep K2 (ninS (nn nab) nin0)
  replace Fc := Fc.keep K2 (ninS (nn nab) nin0)
  replace Fn := Fn.keep K2 (ninS (nn nab) nin0)
  refine r_getF C (pc' := 38) d16_35 rfl (w127 hw) Via.refl Fn ?_
  refine r_iloadN C (pc' := 39) d16_38 rfl rfl ?_
  refine r_iadd C (pc' := 40) d16_39 rfl ?_
  rw [i32_add]
  refine r_putF C (pc' := 43) d16_40 rfl (w127 hw) Via.refl Fn E (Or.inl (w128 hw)) (w89 hw) (ty := .int) (by decide) rfl rfl ge ?_
  intro h3 W3
  replace Fv := Fv.other W3 (Or.inr (sn4 (Z := Z) hw))
  replace Fc := Fc.other W3 (Or.inr (sn5 (Z := Z) hw))
  replace Fn := Fn.same W3
  replace E := E.wr W3
  replace A1 := A1.other W3 (nn (Ne.symm nab))
  replace Eb := Eb.wr W3
  refine r_aloadN C (pc' := 44) d16_43 rfl rfl rfl ?_
  have hlen : (vs'.take cs.length ++ (ds.map by8).map Value.int ++ vs'.drop (cs.length + ds.length)).length = vs'.length := by simp only [List.length_append, List.length_take, List.length_drop, List.length_map]; omega
  have htk : (vs'.take cs.length ++ (ds.map by8).map Value.int ++ vs'.drop (cs.length + ds.length)).take (cs ++ ds).length = ((cs ++ ds).map by8).map Value.int := by
    have := own_sbtake (vs := vs') (ds := (ds.map by8).map Value.int) (n := cs.length) (by rw [own_blen]; omega)
    rw [own_blen] at this; rw [List.length_append, this, e2, List.map_append, List.map_append]
  have K12 : Keep h0 h2 [a, b] := ((Keep.refl h0 [a, b]).trans K1 (by simp)).trans K2 (allS (by rcases hb' with rfl | z; exact Or.inl (by simp); exact Or.inr z) all0)
  exact r_areturn C d16_44 rfl rfl (by decide) (by decide) (Nat.zero_le _) (fun _ _ => ⟨rfl, K12.wr W3 (Or.inl (by simp)), b', k', _, ⟨E, Fv, Fc, by rw [List.length_append]; exact Fn, A1, by rw [hlen]; exact e1, htk, by rw [hlen, List.length_append]; omega, nab, Eb⟩, hb'⟩)
set_option maxRecDepth 65536 in
set_option maxHeartbeats 4000000 in
theorem n_sbappend (l : Launch) (Z : State) (a0 : Array Value) (hw : ∀ d ∈ tables_1, d.before a0 Z = true) (n0 : Nat) (h0 : Heap) (cc : Int32) (fv : Value) (ss : own_SS Z cc fv) (ol : Od Z n0 h0) (a b : Nat) (k : ClassId) (vs : List Value) (cs : List Nat) (B : own_SN Z h0 a b k vs cs) (sa sb : Nat) (sk : ClassId) (ds : List Nat) (S : St Z h0 sa sb sk ds) (hn0 : n0 ≤ h0.size) (hn : cs.length + ds.length ≤ 34) (hg : cs.length + ds.length ≤ 2 * vs.length + 2) (ge : n0 ≤ a) (geb : n0 ≤ b) (nsa : sa ≠ a) (nsb : sb ≠ a) (nsa2 : sa ≠ b) (nsb2 : sb ≠ b) :
    Con l [] (⟨"java/lang/StringBuilder", "append", "(Ljava/lang/String;)Ljava/lang/StringBuilder;"⟩ : MethodName) jdk_67_method_7_code 2 (some (.object "java/lang/StringBuilder")) ({ frames := 5, cells := 1, slots := 34, locals := 83 } : Room) Z #[(.ref a), (.ref sa)] h0 n0 (fun v h => v = some (.ref a) ∧ Keep h0 h [a, b] ∧ ∃ (b' : Nat) (k' : ClassId) (ws : List Value), own_SN Z h a b' k' ws (cs ++ ds) ∧ (b' = b ∨ h0.size ≤ b')) := by
  refine enter (Ls := #[.val (.ref a), .val (.ref sa)]) pn14 (fun m => by first | (simp [entryFrame, mkF, argsToLocals, Value.category]; done) | rfl) ?_
  intro K C
  refine r_aloadN C (pc' := 1) d15_0 rfl rfl rfl ?_
  refine r_aloadN C (pc' := 2) d15_1 rfl rfl rfl ?_
  refine r_callX C (pc' := 5) (argsL := [.ref sa]) (n_asbappend l Z a0 hw n0 h0 cc fv ss ol a b k vs cs B sa sb sk ds S hn0 hn hg ge geb nsa nsb nsa2 nsb2) (Ins.of_exa B.1 (w97 hw)) d15_2 rfl (w112 hw) (w113 hw) (nf_cls (y' := ({ cls := "java/lang/AbstractStringBuilder", name := "ensureCapacityInternal", desc := "(I)V" } : Jvm.MethodName)) rfl (w130 hw) (notFace_of_selects (w132 hw))) (w114 hw) (w98 hw) (w116 hw) (by decide) (by decide) pd10 (st := []) rfl rfl rfl (W := 0) (Nat.le_of_eq rfl) (by decide) (by decide) (by decide) (by decide) (cells' := 1) (slots' := 34) rfl rfl ?_
  rintro _ h1 ⟨rfl, K1, r⟩
  show Run _ _ _ _ _ h1 _ _ 5 #[.val (.ref a), .val (.ref sa)] [.ref a]
  refine r_pop C (pc' := 6) d15_5 rfl rfl ?_
  refine r_aloadN C (pc' := 7) d15_6 rfl rfl rfl ?_
  exact r_areturn C d15_7 rfl rfl (by decide) (by decide) (Nat.zero_le _) (fun _ _ => ⟨rfl, K1, r⟩)
set_option maxRecDepth 65536 in
set_option maxHeartbeats 4000000 in
theorem n_getValue (l : Launch) (Z : State) (a0 : Array Value) (hw : ∀ d ∈ tables_1, d.before a0 Z = true) (n0 : Nat) (h0 : Heap) (a b : Nat) (k : ClassId) (vs : List Value) (cs : List Nat) (B : own_SN Z h0 a b k vs cs) :
    Con l [] (⟨"java/lang/AbstractStringBuilder", "getValue", "()[B"⟩ : MethodName) jdk_68_method_64_code 1 (some (.array .byte)) ({ frames := 0, cells := 0, slots := 0, locals := 0 } : Room) Z #[(.ref a)] h0 n0 (fun v h => v = some (.ref b) ∧ h0 = h) := by
  refine enter (Ls := #[.val (.ref a)]) pn15 (fun m => by first | (simp [entryFrame, mkF, argsToLocals, Value.category]; done) | rfl) ?_
  intro K C
  refine r_aloadN C (pc' := 1) d31_0 rfl rfl rfl ?_
  refine r_getF C (pc' := 4) d31_1 rfl (w102 hw) Via.refl B.2.1 ?_
  exact r_areturn C d31_4 rfl rfl (by decide) (by decide) (Nat.zero_le _) (fun _ _ => ⟨rfl, rfl⟩)
set_option maxRecDepth 65536 in
set_option maxHeartbeats 4000000 in
theorem n_asblen (l : Launch) (Z : State) (a0 : Array Value) (hw : ∀ d ∈ tables_1, d.before a0 Z = true) (n0 : Nat) (h0 : Heap) (a b : Nat) (k : ClassId) (vs : List Value) (cs : List Nat) (B : own_SN Z h0 a b k vs cs) :
    Con l [] (⟨"java/lang/AbstractStringBuilder", "length", "()I"⟩ : MethodName) jdk_68_method_6_code 1 (some .int) ({ frames := 0, cells := 0, slots := 0, locals := 0 } : Room) Z #[(.ref a)] h0 n0 (fun v h => v = some (.int (i32 cs.length)) ∧ h0 = h) := by
  refine enter (Ls := #[.val (.ref a)]) pn16 (fun m => by first | (simp [entryFrame, mkF, argsToLocals, Value.category]; done) | rfl) ?_
  intro K C
  refine r_aloadN C (pc' := 1) d33_0 rfl rfl rfl ?_
  refine r_getF C (pc' := 4) d33_1 rfl (w127 hw) Via.refl B.2.2.2.1 ?_
  exact r_ireturn C d33_4 (by decide) (by decide) (Nat.zero_le _) (fun _ _ => ⟨rfl, rfl⟩)
set_option maxRecDepth 65536 in
set_option maxHeartbeats 4000000 in
theorem n_sblen (l : Launch) (Z : State) (a0 : Array Value) (hw : ∀ d ∈ tables_1, d.before a0 Z = true) (n0 : Nat) (h0 : Heap) (a b : Nat) (k : ClassId) (vs : List Value) (cs : List Nat) (B : own_SN Z h0 a b k vs cs) :
    Con l [] (⟨"java/lang/StringBuilder", "length", "()I"⟩ : MethodName) jdk_67_method_93_code 1 (some .int) ({ frames := 1, cells := 0, slots := 0, locals := 12 } : Room) Z #[(.ref a)] h0 n0 (fun v h => v = some (.int (i32 cs.length)) ∧ h0 = h) := by
  refine enter (Ls := #[.val (.ref a)]) pn17 (fun m => by first | (simp [entryFrame, mkF, argsToLocals, Value.category]; done) | rfl) ?_
  intro K C
  refine r_aloadN C (pc' := 1) d32_0 rfl rfl rfl ?_
  refine r_callX C (pc' := 4) (argsL := []) (n_asblen l Z a0 hw n0 h0 a b k vs cs B) (Ins.of_exa B.1 (w97 hw)) d32_1 rfl (w202 hw) (w198 hw) (nf_cls (y' := ({ cls := "java/lang/AbstractStringBuilder", name := "ensureCapacityInternal", desc := "(I)V" } : Jvm.MethodName)) rfl (w130 hw) (notFace_of_selects (w132 hw))) (w114 hw) (w98 hw) (w203 hw) (by decide) (by decide) pd8 (st := []) rfl rfl rfl (W := 0) (Nat.le_of_eq rfl) (by decide) (by decide) (by decide) (by decide) (cells' := 0) (slots' := 0) rfl rfl ?_
  rintro _ _ ⟨rfl, rfl⟩
  show Run _ _ _ _ _ _ _ _ 4 #[.val (.ref a)] [.int (i32 cs.length)]
  exact r_ireturn C d32_4 (by decide) (by decide) (Nat.zero_le _) (fun _ _ => ⟨rfl, rfl⟩)
set_option maxRecDepth 65536 in
set_option maxHeartbeats 4000000 in
theorem n_asbL1 (l : Launch) (Z : State) (a0 : Array Value) (hw : ∀ d ∈ tables_1, d.before a0 Z = true) (n0 : Nat) (h0 : Heap) (cc : Int32) (fv : Value) (ss : own_SS Z cc fv) (ol : Od Z n0 h0) (a b : Nat) (k : ClassId) (vs : List Value) (cs : List Nat) (B : own_SN Z h0 a b k vs cs) :
    Con l [] (⟨"java/lang/AbstractStringBuilder", "isLatin1", "()Z"⟩ : MethodName) jdk_68_method_68_code 1 (some .boolean) ({ frames := 0, cells := 0, slots := 0, locals := 0 } : Room) Z #[(.ref a)] h0 n0 (fun v h => v = some (.int 1) ∧ h0 = h) := by
  refine enter (Ls := #[.val (.ref a)]) pn18 (fun m => by first | (simp [entryFrame, mkF, argsToLocals, Value.category]; done) | rfl) ?_
  intro K C
  refine r_getS C (pc' := 3) d26_0 rfl (w101 hw) Via.refl (ss.1.ext ol.2) ?_
  refine r_if_eq_f C (pc' := 6) d26_3 rfl ss.2.1 ?_
  refine r_aloadN C (pc' := 7) d26_6 rfl rfl rfl ?_
  refine r_getF C (pc' := 10) d26_7 rfl (w104 hw) Via.refl B.2.2.1 ?_
  refine r_if_ne_f C (pc' := 13) d26_10 rfl (by decide) ?_
  refine r_iconst C (pc' := 14) (v := 1) d26_13 rfl rfl ?_
  refine r_goto C (pc' := 18) d26_14 (by decide) (by decide) ?_
  exact r_zreturn C d26_18 rfl (by decide) (by decide) (Nat.zero_le _) (fun _ _ => ⟨rfl, rfl⟩)
set_option maxRecDepth 65536 in
set_option maxHeartbeats 4000000 in
theorem c_checkLen (l : Launch) (Z : State) (a0 : Array Value) (hw : ∀ d ∈ tables_1, d.before a0 Z = true) (n0 : Nat) (h0 : Heap) (n : Nat) (hn : n < 2147483648) :
    Con l [] (⟨"java/util/Arrays", "checkLength", "(II)V"⟩ : MethodName) jdk_65_method_131_code 2 none ({ frames := 0, cells := 0, slots := 0, locals := 0 } : Room) Z #[(.int (0 : Int32)), (.int (i32 n))] h0 n0 (fun v h => v = none ∧ h0 = h) := by
  refine enter (Ls := #[.val (.int (0 : Int32)), .val (.int (i32 n))]) pn19 (fun m => by first | (simp [entryFrame, mkF, argsToLocals, Value.category]; done) | rfl) ?_
  intro K C
  refine r_iloadN C (pc' := 1) d36_0 rfl rfl ?_
  refine r_iloadN C (pc' := 2) d36_1 rfl rfl ?_
  refine r_icmp_ge_t C (pc' := 37) d36_2 (by decide) (by decide) (i32_nn hn) ?_
  exact r_return C d36_37 (by decide) (by decide) (Nat.zero_le _) (fun _ _ => ⟨rfl, rfl⟩)
set_option maxRecDepth 65536 in
set_option maxHeartbeats 4000000 in
theorem n_crByte (l : Launch) (Z : State) (a0 : Array Value) (hw : ∀ d ∈ tables_1, d.before a0 Z = true) (n0 : Nat) (h0 : Heap) (hn0 : n0 ≤ h0.size) (b : Nat) (k : ClassId) (vs : List Value) (A : AV Z h0 b k .byte vs (.int 0)) (hv : vs.length ≤ 34) (n : Nat) (hn : n ≤ vs.length) :
    Con l [] (⟨"java/util/Arrays", "copyOfRangeByte", "([BII)[B"⟩ : MethodName) jdk_65_method_133_code 5 (some (.array .byte)) ({ frames := 1, cells := 1, slots := 34, locals := 40 } : Room) Z #[(.ref b), (.int (0 : Int32)), (.int (i32 n))] h0 n0 (fun v h => ∃ (b2 : Nat) (k2 : ClassId), v = some (.ref b2) ∧ b2 = h0.size ∧ Keep h0 h [] ∧ AV Z h b2 k2 .byte (vs.take n) (.int 0)) := by
  refine enter (Ls := #[.val (.ref b), .val (.int (0 : Int32)), .val (.int (i32 n)), .unset, .unset]) pn20 (fun m => by first | (simp [entryFrame, mkF, argsToLocals, Value.category]; done) | rfl) ?_
  intro K C
  have lb := A.lt
  refine r_iloadN C (pc' := 1) d35_0 rfl rfl ?_
  refine r_iloadN C (pc' := 2) d35_1 rfl rfl ?_
  refine r_callS C (pc' := 5) (argsL := [.int (0 : Int32), .int (i32 n)]) (c_checkLen l Z a0 hw n0 h0 n (by omega)) d35_2 rfl (w212 hw) (w213 hw) (w207 hw) (w214 hw) (by decide) pd11 (st := []) rfl rfl rfl (W := 0) (Nat.le_of_eq rfl) (by decide) (by decide) (by decide) (by decide) (cells' := 0) (slots' := 0) rfl rfl ?_
  rintro _ _ ⟨rfl, rfl⟩
  show Run _ _ _ _ _ _ _ _ 5 #[.val (.ref b), .val (.int (0 : Int32)), .val (.int (i32 n)), .unset, .unset] []
  refine r_iloadN C (pc' := 6) d35_5 rfl rfl ?_
  refine r_iloadN C (pc' := 7) d35_6 rfl rfl ?_
  refine r_isub C (pc' := 8) d35_7 rfl ?_
  rw [show i32 n - (0 : Int32) = i32 n from i32_sub (b := 0) (Nat.zero_le _)]
  refine r_istoreN C (pc' := 9) (Ls' := #[.val (.ref b), .val (.int (0 : Int32)), .val (.int (i32 n)), .val (.int (i32 n)), .unset]) d35_8 rfl rfl ?_
  refine r_iloadN C (pc' := 10) d35_9 rfl rfl ?_
  refine r_newarrayV C (pc' := 12) (ty := .byte) (m := n) (cap := 34) d35_10 rfl rfl (w44 hw) rfl (by omega) (by decide) (by decide) (by decide) ?_
  intro h1 b2 k2 gb E1 B1
  have x1 := E1.1
  refine r_astore C (pc' := 14) (Ls' := #[.val (.ref b), .val (.int (0 : Int32)), .val (.int (i32 n)), .val (.int (i32 n)), .val (.ref b2)]) d35_12 rfl rfl rfl ?_
  refine r_aloadN C (pc' := 15) d35_14 rfl rfl rfl ?_
  refine r_iloadN C (pc' := 16) d35_15 rfl rfl ?_
  refine r_aload C (pc' := 18) d35_16 rfl rfl rfl ?_
  refine r_iconst C (pc' := 19) (v := 0) d35_18 rfl rfl ?_
  refine r_aloadN C (pc' := 20) d35_19 rfl rfl rfl ?_
  refine r_lengthV C (pc' := 21) (n := vs.length) d35_20 rfl (A.ext E1) rfl ?_
  refine r_iloadN C (pc' := 22) d35_21 rfl rfl ?_
  refine r_isub C (pc' := 23) d35_22 rfl ?_
  refine r_iloadN C (pc' := 24) d35_23 rfl rfl ?_
  rw [show i32 vs.length - (0 : Int32) = i32 vs.length from i32_sub (b := 0) (Nat.zero_le _)]
  refine r_callS C (pc' := 27) (argsL := [.int (i32 vs.length), .int (i32 n)]) (c_min l Z a0 hw n0 h1 vs.length n (by omega) (by omega)) d35_24 rfl (w215 hw) (w216 hw) (w217 hw) (w218 hw) (by decide) pd2 (st := [.int (0 : Int32), .ref b2, .int (0 : Int32), .ref b]) rfl rfl rfl (W := 4) (Nat.le_of_eq rfl) (by decide) (by decide) (by decide) (by decide) (cells' := 1) (slots' := 34) rfl rfl ?_
  rintro _ _ ⟨rfl, rfl⟩
  show Run _ _ _ _ _ _ _ _ 27 #[.val (.ref b), .val (.int (0 : Int32)), .val (.int (i32 n)), .val (.int (i32 n)), .val (.ref b2)] [.int (i32 (min vs.length n)), .int (0 : Int32), .ref b2, .int (0 : Int32), .ref b]
  rw [Nat.min_eq_right hn]
  refine r_copy C (pc' := 30) (sp := 0) (dp := 0) (n := n) (W := 0) d35_27 rfl (w219 hw) (w153 hw) (w151 hw) (w152 hw) (A.ext E1) B1 rfl rfl rfl rfl (by omega) (by rw [List.length_replicate]; omega) (by omega) rfl (by decide) (Nat.le_of_eq rfl) (by decide) ?_
  intro h2 K2 B2
  refine r_aload C (pc' := 32) d35_30 rfl rfl rfl ?_
  have B3 := B2.cast (show _ = vs.take n by rw [List.take_zero, List.drop_zero, List.nil_append, List.drop_eq_nil_of_le (by rw [List.length_replicate]; omega), List.append_nil])
  exact r_areturn C d35_32 rfl rfl (by decide) (by decide) (Nat.zero_le _) (fun _ _ => ⟨b2, k2, rfl, gb, ((Keep.refl h0 []).ext E1).trans K2 (allS (Or.inr (by omega)) all0), B3⟩)
set_option maxRecDepth 65536 in
set_option maxHeartbeats 4000000 in
theorem n_cr (l : Launch) (Z : State) (a0 : Array Value) (hw : ∀ d ∈ tables_1, d.before a0 Z = true) (n0 : Nat) (h0 : Heap) (hn0 : n0 ≤ h0.size) (b : Nat) (k : ClassId) (vs : List Value) (A : AV Z h0 b k .byte vs (.int 0)) (hv : vs.length ≤ 34) (n : Nat) (hn : n ≤ vs.length) (Eb : Exa Z h0 b "[B") :
    Con l [] (⟨"java/util/Arrays", "copyOfRange", "([BII)[B"⟩ : MethodName) jdk_65_method_132_code 3 (some (.array .byte)) ({ frames := 2, cells := 1, slots := 34, locals := 56 } : Room) Z #[(.ref b), (.int (0 : Int32)), (.int (i32 n))] h0 n0 (fun v h => ∃ (b2 : Nat) (k2 : ClassId), v = some (.ref b2) ∧ b2 = h0.size ∧ Keep h0 h [] ∧ AV Z h b2 k2 .byte (vs.take n) (.int 0)) := by
  refine enter (Ls := #[.val (.ref b), .val (.int (0 : Int32)), .val (.int (i32 n))]) pn21 (fun m => by first | (simp [entryFrame, mkF, argsToLocals, Value.category]; done) | rfl) ?_
  intro K C
  refine r_iloadN C (pc' := 1) d34_0 rfl rfl ?_
  refine r_if_ne_f C (pc' := 4) d34_1 rfl (by decide) ?_
  refine r_iloadN C (pc' := 5) d34_4 rfl rfl ?_
  refine r_aloadN C (pc' := 6) d34_5 rfl rfl rfl ?_
  refine r_lengthV C (pc' := 7) (n := vs.length) d34_6 rfl A rfl ?_
  refine r_icmp_eq C (pt := 17) (pc' := 10) d34_7 (by decide) (by decide) rfl ?_ ?_
  · intro q
    have q' : n = vs.length := (i32_eq (by omega) (by omega)).mp q
    refine r_aloadN C (pc' := 18) d34_17 rfl rfl rfl ?_
    refine r_cloneV C (pc' := 21) (ad := "[B") (W := 0) (cap := 34) d34_18 rfl (w330 hw) (w331 hw) (w335 hw) (w333 hw) (w334 hw) (w336 hw) A Eb rfl (by decide) (Nat.le_of_eq rfl) (by decide) hv (by decide) (by decide) ?_
    intro h1 b2 gb E1 A1 E2
    refine r_checkcast C (pc' := 24) d34_21 rfl (w337 hw) (Ins.of_exa E2 (w338 hw)) ?_
    exact r_areturn C d34_24 rfl rfl (by decide) (by decide) (Nat.zero_le _) (fun _ _ => ⟨b2, k, rfl, gb, (Keep.refl h0 []).ext E1, by rw [q', List.take_length]; exact A1⟩)
  · intro q
    refine r_aloadN C (pc' := 11) d34_10 rfl rfl rfl ?_
    refine r_iloadN C (pc' := 12) d34_11 rfl rfl ?_
    refine r_iloadN C (pc' := 13) d34_12 rfl rfl ?_
    refine r_callS C (pc' := 16) (argsL := [.ref b, .int (0 : Int32), .int (i32 n)]) (n_crByte l Z a0 hw n0 h0 hn0 b k vs A hv n hn) d34_13 rfl (w209 hw) (w210 hw) (w207 hw) (w211 hw) (by decide) pd12 (st := []) rfl rfl rfl (W := 0) (Nat.le_of_eq rfl) (by decide) (by decide) (by decide) (by decide) (cells' := 1) (slots' := 34) rfl rfl ?_
    rintro _ h1 ⟨b2, k2, rfl, r⟩
    show Run _ _ _ _ _ h1 _ _ 16 #[.val (.ref b), .val (.int (0 : Int32)), .val (.int (i32 n))] [.ref b2]
    exact r_areturn C d34_16 rfl rfl (by decide) (by decide) (Nat.zero_le _) (fun _ _ => ⟨b2, k2, rfl, r⟩)
set_option maxRecDepth 65536 in
set_option maxHeartbeats 4000000 in
theorem n_strASB (l : Launch) (Z : State) (a0 : Array Value) (hw : ∀ d ∈ tables_1, d.before a0 Z = true) (n0 : Nat) (h0 : Heap) (cc : Int32) (fv : Value) (ss : own_SS Z cc fv) (ol : Od Z n0 h0) (hn0 : n0 ≤ h0.size) (s : Nat) (ge : n0 ≤ s) (E : Exa Z h0 s "java/lang/String") (vo co : Value) (Fv : Fld Z h0 s "java/lang/String" "value" "[B" vo) (Fc : Fld Z h0 s "java/lang/String" "coder" "B" co) (a b : Nat) (k : ClassId) (vs : List Value) (cs : List Nat) (B : own_SN Z h0 a b k vs cs) (nb : b ≠ s) :
    Con l [] (⟨"java/lang/String", "<init>", "(Ljava/lang/AbstractStringBuilder;Ljava/lang/Void;)V"⟩ : MethodName) jdk_42_method_150_code 5 none ({ frames := 3, cells := 1, slots := 34, locals := 71 } : Room) Z #[(.ref s), (.ref a), .null] h0 n0 (fun v h => v = none ∧ Keep h0 h [s] ∧ ∃ (b2 : Nat) (k2 : ClassId), St Z h s b2 k2 cs ∧ h0.size ≤ b2) := by
  refine enter (Ls := #[.val (.ref s), .val (.ref a), .val .null, .unset, .unset]) pn22 (fun m => by first | (simp [entryFrame, mkF, argsToLocals, Value.category]; done) | rfl) ?_
  intro K C
  have ls := exaLt E
  have hv := B.2.2.2.2.2.1
  refine r_aloadN C (pc' := 1) d30_0 rfl rfl rfl ?_
  refine r_initO C (pc' := 4) (W := 0) d30_1 rfl (w36 hw) (w37 hw) (w38 hw) rfl (by decide) (Nat.le_of_eq rfl) (by decide) ?_
  refine r_aloadN C (pc' := 5) d30_4 rfl rfl rfl ?_
  refine r_callV C (pc' := 8) (argsL := []) (n_getValue l Z a0 hw n0 h0 a b k vs cs B) B.1 d30_5 rfl (w191 hw) (w192 hw) (nfSel (z := ({ cls := "java/lang/AbstractStringBuilder", name := "getValue", desc := "()[B" } : Jvm.MethodName)) (w194 hw)) (w194 hw) (w193 hw) (w98 hw) (w195 hw) (by decide) pd13 (st := []) rfl rfl rfl (W := 0) (Nat.le_of_eq rfl) (by decide) (by decide) (by decide) (by decide) (cells' := 0) (slots' := 0) rfl rfl ?_
  rintro _ _ ⟨rfl, rfl⟩
  show Run _ _ _ _ _ _ _ _ 8 #[.val (.ref s), .val (.ref a), .val .null, .unset, .unset] [.ref b]
  refine r_astoreN C (pc' := 9) (Ls' := #[.val (.ref s), .val (.ref a), .val .null, .val (.ref b), .unset]) d30_8 rfl rfl rfl ?_
  refine r_aloadN C (pc' := 10) d30_9 rfl rfl rfl ?_
  refine r_callV C (pc' := 13) (argsL := []) (n_sblen l Z a0 hw n0 _ a b k vs cs B) B.1 d30_10 rfl (w196 hw) (w197 hw) (fun s args hZ => nf_cls (Z := s) (a0 := args) (y' := ({ cls := "java/lang/AbstractStringBuilder", name := "ensureCapacityInternal", desc := "(I)V" } : Jvm.MethodName)) rfl (mvT hZ (w130 hw)) (notFace_of_selects (args := args) (mvT hZ (w132 hw)))) (w199 hw) (w200 hw) (w90 hw) (w201 hw) (by decide) pd8 (st := []) rfl rfl rfl (W := 0) (Nat.le_of_eq rfl) (by decide) (by decide) (by decide) (by decide) (cells' := 0) (slots' := 0) rfl rfl ?_
  rintro _ _ ⟨rfl, rfl⟩
  show Run _ _ _ _ _ _ _ _ 13 #[.val (.ref s), .val (.ref a), .val .null, .val (.ref b), .unset] [.int (i32 cs.length)]
  refine r_istore C (pc' := 15) (Ls' := #[.val (.ref s), .val (.ref a), .val .null, .val (.ref b), .val (.int (i32 cs.length))]) d30_13 rfl rfl ?_
  refine r_aloadN C (pc' := 16) d30_15 rfl rfl rfl ?_
  refine r_callV C (pc' := 19) (argsL := []) (n_asbL1 l Z a0 hw n0 _ cc fv ss ol a b k vs cs B) B.1 d30_16 rfl (w204 hw) (w169 hw) (nfSel (z := ({ cls := "java/lang/AbstractStringBuilder", name := "isLatin1", desc := "()Z" } : Jvm.MethodName)) (w171 hw)) (w171 hw) (w170 hw) (w98 hw) (w172 hw) (by decide) pd14 (st := []) rfl rfl rfl (W := 0) (Nat.le_of_eq rfl) (by decide) (by decide) (by decide) (by decide) (cells' := 0) (slots' := 0) rfl rfl ?_
  rintro _ _ ⟨rfl, rfl⟩
  show Run _ _ _ _ _ _ _ _ 19 #[.val (.ref s), .val (.ref a), .val .null, .val (.ref b), .val (.int (i32 cs.length))] [.int (1 : Int32)]
  refine r_if_eq_f C (pc' := 22) d30_19 rfl (by decide) ?_
  refine r_aloadN C (pc' := 23) d30_22 rfl rfl rfl ?_
  refine r_iconst C (pc' := 24) (v := 0) d30_23 rfl rfl ?_
  have A := B.2.2.2.2.1
  have Eb := B.2.2.2.2.2.2.2.2.2
  refine r_putF C (pc' := 27) d30_24 rfl (w51 hw) Via.refl Fc E (Or.inr ⟨(w52 hw), rfl, rfl⟩) (w26 hw) (ty := .byte) (by decide) rfl rfl ge ?_
  intro h1 W1
  replace Fv := Fv.other W1 (Or.inr (sn6 (Z := Z) hw))
  replace Fc := Fc.same W1
  replace E := E.wr W1
  replace A := A.other W1 (nn nb)
  replace Eb := Eb.wr W1
  have x1 := W1.size
  refine r_aloadN C (pc' := 28) d30_27 rfl rfl rfl ?_
  refine r_aloadN C (pc' := 29) d30_28 rfl rfl rfl ?_
  refine r_iconst C (pc' := 30) (v := 0) d30_29 rfl rfl ?_
  refine r_iload C (pc' := 32) d30_30 rfl rfl ?_
  refine r_callS C (pc' := 35) (argsL := [.ref b, .int (0 : Int32), .int (i32 cs.length)]) (n_cr l Z a0 hw n0 h1 (by omega) b k vs A (by omega) cs.length B.2.2.2.2.2.2.2.1 Eb) d30_32 rfl (w205 hw) (w206 hw) (w207 hw) (w208 hw) (by decide) pd12 (st := [.ref s]) rfl rfl rfl (W := 1) (Nat.le_of_eq rfl) (by decide) (by decide) (by decide) (by decide) (cells' := 1) (slots' := 34) rfl rfl ?_
  rintro _ h2 ⟨b2, k2, rfl, gb, K2, A2⟩
  show Run _ _ _ _ _ h2 _ _ 35 #[.val (.ref s), .val (.ref a), .val .null, .val (.ref b), .val (.int (i32 cs.length))] [.ref b2, .ref s]
  replace Fv := Fv.keep K2 nin0
  replace Fc := Fc.keep K2 nin0
  replace E := E.keep K2
  rw [B.2.2.2.2.2.2.1] at A2
  refine r_putF C (pc' := 38) d30_35 rfl (w53 hw) Via.refl Fv E (Or.inr ⟨(w54 hw), rfl, rfl⟩) (w26 hw) (ty := (.array .byte)) (by decide) rfl rfl ge ?_
  intro h3 W3
  replace Fv := Fv.same W3
  replace Fc := Fc.other W3 (Or.inr (sn7 (Z := Z) hw))
  replace E := E.wr W3
  replace A2 := A2.other W3 (nn (by omega))
  refine r_goto C (pc' := 97) d30_38 (by decide) (by decide) ?_
  exact r_return C d30_97 (by decide) (by decide) (Nat.zero_le _) (fun _ _ => ⟨rfl, (((Keep.refl h0 [s]).wr W1 (Or.inl (by simp))).trans K2 all0).wr W3 (Or.inl (by simp)), b2, k2, ⟨E, Fc, Fv, A2⟩, by omega⟩)
set_option maxRecDepth 65536 in
set_option maxHeartbeats 4000000 in
theorem n_strSB (l : Launch) (Z : State) (a0 : Array Value) (hw : ∀ d ∈ tables_1, d.before a0 Z = true) (n0 : Nat) (h0 : Heap) (cc : Int32) (fv : Value) (ss : own_SS Z cc fv) (ol : Od Z n0 h0) (hn0 : n0 ≤ h0.size) (s : Nat) (ge : n0 ≤ s) (E : Exa Z h0 s "java/lang/String") (vo co : Value) (Fv : Fld Z h0 s "java/lang/String" "value" "[B" vo) (Fc : Fld Z h0 s "java/lang/String" "coder" "B" co) (a b : Nat) (k : ClassId) (vs : List Value) (cs : List Nat) (B : own_SN Z h0 a b k vs cs) (nb : b ≠ s) :
    Con l [] (⟨"java/lang/String", "<init>", "(Ljava/lang/StringBuilder;)V"⟩ : MethodName) jdk_42_method_53_code 2 none ({ frames := 4, cells := 1, slots := 34, locals := 87 } : Room) Z #[(.ref s), (.ref a)] h0 n0 (fun v h => v = none ∧ Keep h0 h [s] ∧ ∃ (b2 : Nat) (k2 : ClassId), St Z h s b2 k2 cs ∧ h0.size ≤ b2) := by
  refine enter (Ls := #[.val (.ref s), .val (.ref a)]) pn23 (fun m => by first | (simp [entryFrame, mkF, argsToLocals, Value.category]; done) | rfl) ?_
  intro K C
  refine r_aloadN C (pc' := 1) d29_0 rfl rfl rfl ?_
  refine r_aloadN C (pc' := 2) d29_1 rfl rfl rfl ?_
  refine r_aconst_null C (pc' := 3) d29_2 rfl ?_
  refine r_callI C (pc' := 6) (argsL := [.ref a, .null]) (n_strASB l Z a0 hw n0 h0 cc fv ss ol hn0 s ge E vo co Fv Fc a b k vs cs B nb) d29_3 rfl (w188 hw) (w189 hw) (w27 hw) (w190 hw) rfl (by decide) pd15 (st := []) rfl rfl rfl (W := 0) (Nat.le_of_eq rfl) (by decide) (by decide) (by decide) (by decide) (cells' := 1) (slots' := 34) rfl rfl ?_
  rintro _ h1 ⟨rfl, K1, r⟩
  show Run _ _ _ _ _ h1 _ _ 6 #[.val (.ref s), .val (.ref a)] []
  exact r_return C d29_6 (by decide) (by decide) (Nat.zero_le _) (fun _ _ => ⟨rfl, K1, r⟩)
set_option maxRecDepth 65536 in
set_option maxHeartbeats 4000000 in
theorem n_sbtoString (l : Launch) (Z : State) (a0 : Array Value) (hw : ∀ d ∈ tables_1, d.before a0 Z = true) (n0 : Nat) (h0 : Heap) (cc : Int32) (fv : Value) (ss : own_SS Z cc fv) (ol : Od Z n0 h0) (hn0 : n0 ≤ h0.size) (a b : Nat) (k : ClassId) (vs : List Value) (cs : List Nat) (B : own_SN Z h0 a b k vs cs) :
    Con l [] (⟨"java/lang/StringBuilder", "toString", "()Ljava/lang/String;"⟩ : MethodName) jdk_67_method_42_code 1 (some (.object "java/lang/String")) ({ frames := 5, cells := 2, slots := 38, locals := 101 } : Room) Z #[(.ref a)] h0 n0 (fun v h => ∃ (s b2 : Nat) (k2 : ClassId), v = some (.ref s) ∧ Keep h0 h [] ∧ St Z h s b2 k2 cs) := by
  refine enter (Ls := #[.val (.ref a)]) pn24 (fun m => by first | (simp [entryFrame, mkF, argsToLocals, Value.category]; done) | rfl) ?_
  intro K C
  have lb := B.2.2.2.2.1.lt
  refine r_new C (pc' := 3) d28_0 rfl (w184 hw) (w26 hw) (w27 hw) (by decide) (by decide) ?_
  intro h1 s gs E1 E D1
  have Fv : Fld Z h1 s "java/lang/String" "value" "[B" (.null) := D1 (Or.inr (w54 hw)) (ty := (.array .byte)) (by decide)
  have Fc : Fld Z h1 s "java/lang/String" "coder" "B" (.int 0) := D1 (Or.inr (w52 hw)) (ty := .byte) (by decide)
  have x_h1 := E1.1
  refine r_dup C (pc' := 4) d28_3 rfl rfl ?_
  refine r_aloadN C (pc' := 5) d28_4 rfl rfl rfl ?_
  refine r_callI C (pc' := 8) (argsL := [.ref a]) (n_strSB l Z a0 hw n0 h1 cc fv ss (ol.ext E1) (by omega) s (by omega) E _ _ Fv Fc a b k vs cs (B.ext E1) (by omega)) d28_5 rfl (w185 hw) (w186 hw) (w27 hw) (w187 hw) rfl (by decide) pd16 (st := [.ref s]) rfl rfl rfl (W := 1) (Nat.le_of_eq rfl) (by decide) (by decide) (by decide) (by decide) (cells' := 2) (slots' := 38) rfl rfl ?_
  rintro _ h2 ⟨rfl, K2, b2, k2, S, gb⟩
  show Run _ _ _ _ _ h2 _ _ 8 #[.val (.ref a)] [.ref s]
  exact r_areturn C d28_8 rfl rfl (by decide) (by decide) (Nat.zero_le _) (fun _ _ => ⟨s, b2, k2, rfl, ((Keep.refl h0 []).ext E1).trans K2 (allS (Or.inr (by omega)) all0), S⟩)
set_option maxRecDepth 65536 in
set_option maxHeartbeats 4000000 in
theorem l_size (l : Launch) (Z : State) (a0 : Array Value) (hw : ∀ d ∈ tables_1, d.before a0 Z = true) (n0 : Nat) (h0 : Heap) (N : Nat) (hN : N < 9223372036854775808) :
    Con l [] (⟨"java/lang/Long", "stringSize", "(J)I"⟩ : MethodName) jdk_35_method_15_code 6 (some .int) ({ frames := 0, cells := 0, slots := 0, locals := 0 } : Room) Z #[(.long (i64 N))] h0 n0 (fun v h => v = some (.int (i32 (own_dig N).length)) ∧ h0 = h) := by
  refine enter (Ls := #[.val (.long (i64 N)), .second, .unset, .unset, .unset, .unset]) pn25 (fun m => by first | (simp [entryFrame, mkF, argsToLocals, Value.category]; done) | rfl) ?_
  intro K C
  refine r_iconst C (pc' := 1) (v := 1) d25_0 rfl rfl ?_
  refine r_istoreN C (pc' := 2) (Ls' := #[.val (.long (i64 N)), .second, .val (.int (1 : Int32)), .unset, .unset, .unset]) d25_1 rfl rfl ?_
  refine r_lloadN C (pc' := 3) d25_2 rfl rfl ?_
  refine r_lconst C (pc' := 4) (v := 0) d25_3 rfl rfl ?_
  refine r_lcmp_lt C (pt := 13) (pc' := 8) d25_4 d25_5 (by decide) (by decide) rfl ?_ ?_
  · intro q
    exact absurd ((i64_lt (b := 0) hN (by decide)).mp q) (Nat.not_lt_zero _)
  · intro q
    have hl := own_dlen19 hN
    refine r_iconst C (pc' := 9) (v := 0) d25_8 rfl rfl ?_
    refine r_istoreN C (pc' := 10) (Ls' := #[.val (.long (i64 N)), .second, .val (.int (0 : Int32)), .unset, .unset, .unset]) d25_9 rfl rfl ?_
    refine r_lloadN C (pc' := 11) d25_10 rfl rfl ?_
    refine r_lneg C (pc' := 12) d25_11 rfl ?_
    rw [show -(i64 N) = own_ml N from rfl]
    refine r_lstoreN C (pc' := 13) (Ls' := #[.val (.long (own_ml N)), .second, .val (.int (0 : Int32)), .unset, .unset, .unset]) d25_12 rfl rfl ?_
    have loop : ∀ (m i : Nat), 19 - i = m → 1 ≤ i → i ≤ 19 → i ≤ (own_dig N).length → Run l ({ frames := 0, cells := 0, slots := 0, locals := 0 } : Room) n0 (fun v h _ => v = some (.int (i32 (own_dig N).length)) ∧ h0 = h) K h0 0 0 20 #[.val (.long (own_ml N)), .second, .val (.int (0 : Int32)), .val (.long (own_ml (10 ^ i))), .second, .val (.int (i32 i))] [] := by
      intro m
      induction m with
      | zero =>
        intro i hm h1 h10 hi
        obtain rfl : i = 19 := by omega
        refine r_iload C (pc' := 22) d25_20 rfl rfl ?_
        refine r_bipush C (pc' := 24) (v := (19)) d25_22 rfl rfl ?_
        refine r_icmp_ge_t C (pc' := 50) d25_24 (by decide) (by decide) (by decide) ?_
        refine r_bipush C (pc' := 52) (v := (19)) d25_50 rfl rfl ?_
        refine r_iloadN C (pc' := 53) d25_52 rfl rfl ?_
        refine r_iadd C (pc' := 54) d25_53 rfl ?_
        rw [show (19 : Int32) + (0 : Int32) = i32 (own_dig N).length by rw [show (own_dig N).length = 19 by omega]; rfl]
        exact r_ireturn C d25_54 (by decide) (by decide) (Nat.zero_le _) (fun _ _ => ⟨rfl, rfl⟩)
      | succ m ih =>
        intro i hm h1 h10 hi
        have hlt : i < 19 := by omega
        have hp := own_pow18 hlt
        refine r_iload C (pc' := 22) d25_20 rfl rfl ?_
        refine r_bipush C (pc' := 24) (v := (19)) d25_22 rfl rfl ?_
        refine r_icmp_ge_f C (pc' := 27) d25_24 rfl ((i32_lt (b := 19) (by omega) (by decide)).mpr hlt) ?_
        refine r_lloadN C (pc' := 28) d25_27 rfl rfl ?_
        refine r_lloadN C (pc' := 29) d25_28 rfl rfl ?_
        refine r_lcmp_le C (pt := 38) (pc' := 33) d25_29 d25_30 (by decide) (by decide) rfl ?_ ?_
        · intro r
          have r' : ¬ N < 10 ^ i := fun z => r ((own_mllt (by omega) hN).mpr z)
          refine r_ldc2J C (pc' := 41) d25_38 rfl (w277 hw) ?_
          refine r_lloadN C (pc' := 42) d25_41 rfl rfl ?_
          refine r_lmul C (pc' := 43) d25_42 rfl ?_
          refine r_lstoreN C (pc' := 44) (Ls' := #[.val (.long (own_ml N)), .second, .val (.int (0 : Int32)), .val (.long ((10 : Int64) * (own_ml (10 ^ i)))), .second, .val (.int (i32 i))]) d25_43 rfl rfl ?_
          refine r_iinc C (pc' := 47) (v := (1)) (Ls' := #[.val (.long (own_ml N)), .second, .val (.int (0 : Int32)), .val (.long ((10 : Int64) * (own_ml (10 ^ i)))), .second, .val (.int ((i32 i) + (1 : Int32)))]) d25_44 rfl rfl rfl rfl ?_
          refine r_goto C (pc' := 20) d25_47 (by decide) (by decide) ?_
          rw [own_mlstep, show i32 i + (1 : Int32) = i32 (i + 1) from i32_add i 1]
          have hd := own_dlen (i - 1) N
          rw [Nat.sub_add_cancel h1] at hd
          exact ih (i + 1) (by omega) (by omega) (by omega) (by omega)
        · intro r
          have r' : N < 10 ^ i := (own_mllt (by omega) hN).mp r
          have hd := own_dlen (i - 1) N
          rw [Nat.sub_add_cancel h1] at hd
          refine r_iload C (pc' := 35) d25_33 rfl rfl ?_
          refine r_iloadN C (pc' := 36) d25_35 rfl rfl ?_
          refine r_iadd C (pc' := 37) d25_36 rfl ?_
          rw [show i32 i + (0 : Int32) = i32 (own_dig N).length by rw [show (own_dig N).length = i by omega]; exact i32_add i 0]
          exact r_ireturn C d25_37 (by decide) (by decide) (Nat.zero_le _) (fun _ _ => ⟨rfl, rfl⟩)
    refine r_ldc2J C (pc' := 16) d25_13 rfl (w167 hw) ?_
    refine r_lstoreN C (pc' := 17) (Ls' := #[.val (.long (own_ml N)), .second, .val (.int (0 : Int32)), .val (.long (-10 : Int64)), .second, .unset]) d25_16 rfl rfl ?_
    refine r_iconst C (pc' := 18) (v := 1) d25_17 rfl rfl ?_
    refine r_istore C (pc' := 20) (Ls' := #[.val (.long (own_ml N)), .second, .val (.int (0 : Int32)), .val (.long (-10 : Int64)), .second, .val (.int (1 : Int32))]) d25_18 rfl rfl ?_
    rw [own_ml10]
    exact loop _ 1 rfl (by decide) (by decide) (own_digpos N)
set_option maxRecDepth 65536 in
set_option maxHeartbeats 4000000 in
theorem l_getChars (l : Launch) (Z : State) (a0 : Array Value) (hw : ∀ d ∈ tables_1, d.before a0 Z = true) (n0 : Nat) (h0 : Heap) (t1 t2 : Nat) (q1 q2 : ClassId) (dt : own_DT Z t1 t2 q1 q2) (ol : Od Z n0 h0) (N : Nat) (hN : N < 9223372036854775808) (idx b : Nat) (k : ClassId) (vs : List Value) (A : AV Z h0 b k .byte vs (.int 0)) (hi : (own_dig N).length ≤ idx) (hv : idx ≤ vs.length) (ge : n0 ≤ b) :
    Con l [] (⟨"java/lang/Long", "getChars", "(JI[B)I"⟩ : MethodName) jdk_35_method_14_code 11 (some .int) ({ frames := 0, cells := 0, slots := 0, locals := 0 } : Room) Z #[(.long (i64 N)), (.int (i32 idx)), (.ref b)] h0 n0 (fun v h => (∃ u : Int32, v = some (.int u)) ∧ Keep h0 h [b] ∧ AV Z h b k .byte (vs.take (idx - (own_dig N).length) ++ ((own_dig N).map by8).map Value.int ++ vs.drop idx) (.int 0)) := by
  refine enter (Ls := #[.val (.long (i64 N)), .second, .val (.int (i32 idx)), .val (.ref b), .unset, .unset, .unset, .unset, .unset, .unset, .unset]) pn26 (fun m => by first | (simp [entryFrame, mkF, argsToLocals, Value.category]; done) | rfl) ?_
  intro K C
  have hdl := own_dlen19 hN
  refine r_iloadN C (pc' := 1) d27_0 rfl rfl ?_
  refine r_istore C (pc' := 3) (Ls' := #[.val (.long (i64 N)), .second, .val (.int (i32 idx)), .val (.ref b), .unset, .unset, .unset, .val (.int (i32 idx)), .unset, .unset, .unset]) d27_1 rfl rfl ?_
  refine r_lloadN C (pc' := 4) d27_3 rfl rfl ?_
  refine r_lconst C (pc' := 5) (v := 0) d27_4 rfl rfl ?_
  refine r_lcmp_ge C (pt := 13) (pc' := 9) d27_5 d27_6 (by decide) (by decide) rfl ?_ ?_
  · intro q
    have loopB : ∀ (m : Nat) (tl : List Nat) (p : Nat) (h : Heap) (o : Int64) (L4 L5 L6 L9 : Slot), m < 2147483648 → own_dig N = own_dig m ++ tl → p + tl.length = idx → Od Z n0 h → Keep h0 h [b] → AV Z h b k .byte (vs.take p ++ ((tl.map by8).map Value.int ++ vs.drop idx)) (.int 0) → (L6 = .unset ∨ ∃ u, L6 = .val (.int u)) → (L9 = .unset ∨ ∃ u, L9 = .val (.int u)) → Run l ({ frames := 0, cells := 0, slots := 0, locals := 0 } : Room) n0 (fun v h _ => (∃ u : Int32, v = some (.int u)) ∧ Keep h0 h [b] ∧ AV Z h b k .byte (vs.take (idx - (own_dig N).length) ++ ((own_dig N).map by8).map Value.int ++ vs.drop idx) (.int 0)) K h 0 0 86 #[.val (.long o), .second, .val (.int (i32 idx)), .val (.ref b), L4, L5, L6, .val (.int (i32 p)), .val (.int (0 : Int32)), L9, .val (.int (own_m m))] [] := by
      intro m
      induction m using Nat.strongRecOn with
      | ind m ih =>
        intro tl p h o L4 L5 L6 L9 hm hd hp ol Kp A hL6 hL9
        have hlen : (own_dig N).length = (own_dig m).length + tl.length := by rw [hd, List.length_append]
        have hpos := own_digpos m
        obtain ⟨p1, rfl⟩ : ∃ p1, p = p1 + 1 := ⟨p - 1, by omega⟩
        refine r_iload C (pc' := 88) d27_86 rfl rfl ?_
        refine r_bipush C (pc' := 90) (v := (-100)) d27_88 rfl rfl ?_
        refine r_icmp_gt C (pt := 143) (pc' := 93) d27_90 (by decide) (by decide) rfl ?_ ?_
        · intro r
          have r' : m < 100 := (own_m100 (by omega)).mp r
          refine r_aloadN C (pc' := 144) d27_143 rfl rfl rfl ?_
          refine r_iinc C (pc' := 147) (v := (-1)) (Ls' := #[.val (.long o), .second, .val (.int (i32 idx)), .val (.ref b), L4, L5, L6, .val (.int ((i32 (p1 + 1)) + (-1 : Int32))), .val (.int (0 : Int32)), L9, .val (.int (own_m m))]) d27_144 rfl rfl rfl rfl ?_
          rw [own_dec1]
          refine r_iload C (pc' := 149) d27_147 rfl rfl ?_
          refine r_getS C (pc' := 152) d27_149 rfl (w177 hw) Via.refl (dt.1.ext ol.2) ?_
          refine r_iload C (pc' := 154) d27_152 rfl rfl ?_
          refine r_ineg C (pc' := 155) d27_154 rfl ?_
          rw [own_mback]
          refine r_baloadV C (pc' := 156) (i := m) d27_155 rfl (dt.2.2.1.ext ol.2) rfl (own_onesAt (by omega)) ?_
          refine r_bastoreV C (pc' := 157) (i := p1) d27_156 rfl A rfl (by simp only [List.length_append, List.length_take, List.length_cons, List.length_map, List.length_drop]; omega) (fits_nar_byte _) ge ?_
          intro h1 W1 A1
          rw [own_bynar, own_setp _ _ _ _ (by omega)] at A1
          replace Kp := Kp.wr W1 (Or.inl (by simp))
          replace ol := ol.wr W1 ge
          refine r_iload C (pc' := 159) d27_157 rfl rfl ?_
          refine r_bipush C (pc' := 161) (v := (-9)) d27_159 rfl rfl ?_
          refine r_icmp_ge C (pt := 178) (pc' := 164) d27_161 (by decide) (by decide) rfl ?_ ?_
          · intro u
            have u' : m < 10 := Nat.lt_of_not_le (fun z => u ((own_m9 (by omega)).mpr (by omega)))
            rw [show 48 + m % 10 = 48 + m by omega] at A1
            refine r_iload C (pc' := 180) d27_178 rfl rfl ?_
            refine r_if_eq_t C (pc' := 192) d27_180 (by decide) (by decide) (by decide) ?_
            refine r_iload C (pc' := 194) d27_192 rfl rfl ?_
            have el : own_dig N = (48 + m) :: tl := by rw [hd, own_dig1 (by omega)]; rfl
            have eq' : idx - (own_dig N).length = p1 := by rw [el]; simp only [List.length_cons]; omega
            exact r_ireturn C d27_194 (by decide) (by decide) (Nat.zero_le _) (fun _ _ => ⟨⟨_, rfl⟩, Kp, by rw [eq', el, List.append_assoc]; exact A1⟩)
          · intro u
            have u' : 9 < m := (own_m9 (by omega)).mp u
            rw [own_dig2 (by omega) r'] at hlen
            simp only [List.length_cons, List.length_nil] at hlen
            obtain ⟨p2, rfl⟩ : ∃ p2, p1 = p2 + 1 := ⟨p1 - 1, by omega⟩
            refine r_aloadN C (pc' := 165) d27_164 rfl rfl rfl ?_
            refine r_iinc C (pc' := 168) (v := (-1)) (Ls' := #[.val (.long o), .second, .val (.int (i32 idx)), .val (.ref b), L4, L5, L6, .val (.int ((i32 (p2 + 1)) + (-1 : Int32))), .val (.int (0 : Int32)), L9, .val (.int (own_m m))]) d27_165 rfl rfl rfl rfl ?_
            rw [own_dec1]
            refine r_iload C (pc' := 170) d27_168 rfl rfl ?_
            refine r_getS C (pc' := 173) d27_170 rfl (w296 hw) Via.refl (dt.2.1.ext ol.2) ?_
            refine r_iload C (pc' := 175) d27_173 rfl rfl ?_
            refine r_ineg C (pc' := 176) d27_175 rfl ?_
            rw [own_mback]
            refine r_baloadV C (pc' := 177) (i := m) d27_176 rfl (dt.2.2.2.ext ol.2) rfl (own_tensAt (by omega)) ?_
            refine r_bastoreV C (pc' := 178) (i := p2) d27_177 rfl A1 rfl (by simp only [List.length_append, List.length_take, List.length_cons, List.length_map, List.length_drop]; omega) (fits_nar_byte _) ge ?_
            intro h2 W2 A2
            rw [own_bynar, own_setp _ _ _ _ (by omega)] at A2
            replace Kp := Kp.wr W2 (Or.inl (by simp))
            replace ol := ol.wr W2 ge
            refine r_iload C (pc' := 180) d27_178 rfl rfl ?_
            refine r_if_eq_t C (pc' := 192) d27_180 (by decide) (by decide) (by decide) ?_
            refine r_iload C (pc' := 194) d27_192 rfl rfl ?_
            have el : own_dig N = (48 + m / 10) :: (48 + m % 10) :: tl := by rw [hd, own_dig2 (by omega) r']; rfl
            have eq' : idx - (own_dig N).length = p2 := by rw [el]; simp only [List.length_cons]; omega
            exact r_ireturn C d27_194 (by decide) (by decide) (Nat.zero_le _) (fun _ _ => ⟨⟨_, rfl⟩, Kp, by rw [eq', el, List.append_assoc]; exact A2⟩)
        · intro r
          have r' : 100 ≤ m := Nat.le_of_not_lt (fun z => r ((own_m100 (by omega)).mpr z))
          refine r_iload C (pc' := 95) d27_93 rfl rfl ?_
          refine r_bipush C (pc' := 97) (v := (100)) d27_95 rfl rfl ?_
          refine r_idiv C (pc' := 98) d27_97 rfl (by decide) ?_
          rw [own_mdiv (by omega)]
          refine r_istore C (pc' := 100) (Ls' := #[.val (.long o), .second, .val (.int (i32 idx)), .val (.ref b), L4, L5, L6, .val (.int (i32 (p1 + 1))), .val (.int (0 : Int32)), .val (.int (own_m (m / 100))), .val (.int (own_m m))]) d27_98 rfl (by rcases hL9 with rfl | ⟨u, rfl⟩ <;> rfl) ?_
          refine r_iload C (pc' := 102) d27_100 rfl rfl ?_
          refine r_bipush C (pc' := 104) (v := (100)) d27_102 rfl rfl ?_
          refine r_imul C (pc' := 105) d27_104 rfl ?_
          refine r_iload C (pc' := 107) d27_105 rfl rfl ?_
          refine r_isub C (pc' := 108) d27_107 rfl ?_
          rw [own_mrem (by omega)]
          refine r_istore C (pc' := 110) (Ls' := #[.val (.long o), .second, .val (.int (i32 idx)), .val (.ref b), L4, L5, .val (.int (i32 (m % 100))), .val (.int (i32 (p1 + 1))), .val (.int (0 : Int32)), .val (.int (own_m (m / 100))), .val (.int (own_m m))]) d27_108 rfl (by rcases hL6 with rfl | ⟨u, rfl⟩ <;> rfl) ?_
          have hdm := own_dig3 r'
          rw [hdm] at hlen hd
          rw [List.append_assoc] at hd
          simp only [List.length_append, List.length_cons, List.length_nil] at hlen
          have hpos2 := own_digpos (m / 100)
          obtain ⟨p2, rfl⟩ : ∃ p2, p1 = p2 + 1 := ⟨p1 - 1, by omega⟩
          refine r_iload C (pc' := 112) d27_110 rfl rfl ?_
          refine r_istore C (pc' := 114) (Ls' := #[.val (.long o), .second, .val (.int (i32 idx)), .val (.ref b), L4, L5, .val (.int (i32 (m % 100))), .val (.int (i32 (p2 + 1 + 1))), .val (.int (0 : Int32)), .val (.int (own_m (m / 100))), .val (.int (own_m (m / 100)))]) d27_112 rfl rfl ?_
          refine r_aloadN C (pc' := 115) d27_114 rfl rfl rfl ?_
          refine r_iinc C (pc' := 118) (v := (-1)) (Ls' := #[.val (.long o), .second, .val (.int (i32 idx)), .val (.ref b), L4, L5, .val (.int (i32 (m % 100))), .val (.int ((i32 (p2 + 1 + 1)) + (-1 : Int32))), .val (.int (0 : Int32)), .val (.int (own_m (m / 100))), .val (.int (own_m (m / 100)))]) d27_115 rfl rfl rfl rfl ?_
          rw [own_dec1]
          refine r_iload C (pc' := 120) d27_118 rfl rfl ?_
          refine r_getS C (pc' := 123) d27_120 rfl (w177 hw) Via.refl (dt.1.ext ol.2) ?_
          refine r_iload C (pc' := 125) d27_123 rfl rfl ?_
          refine r_baloadV C (pc' := 126) (i := (m % 100)) d27_125 rfl (dt.2.2.1.ext ol.2) rfl (own_onesAt (by omega)) ?_
          refine r_bastoreV C (pc' := 127) (i := (p2 + 1)) d27_126 rfl A rfl (by simp only [List.length_append, List.length_take, List.length_cons, List.length_map, List.length_drop]; omega) (fits_nar_byte _) ge ?_
          intro h1 W1 A1
          rw [own_bynar, own_setp _ _ _ _ (by omega)] at A1
          replace Kp := Kp.wr W1 (Or.inl (by simp))
          replace ol := ol.wr W1 ge
          refine r_aloadN C (pc' := 128) d27_127 rfl rfl rfl ?_
          refine r_iinc C (pc' := 131) (v := (-1)) (Ls' := #[.val (.long o), .second, .val (.int (i32 idx)), .val (.ref b), L4, L5, .val (.int (i32 (m % 100))), .val (.int ((i32 (p2 + 1)) + (-1 : Int32))), .val (.int (0 : Int32)), .val (.int (own_m (m / 100))), .val (.int (own_m (m / 100)))]) d27_128 rfl rfl rfl rfl ?_
          rw [own_dec1]
          refine r_iload C (pc' := 133) d27_131 rfl rfl ?_
          refine r_getS C (pc' := 136) d27_133 rfl (w296 hw) Via.refl (dt.2.1.ext ol.2) ?_
          refine r_iload C (pc' := 138) d27_136 rfl rfl ?_
          refine r_baloadV C (pc' := 139) (i := (m % 100)) d27_138 rfl (dt.2.2.2.ext ol.2) rfl (own_tensAt (by omega)) ?_
          refine r_bastoreV C (pc' := 140) (i := p2) d27_139 rfl A1 rfl (by simp only [List.length_append, List.length_take, List.length_cons, List.length_map, List.length_drop]; omega) (fits_nar_byte _) ge ?_
          intro h2 W2 A2
          rw [own_bynar, own_setp _ _ _ _ (by omega)] at A2
          replace Kp := Kp.wr W2 (Or.inl (by simp))
          replace ol := ol.wr W2 ge
          refine r_goto C (pc' := 86) d27_140 (by decide) (by decide) ?_
          exact ih (m / 100) (by omega) ((48 + m % 100 / 10) :: (48 + m % 100 % 10) :: tl) p2 h2 o _ _ _ _ (by omega) hd (by simp only [List.length_cons]; omega) ol Kp A2 (Or.inr ⟨_, rfl⟩) (Or.inr ⟨_, rfl⟩)
    have loopA : ∀ (m : Nat) (tl : List Nat) (p : Nat) (h : Heap) (L4 L5 L6 : Slot), m < 9223372036854775808 → own_dig N = own_dig m ++ tl → p + tl.length = idx → Od Z n0 h → Keep h0 h [b] → AV Z h b k .byte (vs.take p ++ ((tl.map by8).map Value.int ++ vs.drop idx)) (.int 0) → ((L4 = .unset ∧ L5 = .unset) ∨ ∃ u, L4 = .val (.long u) ∧ L5 = .second) → (L6 = .unset ∨ ∃ u, L6 = .val (.int u)) → Run l ({ frames := 0, cells := 0, slots := 0, locals := 0 } : Room) n0 (fun v h _ => (∃ u : Int32, v = some (.int u)) ∧ Keep h0 h [b] ∧ AV Z h b k .byte (vs.take (idx - (own_dig N).length) ++ ((own_dig N).map by8).map Value.int ++ vs.drop idx) (.int 0)) K h 0 0 24 #[.val (.long (own_ml m)), .second, .val (.int (i32 idx)), .val (.ref b), L4, L5, L6, .val (.int (i32 p)), .val (.int (0 : Int32)), .unset, .unset] [] := by
      intro m
      induction m using Nat.strongRecOn with
      | ind m ih =>
        intro tl p h L4 L5 L6 hm hd hp ol Kp A hL45 hL6
        have hlen : (own_dig N).length = (own_dig m).length + tl.length := by rw [hd, List.length_append]
        have hpos := own_digpos m
        obtain ⟨p1, rfl⟩ : ∃ p1, p = p1 + 1 := ⟨p - 1, by omega⟩
        refine r_lloadN C (pc' := 25) d27_24 rfl rfl ?_
        refine r_ldc2J C (pc' := 28) d27_25 rfl (w176 hw) ?_
        refine r_lcmp_gt C (pt := 82) (pc' := 32) d27_28 d27_29 (by decide) (by decide) rfl ?_ ?_
        · intro r
          have r' : m < 2147483648 := (own_mlMin hm).mp r
          refine r_lloadN C (pc' := 83) d27_82 rfl rfl ?_
          refine r_l2i C (pc' := 84) d27_83 rfl ?_
          rw [own_ml32 r']
          refine r_istore C (pc' := 86) (Ls' := #[.val (.long (own_ml m)), .second, .val (.int (i32 idx)), .val (.ref b), L4, L5, L6, .val (.int (i32 (p1 + 1))), .val (.int (0 : Int32)), .unset, .val (.int (own_m m))]) d27_84 rfl rfl ?_
          exact loopB m tl (p1 + 1) h _ _ _ _ _ r' hd hp ol Kp A hL6 (Or.inl rfl)
        · intro r
          have r2 : 2147483648 ≤ m := Nat.le_of_not_lt (fun z => r ((own_mlMin hm).mpr z))
          have r' : 100 ≤ m := by omega
          refine r_lloadN C (pc' := 33) d27_32 rfl rfl ?_
          refine r_ldc2J C (pc' := 36) d27_33 rfl (w295 hw) ?_
          refine r_ldiv C (pc' := 37) d27_36 rfl (by decide) ?_
          rw [own_mldiv hm]
          refine r_lstore C (pc' := 39) (Ls' := #[.val (.long (own_ml m)), .second, .val (.int (i32 idx)), .val (.ref b), .val (.long (own_ml (m / 100))), .second, L6, .val (.int (i32 (p1 + 1))), .val (.int (0 : Int32)), .unset, .unset]) d27_37 rfl (by rcases hL45 with ⟨rfl, rfl⟩ | ⟨u, rfl, rfl⟩ <;> rfl) ?_
          refine r_lload C (pc' := 41) d27_39 rfl rfl ?_
          refine r_ldc2J C (pc' := 44) d27_41 rfl (w295 hw) ?_
          refine r_lmul C (pc' := 45) d27_44 rfl ?_
          refine r_lloadN C (pc' := 46) d27_45 rfl rfl ?_
          refine r_lsub C (pc' := 47) d27_46 rfl ?_
          refine r_l2i C (pc' := 48) d27_47 rfl ?_
          rw [own_mlrem hm, i32_of64]
          refine r_istore C (pc' := 50) (Ls' := #[.val (.long (own_ml m)), .second, .val (.int (i32 idx)), .val (.ref b), .val (.long (own_ml (m / 100))), .second, .val (.int (i32 (m % 100))), .val (.int (i32 (p1 + 1))), .val (.int (0 : Int32)), .unset, .unset]) d27_48 rfl (by rcases hL6 with rfl | ⟨u, rfl⟩ <;> rfl) ?_
          have hdm := own_dig3 r'
          rw [hdm] at hlen hd
          rw [List.append_assoc] at hd
          simp only [List.length_append, List.length_cons, List.length_nil] at hlen
          have hpos2 := own_digpos (m / 100)
          obtain ⟨p2, rfl⟩ : ∃ p2, p1 = p2 + 1 := ⟨p1 - 1, by omega⟩
          refine r_lload C (pc' := 52) d27_50 rfl rfl ?_
          refine r_lstoreN C (pc' := 53) (Ls' := #[.val (.long (own_ml (m / 100))), .second, .val (.int (i32 idx)), .val (.ref b), .val (.long (own_ml (m / 100))), .second, .val (.int (i32 (m % 100))), .val (.int (i32 (p2 + 1 + 1))), .val (.int (0 : Int32)), .unset, .unset]) d27_52 rfl rfl ?_
          refine r_aloadN C (pc' := 54) d27_53 rfl rfl rfl ?_
          refine r_iinc C (pc' := 57) (v := (-1)) (Ls' := #[.val (.long (own_ml (m / 100))), .second, .val (.int (i32 idx)), .val (.ref b), .val (.long (own_ml (m / 100))), .second, .val (.int (i32 (m % 100))), .val (.int ((i32 (p2 + 1 + 1)) + (-1 : Int32))), .val (.int (0 : Int32)), .unset, .unset]) d27_54 rfl rfl rfl rfl ?_
          rw [own_dec1]
          refine r_iload C (pc' := 59) d27_57 rfl rfl ?_
          refine r_getS C (pc' := 62) d27_59 rfl (w177 hw) Via.refl (dt.1.ext ol.2) ?_
          refine r_iload C (pc' := 64) d27_62 rfl rfl ?_
          refine r_baloadV C (pc' := 65) (i := (m % 100)) d27_64 rfl (dt.2.2.1.ext ol.2) rfl (own_onesAt (by omega)) ?_
          refine r_bastoreV C (pc' := 66) (i := (p2 + 1)) d27_65 rfl A rfl (by simp only [List.length_append, List.length_take, List.length_cons, List.length_map, List.length_drop]; omega) (fits_nar_byte _) ge ?_
          intro h1 W1 A1
          rw [own_bynar, own_setp _ _ _ _ (by omega)] at A1
          replace Kp := Kp.wr W1 (Or.inl (by simp))
          replace ol := ol.wr W1 ge
          refine r_aloadN C (pc' := 67) d27_66 rfl rfl rfl ?_
          refine r_iinc C (pc' := 70) (v := (-1)) (Ls' := #[.val (.long (own_ml (m / 100))), .second, .val (.int (i32 idx)), .val (.ref b), .val (.long (own_ml (m / 100))), .second, .val (.int (i32 (m % 100))), .val (.int ((i32 (p2 + 1)) + (-1 : Int32))), .val (.int (0 : Int32)), .unset, .unset]) d27_67 rfl rfl rfl rfl ?_
          rw [own_dec1]
          refine r_iload C (pc' := 72) d27_70 rfl rfl ?_
          refine r_getS C (pc' := 75) d27_72 rfl (w296 hw) Via.refl (dt.2.1.ext ol.2) ?_
          refine r_iload C (pc' := 77) d27_75 rfl rfl ?_
          refine r_baloadV C (pc' := 78) (i := (m % 100)) d27_77 rfl (dt.2.2.2.ext ol.2) rfl (own_tensAt (by omega)) ?_
          refine r_bastoreV C (pc' := 79) (i := p2) d27_78 rfl A1 rfl (by simp only [List.length_append, List.length_take, List.length_cons, List.length_map, List.length_drop]; omega) (fits_nar_byte _) ge ?_
          intro h2 W2 A2
          rw [own_bynar, own_setp _ _ _ _ (by omega)] at A2
          replace Kp := Kp.wr W2 (Or.inl (by simp))
          replace ol := ol.wr W2 ge
          refine r_goto C (pc' := 24) d27_79 (by decide) (by decide) ?_
          exact ih (m / 100) (by omega) ((48 + m % 100 / 10) :: (48 + m % 100 % 10) :: tl) p2 h2 _ _ _ (by omega) hd (by simp only [List.length_cons]; omega) ol Kp A2 (Or.inr ⟨_, rfl, rfl⟩) (Or.inr ⟨_, rfl⟩)
    refine r_iconst C (pc' := 14) (v := 0) d27_13 rfl rfl ?_
    refine r_istore C (pc' := 16) (Ls' := #[.val (.long (i64 N)), .second, .val (.int (i32 idx)), .val (.ref b), .unset, .unset, .unset, .val (.int (i32 idx)), .val (.int (0 : Int32)), .unset, .unset]) d27_14 rfl rfl ?_
    refine r_iload C (pc' := 18) d27_16 rfl rfl ?_
    refine r_if_ne_f C (pc' := 21) d27_18 rfl (by decide) ?_
    refine r_lloadN C (pc' := 22) d27_21 rfl rfl ?_
    refine r_lneg C (pc' := 23) d27_22 rfl ?_
    rw [show -(i64 N) = own_ml N from rfl]
    refine r_lstoreN C (pc' := 24) (Ls' := #[.val (.long (own_ml N)), .second, .val (.int (i32 idx)), .val (.ref b), .unset, .unset, .unset, .val (.int (i32 idx)), .val (.int (0 : Int32)), .unset, .unset]) d27_23 rfl rfl ?_
    exact loopA N [] idx h0 _ _ _ hN (by simp) rfl ol (Keep.refl _ _) (A.cast (by simp)) (Or.inl ⟨rfl, rfl⟩) (Or.inl rfl)
  · intro q
    exact absurd ((i64_lt (b := 0) hN (by decide)).mp q) (Nat.not_lt_zero _)
set_option maxRecDepth 65536 in
set_option maxHeartbeats 4000000 in
theorem l_asbappJ (l : Launch) (Z : State) (a0 : Array Value) (hw : ∀ d ∈ tables_1, d.before a0 Z = true) (n0 : Nat) (h0 : Heap) (cc : Int32) (fv : Value) (ss : own_SS Z cc fv) (ol : Od Z n0 h0) (t1 t2 : Nat) (q1 q2 : ClassId) (dt : own_DT Z t1 t2 q1 q2) (a b : Nat) (k : ClassId) (vs : List Value) (cs : List Nat) (B : own_SN Z h0 a b k vs cs) (N : Nat) (hN : N < 9223372036854775808) (hn0 : n0 ≤ h0.size) (hn : cs.length + (own_dig N).length ≤ 34) (hg : cs.length + (own_dig N).length ≤ 2 * vs.length + 2) (ge : n0 ≤ a) (geb : n0 ≤ b) :
    Con l [] (⟨"java/lang/AbstractStringBuilder", "append", "(J)Ljava/lang/AbstractStringBuilder;"⟩ : MethodName) jdk_68_method_33_code 5 (some (.object "java/lang/AbstractStringBuilder")) ({ frames := 4, cells := 1, slots := 34, locals := 69 } : Room) Z #[(.ref a), (.long (i64 N))] h0 n0 (fun v h => v = some (.ref a) ∧ Keep h0 h [a, b] ∧ ∃ (b' : Nat) (k' : ClassId) (ws : List Value), own_SN Z h a b' k' ws (cs ++ own_dig N) ∧ (b' = b ∨ h0.size ≤ b')) := by
  refine enter (Ls := #[.val (.ref a), .val (.long (i64 N)), .second, .unset, .unset]) pn27 (fun m => by first | (simp [entryFrame, mkF, argsToLocals, Value.category]; done) | rfl) ?_
  intro K C
  have lb0 := B.2.2.2.2.1.lt
  refine r_aloadN C (pc' := 1) d24_0 rfl rfl rfl ?_
  refine r_getF C (pc' := 4) d24_1 rfl (w127 hw) Via.refl B.2.2.2.1 ?_
  refine r_istoreN C (pc' := 5) (Ls' := #[.val (.ref a), .val (.long (i64 N)), .second, .val (.int (i32 cs.length)), .unset]) d24_4 rfl rfl ?_
  refine r_iloadN C (pc' := 6) d24_5 rfl rfl ?_
  refine r_lloadN C (pc' := 7) d24_6 rfl rfl ?_
  refine r_callS C (pc' := 10) (argsL := [.long (i64 N)]) (l_size l Z a0 hw n0 h0 N hN) d24_7 rfl (w163 hw) (w164 hw) (w165 hw) (w166 hw) (by decide) pd17 (st := [.int (i32 cs.length)]) rfl rfl rfl (W := 1) (Nat.le_of_eq rfl) (by decide) (by decide) (by decide) (by decide) (cells' := 0) (slots' := 0) rfl rfl ?_
  rintro _ _ ⟨rfl, rfl⟩
  show Run _ _ _ _ _ _ _ _ 10 #[.val (.ref a), .val (.long (i64 N)), .second, .val (.int (i32 cs.length)), .unset] [.int (i32 (own_dig N).length), .int (i32 cs.length)]
  refine r_iadd C (pc' := 11) d24_10 rfl ?_
  rw [i32_add]
  refine r_istore C (pc' := 13) (Ls' := #[.val (.ref a), .val (.long (i64 N)), .second, .val (.int (i32 cs.length)), .val (.int (i32 (cs.length + (own_dig N).length)))]) d24_11 rfl rfl ?_
  refine r_aloadN C (pc' := 14) d24_13 rfl rfl rfl ?_
  refine r_iload C (pc' := 16) d24_14 rfl rfl ?_
  refine r_callPX C (pc' := 19) (argsL := [.int (i32 (cs.length + (own_dig N).length))]) (n_ensure l Z a0 hw n0 _ a b k vs cs B hn0 ge _ hn hg) B.1 d24_16 rfl (w129 hw) (w130 hw) (w132 hw) (w131 hw) (w98 hw) (w133 hw) (by decide) pd1 (st := []) rfl rfl rfl (W := 0) (Nat.le_of_eq rfl) (by decide) (by decide) (by decide) (by decide) (cells' := 1) (slots' := 34) rfl rfl ?_
  rintro _ h1 ⟨rfl, K1, b', k', vs', B', hle, hb'⟩
  show Run _ _ _ _ _ h1 _ _ 19 #[.val (.ref a), .val (.long (i64 N)), .second, .val (.int (i32 cs.length)), .val (.int (i32 (cs.length + (own_dig N).length)))] []
  have x1 := K1.1
  replace ol := ol.keep K1 (allS ge all0)
  clear B
  refine r_aloadN C (pc' := 20) d24_19 rfl rfl rfl ?_
  refine r_callV C (pc' := 23) (argsL := []) (n_asbL1 l Z a0 hw n0 _ cc fv ss ol a b' k' vs' cs B') B'.1 d24_20 rfl (w168 hw) (w169 hw) (nfSel (z := ({ cls := "java/lang/AbstractStringBuilder", name := "isLatin1", desc := "()Z" } : Jvm.MethodName)) (w171 hw)) (w171 hw) (w170 hw) (w98 hw) (w172 hw) (by decide) pd14 (st := []) rfl rfl rfl (W := 0) (Nat.le_of_eq rfl) (by decide) (by decide) (by decide) (by decide) (cells' := 1) (slots' := 34) rfl rfl ?_
  rintro _ _ ⟨rfl, rfl⟩
  show Run _ _ _ _ _ _ _ _ 23 #[.val (.ref a), .val (.long (i64 N)), .second, .val (.int (i32 cs.length)), .val (.int (i32 (cs.length + (own_dig N).length)))] [.int (1 : Int32)]
  refine r_if_eq_f C (pc' := 26) d24_23 rfl (by decide) ?_
  refine r_lloadN C (pc' := 27) d24_26 rfl rfl ?_
  refine r_iload C (pc' := 29) d24_27 rfl rfl ?_
  refine r_aloadN C (pc' := 30) d24_29 rfl rfl rfl ?_
  refine r_getF C (pc' := 33) d24_30 rfl (w102 hw) Via.refl B'.2.1 ?_
  refine r_callS C (pc' := 36) (argsL := [.long (i64 N), .int (i32 (cs.length + (own_dig N).length)), .ref b']) (l_getChars l Z a0 hw n0 _ t1 t2 q1 q2 dt ol N hN (cs.length + (own_dig N).length) b' k' vs' B'.2.2.2.2.1 (by omega) hle (by omega)) d24_33 rfl (w173 hw) (w174 hw) (w165 hw) (w175 hw) (by decide) pd18 (st := []) rfl rfl rfl (W := 0) (Nat.le_of_eq rfl) (by decide) (by decide) (by decide) (by decide) (cells' := 1) (slots' := 34) rfl rfl ?_
  rintro _ h2 ⟨⟨u, rfl⟩, K2, A1⟩
  show Run _ _ _ _ _ h2 _ _ 36 #[.val (.ref a), .val (.long (i64 N)), .second, .val (.int (i32 cs.length)), .val (.int (i32 (cs.length + (own_dig N).length)))] [.int u]
  rw [Nat.add_sub_cancel] at A1
  refine r_pop C (pc' := 37) d24_36 rfl rfl ?_
  refine r_goto C (pc' := 52) d24_37 (by decide) (by decide) ?_
  refine r_aloadN C (pc' := 53) d24_52 rfl rfl rfl ?_
  refine r_iload C (pc' := 55) d24_53 rfl rfl ?_
  obtain ⟨E, Fv, Fc, Fn, A, e1, e2, e3, nab, Eb⟩ := B'
  replace E := E.keep K2
  replace Eb := Eb.keep K2
  replace Fv := Fv.keep K2 (ninS (nn nab) nin0)
  replace Fc := Fc.keep K2 (ninS (nn nab) nin0)
  replace Fn := Fn.keep K2 (ninS (nn nab) nin0)
  refine r_putF C (pc' := 58) d24_55 rfl (w127 hw) Via.refl Fn E (Or.inl (w128 hw)) (w89 hw) (ty := .int) (by decide) rfl rfl ge ?_
  intro h3 W3
  replace Fv := Fv.other W3 (Or.inr (sn4 (Z := Z) hw))
  replace Fc := Fc.other W3 (Or.inr (sn5 (Z := Z) hw))
  replace Fn := Fn.same W3
  replace E := E.wr W3
  replace A1 := A1.other W3 (nn (Ne.symm nab))
  replace Eb := Eb.wr W3
  refine r_aloadN C (pc' := 59) d24_58 rfl rfl rfl ?_
  have hlen : (vs'.take cs.length ++ ((own_dig N).map by8).map Value.int ++ vs'.drop (cs.length + (own_dig N).length)).length = vs'.length := by simp only [List.length_append, List.length_take, List.length_drop, List.length_map]; omega
  have htk : (vs'.take cs.length ++ ((own_dig N).map by8).map Value.int ++ vs'.drop (cs.length + (own_dig N).length)).take (cs ++ own_dig N).length = ((cs ++ own_dig N).map by8).map Value.int := by
    have := own_sbtake (vs := vs') (ds := ((own_dig N).map by8).map Value.int) (n := cs.length) (by rw [own_blen]; omega)
    rw [own_blen] at this; rw [List.length_append, this, e2, List.map_append, List.map_append]
  have K12 : Keep h0 h2 [a, b] := ((Keep.refl h0 [a, b]).trans K1 (by simp)).trans K2 (allS (by rcases hb' with rfl | z; exact Or.inl (by simp); exact Or.inr z) all0)
  exact r_areturn C d24_59 rfl rfl (by decide) (by decide) (Nat.zero_le _) (fun _ _ => ⟨rfl, K12.wr W3 (Or.inl (by simp)), b', k', _, ⟨E, Fv, Fc, by rw [List.length_append]; exact Fn, A1, by rw [hlen]; exact e1, htk, by rw [hlen, List.length_append]; omega, nab, Eb⟩, hb'⟩)
set_option maxRecDepth 65536 in
set_option maxHeartbeats 4000000 in
theorem l_sbappJ (l : Launch) (Z : State) (a0 : Array Value) (hw : ∀ d ∈ tables_1, d.before a0 Z = true) (n0 : Nat) (h0 : Heap) (cc : Int32) (fv : Value) (ss : own_SS Z cc fv) (ol : Od Z n0 h0) (t1 t2 : Nat) (q1 q2 : ClassId) (dt : own_DT Z t1 t2 q1 q2) (a b : Nat) (k : ClassId) (vs : List Value) (cs : List Nat) (B : own_SN Z h0 a b k vs cs) (N : Nat) (hN : N < 9223372036854775808) (hn0 : n0 ≤ h0.size) (hn : cs.length + (own_dig N).length ≤ 34) (hg : cs.length + (own_dig N).length ≤ 2 * vs.length + 2) (ge : n0 ≤ a) (geb : n0 ≤ b) :
    Con l [] (⟨"java/lang/StringBuilder", "append", "(J)Ljava/lang/StringBuilder;"⟩ : MethodName) jdk_67_method_16_code 3 (some (.object "java/lang/StringBuilder")) ({ frames := 5, cells := 1, slots := 34, locals := 85 } : Room) Z #[(.ref a), (.long (i64 N))] h0 n0 (fun v h => v = some (.ref a) ∧ Keep h0 h [a, b] ∧ ∃ (b' : Nat) (k' : ClassId) (ws : List Value), own_SN Z h a b' k' ws (cs ++ own_dig N) ∧ (b' = b ∨ h0.size ≤ b')) := by
  refine enter (Ls := #[.val (.ref a), .val (.long (i64 N)), .second]) pn28 (fun m => by first | (simp [entryFrame, mkF, argsToLocals, Value.category]; done) | rfl) ?_
  intro K C
  refine r_aloadN C (pc' := 1) d23_0 rfl rfl rfl ?_
  refine r_lloadN C (pc' := 2) d23_1 rfl rfl ?_
  refine r_callX C (pc' := 5) (argsL := [.long (i64 N)]) (l_asbappJ l Z a0 hw n0 h0 cc fv ss ol t1 t2 q1 q2 dt a b k vs cs B N hN hn0 hn hg ge geb) (Ins.of_exa B.1 (w97 hw)) d23_2 rfl (w159 hw) (w160 hw) (nf_cls (y' := ({ cls := "java/lang/AbstractStringBuilder", name := "ensureCapacityInternal", desc := "(I)V" } : Jvm.MethodName)) rfl (w130 hw) (notFace_of_selects (w132 hw))) (w114 hw) (w98 hw) (w162 hw) (by decide) (by decide) pd19 (st := []) rfl rfl rfl (W := 0) (Nat.le_of_eq rfl) (by decide) (by decide) (by decide) (by decide) (cells' := 1) (slots' := 34) rfl rfl ?_
  rintro _ h1 ⟨rfl, K1, r⟩
  show Run _ _ _ _ _ h1 _ _ 5 #[.val (.ref a), .val (.long (i64 N)), .second] [.ref a]
  refine r_pop C (pc' := 6) d23_5 rfl rfl ?_
  refine r_aloadN C (pc' := 7) d23_6 rfl rfl rfl ?_
  exact r_areturn C d23_7 rfl rfl (by decide) (by decide) (Nat.zero_le _) (fun _ _ => ⟨rfl, K1, r⟩)
set_option maxRecDepth 65536 in
set_option maxHeartbeats 4000000 in
theorem o_req1 (l : Launch) (Z : State) (a0 : Array Value) (hw : ∀ d ∈ tables_1, d.before a0 Z = true) (n0 : Nat) (h0 : Heap) (x : Nat) :
    Con l [] (⟨"java/util/Objects", "requireNonNull", "(Ljava/lang/Object;)Ljava/lang/Object;"⟩ : MethodName) jdk_31_method_10_code 1 (some (.object "java/lang/Object")) ({ frames := 0, cells := 0, slots := 0, locals := 0 } : Room) Z #[(.ref x)] h0 n0 (fun v h => v = some (.ref x) ∧ h0 = h) := by
  refine enter (Ls := #[.val (.ref x)]) pn29 (fun m => by first | (simp [entryFrame, mkF, argsToLocals, Value.category]; done) | rfl) ?_
  intro K C
  refine r_aloadN C (pc' := 1) d40_0 rfl rfl rfl ?_
  refine r_ifnonnull_t C (pc' := 12) d40_1 (by decide) (by decide) rfl (fun e => nomatch e) ?_
  refine r_aloadN C (pc' := 13) d40_12 rfl rfl rfl ?_
  exact r_areturn C d40_13 rfl rfl (by decide) (by decide) (Nat.zero_le _) (fun _ _ => ⟨rfl, rfl⟩)
set_option maxRecDepth 65536 in
set_option maxHeartbeats 4000000 in
theorem o_req2 (l : Launch) (Z : State) (a0 : Array Value) (hw : ∀ d ∈ tables_1, d.before a0 Z = true) (n0 : Nat) (h0 : Heap) (x y : Nat) :
    Con l [] (⟨"java/util/Objects", "requireNonNull", "(Ljava/lang/Object;Ljava/lang/String;)Ljava/lang/Object;"⟩ : MethodName) jdk_31_method_11_code 2 (some (.object "java/lang/Object")) ({ frames := 0, cells := 0, slots := 0, locals := 0 } : Room) Z #[(.ref x), (.ref y)] h0 n0 (fun v h => v = some (.ref x) ∧ h0 = h) := by
  refine enter (Ls := #[.val (.ref x), .val (.ref y)]) pn30 (fun m => by first | (simp [entryFrame, mkF, argsToLocals, Value.category]; done) | rfl) ?_
  intro K C
  refine r_aloadN C (pc' := 1) d11_0 rfl rfl rfl ?_
  refine r_ifnonnull_t C (pc' := 13) d11_1 (by decide) (by decide) rfl (fun e => nomatch e) ?_
  refine r_aloadN C (pc' := 14) d11_13 rfl rfl rfl ?_
  exact r_areturn C d11_14 rfl rfl (by decide) (by decide) (Nat.zero_le _) (fun _ _ => ⟨rfl, rfl⟩)
set_option maxRecDepth 65536 in
set_option maxHeartbeats 4000000 in
theorem o_rec (l : Launch) (Z : State) (a0 : Array Value) (hw : ∀ d ∈ tables_1, d.before a0 Z = true) (n0 : Nat) (h0 : Heap) (a : Nat) :
    Con l [] (⟨"java/lang/Record", "<init>", "()V"⟩ : MethodName) jdk_30_method_1_code 1 none ({ frames := 1, cells := 0, slots := 0, locals := 12 } : Room) Z #[(.ref a)] h0 n0 (fun v h => v = none ∧ h0 = h) := by
  refine enter (Ls := #[.val (.ref a)]) pn31 (fun m => by first | (simp [entryFrame, mkF, argsToLocals, Value.category]; done) | rfl) ?_
  intro K C
  refine r_aloadN C (pc' := 1) d10_0 rfl rfl rfl ?_
  refine r_initO C (pc' := 4) (W := 0) d10_1 rfl (w71 hw) (w37 hw) (w38 hw) rfl (by decide) (Nat.le_of_eq rfl) (by decide) ?_
  exact r_return C d10_4 (by decide) (by decide) (Nat.zero_le _) (fun _ _ => ⟨rfl, rfl⟩)
set_option maxRecDepth 65536 in
set_option maxHeartbeats 4000000 in
theorem o_init (l : Launch) (Z : State) (a0 : Array Value) (hw : ∀ d ∈ tables_1, d.before a0 Z = true) (n0 : Nat) (h0 : Heap) (a x : Nat) (ge : n0 ≤ a) (E : Exa Z h0 a "java/util/Optional") (vo : Value) (F : Fld Z h0 a "java/util/Optional" "value" "Ljava/lang/Object;" vo) :
    Con l [] (⟨"java/util/Optional", "<init>", "(Ljava/lang/Object;)V"⟩ : MethodName) jdk_32_method_2_code 2 none ({ frames := 1, cells := 0, slots := 0, locals := 12 } : Room) Z #[(.ref a), (.ref x)] h0 n0 (fun v h => v = none ∧ Keep h0 h [a] ∧ own_O Z h a (.ref x)) := by
  refine enter (Ls := #[.val (.ref a), .val (.ref x)]) pn32 (fun m => by first | (simp [entryFrame, mkF, argsToLocals, Value.category]; done) | rfl) ?_
  intro K C
  refine r_aloadN C (pc' := 1) d57_0 rfl rfl rfl ?_
  refine r_initO C (pc' := 4) (W := 0) d57_1 rfl (w320 hw) (w37 hw) (w38 hw) rfl (by decide) (Nat.le_of_eq rfl) (by decide) ?_
  refine r_aloadN C (pc' := 5) d57_4 rfl rfl rfl ?_
  refine r_aloadN C (pc' := 6) d57_5 rfl rfl rfl ?_
  refine r_putF C (pc' := 9) d57_6 rfl (w243 hw) Via.refl F E (Or.inr ⟨(w244 hw), rfl, rfl⟩) (w315 hw) (ty := (.object "java/lang/Object")) (by decide) rfl rfl ge ?_
  intro h1 W1
  replace F := F.same W1
  replace E := E.wr W1
  exact r_return C d57_9 (by decide) (by decide) (Nat.zero_le _) (fun _ _ => ⟨rfl, (Keep.refl h0 [a]).wr W1 (Or.inl (by simp)), E, F⟩)
set_option maxRecDepth 65536 in
set_option maxHeartbeats 4000000 in
theorem o_of (l : Launch) (Z : State) (a0 : Array Value) (hw : ∀ d ∈ tables_1, d.before a0 Z = true) (n0 : Nat) (h0 : Heap) (hn : n0 ≤ h0.size) (x : Nat) :
    Con l [] (⟨"java/util/Optional", "of", "(Ljava/lang/Object;)Ljava/util/Optional;"⟩ : MethodName) jdk_32_method_3_code 1 (some (.object "java/util/Optional")) ({ frames := 2, cells := 1, slots := 1, locals := 26 } : Room) Z #[(.ref x)] h0 n0 (fun v h => ∃ a : Nat, v = some (.ref a) ∧ Keep h0 h [] ∧ own_O Z h a (.ref x) ∧ a = h0.size) := by
  refine enter (Ls := #[.val (.ref x)]) pn33 (fun m => by first | (simp [entryFrame, mkF, argsToLocals, Value.category]; done) | rfl) ?_
  intro K C
  refine r_new C (pc' := 3) d56_0 rfl (w314 hw) (w315 hw) (w57 hw) (by decide) (by decide) ?_
  intro h1 a ga E1 Ea D1
  have Fv : Fld Z h1 a "java/util/Optional" "value" "Ljava/lang/Object;" .null := D1 (Or.inr (w244 hw)) (ty := (.object "java/lang/Object")) (by decide)
  have z1 := E1.1
  refine r_dup C (pc' := 4) d56_3 rfl rfl ?_
  refine r_aloadN C (pc' := 5) d56_4 rfl rfl rfl ?_
  refine r_callS C (pc' := 8) (argsL := [.ref x]) (o_req1 l Z a0 hw n0 h1 x) d56_5 rfl (w235 hw) (w236 hw) (w77 hw) (w237 hw) (by decide) pd20 (st := [.ref a, .ref a]) rfl rfl rfl (W := 2) (Nat.le_of_eq rfl) (by decide) (by decide) (by decide) (by decide) (cells' := 1) (slots' := 1) rfl rfl ?_
  rintro _ _ ⟨rfl, rfl⟩
  show Run _ _ _ _ _ h1 _ _ 8 #[.val (.ref x)] [.ref x, .ref a, .ref a]
  refine r_callI C (pc' := 11) (argsL := [.ref x]) (o_init l Z a0 hw n0 h1 a x (by omega) Ea _ Fv) d56_8 rfl (w316 hw) (w317 hw) (w57 hw) (w319 hw) rfl (by decide) pd21 (st := [.ref a]) rfl rfl rfl (W := 1) (Nat.le_of_eq rfl) (by decide) (by decide) (by decide) (by decide) (cells' := 1) (slots' := 1) rfl rfl ?_
  rintro _ h2 ⟨rfl, K2, O2⟩
  show Run _ _ _ _ _ h2 _ _ 11 #[.val (.ref x)] [.ref a]
  exact r_areturn C d56_11 rfl rfl (by decide) (by decide) (Nat.zero_le _) (fun _ _ => ⟨a, rfl, ((Keep.refl h0 []).ext E1).trans K2 (allS (Or.inr (by omega)) all0), O2, ga⟩)
set_option maxRecDepth 65536 in
set_option maxHeartbeats 4000000 in
theorem o_ofN (l : Launch) (Z : State) (a0 : Array Value) (hw : ∀ d ∈ tables_1, d.before a0 Z = true) (n0 : Nat) (h0 : Heap) (hn : n0 ≤ h0.size) (x : Nat) :
    Con l [] (⟨"java/util/Optional", "ofNullable", "(Ljava/lang/Object;)Ljava/util/Optional;"⟩ : MethodName) jdk_32_method_4_code 1 (some (.object "java/util/Optional")) ({ frames := 2, cells := 1, slots := 1, locals := 26 } : Room) Z #[(.ref x)] h0 n0 (fun v h => ∃ a : Nat, v = some (.ref a) ∧ Keep h0 h [] ∧ own_O Z h a (.ref x) ∧ a = h0.size) := by
  refine enter (Ls := #[.val (.ref x)]) pn34 (fun m => by first | (simp [entryFrame, mkF, argsToLocals, Value.category]; done) | rfl) ?_
  intro K C
  refine r_aloadN C (pc' := 1) d59_0 rfl rfl rfl ?_
  refine r_ifnonnull_t C (pc' := 10) d59_1 (by decide) (by decide) rfl (fun e => nomatch e) ?_
  refine r_new C (pc' := 13) d59_10 rfl (w314 hw) (w315 hw) (w57 hw) (by decide) (by decide) ?_
  intro h1 a ga E1 Ea D1
  have Fv : Fld Z h1 a "java/util/Optional" "value" "Ljava/lang/Object;" .null := D1 (Or.inr (w244 hw)) (ty := (.object "java/lang/Object")) (by decide)
  have z1 := E1.1
  refine r_dup C (pc' := 14) d59_13 rfl rfl ?_
  refine r_aloadN C (pc' := 15) d59_14 rfl rfl rfl ?_
  refine r_callI C (pc' := 18) (argsL := [.ref x]) (o_init l Z a0 hw n0 h1 a x (by omega) Ea _ Fv) d59_15 rfl (w316 hw) (w317 hw) (w57 hw) (w319 hw) rfl (by decide) pd21 (st := [.ref a]) rfl rfl rfl (W := 1) (Nat.le_of_eq rfl) (by decide) (by decide) (by decide) (by decide) (cells' := 1) (slots' := 1) rfl rfl ?_
  rintro _ h2 ⟨rfl, K2, O2⟩
  show Run _ _ _ _ _ h2 _ _ 18 #[.val (.ref x)] [.ref a]
  exact r_areturn C d59_18 rfl rfl (by decide) (by decide) (Nat.zero_le _) (fun _ _ => ⟨a, rfl, ((Keep.refl h0 []).ext E1).trans K2 (allS (Or.inr (by omega)) all0), O2, ga⟩)
set_option maxRecDepth 65536 in
set_option maxHeartbeats 4000000 in
theorem o_empty (l : Launch) (Z : State) (a0 : Array Value) (hw : ∀ d ∈ tables_1, d.before a0 Z = true) (n0 : Nat) (h0 : Heap) (em : Nat) (oe : own_OE Z em) (ol : Od Z n0 h0) :
    Con l [] (⟨"java/util/Optional", "empty", "()Ljava/util/Optional;"⟩ : MethodName) jdk_32_method_1_code 1 (some (.object "java/util/Optional")) ({ frames := 0, cells := 0, slots := 0, locals := 0 } : Room) Z #[] h0 n0 (fun v h => v = some (.ref em) ∧ h0 = h) := by
  refine enter (Ls := #[.unset]) pn35 (fun m => by first | (simp [entryFrame, mkF, argsToLocals, Value.category]; done) | rfl) ?_
  intro K C
  refine r_getS C (pc' := 3) d8_0 rfl (w59 hw) Via.refl (oe.1.ext ol.2) ?_
  refine r_astoreN C (pc' := 4) (Ls' := #[.val (.ref em)]) d8_3 rfl rfl rfl ?_
  refine r_aloadN C (pc' := 5) d8_4 rfl rfl rfl ?_
  exact r_areturn C d8_5 rfl rfl (by decide) (by decide) (Nat.zero_le _) (fun _ _ => ⟨rfl, rfl⟩)
set_option maxRecDepth 65536 in
set_option maxHeartbeats 4000000 in
theorem o_isEmptyN (l : Launch) (Z : State) (a0 : Array Value) (hw : ∀ d ∈ tables_1, d.before a0 Z = true) (n0 : Nat) (h0 : Heap) (a x : Nat) (O : own_O Z h0 a (.null)) :
    Con l [] (⟨"java/util/Optional", "isEmpty", "()Z"⟩ : MethodName) jdk_32_method_7_code 1 (some .boolean) ({ frames := 0, cells := 0, slots := 0, locals := 0 } : Room) Z #[(.ref a)] h0 n0 (fun v h => v = some (.int 1) ∧ h0 = h) := by
  refine enter (Ls := #[.val (.ref a)]) pn36 (fun m => by first | (simp [entryFrame, mkF, argsToLocals, Value.category]; done) | rfl) ?_
  intro K C
  refine r_aloadN C (pc' := 1) d41_0 rfl rfl rfl ?_
  refine r_getF C (pc' := 4) d41_1 rfl (w243 hw) Via.refl O.2 ?_
  refine r_ifnonnull_f C (pc' := 7) d41_4 rfl rfl rfl ?_
  refine r_iconst C (pc' := 8) (v := 1) d41_7 rfl rfl ?_
  refine r_goto C (pc' := 12) d41_8 (by decide) (by decide) ?_
  exact r_zreturn C d41_12 rfl (by decide) (by decide) (Nat.zero_le _) (fun _ _ => ⟨rfl, rfl⟩)
set_option maxRecDepth 65536 in
set_option maxHeartbeats 4000000 in
theorem o_isEmptyS (l : Launch) (Z : State) (a0 : Array Value) (hw : ∀ d ∈ tables_1, d.before a0 Z = true) (n0 : Nat) (h0 : Heap) (a x : Nat) (O : own_O Z h0 a (.ref x)) :
    Con l [] (⟨"java/util/Optional", "isEmpty", "()Z"⟩ : MethodName) jdk_32_method_7_code 1 (some .boolean) ({ frames := 0, cells := 0, slots := 0, locals := 0 } : Room) Z #[(.ref a)] h0 n0 (fun v h => v = some (.int 0) ∧ h0 = h) := by
  refine enter (Ls := #[.val (.ref a)]) pn36 (fun m => by first | (simp [entryFrame, mkF, argsToLocals, Value.category]; done) | rfl) ?_
  intro K C
  refine r_aloadN C (pc' := 1) d41_0 rfl rfl rfl ?_
  refine r_getF C (pc' := 4) d41_1 rfl (w243 hw) Via.refl O.2 ?_
  refine r_ifnonnull_t C (pc' := 11) d41_4 (by decide) (by decide) rfl (fun e => nomatch e) ?_
  refine r_iconst C (pc' := 12) (v := 0) d41_11 rfl rfl ?_
  exact r_zreturn C d41_12 rfl (by decide) (by decide) (Nat.zero_le _) (fun _ _ => ⟨rfl, rfl⟩)
set_option maxRecDepth 65536 in
set_option maxHeartbeats 4000000 in
theorem o_orElse (l : Launch) (Z : State) (a0 : Array Value) (hw : ∀ d ∈ tables_1, d.before a0 Z = true) (n0 : Nat) (h0 : Heap) (a : Nat) (nm : Option (List Nat)) (OO : own_OO Z h0 a nm) (e eb : Nat) (ek : ClassId) (Se : St Z h0 e eb ek []) :
    Con l [] (⟨"java/util/Optional", "orElse", "(Ljava/lang/Object;)Ljava/lang/Object;"⟩ : MethodName) jdk_32_method_15_code 2 (some (.object "java/lang/Object")) ({ frames := 0, cells := 0, slots := 0, locals := 0 } : Room) Z #[(.ref a), (.ref e)] h0 n0 (fun v h => ∃ (s sb : Nat) (sk : ClassId), v = some (.ref s) ∧ h0 = h ∧ St Z h s sb sk (nm.getD [])) := by
  refine enter (Ls := #[.val (.ref a), .val (.ref e)]) pn37 (fun m => by first | (simp [entryFrame, mkF, argsToLocals, Value.category]; done) | rfl) ?_
  intro K C
  rcases OO with ⟨rfl, O⟩ | ⟨ds, x, sb, sk, rfl, O, S⟩
  ·
    refine r_aloadN C (pc' := 1) d42_0 rfl rfl rfl ?_
    refine r_getF C (pc' := 4) d42_1 rfl (w243 hw) Via.refl O.2 ?_
    refine r_ifnull_t C (pc' := 14) d42_4 (by decide) (by decide) rfl rfl ?_
    refine r_aloadN C (pc' := 15) d42_14 rfl rfl rfl ?_
    exact r_areturn C d42_15 rfl rfl (by decide) (by decide) (Nat.zero_le _) (fun _ _ => ⟨e, eb, ek, rfl, rfl, Se⟩)
  ·
    refine r_aloadN C (pc' := 1) d42_0 rfl rfl rfl ?_
    refine r_getF C (pc' := 4) d42_1 rfl (w243 hw) Via.refl O.2 ?_
    refine r_ifnull_f C (pc' := 7) d42_4 rfl rfl (fun e => nomatch e) ?_
    refine r_aloadN C (pc' := 8) d42_7 rfl rfl rfl ?_
    refine r_getF C (pc' := 11) d42_8 rfl (w243 hw) Via.refl O.2 ?_
    refine r_goto C (pc' := 15) d42_11 (by decide) (by decide) ?_
    exact r_areturn C d42_15 rfl rfl (by decide) (by decide) (Nat.zero_le _) (fun _ _ => ⟨x, sb, sk, rfl, rfl, S⟩)
set_option maxRecDepth 65536 in
set_option maxHeartbeats 4000000 in
theorem c_lam (l : Launch) (Z : State) (a0 : Array Value) (hw : ∀ d ∈ tables_1, d.before a0 Z = true) (n0 : Nat) (h0 : Heap) (cc : Int32) (fv : Value) (ss : own_SS Z cc fv) (ol : Od Z n0 h0) (hn0 : n0 = h0.size) (x sb : Nat) (sk : ClassId) (ds : List Nat) (S : St Z h0 x sb sk ds) (hds : ds.length ≤ 2) (held33 : Jvm.Lit.constHeld Z "com/example/wrange/wrange/IntegrityCheck" 33) (hcw : Jvm.Lit.compactW.before a0 Z = true) :
    ConW l [] (⟨"com/example/wrange/wrange/IntegrityCheck", "lambda$withCharset$0", "(Ljava/lang/String;)Ljava/lang/String;"⟩ : MethodName) prog_12_method_5_code 1 (some (.object "java/lang/String")) ({ frames := 6, cells := 8, slots := 134, locals := 113 } : Room) Z #[(.ref x)] h0 n0 (fun vm => EMP Z h0 vm ["length=", "charset"]) (fun v h vm => ∃ (s tb : Nat) (tk : ClassId), v = some (.ref s) ∧ Keep h0 h [] ∧ St Z h s tb tk (44 :: ds) ∧ EMP Z h vm [",", "length=", "charset"]) := by
  refine enterW (Ls := #[.val (.ref x)]) pn38 (fun m => by first | (simp [entryFrame, mkF, argsToLocals, Value.category]; done) | rfl) ?_
  intro K vm kz B D hkz hV
  have C := B.ctx0 D
  have wS : ∀ a ∈ Bundle.stringAtoms, a.before a0 Z = true := (by intro a ha; simp only [Bundle.stringAtoms, List.mem_cons, List.not_mem_nil, or_false] at ha; rcases ha with rfl | rfl | rfl | rfl | rfl | rfl | rfl <;> first | exact (w27 hw) | exact (w26 hw) | exact (w44 hw) | exact (w54 hw) | exact (w52 hw) | exact (w73 hw) | exact (w74 hw))
  subst hn0
  refine Run.touch ?_
  replace C := B.ctx D
  refine r_new C (pc' := 3) d58_0 rfl (w224 hw) (w89 hw) (w90 hw) (by decide) (by decide) ?_
  intro h1 a ga E1 Ea D1
  have Fv : Fld Z h1 a "java/lang/AbstractStringBuilder" "value" "[B" (.null) := D1 (Or.inl (w103 hw)) (ty := (.array .byte)) (by decide)
  have Fc : Fld Z h1 a "java/lang/AbstractStringBuilder" "coder" "B" (.int 0) := D1 (Or.inl (w105 hw)) (ty := .byte) (by decide)
  have Fn : Fld Z h1 a "java/lang/AbstractStringBuilder" "count" "I" (.int 0) := D1 (Or.inl (w128 hw)) (ty := .int) (by decide)
  have z1 := E1.1
  have Kp := (Keep.refl h0 []).ext E1
  refine r_dup C (pc' := 4) d58_3 rfl rfl ?_
  refine r_callI C (pc' := 7) (argsL := []) (n_sbinit l Z a0 hw _ h1 cc fv ss (ol.ext E1) a (by omega) (by omega) Ea Fv Fc Fn) d58_4 rfl (w225 hw) (w92 hw) (w90 hw) (w93 hw) rfl (by decide) pd22 (st := [.ref a]) rfl rfl rfl (W := 1) (Nat.le_of_eq rfl) (by decide) (by decide) (by decide) (by decide) (cells' := 2) (slots' := 20) rfl rfl ?_
  rintro _ h2 ⟨rfl, K2, b1, k1, Bd1, gb1⟩
  show Run _ _ _ _ _ h2 _ _ 7 #[.val (.ref x)] [.ref a]
  have z2 := K2.1
  replace Kp := Kp.trans K2 (allS (Or.inr (by omega)) all0)
  have gb1' : h0.size ≤ b1 := by omega
  refine r_ldcT (n := 4) (bs := ([44].map by8)) (pc' := 9) B (Nat.le_refl _) D (by omega) (by omega) d58_7 rfl (w326 hw) wS ol.2.2 hV (by decide) held33 hcw ⟨by decide, by first | decide | rfl⟩ (by decide) (by decide) (by decide) (by decide) (by decide) ?_
  intro vm1 kA h3 lA lAb lAk D zkA EA SA IA
  have EAx := EA.1
  replace C := B.ctx D
  replace Kp := Kp.ext EA
  replace Bd1 := Bd1.ext EA
  obtain ⟨m1, m2, m3, m4⟩ := own_apart (w26 hw) (w89 hw) Bd1 SA (by decide)
  refine r_callV C (pc' := 12) (argsL := [.ref lA]) (n_sbappend l Z a0 hw _ h3 cc fv ss (ol.keep Kp all0) a b1 k1 _ (([] : List Nat)) Bd1 lA lAb lAk ([44]) SA (by omega) (by have := Bd1.2.2.2.2.2.1; simp only [List.length_append, List.length_cons, List.length_nil]; omega) (by have := Bd1.2.2.2.2.2.1; simp only [List.length_append, List.length_cons, List.length_nil]; omega) (by omega) (by omega) m1 m2 m3 m4) Bd1.1 d58_9 rfl (w226 hw) (w108 hw) (nfSel (z := ({ cls := "java/lang/StringBuilder", name := "append", desc := "(Ljava/lang/String;)Ljava/lang/StringBuilder;" } : Jvm.MethodName)) (w110 hw)) (w110 hw) (w109 hw) (w90 hw) (w111 hw) (by decide) pd23 (st := []) rfl rfl rfl (W := 0) (Nat.le_of_eq rfl) (by decide) (by decide) (by decide) (by decide) (cells' := 5) (slots' := 62) rfl rfl ?_
  rintro _ h4 ⟨rfl, Ka2, b2, k2, ws2, Bd2, gb2⟩
  show Run _ _ _ _ _ h4 _ _ 12 #[.val (.ref x)] [.ref a]
  have za2 := Ka2.1
  replace Kp := Kp.trans Ka2 (allS (Or.inr (by omega)) (allS (Or.inr (by omega)) all0))
  have gb2' : h0.size ≤ b2 := by omega
  refine r_aloadN C (pc' := 13) d58_12 rfl rfl rfl ?_
  obtain ⟨m1, m2, m3, m4⟩ := own_apart (w26 hw) (w89 hw) Bd2 (S.keep Kp nin0 nin0) (by omega)
  refine r_callV C (pc' := 16) (argsL := [.ref x]) (n_sbappend l Z a0 hw _ h4 cc fv ss (ol.keep Kp all0) a b2 k2 _ (([] : List Nat) ++ [44]) Bd2 x sb sk (ds) (S.keep Kp nin0 nin0) (by omega) (by have := Bd2.2.2.2.2.2.1; simp only [List.length_append, List.length_cons, List.length_nil]; omega) (by have := Bd2.2.2.2.2.2.1; simp only [List.length_append, List.length_cons, List.length_nil]; omega) (by omega) (by omega) m1 m2 m3 m4) Bd2.1 d58_13 rfl (w226 hw) (w108 hw) (nfSel (z := ({ cls := "java/lang/StringBuilder", name := "append", desc := "(Ljava/lang/String;)Ljava/lang/StringBuilder;" } : Jvm.MethodName)) (w110 hw)) (w110 hw) (w109 hw) (w90 hw) (w111 hw) (by decide) pd23 (st := []) rfl rfl rfl (W := 0) (Nat.le_of_eq rfl) (by decide) (by decide) (by decide) (by decide) (cells' := 6) (slots' := 96) rfl rfl ?_
  rintro _ h5 ⟨rfl, Ka3, b3, k3, ws3, Bd3, gb3⟩
  show Run _ _ _ _ _ h5 _ _ 16 #[.val (.ref x)] [.ref a]
  have za3 := Ka3.1
  replace Kp := Kp.trans Ka3 (allS (Or.inr (by omega)) (allS (Or.inr (by omega)) all0))
  have gb3' : h0.size ≤ b3 := by omega
  refine r_callV C (pc' := 19) (argsL := []) (n_sbtoString l Z a0 hw _ h5 cc fv ss (ol.keep Kp all0) (by omega) a b3 k3 _ _ Bd3) Bd3.1 d58_16 rfl (w253 hw) (w180 hw) (nfSel (z := ({ cls := "java/lang/StringBuilder", name := "toString", desc := "()Ljava/lang/String;" } : Jvm.MethodName)) (w182 hw)) (w182 hw) (w181 hw) (w90 hw) (w183 hw) (by decide) pd24 (st := []) rfl rfl rfl (W := 0) (Nat.le_of_eq rfl) (by decide) (by decide) (by decide) (by decide) (cells' := 8) (slots' := 134) rfl rfl ?_
  rintro _ h9 ⟨s, tb, tk, rfl, K9, S9⟩
  show Run _ _ _ _ _ h9 _ _ 19 #[.val (.ref x)] [.ref s]
  have z9 := K9.1
  replace Kp := Kp.trans K9 all0
  have S9' : St Z h9 s tb tk (44 :: ds) := S9
  exact r_areturn C d58_19 rfl rfl (by decide) (by decide) (by omega) (fun vm' hW => ⟨s, tb, tk, rfl, Kp, S9', EMP.at (EMP.keep IA Kp) hW⟩)
set_option maxRecDepth 65536 in
set_option maxHeartbeats 4000000 in
theorem o_map (l : Launch) (Z : State) (a0 : Array Value) (hw : ∀ d ∈ tables_1, d.before a0 Z = true) (n0 : Nat) (h0 : Heap) (cc : Int32) (fv : Value) (ss : own_SS Z cc fv) (ol : Od Z n0 h0) (em : Nat) (oe : own_OE Z em) (hn0 : n0 = h0.size) (a f : Nat) (fo : own_FO Z f) (nm : Option (List Nat)) (OO : own_OO Z h0 a nm) (hds : ∀ ds, nm = some ds → ds.length ≤ 2) (held33 : Jvm.Lit.constHeld Z "com/example/wrange/wrange/IntegrityCheck" 33) (hcw : Jvm.Lit.compactW.before a0 Z = true) :
    ConW l [] (⟨"java/util/Optional", "map", "(Ljava/util/function/Function;)Ljava/util/Optional;"⟩ : MethodName) jdk_32_method_11_code 2 (some (.object "java/util/Optional")) ({ frames := 8, cells := 9, slots := 135, locals := 138 } : Room) Z #[(.ref a), (.ref f)] h0 n0 (fun vm => EMP Z h0 vm ["length=", "charset"]) (fun v h vm => ∃ o : Nat, v = some (.ref o) ∧ Keep h0 h [] ∧ own_OO Z h o (nm.map (44 :: ·)) ∧ EMP Z h vm [",", "length=", "charset"]) := by
  refine enterW (Ls := #[.val (.ref a), .val (.ref f)]) pn39 (fun m => by first | (simp [entryFrame, mkF, argsToLocals, Value.category]; done) | rfl) ?_
  intro K vm kz B D hkz hV
  have C := B.ctx0 D
  subst hn0
  refine Run.touch ?_
  replace C := B.ctx D
  rcases OO with ⟨rfl, O⟩ | ⟨ds, x, sb, sk, rfl, O, S⟩
  ·
    refine r_aloadN C (pc' := 1) d39_0 rfl rfl rfl ?_
    refine r_callS C (pc' := 4) (argsL := [.ref f]) (o_req1 l Z a0 hw _ h0 f) d39_1 rfl (w235 hw) (w236 hw) (w77 hw) (w237 hw) (by decide) pd20 (st := []) rfl rfl rfl (W := 0) (Nat.le_of_eq rfl) (by decide) (by decide) (by decide) (by decide) (cells' := 0) (slots' := 0) rfl rfl ?_
    rintro _ _ ⟨rfl, rfl⟩
    show Run _ _ _ _ _ _ _ _ 4 #[.val (.ref a), .val (.ref f)] [.ref f]
    refine r_pop C (pc' := 5) d39_4 rfl rfl ?_
    refine r_aloadN C (pc' := 6) d39_5 rfl rfl rfl ?_
    refine r_callV C (pc' := 9) (argsL := []) (o_isEmptyN l Z a0 hw _ _ a 0 O) O.1 d39_6 rfl (w238 hw) (w239 hw) (nfSel (z := ({ cls := "java/util/Optional", name := "isEmpty", desc := "()Z" } : Jvm.MethodName)) (w241 hw)) (w241 hw) (w240 hw) (w57 hw) (w242 hw) (by decide) pd14 (st := []) rfl rfl rfl (W := 0) (Nat.le_of_eq rfl) (by decide) (by decide) (by decide) (by decide) (cells' := 0) (slots' := 0) rfl rfl ?_
    rintro _ _ ⟨rfl, rfl⟩
    show Run _ _ _ _ _ _ _ _ 9 #[.val (.ref a), .val (.ref f)] [.int (1 : Int32)]
    refine r_if_eq_f C (pc' := 12) d39_9 rfl (by decide) ?_
    refine r_callS C (pc' := 15) (argsL := []) (o_empty l Z a0 hw _ _ em oe ol) d39_12 rfl (w245 hw) (w56 hw) (w57 hw) (w58 hw) (by decide) pd25 (st := []) rfl rfl rfl (W := 0) (Nat.le_of_eq rfl) (by decide) (by decide) (by decide) (by decide) (cells' := 0) (slots' := 0) rfl rfl ?_
    rintro _ _ ⟨rfl, rfl⟩
    show Run _ _ _ _ _ _ _ _ 15 #[.val (.ref a), .val (.ref f)] [.ref em]
    exact r_areturn C d39_15 rfl rfl (by decide) (by decide) (by omega) (fun vm' hW => ⟨em, rfl, Keep.refl _ _, Or.inl ⟨rfl, oe.2.ext ol.2⟩, EMP.at (EMP.mono hV (by simp)) hW⟩)
  ·
    refine r_aloadN C (pc' := 1) d39_0 rfl rfl rfl ?_
    refine r_callS C (pc' := 4) (argsL := [.ref f]) (o_req1 l Z a0 hw _ h0 f) d39_1 rfl (w235 hw) (w236 hw) (w77 hw) (w237 hw) (by decide) pd20 (st := []) rfl rfl rfl (W := 0) (Nat.le_of_eq rfl) (by decide) (by decide) (by decide) (by decide) (cells' := 0) (slots' := 0) rfl rfl ?_
    rintro _ _ ⟨rfl, rfl⟩
    show Run _ _ _ _ _ _ _ _ 4 #[.val (.ref a), .val (.ref f)] [.ref f]
    refine r_pop C (pc' := 5) d39_4 rfl rfl ?_
    refine r_aloadN C (pc' := 6) d39_5 rfl rfl rfl ?_
    refine r_callV C (pc' := 9) (argsL := []) (o_isEmptyS l Z a0 hw _ _ a x O) O.1 d39_6 rfl (w238 hw) (w239 hw) (nfSel (z := ({ cls := "java/util/Optional", name := "isEmpty", desc := "()Z" } : Jvm.MethodName)) (w241 hw)) (w241 hw) (w240 hw) (w57 hw) (w242 hw) (by decide) pd14 (st := []) rfl rfl rfl (W := 0) (Nat.le_of_eq rfl) (by decide) (by decide) (by decide) (by decide) (cells' := 0) (slots' := 0) rfl rfl ?_
    rintro _ _ ⟨rfl, rfl⟩
    show Run _ _ _ _ _ _ _ _ 9 #[.val (.ref a), .val (.ref f)] [.int (0 : Int32)]
    refine r_if_eq_t C (pc' := 16) d39_9 (by decide) (by decide) (by decide) ?_
    refine r_aloadN C (pc' := 17) d39_16 rfl rfl rfl ?_
    refine r_aloadN C (pc' := 18) d39_17 rfl rfl rfl ?_
    have hds' := hds ds rfl
    refine r_getF C (pc' := 21) d39_18 rfl (w243 hw) Via.refl O.2 ?_
    obtain ⟨cF, cS, t, f1, f2, f3, f4, f5, f6⟩ := fo
    refine r_fnW (pc' := 26) B D (by omega) (w321 hw) (w322 hw) (w323 hw) (by decide) (by decide) pd20 rfl f3 (ol.2.2 _ _ f1) f2 f6 own_f0 own_f1 own_f4 own_f7 f4 S.1 (c_lam l Z a0 hw _ _ cc fv ss ol rfl x sb sk ds S hds' held33 hcw) (fun vm' hW => EMP.warm hV hW) (fun v h vm q => by obtain ⟨s, _, _, e, _⟩ := q; exact ⟨s, e⟩) (w324 hw) (w222 hw) (w325 hw) (by decide) f5 pd26 rfl d39_21 rfl rfl (W := 0) (Nat.le_of_eq rfl) (by decide) (by decide) (by decide) (by decide) (cells' := 8) (slots' := 134) rfl rfl ?_
    rintro _ h1 vm1 ⟨s, tb, tk, rfl, K1, S1, I1⟩ x1 D1
    replace D := D1
    replace C := B.ctx D
    show Run _ _ _ _ _ h1 _ _ 26 #[.val (.ref a), .val (.ref f)] [.ref s]
    refine r_callS C (pc' := 29) (argsL := [.ref s]) (o_ofN l Z a0 hw _ h1 (by omega) s) d39_26 rfl (w327 hw) (w328 hw) (w57 hw) (w329 hw) (by decide) pd27 (st := []) rfl rfl rfl (W := 0) (Nat.le_of_eq rfl) (by decide) (by decide) (by decide) (by decide) (cells' := 9) (slots' := 135) rfl rfl ?_
    rintro _ h2 ⟨o, rfl, K2, O2, go⟩
    show Run _ _ _ _ _ h2 _ _ 29 #[.val (.ref a), .val (.ref f)] [.ref o]
    have z2 := K2.1
    exact r_areturn C d39_29 rfl rfl (by decide) (by decide) (by omega) (fun vm' hW => ⟨o, rfl, K1.trans K2 all0, Or.inr ⟨44 :: ds, s, tb, tk, rfl, O2, S1.keep K2 nin0 nin0⟩, EMP.at (EMP.keep I1 K2) hW⟩)
set_option maxRecDepth 65536 in
set_option maxHeartbeats 4000000 in
theorem c_wc (l : Launch) (Z : State) (a0 : Array Value) (hw : ∀ d ∈ tables_1, d.before a0 Z = true) (n0 : Nat) (h0 : Heap) (cc : Int32) (fv : Value) (ss : own_SS Z cc fv) (ol : Od Z n0 h0) (em : Nat) (oe : own_OE Z em) (hn0 : n0 = h0.size) (t tb : Nat) (tk : ClassId) (cs : List Nat) (T : St Z h0 t tb tk cs) (hcs : cs.length ≤ 26) (o : Nat) (nm : Option (List Nat)) (OO : own_OO Z h0 o nm) (hds : ∀ ds, nm = some ds → ds.length ≤ 2) (held33 : Jvm.Lit.constHeld Z "com/example/wrange/wrange/IntegrityCheck" 33) (held21 : Jvm.Lit.constHeld Z "com/example/wrange/wrange/IntegrityCheck" 21) (hcw : Jvm.Lit.compactW.before a0 Z = true) (hfit : Fit Z) :
    ConW l [] (⟨"com/example/wrange/wrange/IntegrityCheck", "withCharset", "(Ljava/lang/String;Ljava/util/Optional;)Ljava/lang/String;"⟩ : MethodName) prog_12_method_4_code 2 (some (.object "java/lang/String")) ({ frames := 9, cells := 17, slots := 265, locals := 3074 } : Room) Z #[(.ref t), (.ref o)] h0 n0 (fun vm => EMP Z h0 vm ["length=", "charset"]) (fun v h vm => ∃ (s sb : Nat) (sk : ClassId), v = some (.ref s) ∧ Keep h0 h [] ∧ St Z h s sb sk (cs ++ own_tx nm)) := by
  refine enterWN (Ls := #[.val (.ref t), .val (.ref o)]) pn40 (fun m => by first | (simp [entryFrame, mkF, argsToLocals, Value.category]; done) | rfl) ?_
  intro K vm kz B D hkz hV kn
  have C := B.ctx0 D
  have wS : ∀ a ∈ Bundle.stringAtoms, a.before a0 Z = true := (by intro a ha; simp only [Bundle.stringAtoms, List.mem_cons, List.not_mem_nil, or_false] at ha; rcases ha with rfl | rfl | rfl | rfl | rfl | rfl | rfl <;> first | exact (w27 hw) | exact (w26 hw) | exact (w44 hw) | exact (w54 hw) | exact (w52 hw) | exact (w73 hw) | exact (w74 hw))
  subst hn0
  have hx := own_txLen hds
  have lT := T.lt
  refine Run.touch ?_
  replace C := B.ctx D
  refine r_new C (pc' := 3) d38_0 rfl (w224 hw) (w89 hw) (w90 hw) (by decide) (by decide) ?_
  intro h1 a ga E1 Ea D1
  have Fv : Fld Z h1 a "java/lang/AbstractStringBuilder" "value" "[B" (.null) := D1 (Or.inl (w103 hw)) (ty := (.array .byte)) (by decide)
  have Fc : Fld Z h1 a "java/lang/AbstractStringBuilder" "coder" "B" (.int 0) := D1 (Or.inl (w105 hw)) (ty := .byte) (by decide)
  have Fn : Fld Z h1 a "java/lang/AbstractStringBuilder" "count" "I" (.int 0) := D1 (Or.inl (w128 hw)) (ty := .int) (by decide)
  have z1 := E1.1
  have Kp := (Keep.refl h0 []).ext E1
  refine r_dup C (pc' := 4) d38_3 rfl rfl ?_
  refine r_callI C (pc' := 7) (argsL := []) (n_sbinit l Z a0 hw _ h1 cc fv ss (ol.ext E1) a (by omega) (by omega) Ea Fv Fc Fn) d38_4 rfl (w225 hw) (w92 hw) (w90 hw) (w93 hw) rfl (by decide) pd22 (st := [.ref a]) rfl rfl rfl (W := 1) (Nat.le_of_eq rfl) (by decide) (by decide) (by decide) (by decide) (cells' := 2) (slots' := 20) rfl rfl ?_
  rintro _ h2 ⟨rfl, K2, b1, k1, Bd1, gb1⟩
  show Run _ _ _ _ _ h2 _ _ 7 #[.val (.ref t), .val (.ref o)] [.ref a]
  have z2 := K2.1
  replace Kp := Kp.trans K2 (allS (Or.inr (by omega)) all0)
  have gb1' : h0.size ≤ b1 := by omega
  refine r_aloadN C (pc' := 8) d38_7 rfl rfl rfl ?_
  refine r_callV C (pc' := 11) (argsL := [.ref t]) (n_sbappend l Z a0 hw _ h2 cc fv ss (ol.keep Kp all0) a b1 k1 _ (([] : List Nat)) Bd1 t tb tk (cs) (T.keep Kp nin0 nin0) (by omega) (by have := Bd1.2.2.2.2.2.1; simp only [List.length_append, List.length_cons, List.length_nil]; omega) (by have := Bd1.2.2.2.2.2.1; simp only [List.length_append, List.length_cons, List.length_nil]; omega) (by omega) (by omega) (by omega) (by omega) (by omega) (by omega)) Bd1.1 d38_8 rfl (w226 hw) (w108 hw) (nfSel (z := ({ cls := "java/lang/StringBuilder", name := "append", desc := "(Ljava/lang/String;)Ljava/lang/StringBuilder;" } : Jvm.MethodName)) (w110 hw)) (w110 hw) (w109 hw) (w90 hw) (w111 hw) (by decide) pd23 (st := []) rfl rfl rfl (W := 0) (Nat.le_of_eq rfl) (by decide) (by decide) (by decide) (by decide) (cells' := 3) (slots' := 54) rfl rfl ?_
  rintro _ h3 ⟨rfl, Ka2, b2, k2, ws2, Bd2, gb2⟩
  show Run _ _ _ _ _ h3 _ _ 11 #[.val (.ref t), .val (.ref o)] [.ref a]
  have za2 := Ka2.1
  replace Kp := Kp.trans Ka2 (allS (Or.inr (by omega)) (allS (Or.inr (by omega)) all0))
  have gb2' : h0.size ≤ b2 := by omega
  refine r_aloadN C (pc' := 12) d38_11 rfl rfl rfl ?_
  refine r_indyK (pc' := 17) (W := 2) B D kn d38_12 rfl (w227 hw) rfl rfl (Nat.le_of_eq rfl) (by decide) ?_
  intro f cF hf hfv hm
  show Run _ _ _ _ _ h3 _ _ 17 #[.val (.ref t), .val (.ref o)] [.ref f, .ref o, .ref a]
  obtain ⟨d, hd, hmade, hcan⟩ := hm
  have fo : own_FO Z f := own_made hf hfv hd hmade hcan (w325 hw) (w323 hw) (w119 hw) rfl
  refine r_callVW (pc' := 20) (argsL := [.ref f]) B D (by omega) ((o_map l Z a0 hw h3.size h3 cc fv ss ((ol.keep Kp all0).up (by omega)) em oe rfl o f fo nm (OO.keep Kp) hds held33 hcw).down (by omega)) (OO.keep Kp).exa (fun vm' hW => EMP.warm (EMP.keep hV Kp) hW) d38_17 rfl (w230 hw) (w231 hw) (nfSel (z := ({ cls := "java/util/Optional", name := "map", desc := "(Ljava/util/function/Function;)Ljava/util/Optional;" } : Jvm.MethodName)) (w233 hw)) (w233 hw) (w232 hw) (w57 hw) (w234 hw) (by decide) pd28 (st := [.ref a]) rfl rfl rfl (W := 1) (Nat.le_of_eq rfl) (by decide) (by decide) (by decide) (by decide) (cells' := 12) (slots' := 189) rfl rfl ?_
  rintro _ h8 vm1 ⟨o2, rfl, K8, O2, I8⟩ x8 D8
  replace D := D8
  replace C := B.ctx D
  show Run _ _ _ _ _ h8 _ _ 20 #[.val (.ref t), .val (.ref o)] [.ref o2, .ref a]
  replace Kp := Kp.trans K8 all0
  replace Bd2 := Bd2.keep K8 nin0 nin0
  refine r_ldcV (pc' := 22) B (Nat.le_refl _) D (by omega) (by omega) d38_20 rfl (w246 hw) wS ol.2.2 (ol.keep Kp all0).2 hfit I8 (by decide) held21 hcw (by decide) (by decide) ?_
  intro vm2 kE h9 lE lEb lEk D zkE E9 SE
  have E9x := E9.1
  replace C := B.ctx D
  replace Kp := Kp.ext E9
  replace Bd2 := Bd2.ext E9
  replace O2 := O2.ext E9
  refine r_callV C (pc' := 25) (argsL := [.ref lE]) (o_orElse l Z a0 hw _ h9 o2 _ O2 lE lEb lEk SE) O2.exa d38_22 rfl (w247 hw) (w248 hw) (nfSel (z := ({ cls := "java/util/Optional", name := "orElse", desc := "(Ljava/lang/Object;)Ljava/lang/Object;" } : Jvm.MethodName)) (w250 hw)) (w250 hw) (w249 hw) (w57 hw) (w251 hw) (by decide) pd20 (st := [.ref a]) rfl rfl rfl (W := 1) (Nat.le_of_eq rfl) (by decide) (by decide) (by decide) (by decide) (cells' := 14) (slots' := 193) rfl rfl ?_
  rintro _ _ ⟨s5, s5b, s5k, rfl, rfl, S5⟩
  show Run _ _ _ _ _ h9 _ _ 25 #[.val (.ref t), .val (.ref o)] [.ref s5, .ref a]
  replace S5 : St Z h9 s5 s5b s5k (own_tx nm) := S5
  refine r_checkcast C (pc' := 28) d38_25 rfl (w252 hw) (Ins.of_exa S5.1 (w34 hw)) ?_
  show Run _ _ _ _ _ h9 _ _ 28 #[.val (.ref t), .val (.ref o)] [.ref s5, .ref a]
  obtain ⟨m1, m2, m3, m4⟩ := own_apart (w26 hw) (w89 hw) Bd2 S5 (by omega)
  refine r_callV C (pc' := 31) (argsL := [.ref s5]) (n_sbappend l Z a0 hw _ h9 cc fv ss (ol.keep Kp all0) a b2 k2 _ (([] : List Nat) ++ cs) Bd2 s5 s5b s5k (own_tx nm) S5 (by omega) (by have := Bd2.2.2.2.2.2.1; simp only [List.length_append, List.length_cons, List.length_nil]; omega) (by have := Bd2.2.2.2.2.2.1; simp only [List.length_append, List.length_cons, List.length_nil]; omega) (by omega) (by omega) m1 m2 m3 m4) Bd2.1 d38_28 rfl (w226 hw) (w108 hw) (nfSel (z := ({ cls := "java/lang/StringBuilder", name := "append", desc := "(Ljava/lang/String;)Ljava/lang/StringBuilder;" } : Jvm.MethodName)) (w110 hw)) (w110 hw) (w109 hw) (w90 hw) (w111 hw) (by decide) pd23 (st := []) rfl rfl rfl (W := 0) (Nat.le_of_eq rfl) (by decide) (by decide) (by decide) (by decide) (cells' := 15) (slots' := 227) rfl rfl ?_
  rintro _ h20 ⟨rfl, Ka3, b3, k3, ws3, Bd3, gb3⟩
  show Run _ _ _ _ _ h20 _ _ 31 #[.val (.ref t), .val (.ref o)] [.ref a]
  have za3 := Ka3.1
  replace Kp := Kp.trans Ka3 (allS (Or.inr (by omega)) (allS (Or.inr (by omega)) all0))
  have gb3' : h0.size ≤ b3 := by omega
  refine r_callV C (pc' := 34) (argsL := []) (n_sbtoString l Z a0 hw _ h20 cc fv ss (ol.keep Kp all0) (by omega) a b3 k3 _ _ Bd3) Bd3.1 d38_31 rfl (w253 hw) (w180 hw) (nfSel (z := ({ cls := "java/lang/StringBuilder", name := "toString", desc := "()Ljava/lang/String;" } : Jvm.MethodName)) (w182 hw)) (w182 hw) (w181 hw) (w90 hw) (w183 hw) (by decide) pd24 (st := []) rfl rfl rfl (W := 0) (Nat.le_of_eq rfl) (by decide) (by decide) (by decide) (by decide) (cells' := 17) (slots' := 265) rfl rfl ?_
  rintro _ h99 ⟨s, sb, sk, rfl, K99, S99⟩
  show Run _ _ _ _ _ h99 _ _ 34 #[.val (.ref t), .val (.ref o)] [.ref s]
  have z99 := K99.1
  replace Kp := Kp.trans K99 all0
  replace S99 : St Z h99 s sb sk (cs ++ own_tx nm) := S99
  exact r_areturn C d38_34 rfl rfl (by decide) (by decide) (by omega) (fun _ _ => ⟨s, sb, sk, rfl, Kp, S99⟩)
set_option maxRecDepth 65536 in
set_option maxHeartbeats 4000000 in
theorem c_wr (l : Launch) (Z : State) (a0 : Array Value) (hw : ∀ d ∈ tables_1, d.before a0 Z = true) (n0 : Nat) (h0 : Heap) (cc : Int32) (fv : Value) (ss : own_SS Z cc fv) (ol : Od Z n0 h0) (em : Nat) (oe : own_OE Z em) (t1 t2 : Nat) (q1 q2 : ClassId) (dt : own_DT Z t1 t2 q1 q2) (hn0 : n0 = h0.size) (p : Nat) (N : Nat) (hN : N < 9223372036854775808) (F1 : Fld Z h0 p "com/example/wrange/wrange/IntegrityCheck$Length" "characters" "J" (.long (i64 N))) (o : Nat) (F2 : Fld Z h0 p "com/example/wrange/wrange/IntegrityCheck$Length" "charset" "Ljava/util/Optional;" (.ref o)) (nm : Option (List Nat)) (OO : own_OO Z h0 o nm) (hds : ∀ ds, nm = some ds → ds.length ≤ 2) (held51 : Jvm.Lit.constHeld Z "com/example/wrange/wrange/IntegrityCheck$Length" 51) (held33 : Jvm.Lit.constHeld Z "com/example/wrange/wrange/IntegrityCheck" 33) (held21 : Jvm.Lit.constHeld Z "com/example/wrange/wrange/IntegrityCheck" 21) (hcw : Jvm.Lit.compactW.before a0 Z = true) (hfit : Fit Z) :
    ConW l [] (⟨"com/example/wrange/wrange/IntegrityCheck$Length", "written", "()Ljava/lang/String;"⟩ : MethodName) prog_14_method_3_code 1 (some (.object "java/lang/String")) ({ frames := 10, cells := 25, slots := 423, locals := 3087 } : Room) Z #[(.ref p)] h0 n0 (fun vm => EMP Z h0 vm ["charset"]) (fun v h vm => ∃ (s sb : Nat) (sk : ClassId), v = some (.ref s) ∧ Keep h0 h [] ∧ St Z h s sb sk (own_w N nm)) := by
  refine enterW (Ls := #[.val (.ref p)]) pn41 (fun m => by first | (simp [entryFrame, mkF, argsToLocals, Value.category]; done) | rfl) ?_
  intro K vm kz B D hkz hV
  have C := B.ctx0 D
  have wS : ∀ a ∈ Bundle.stringAtoms, a.before a0 Z = true := (by intro a ha; simp only [Bundle.stringAtoms, List.mem_cons, List.not_mem_nil, or_false] at ha; rcases ha with rfl | rfl | rfl | rfl | rfl | rfl | rfl <;> first | exact (w27 hw) | exact (w26 hw) | exact (w44 hw) | exact (w54 hw) | exact (w52 hw) | exact (w73 hw) | exact (w74 hw))
  subst hn0
  have hdl := own_dlen19 hN
  refine Run.touch ?_
  replace C := B.ctx D
  refine r_new C (pc' := 3) d12_0 rfl (w88 hw) (w89 hw) (w90 hw) (by decide) (by decide) ?_
  intro h1 a ga E1 Ea D1
  have Fv : Fld Z h1 a "java/lang/AbstractStringBuilder" "value" "[B" (.null) := D1 (Or.inl (w103 hw)) (ty := (.array .byte)) (by decide)
  have Fc : Fld Z h1 a "java/lang/AbstractStringBuilder" "coder" "B" (.int 0) := D1 (Or.inl (w105 hw)) (ty := .byte) (by decide)
  have Fn : Fld Z h1 a "java/lang/AbstractStringBuilder" "count" "I" (.int 0) := D1 (Or.inl (w128 hw)) (ty := .int) (by decide)
  have z1 := E1.1
  have Kp := (Keep.refl h0 []).ext E1
  refine r_dup C (pc' := 4) d12_3 rfl rfl ?_
  refine r_callI C (pc' := 7) (argsL := []) (n_sbinit l Z a0 hw _ h1 cc fv ss (ol.ext E1) a (by omega) (by omega) Ea Fv Fc Fn) d12_4 rfl (w91 hw) (w92 hw) (w90 hw) (w93 hw) rfl (by decide) pd22 (st := [.ref a]) rfl rfl rfl (W := 1) (Nat.le_of_eq rfl) (by decide) (by decide) (by decide) (by decide) (cells' := 2) (slots' := 20) rfl rfl ?_
  rintro _ h2 ⟨rfl, K2, b1, k1, Bd1, gb1⟩
  show Run _ _ _ _ _ h2 _ _ 7 #[.val (.ref p)] [.ref a]
  have z2 := K2.1
  replace Kp := Kp.trans K2 (allS (Or.inr (by omega)) all0)
  have gb1' : h0.size ≤ b1 := by omega
  refine r_ldcT (n := 28) (bs := ([108, 101, 110, 103, 116, 104, 61].map by8)) (pc' := 9) B (Nat.le_refl _) D (by omega) (by omega) d12_7 rfl (w106 hw) wS ol.2.2 hV (by decide) held51 hcw ⟨by decide, by first | decide | rfl⟩ (by decide) (by decide) (by decide) (by decide) (by decide) ?_
  intro vm1 kA h3 lA lAb lAk D zkA EA SA IA
  have EAx := EA.1
  replace C := B.ctx D
  replace Kp := Kp.ext EA
  replace Bd1 := Bd1.ext EA
  obtain ⟨m1, m2, m3, m4⟩ := own_apart (w26 hw) (w89 hw) Bd1 SA (by decide)
  refine r_callV C (pc' := 12) (argsL := [.ref lA]) (n_sbappend l Z a0 hw _ h3 cc fv ss (ol.keep Kp all0) a b1 k1 _ (([] : List Nat)) Bd1 lA lAb lAk (own_pre) SA (by omega) (by have := Bd1.2.2.2.2.2.1; simp only [own_pre, List.length_append, List.length_cons, List.length_nil]; omega) (by have := Bd1.2.2.2.2.2.1; simp only [own_pre, List.length_append, List.length_cons, List.length_nil]; omega) (by omega) (by omega) m1 m2 m3 m4) Bd1.1 d12_9 rfl (w107 hw) (w108 hw) (nfSel (z := ({ cls := "java/lang/StringBuilder", name := "append", desc := "(Ljava/lang/String;)Ljava/lang/StringBuilder;" } : Jvm.MethodName)) (w110 hw)) (w110 hw) (w109 hw) (w90 hw) (w111 hw) (by decide) pd23 (st := []) rfl rfl rfl (W := 0) (Nat.le_of_eq rfl) (by decide) (by decide) (by decide) (by decide) (cells' := 5) (slots' := 86) rfl rfl ?_
  rintro _ h4 ⟨rfl, Ka2, b2, k2, ws2, Bd2, gb2⟩
  show Run _ _ _ _ _ h4 _ _ 12 #[.val (.ref p)] [.ref a]
  have za2 := Ka2.1
  replace Kp := Kp.trans Ka2 (allS (Or.inr (by omega)) (allS (Or.inr (by omega)) all0))
  have gb2' : h0.size ≤ b2 := by omega
  refine r_aloadN C (pc' := 13) d12_12 rfl rfl rfl ?_
  refine r_getF C (pc' := 16) d12_13 rfl (w79 hw) Via.refl (F1.keep Kp nin0) ?_
  refine r_callV C (pc' := 19) (argsL := [.long (i64 N)]) (l_sbappJ l Z a0 hw _ h4 cc fv ss (ol.keep Kp all0) t1 t2 q1 q2 dt a b2 k2 _ (([] : List Nat) ++ own_pre) Bd2 N hN (by omega) (by have := Bd2.2.2.2.2.2.1; simp only [own_pre, List.length_append, List.length_cons, List.length_nil]; omega) (by have := Bd2.2.2.2.2.2.1; simp only [own_pre, List.length_append, List.length_cons, List.length_nil]; omega) (by omega) (by omega)) Bd2.1 d12_16 rfl (w154 hw) (w155 hw) (nfSel (z := ({ cls := "java/lang/StringBuilder", name := "append", desc := "(J)Ljava/lang/StringBuilder;" } : Jvm.MethodName)) (w157 hw)) (w157 hw) (w156 hw) (w90 hw) (w158 hw) (by decide) pd29 (st := []) rfl rfl rfl (W := 0) (Nat.le_of_eq rfl) (by decide) (by decide) (by decide) (by decide) (cells' := 6) (slots' := 120) rfl rfl ?_
  rintro _ h5 ⟨rfl, Ka3, b3, k3, ws3, Bd3, gb3⟩
  show Run _ _ _ _ _ h5 _ _ 19 #[.val (.ref p)] [.ref a]
  have za3 := Ka3.1
  replace Kp := Kp.trans Ka3 (allS (Or.inr (by omega)) (allS (Or.inr (by omega)) all0))
  have gb3' : h0.size ≤ b3 := by omega
  refine r_callV C (pc' := 22) (argsL := []) (n_sbtoString l Z a0 hw _ h5 cc fv ss (ol.keep Kp all0) (by omega) a b3 k3 _ _ Bd3) Bd3.1 d12_19 rfl (w179 hw) (w180 hw) (nfSel (z := ({ cls := "java/lang/StringBuilder", name := "toString", desc := "()Ljava/lang/String;" } : Jvm.MethodName)) (w182 hw)) (w182 hw) (w181 hw) (w90 hw) (w183 hw) (by decide) pd24 (st := []) rfl rfl rfl (W := 0) (Nat.le_of_eq rfl) (by decide) (by decide) (by decide) (by decide) (cells' := 8) (slots' := 158) rfl rfl ?_
  rintro _ h9 ⟨s, sb, sk, rfl, K9, S9⟩
  show Run _ _ _ _ _ h9 _ _ 22 #[.val (.ref p)] [.ref s]
  have z9 := K9.1
  replace Kp := Kp.trans K9 all0
  replace S9 : St Z h9 s sb sk (own_pre ++ own_dig N) := S9
  refine r_aloadN C (pc' := 23) d12_22 rfl rfl rfl ?_
  refine r_getF C (pc' := 26) d12_23 rfl (w81 hw) Via.refl (F2.keep Kp nin0) ?_
  refine r_callSN (pc' := 29) (argsL := [.ref s, .ref o]) B D (by omega) ((c_wc l Z a0 hw h9.size h9 cc fv ss ((ol.keep Kp all0).up (by omega)) em oe rfl s sb sk _ S9 (by simp only [own_pre, List.length_append, List.length_cons, List.length_nil]; omega) o nm (OO.keep Kp) hds held33 held21 hcw hfit).down (by omega)) (fun vm' hW => EMP.warm (EMP.keep IA Kp) hW) d12_26 rfl (w220 hw) (w221 hw) (w222 hw) (w223 hw) (by decide) pd30 (st := []) rfl rfl rfl (W := 0) (Nat.le_of_eq rfl) (by decide) (by decide) (by decide) (by decide) (cells' := 25) (slots' := 423) rfl rfl ?_
  rintro _ h10 vm2 ⟨r, rb, rk, rfl, K10, S10⟩ x10 D10
  replace D := D10
  replace C := B.ctx D
  show Run _ _ _ _ _ h10 _ _ 29 #[.val (.ref p)] [.ref r]
  exact r_areturn C d12_29 rfl rfl (by decide) (by decide) (Nat.le_refl _) (fun _ _ => ⟨r, rb, rk, rfl, Kp.trans K10 all0, by rw [List.append_assoc] at S10; exact S10⟩)
set_option maxRecDepth 65536 in
set_option maxHeartbeats 4000000 in
theorem c_li (l : Launch) (Z : State) (a0 : Array Value) (hw : ∀ d ∈ tables_1, d.before a0 Z = true) (n0 : Nat) (h0 : Heap) (ol : Od Z n0 h0) (g : Heap) (hn : n0 ≤ h0.size) (p o N : Nat) (hN : N < 9223372036854775808) (ge : n0 ≤ p) (E : Exa Z h0 p "com/example/wrange/wrange/IntegrityCheck$Length") (v1 v2 : Value) (F1 : Fld Z h0 p "com/example/wrange/wrange/IntegrityCheck$Length" "characters" "J" v1) (F2 : Fld Z h0 p "com/example/wrange/wrange/IntegrityCheck$Length" "charset" "Ljava/util/Optional;" v2) (held28 : Jvm.Lit.constHeld Z "com/example/wrange/wrange/IntegrityCheck$Length" 28) (hcw : Jvm.Lit.compactW.before a0 Z = true) :
    ConW l [] (⟨"com/example/wrange/wrange/IntegrityCheck$Length", "<init>", "(JLjava/util/Optional;)V"⟩ : MethodName) prog_14_method_1_code 4 none ({ frames := 2, cells := 2, slots := 32, locals := 24 } : Room) Z #[(.ref p), (.long (i64 N)), (.ref o)] h0 n0 (fun vm => EMP Z g vm []) (fun v h vm => v = none ∧ Keep h0 h [p] ∧ Exa Z h p "com/example/wrange/wrange/IntegrityCheck$Length" ∧ Fld Z h p "com/example/wrange/wrange/IntegrityCheck$Length" "characters" "J" (.long (i64 N)) ∧ Fld Z h p "com/example/wrange/wrange/IntegrityCheck$Length" "charset" "Ljava/util/Optional;" (.ref o) ∧ EMP Z g vm ["charset"]) := by
  refine enterW (Ls := #[.val (.ref p), .val (.long (i64 N)), .second, .val (.ref o)]) pn42 (fun m => by first | (simp [entryFrame, mkF, argsToLocals, Value.category]; done) | rfl) ?_
  intro K vm kz B D hkz hV
  have C := B.ctx0 D
  have wS : ∀ a ∈ Bundle.stringAtoms, a.before a0 Z = true := (by intro a ha; simp only [Bundle.stringAtoms, List.mem_cons, List.not_mem_nil, or_false] at ha; rcases ha with rfl | rfl | rfl | rfl | rfl | rfl | rfl <;> first | exact (w27 hw) | exact (w26 hw) | exact (w44 hw) | exact (w54 hw) | exact (w52 hw) | exact (w73 hw) | exact (w74 hw))
  have lp := exaLt E
  refine r_aloadN C (pc' := 1) d9_0 rfl rfl rfl ?_
  refine r_callIF C (n1 := h0.size) (pc' := 4) (argsL := []) (o_rec l Z a0 hw h0.size h0 p) d9_1 rfl (w66 hw) (w67 hw) (w69 hw) (w70 hw) rfl (by decide) pd22 (st := []) rfl rfl rfl (W := 0) (Nat.le_of_eq rfl) (by decide) (by decide) (by decide) (by decide) (cells' := 0) (slots' := 0) rfl rfl ?_
  rintro _ _ ⟨rfl, rfl⟩
  replace C := B.ctxF D hn
  show Run _ _ _ _ _ h0 _ _ 4 #[.val (.ref p), .val (.long (i64 N)), .second, .val (.ref o)] []
  refine r_lloadN C (pc' := 5) d9_4 rfl rfl ?_
  refine r_lconst C (pc' := 6) (v := 0) d9_5 rfl rfl ?_
  refine r_lcmp_ge C (pt := 37) (pc' := 10) d9_6 d9_7 (by decide) (by decide) rfl ?_ ?_
  · intro q
    refine r_aloadN C (pc' := 38) d9_37 rfl rfl rfl ?_
    refine r_ldcT (n := 28) (bs := ([99, 104, 97, 114, 115, 101, 116].map by8)) (pc' := 40) B (Nat.le_refl _) D (by omega) (by omega) d9_38 rfl (w72 hw) wS ol.2.2 hV (by decide) held28 hcw ⟨by decide, by first | decide | rfl⟩ (by decide) (by decide) (by decide) (by decide) (by decide) ?_
    intro vm1 kA h1 lA lAb lAk D zkA EA SA IA
    have EAx := EA.1
    replace C := B.ctxF D hn
    refine Run.touchF hn ?_
    replace C := B.ctx D
    replace E := E.ext EA
    replace F1 := F1.ext EA
    replace F2 := F2.ext EA
    refine r_callS C (pc' := 43) (argsL := [.ref o, .ref lA]) (o_req2 l Z a0 hw n0 h1 o lA) d9_40 rfl (w75 hw) (w76 hw) (w77 hw) (w78 hw) (by decide) pd31 (st := []) rfl rfl rfl (W := 0) (Nat.le_of_eq rfl) (by decide) (by decide) (by decide) (by decide) (cells' := 2) (slots' := 32) rfl rfl ?_
    rintro _ _ ⟨rfl, rfl⟩
    show Run _ _ _ _ _ h1 _ _ 43 #[.val (.ref p), .val (.long (i64 N)), .second, .val (.ref o)] [.ref o]
    refine r_pop C (pc' := 44) d9_43 rfl rfl ?_
    refine r_aloadN C (pc' := 45) d9_44 rfl rfl rfl ?_
    refine r_lloadN C (pc' := 46) d9_45 rfl rfl ?_
    refine r_putF C (pc' := 49) d9_46 rfl (w79 hw) Via.refl F1 E (Or.inr ⟨(w80 hw), rfl, rfl⟩) (w61 hw) (ty := .long) (by decide) rfl rfl ge ?_
    intro h2 W2
    replace F1 := F1.same W2
    replace F2 := F2.other W2 (Or.inr (sn8 (Z := Z) hw))
    replace E := E.wr W2
    refine r_aloadN C (pc' := 50) d9_49 rfl rfl rfl ?_
    refine r_aloadN C (pc' := 51) d9_50 rfl rfl rfl ?_
    refine r_putF C (pc' := 54) d9_51 rfl (w81 hw) Via.refl F2 E (Or.inr ⟨(w82 hw), rfl, rfl⟩) (w61 hw) (ty := (.object "java/util/Optional")) (by decide) rfl rfl ge ?_
    intro h3 W3
    replace F1 := F1.other W3 (Or.inr (sn9 (Z := Z) hw))
    replace F2 := F2.same W3
    replace E := E.wr W3
    have x2 := W2.size
    have x3 := W3.size
    exact r_return C d9_54 (by decide) (by decide) (by omega) (fun vm' hW => ⟨rfl, (((Keep.refl h0 [p]).ext EA).wr W2 (Or.inl (by simp))).wr W3 (Or.inl (by simp)), E, F1, F2, EMP.at IA hW⟩)
  · intro q
    exact absurd ((i64_lt (b := 0) hN (by decide)).mp q) (Nat.not_lt_zero _)
set_option maxRecDepth 65536 in
set_option maxHeartbeats 4000000 in
theorem c_digits (l : Launch) (Z : State) (a0 : Array Value) (hw : ∀ d ∈ tables_1, d.before a0 Z = true) (n0 : Nat) (h0 : Heap) (p : Nat) (pk : ClassId) (A : AV Z h0 p pk .long own_pows (.long 0)) (N : Nat) (hN : N < 9223372036854775808) :
    Con l [] (⟨"com/example/wrange/wrange/LengthWrittenPinLaw", "digits", "(J[J)I"⟩ : MethodName) method_2_code 4 (some .int) ({ frames := 0, cells := 0, slots := 0, locals := 0 } : Room) Z #[(.long (i64 N)), (.ref p)] h0 n0 (fun v h => v = some (.int (i32 (own_dig N).length)) ∧ h0 = h) := by
  refine enter (Ls := #[.val (.long (i64 N)), .second, .val (.ref p), .unset]) pn43 (fun m => by first | (simp [entryFrame, mkF, argsToLocals, Value.category]; done) | rfl) ?_
  intro K C
  obtain ⟨D', eD⟩ : ∃ D', D' = (own_dig N).length := ⟨_, rfl⟩
  have hp : 1 ≤ D' := by rw [eD]; exact own_digpos N
  have hm : D' ≤ 19 := by rw [eD]; exact own_dlen19 hN
  refine r_iconst C (pc' := 1) (v := 1) d1_0 rfl rfl ?_
  refine r_istoreN C (pc' := 2) (Ls' := #[.val (.long (i64 N)), .second, .val (.ref p), .val (.int (1 : Int32))]) d1_1 rfl rfl ?_
  rw [show (1 : Int32) = i32 (min D' 1) by rw [Nat.min_eq_right hp]; rfl]
  refine r_lloadN C (pc' := 3) d1_2 rfl rfl ?_
  refine r_aloadN C (pc' := 4) d1_3 rfl rfl rfl ?_
  refine r_iconst C (pc' := 5) (v := 1) d1_4 rfl rfl ?_
  refine r_laloadV C (pc' := 6) (i := 1) d1_5 rfl A rfl (own_powAt (k := 1) (by decide)) ?_
  have h1 : D' ≤ 1 ↔ N < 10 ^ 1 := by rw [eD]; exact own_dlen 0 N
  refine Run.join (h2 := h0) (cells2 := 0) (slots2 := 0) (pc2 := 12) (Ls2 := #[.val (.long (i64 N)), .second, .val (.ref p), .val (.int (i32 (min D' 2)))]) (st2 := []) (fun J => ?_) ?_
  ·
    refine r_lcmp_lt C (pt := 12) (pc' := 10) d1_6 d1_7 (by decide) (by decide) rfl ?_ ?_
    · intro q
      have q' : N < 10 ^ 1 := (i64_lt hN (by decide)).mp q
      have h' := h1.mpr q'
      rw [show min D' 2 = min D' 1 by omega] at J
      exact J
    · intro q
      have q' : ¬ D' ≤ 1 := fun z => q ((i64_lt hN (by decide)).mpr (h1.mp z))
      refine r_iconst C (pc' := 11) (v := 2) d1_10 rfl rfl ?_
      refine r_istoreN C (pc' := 12) (Ls' := #[.val (.long (i64 N)), .second, .val (.ref p), .val (.int (2 : Int32))]) d1_11 rfl rfl ?_
      rw [show min D' 2 = 2 by omega] at J
      exact J
  clear h1
  refine r_lloadN C (pc' := 13) d1_12 rfl rfl ?_
  refine r_aloadN C (pc' := 14) d1_13 rfl rfl rfl ?_
  refine r_iconst C (pc' := 15) (v := 2) d1_14 rfl rfl ?_
  refine r_laloadV C (pc' := 16) (i := 2) d1_15 rfl A rfl (own_powAt (k := 2) (by decide)) ?_
  have h2 : D' ≤ 2 ↔ N < 10 ^ 2 := by rw [eD]; exact own_dlen 1 N
  refine Run.join (h2 := h0) (cells2 := 0) (slots2 := 0) (pc2 := 22) (Ls2 := #[.val (.long (i64 N)), .second, .val (.ref p), .val (.int (i32 (min D' 3)))]) (st2 := []) (fun J => ?_) ?_
  ·
    refine r_lcmp_lt C (pt := 22) (pc' := 20) d1_16 d1_17 (by decide) (by decide) rfl ?_ ?_
    · intro q
      have q' : N < 10 ^ 2 := (i64_lt hN (by decide)).mp q
      have h' := h2.mpr q'
      rw [show min D' 3 = min D' 2 by omega] at J
      exact J
    · intro q
      have q' : ¬ D' ≤ 2 := fun z => q ((i64_lt hN (by decide)).mpr (h2.mp z))
      refine r_iconst C (pc' := 21) (v := 3) d1_20 rfl rfl ?_
      refine r_istoreN C (pc' := 22) (Ls' := #[.val (.long (i64 N)), .second, .val (.ref p), .val (.int (3 : Int32))]) d1_21 rfl rfl ?_
      rw [show min D' 3 = 3 by omega] at J
      exact J
  clear h2
  refine r_lloadN C (pc' := 23) d1_22 rfl rfl ?_
  refine r_aloadN C (pc' := 24) d1_23 rfl rfl rfl ?_
  refine r_iconst C (pc' := 25) (v := 3) d1_24 rfl rfl ?_
  refine r_laloadV C (pc' := 26) (i := 3) d1_25 rfl A rfl (own_powAt (k := 3) (by decide)) ?_
  have h3 : D' ≤ 3 ↔ N < 10 ^ 3 := by rw [eD]; exact own_dlen 2 N
  refine Run.join (h2 := h0) (cells2 := 0) (slots2 := 0) (pc2 := 32) (Ls2 := #[.val (.long (i64 N)), .second, .val (.ref p), .val (.int (i32 (min D' 4)))]) (st2 := []) (fun J => ?_) ?_
  ·
    refine r_lcmp_lt C (pt := 32) (pc' := 30) d1_26 d1_27 (by decide) (by decide) rfl ?_ ?_
    · intro q
      have q' : N < 10 ^ 3 := (i64_lt hN (by decide)).mp q
      have h' := h3.mpr q'
      rw [show min D' 4 = min D' 3 by omega] at J
      exact J
    · intro q
      have q' : ¬ D' ≤ 3 := fun z => q ((i64_lt hN (by decide)).mpr (h3.mp z))
      refine r_iconst C (pc' := 31) (v := 4) d1_30 rfl rfl ?_
      refine r_istoreN C (pc' := 32) (Ls' := #[.val (.long (i64 N)), .second, .val (.ref p), .val (.int (4 : Int32))]) d1_31 rfl rfl ?_
      rw [show min D' 4 = 4 by omega] at J
      exact J
  clear h3
  refine r_lloadN C (pc' := 33) d1_32 rfl rfl ?_
  refine r_aloadN C (pc' := 34) d1_33 rfl rfl rfl ?_
  refine r_iconst C (pc' := 35) (v := 4) d1_34 rfl rfl ?_
  refine r_laloadV C (pc' := 36) (i := 4) d1_35 rfl A rfl (own_powAt (k := 4) (by decide)) ?_
  have h4 : D' ≤ 4 ↔ N < 10 ^ 4 := by rw [eD]; exact own_dlen 3 N
  refine Run.join (h2 := h0) (cells2 := 0) (slots2 := 0) (pc2 := 42) (Ls2 := #[.val (.long (i64 N)), .second, .val (.ref p), .val (.int (i32 (min D' 5)))]) (st2 := []) (fun J => ?_) ?_
  ·
    refine r_lcmp_lt C (pt := 42) (pc' := 40) d1_36 d1_37 (by decide) (by decide) rfl ?_ ?_
    · intro q
      have q' : N < 10 ^ 4 := (i64_lt hN (by decide)).mp q
      have h' := h4.mpr q'
      rw [show min D' 5 = min D' 4 by omega] at J
      exact J
    · intro q
      have q' : ¬ D' ≤ 4 := fun z => q ((i64_lt hN (by decide)).mpr (h4.mp z))
      refine r_iconst C (pc' := 41) (v := 5) d1_40 rfl rfl ?_
      refine r_istoreN C (pc' := 42) (Ls' := #[.val (.long (i64 N)), .second, .val (.ref p), .val (.int (5 : Int32))]) d1_41 rfl rfl ?_
      rw [show min D' 5 = 5 by omega] at J
      exact J
  clear h4
  refine r_lloadN C (pc' := 43) d1_42 rfl rfl ?_
  refine r_aloadN C (pc' := 44) d1_43 rfl rfl rfl ?_
  refine r_iconst C (pc' := 45) (v := 5) d1_44 rfl rfl ?_
  refine r_laloadV C (pc' := 46) (i := 5) d1_45 rfl A rfl (own_powAt (k := 5) (by decide)) ?_
  have h5 : D' ≤ 5 ↔ N < 10 ^ 5 := by rw [eD]; exact own_dlen 4 N
  refine Run.join (h2 := h0) (cells2 := 0) (slots2 := 0) (pc2 := 53) (Ls2 := #[.val (.long (i64 N)), .second, .val (.ref p), .val (.int (i32 (min D' 6)))]) (st2 := []) (fun J => ?_) ?_
  ·
    refine r_lcmp_lt C (pt := 53) (pc' := 50) d1_46 d1_47 (by decide) (by decide) rfl ?_ ?_
    · intro q
      have q' : N < 10 ^ 5 := (i64_lt hN (by decide)).mp q
      have h' := h5.mpr q'
      rw [show min D' 6 = min D' 5 by omega] at J
      exact J
    · intro q
      have q' : ¬ D' ≤ 5 := fun z => q ((i64_lt hN (by decide)).mpr (h5.mp z))
      refine r_bipush C (pc' := 52) (v := (6)) d1_50 rfl rfl ?_
      refine r_istoreN C (pc' := 53) (Ls' := #[.val (.long (i64 N)), .second, .val (.ref p), .val (.int (6 : Int32))]) d1_52 rfl rfl ?_
      rw [show min D' 6 = 6 by omega] at J
      exact J
  clear h5
  refine r_lloadN C (pc' := 54) d1_53 rfl rfl ?_
  refine r_aloadN C (pc' := 55) d1_54 rfl rfl rfl ?_
  refine r_bipush C (pc' := 57) (v := (6)) d1_55 rfl rfl ?_
  refine r_laloadV C (pc' := 58) (i := 6) d1_57 rfl A rfl (own_powAt (k := 6) (by decide)) ?_
  have h6 : D' ≤ 6 ↔ N < 10 ^ 6 := by rw [eD]; exact own_dlen 5 N
  refine Run.join (h2 := h0) (cells2 := 0) (slots2 := 0) (pc2 := 65) (Ls2 := #[.val (.long (i64 N)), .second, .val (.ref p), .val (.int (i32 (min D' 7)))]) (st2 := []) (fun J => ?_) ?_
  ·
    refine r_lcmp_lt C (pt := 65) (pc' := 62) d1_58 d1_59 (by decide) (by decide) rfl ?_ ?_
    · intro q
      have q' : N < 10 ^ 6 := (i64_lt hN (by decide)).mp q
      have h' := h6.mpr q'
      rw [show min D' 7 = min D' 6 by omega] at J
      exact J
    · intro q
      have q' : ¬ D' ≤ 6 := fun z => q ((i64_lt hN (by decide)).mpr (h6.mp z))
      refine r_bipush C (pc' := 64) (v := (7)) d1_62 rfl rfl ?_
      refine r_istoreN C (pc' := 65) (Ls' := #[.val (.long (i64 N)), .second, .val (.ref p), .val (.int (7 : Int32))]) d1_64 rfl rfl ?_
      rw [show min D' 7 = 7 by omega] at J
      exact J
  clear h6
  refine r_lloadN C (pc' := 66) d1_65 rfl rfl ?_
  refine r_aloadN C (pc' := 67) d1_66 rfl rfl rfl ?_
  refine r_bipush C (pc' := 69) (v := (7)) d1_67 rfl rfl ?_
  refine r_laloadV C (pc' := 70) (i := 7) d1_69 rfl A rfl (own_powAt (k := 7) (by decide)) ?_
  have h7 : D' ≤ 7 ↔ N < 10 ^ 7 := by rw [eD]; exact own_dlen 6 N
  refine Run.join (h2 := h0) (cells2 := 0) (slots2 := 0) (pc2 := 77) (Ls2 := #[.val (.long (i64 N)), .second, .val (.ref p), .val (.int (i32 (min D' 8)))]) (st2 := []) (fun J => ?_) ?_
  ·
    refine r_lcmp_lt C (pt := 77) (pc' := 74) d1_70 d1_71 (by decide) (by decide) rfl ?_ ?_
    · intro q
      have q' : N < 10 ^ 7 := (i64_lt hN (by decide)).mp q
      have h' := h7.mpr q'
      rw [show min D' 8 = min D' 7 by omega] at J
      exact J
    · intro q
      have q' : ¬ D' ≤ 7 := fun z => q ((i64_lt hN (by decide)).mpr (h7.mp z))
      refine r_bipush C (pc' := 76) (v := (8)) d1_74 rfl rfl ?_
      refine r_istoreN C (pc' := 77) (Ls' := #[.val (.long (i64 N)), .second, .val (.ref p), .val (.int (8 : Int32))]) d1_76 rfl rfl ?_
      rw [show min D' 8 = 8 by omega] at J
      exact J
  clear h7
  refine r_lloadN C (pc' := 78) d1_77 rfl rfl ?_
  refine r_aloadN C (pc' := 79) d1_78 rfl rfl rfl ?_
  refine r_bipush C (pc' := 81) (v := (8)) d1_79 rfl rfl ?_
  refine r_laloadV C (pc' := 82) (i := 8) d1_81 rfl A rfl (own_powAt (k := 8) (by decide)) ?_
  have h8 : D' ≤ 8 ↔ N < 10 ^ 8 := by rw [eD]; exact own_dlen 7 N
  refine Run.join (h2 := h0) (cells2 := 0) (slots2 := 0) (pc2 := 89) (Ls2 := #[.val (.long (i64 N)), .second, .val (.ref p), .val (.int (i32 (min D' 9)))]) (st2 := []) (fun J => ?_) ?_
  ·
    refine r_lcmp_lt C (pt := 89) (pc' := 86) d1_82 d1_83 (by decide) (by decide) rfl ?_ ?_
    · intro q
      have q' : N < 10 ^ 8 := (i64_lt hN (by decide)).mp q
      have h' := h8.mpr q'
      rw [show min D' 9 = min D' 8 by omega] at J
      exact J
    · intro q
      have q' : ¬ D' ≤ 8 := fun z => q ((i64_lt hN (by decide)).mpr (h8.mp z))
      refine r_bipush C (pc' := 88) (v := (9)) d1_86 rfl rfl ?_
      refine r_istoreN C (pc' := 89) (Ls' := #[.val (.long (i64 N)), .second, .val (.ref p), .val (.int (9 : Int32))]) d1_88 rfl rfl ?_
      rw [show min D' 9 = 9 by omega] at J
      exact J
  clear h8
  refine r_lloadN C (pc' := 90) d1_89 rfl rfl ?_
  refine r_aloadN C (pc' := 91) d1_90 rfl rfl rfl ?_
  refine r_bipush C (pc' := 93) (v := (9)) d1_91 rfl rfl ?_
  refine r_laloadV C (pc' := 94) (i := 9) d1_93 rfl A rfl (own_powAt (k := 9) (by decide)) ?_
  have h9 : D' ≤ 9 ↔ N < 10 ^ 9 := by rw [eD]; exact own_dlen 8 N
  refine Run.join (h2 := h0) (cells2 := 0) (slots2 := 0) (pc2 := 101) (Ls2 := #[.val (.long (i64 N)), .second, .val (.ref p), .val (.int (i32 (min D' 10)))]) (st2 := []) (fun J => ?_) ?_
  ·
    refine r_lcmp_lt C (pt := 101) (pc' := 98) d1_94 d1_95 (by decide) (by decide) rfl ?_ ?_
    · intro q
      have q' : N < 10 ^ 9 := (i64_lt hN (by decide)).mp q
      have h' := h9.mpr q'
      rw [show min D' 10 = min D' 9 by omega] at J
      exact J
    · intro q
      have q' : ¬ D' ≤ 9 := fun z => q ((i64_lt hN (by decide)).mpr (h9.mp z))
      refine r_bipush C (pc' := 100) (v := (10)) d1_98 rfl rfl ?_
      refine r_istoreN C (pc' := 101) (Ls' := #[.val (.long (i64 N)), .second, .val (.ref p), .val (.int (10 : Int32))]) d1_100 rfl rfl ?_
      rw [show min D' 10 = 10 by omega] at J
      exact J
  clear h9
  refine r_lloadN C (pc' := 102) d1_101 rfl rfl ?_
  refine r_aloadN C (pc' := 103) d1_102 rfl rfl rfl ?_
  refine r_bipush C (pc' := 105) (v := (10)) d1_103 rfl rfl ?_
  refine r_laloadV C (pc' := 106) (i := 10) d1_105 rfl A rfl (own_powAt (k := 10) (by decide)) ?_
  have h10 : D' ≤ 10 ↔ N < 10 ^ 10 := by rw [eD]; exact own_dlen 9 N
  refine Run.join (h2 := h0) (cells2 := 0) (slots2 := 0) (pc2 := 113) (Ls2 := #[.val (.long (i64 N)), .second, .val (.ref p), .val (.int (i32 (min D' 11)))]) (st2 := []) (fun J => ?_) ?_
  ·
    refine r_lcmp_lt C (pt := 113) (pc' := 110) d1_106 d1_107 (by decide) (by decide) rfl ?_ ?_
    · intro q
      have q' : N < 10 ^ 10 := (i64_lt hN (by decide)).mp q
      have h' := h10.mpr q'
      rw [show min D' 11 = min D' 10 by omega] at J
      exact J
    · intro q
      have q' : ¬ D' ≤ 10 := fun z => q ((i64_lt hN (by decide)).mpr (h10.mp z))
      refine r_bipush C (pc' := 112) (v := (11)) d1_110 rfl rfl ?_
      refine r_istoreN C (pc' := 113) (Ls' := #[.val (.long (i64 N)), .second, .val (.ref p), .val (.int (11 : Int32))]) d1_112 rfl rfl ?_
      rw [show min D' 11 = 11 by omega] at J
      exact J
  clear h10
  refine r_lloadN C (pc' := 114) d1_113 rfl rfl ?_
  refine r_aloadN C (pc' := 115) d1_114 rfl rfl rfl ?_
  refine r_bipush C (pc' := 117) (v := (11)) d1_115 rfl rfl ?_
  refine r_laloadV C (pc' := 118) (i := 11) d1_117 rfl A rfl (own_powAt (k := 11) (by decide)) ?_
  have h11 : D' ≤ 11 ↔ N < 10 ^ 11 := by rw [eD]; exact own_dlen 10 N
  refine Run.join (h2 := h0) (cells2 := 0) (slots2 := 0) (pc2 := 125) (Ls2 := #[.val (.long (i64 N)), .second, .val (.ref p), .val (.int (i32 (min D' 12)))]) (st2 := []) (fun J => ?_) ?_
  ·
    refine r_lcmp_lt C (pt := 125) (pc' := 122) d1_118 d1_119 (by decide) (by decide) rfl ?_ ?_
    · intro q
      have q' : N < 10 ^ 11 := (i64_lt hN (by decide)).mp q
      have h' := h11.mpr q'
      rw [show min D' 12 = min D' 11 by omega] at J
      exact J
    · intro q
      have q' : ¬ D' ≤ 11 := fun z => q ((i64_lt hN (by decide)).mpr (h11.mp z))
      refine r_bipush C (pc' := 124) (v := (12)) d1_122 rfl rfl ?_
      refine r_istoreN C (pc' := 125) (Ls' := #[.val (.long (i64 N)), .second, .val (.ref p), .val (.int (12 : Int32))]) d1_124 rfl rfl ?_
      rw [show min D' 12 = 12 by omega] at J
      exact J
  clear h11
  refine r_lloadN C (pc' := 126) d1_125 rfl rfl ?_
  refine r_aloadN C (pc' := 127) d1_126 rfl rfl rfl ?_
  refine r_bipush C (pc' := 129) (v := (12)) d1_127 rfl rfl ?_
  refine r_laloadV C (pc' := 130) (i := 12) d1_129 rfl A rfl (own_powAt (k := 12) (by decide)) ?_
  have h12 : D' ≤ 12 ↔ N < 10 ^ 12 := by rw [eD]; exact own_dlen 11 N
  refine Run.join (h2 := h0) (cells2 := 0) (slots2 := 0) (pc2 := 137) (Ls2 := #[.val (.long (i64 N)), .second, .val (.ref p), .val (.int (i32 (min D' 13)))]) (st2 := []) (fun J => ?_) ?_
  ·
    refine r_lcmp_lt C (pt := 137) (pc' := 134) d1_130 d1_131 (by decide) (by decide) rfl ?_ ?_
    · intro q
      have q' : N < 10 ^ 12 := (i64_lt hN (by decide)).mp q
      have h' := h12.mpr q'
      rw [show min D' 13 = min D' 12 by omega] at J
      exact J
    · intro q
      have q' : ¬ D' ≤ 12 := fun z => q ((i64_lt hN (by decide)).mpr (h12.mp z))
      refine r_bipush C (pc' := 136) (v := (13)) d1_134 rfl rfl ?_
      refine r_istoreN C (pc' := 137) (Ls' := #[.val (.long (i64 N)), .second, .val (.ref p), .val (.int (13 : Int32))]) d1_136 rfl rfl ?_
      rw [show min D' 13 = 13 by omega] at J
      exact J
  clear h12
  refine r_lloadN C (pc' := 138) d1_137 rfl rfl ?_
  refine r_aloadN C (pc' := 139) d1_138 rfl rfl rfl ?_
  refine r_bipush C (pc' := 141) (v := (13)) d1_139 rfl rfl ?_
  refine r_laloadV C (pc' := 142) (i := 13) d1_141 rfl A rfl (own_powAt (k := 13) (by decide)) ?_
  have h13 : D' ≤ 13 ↔ N < 10 ^ 13 := by rw [eD]; exact own_dlen 12 N
  refine Run.join (h2 := h0) (cells2 := 0) (slots2 := 0) (pc2 := 149) (Ls2 := #[.val (.long (i64 N)), .second, .val (.ref p), .val (.int (i32 (min D' 14)))]) (st2 := []) (fun J => ?_) ?_
  ·
    refine r_lcmp_lt C (pt := 149) (pc' := 146) d1_142 d1_143 (by decide) (by decide) rfl ?_ ?_
    · intro q
      have q' : N < 10 ^ 13 := (i64_lt hN (by decide)).mp q
      have h' := h13.mpr q'
      rw [show min D' 14 = min D' 13 by omega] at J
      exact J
    · intro q
      have q' : ¬ D' ≤ 13 := fun z => q ((i64_lt hN (by decide)).mpr (h13.mp z))
      refine r_bipush C (pc' := 148) (v := (14)) d1_146 rfl rfl ?_
      refine r_istoreN C (pc' := 149) (Ls' := #[.val (.long (i64 N)), .second, .val (.ref p), .val (.int (14 : Int32))]) d1_148 rfl rfl ?_
      rw [show min D' 14 = 14 by omega] at J
      exact J
  clear h13
  refine r_lloadN C (pc' := 150) d1_149 rfl rfl ?_
  refine r_aloadN C (pc' := 151) d1_150 rfl rfl rfl ?_
  refine r_bipush C (pc' := 153) (v := (14)) d1_151 rfl rfl ?_
  refine r_laloadV C (pc' := 154) (i := 14) d1_153 rfl A rfl (own_powAt (k := 14) (by decide)) ?_
  have h14 : D' ≤ 14 ↔ N < 10 ^ 14 := by rw [eD]; exact own_dlen 13 N
  refine Run.join (h2 := h0) (cells2 := 0) (slots2 := 0) (pc2 := 161) (Ls2 := #[.val (.long (i64 N)), .second, .val (.ref p), .val (.int (i32 (min D' 15)))]) (st2 := []) (fun J => ?_) ?_
  ·
    refine r_lcmp_lt C (pt := 161) (pc' := 158) d1_154 d1_155 (by decide) (by decide) rfl ?_ ?_
    · intro q
      have q' : N < 10 ^ 14 := (i64_lt hN (by decide)).mp q
      have h' := h14.mpr q'
      rw [show min D' 15 = min D' 14 by omega] at J
      exact J
    · intro q
      have q' : ¬ D' ≤ 14 := fun z => q ((i64_lt hN (by decide)).mpr (h14.mp z))
      refine r_bipush C (pc' := 160) (v := (15)) d1_158 rfl rfl ?_
      refine r_istoreN C (pc' := 161) (Ls' := #[.val (.long (i64 N)), .second, .val (.ref p), .val (.int (15 : Int32))]) d1_160 rfl rfl ?_
      rw [show min D' 15 = 15 by omega] at J
      exact J
  clear h14
  refine r_lloadN C (pc' := 162) d1_161 rfl rfl ?_
  refine r_aloadN C (pc' := 163) d1_162 rfl rfl rfl ?_
  refine r_bipush C (pc' := 165) (v := (15)) d1_163 rfl rfl ?_
  refine r_laloadV C (pc' := 166) (i := 15) d1_165 rfl A rfl (own_powAt (k := 15) (by decide)) ?_
  have h15 : D' ≤ 15 ↔ N < 10 ^ 15 := by rw [eD]; exact own_dlen 14 N
  refine Run.join (h2 := h0) (cells2 := 0) (slots2 := 0) (pc2 := 173) (Ls2 := #[.val (.long (i64 N)), .second, .val (.ref p), .val (.int (i32 (min D' 16)))]) (st2 := []) (fun J => ?_) ?_
  ·
    refine r_lcmp_lt C (pt := 173) (pc' := 170) d1_166 d1_167 (by decide) (by decide) rfl ?_ ?_
    · intro q
      have q' : N < 10 ^ 15 := (i64_lt hN (by decide)).mp q
      have h' := h15.mpr q'
      rw [show min D' 16 = min D' 15 by omega] at J
      exact J
    · intro q
      have q' : ¬ D' ≤ 15 := fun z => q ((i64_lt hN (by decide)).mpr (h15.mp z))
      refine r_bipush C (pc' := 172) (v := (16)) d1_170 rfl rfl ?_
      refine r_istoreN C (pc' := 173) (Ls' := #[.val (.long (i64 N)), .second, .val (.ref p), .val (.int (16 : Int32))]) d1_172 rfl rfl ?_
      rw [show min D' 16 = 16 by omega] at J
      exact J
  clear h15
  refine r_lloadN C (pc' := 174) d1_173 rfl rfl ?_
  refine r_aloadN C (pc' := 175) d1_174 rfl rfl rfl ?_
  refine r_bipush C (pc' := 177) (v := (16)) d1_175 rfl rfl ?_
  refine r_laloadV C (pc' := 178) (i := 16) d1_177 rfl A rfl (own_powAt (k := 16) (by decide)) ?_
  have h16 : D' ≤ 16 ↔ N < 10 ^ 16 := by rw [eD]; exact own_dlen 15 N
  refine Run.join (h2 := h0) (cells2 := 0) (slots2 := 0) (pc2 := 185) (Ls2 := #[.val (.long (i64 N)), .second, .val (.ref p), .val (.int (i32 (min D' 17)))]) (st2 := []) (fun J => ?_) ?_
  ·
    refine r_lcmp_lt C (pt := 185) (pc' := 182) d1_178 d1_179 (by decide) (by decide) rfl ?_ ?_
    · intro q
      have q' : N < 10 ^ 16 := (i64_lt hN (by decide)).mp q
      have h' := h16.mpr q'
      rw [show min D' 17 = min D' 16 by omega] at J
      exact J
    · intro q
      have q' : ¬ D' ≤ 16 := fun z => q ((i64_lt hN (by decide)).mpr (h16.mp z))
      refine r_bipush C (pc' := 184) (v := (17)) d1_182 rfl rfl ?_
      refine r_istoreN C (pc' := 185) (Ls' := #[.val (.long (i64 N)), .second, .val (.ref p), .val (.int (17 : Int32))]) d1_184 rfl rfl ?_
      rw [show min D' 17 = 17 by omega] at J
      exact J
  clear h16
  refine r_lloadN C (pc' := 186) d1_185 rfl rfl ?_
  refine r_aloadN C (pc' := 187) d1_186 rfl rfl rfl ?_
  refine r_bipush C (pc' := 189) (v := (17)) d1_187 rfl rfl ?_
  refine r_laloadV C (pc' := 190) (i := 17) d1_189 rfl A rfl (own_powAt (k := 17) (by decide)) ?_
  have h17 : D' ≤ 17 ↔ N < 10 ^ 17 := by rw [eD]; exact own_dlen 16 N
  refine Run.join (h2 := h0) (cells2 := 0) (slots2 := 0) (pc2 := 197) (Ls2 := #[.val (.long (i64 N)), .second, .val (.ref p), .val (.int (i32 (min D' 18)))]) (st2 := []) (fun J => ?_) ?_
  ·
    refine r_lcmp_lt C (pt := 197) (pc' := 194) d1_190 d1_191 (by decide) (by decide) rfl ?_ ?_
    · intro q
      have q' : N < 10 ^ 17 := (i64_lt hN (by decide)).mp q
      have h' := h17.mpr q'
      rw [show min D' 18 = min D' 17 by omega] at J
      exact J
    · intro q
      have q' : ¬ D' ≤ 17 := fun z => q ((i64_lt hN (by decide)).mpr (h17.mp z))
      refine r_bipush C (pc' := 196) (v := (18)) d1_194 rfl rfl ?_
      refine r_istoreN C (pc' := 197) (Ls' := #[.val (.long (i64 N)), .second, .val (.ref p), .val (.int (18 : Int32))]) d1_196 rfl rfl ?_
      rw [show min D' 18 = 18 by omega] at J
      exact J
  clear h17
  refine r_lloadN C (pc' := 198) d1_197 rfl rfl ?_
  refine r_aloadN C (pc' := 199) d1_198 rfl rfl rfl ?_
  refine r_bipush C (pc' := 201) (v := (18)) d1_199 rfl rfl ?_
  refine r_laloadV C (pc' := 202) (i := 18) d1_201 rfl A rfl (own_powAt (k := 18) (by decide)) ?_
  have h18 : D' ≤ 18 ↔ N < 10 ^ 18 := by rw [eD]; exact own_dlen 17 N
  refine Run.join (h2 := h0) (cells2 := 0) (slots2 := 0) (pc2 := 209) (Ls2 := #[.val (.long (i64 N)), .second, .val (.ref p), .val (.int (i32 (min D' 19)))]) (st2 := []) (fun J => ?_) ?_
  ·
    refine r_lcmp_lt C (pt := 209) (pc' := 206) d1_202 d1_203 (by decide) (by decide) rfl ?_ ?_
    · intro q
      have q' : N < 10 ^ 18 := (i64_lt hN (by decide)).mp q
      have h' := h18.mpr q'
      rw [show min D' 19 = min D' 18 by omega] at J
      exact J
    · intro q
      have q' : ¬ D' ≤ 18 := fun z => q ((i64_lt hN (by decide)).mpr (h18.mp z))
      refine r_bipush C (pc' := 208) (v := (19)) d1_206 rfl rfl ?_
      refine r_istoreN C (pc' := 209) (Ls' := #[.val (.long (i64 N)), .second, .val (.ref p), .val (.int (19 : Int32))]) d1_208 rfl rfl ?_
      rw [show min D' 19 = 19 by omega] at J
      exact J
  clear h18
  refine r_iloadN C (pc' := 210) d1_209 rfl rfl ?_
  rw [show min D' 19 = (own_dig N).length by omega]
  exact r_ireturn C d1_210 (by decide) (by decide) (Nat.zero_le _) (fun _ _ => ⟨rfl, rfl⟩)
set_option maxRecDepth 65536 in
set_option maxHeartbeats 4000000 in
theorem c_canEncode (l : Launch) (Z : State) (a0 : Array Value) (hw : ∀ d ∈ tables_1, d.before a0 Z = true) (n0 : Nat) (h0 : Heap) (c : Nat) (hb : c < 256) :
    Con l [] (⟨"java/lang/StringLatin1", "canEncode", "(C)Z"⟩ : MethodName) jdk_43_method_3_code 1 (some .boolean) ({ frames := 0, cells := 0, slots := 0, locals := 0 } : Room) Z #[(.int (i32 c))] h0 n0 (fun v h => v = some (.int 1) ∧ h0 = h) := by
  refine enter (Ls := #[.val (.int (i32 c))]) pn44 (fun m => by first | (simp [entryFrame, mkF, argsToLocals, Value.category]; done) | rfl) ?_
  intro K C
  refine r_iloadN C (pc' := 1) d53_0 rfl rfl ?_
  refine r_sipush C (pc' := 4) (v := (255)) d53_1 rfl rfl ?_
  refine r_icmp_gt_f C (pc' := 7) d53_4 rfl (fun q => absurd ((i32_lt (a := 255) (by decide) (by omega)).mp q) (by omega)) ?_
  refine r_iconst C (pc' := 8) (v := 1) d53_7 rfl rfl ?_
  refine r_goto C (pc' := 12) d53_8 (by decide) (by decide) ?_
  exact r_zreturn C d53_12 rfl (by decide) (by decide) (Nat.zero_le _) (fun _ _ => ⟨rfl, rfl⟩)
set_option maxRecDepth 65536 in
set_option maxHeartbeats 4000000 in
theorem c_toBytes (l : Launch) (Z : State) (a0 : Array Value) (hw : ∀ d ∈ tables_1, d.before a0 Z = true) (n0 : Nat) (h0 : Heap) (hn : n0 ≤ h0.size) (c : Nat) :
    Con l [] (⟨"java/lang/StringLatin1", "toBytes", "(C)[B"⟩ : MethodName) jdk_43_method_46_code 1 (some (.array .byte)) ({ frames := 0, cells := 1, slots := 1, locals := 0 } : Room) Z #[(.int (i32 c))] h0 n0 (fun v h => ∃ (b : Nat) (k : ClassId), v = some (.ref b) ∧ b = h0.size ∧ Keep h0 h [] ∧ AV Z h b k .byte (([c].map by8).map Value.int) (.int 0)) := by
  refine enter (Ls := #[.val (.int (i32 c))]) pn45 (fun m => by first | (simp [entryFrame, mkF, argsToLocals, Value.category]; done) | rfl) ?_
  intro K C
  refine r_iconst C (pc' := 1) (v := 1) d54_0 rfl rfl ?_
  refine r_newarrayV C (pc' := 3) (ty := .byte) (m := 1) (cap := 1) d54_1 rfl rfl (w44 hw) rfl (by decide) (by decide) (by decide) (by decide) ?_
  intro h1 b k gb E1 A1
  refine r_dup C (pc' := 4) d54_3 rfl rfl ?_
  refine r_iconst C (pc' := 5) (v := 0) d54_4 rfl rfl ?_
  refine r_iloadN C (pc' := 6) d54_5 rfl rfl ?_
  refine r_i2b C (pc' := 7) d54_6 rfl ?_
  refine r_bastoreV C (pc' := 8) (i := 0) d54_7 rfl A1 rfl (by decide) (fits_nar_byte _) (by omega) ?_
  intro h2 W2 A2
  exact r_areturn C d54_8 rfl rfl (by decide) (by decide) (Nat.zero_le _) (fun _ _ => ⟨b, k, rfl, gb, ((Keep.refl _ _).ext E1).wr W2 (Or.inr (by omega)), by have e := own_bynar c; unfold by8 at e; rw [e] at A2; exact A2⟩)
set_option maxRecDepth 65536 in
set_option maxHeartbeats 4000000 in
theorem c_initBB (l : Launch) (Z : State) (a0 : Array Value) (hw : ∀ d ∈ tables_1, d.before a0 Z = true) (n0 : Nat) (h0 : Heap) (a b : Nat) (k : ClassId) (cs : List Nat) (ge : n0 ≤ a) (ne : b ≠ a) (E : Exa Z h0 a "java/lang/String") (vo co : Value) (Fv : Fld Z h0 a "java/lang/String" "value" "[B" vo) (Fc : Fld Z h0 a "java/lang/String" "coder" "B" co) (A : AV Z h0 b k .byte ((cs.map by8).map Value.int) (.int 0)) :
    Con l [] (⟨"java/lang/String", "<init>", "([BB)V"⟩ : MethodName) jdk_42_method_151_code 3 none ({ frames := 1, cells := 0, slots := 0, locals := 12 } : Room) Z #[(.ref a), (.ref b), (.int (0 : Int32))] h0 n0 (fun v h => v = none ∧ Keep h0 h [a] ∧ St Z h a b k cs) := by
  refine enter (Ls := #[.val (.ref a), .val (.ref b), .val (.int (0 : Int32))]) pn46 (fun m => by first | (simp [entryFrame, mkF, argsToLocals, Value.category]; done) | rfl) ?_
  intro K C
  refine r_aloadN C (pc' := 1) d55_0 rfl rfl rfl ?_
  refine r_initO C (pc' := 4) (W := 0) d55_1 rfl (w36 hw) (w37 hw) (w38 hw) rfl (by decide) (Nat.le_of_eq rfl) (by decide) ?_
  refine r_aloadN C (pc' := 5) d55_4 rfl rfl rfl ?_
  refine r_aloadN C (pc' := 6) d55_5 rfl rfl rfl ?_
  refine r_putF C (pc' := 9) d55_6 rfl (w53 hw) Via.refl Fv E (Or.inr ⟨(w54 hw), rfl, rfl⟩) (w26 hw) (ty := (.array .byte)) (by decide) rfl rfl ge ?_
  intro h1 W1
  replace Fv := Fv.same W1
  replace Fc := Fc.other W1 (Or.inr (sn7 (Z := Z) hw))
  replace E := E.wr W1
  replace A := A.other W1 (nn ne)
  refine r_aloadN C (pc' := 10) d55_9 rfl rfl rfl ?_
  refine r_iloadN C (pc' := 11) d55_10 rfl rfl ?_
  refine r_putF C (pc' := 14) d55_11 rfl (w51 hw) Via.refl Fc E (Or.inr ⟨(w52 hw), rfl, rfl⟩) (w26 hw) (ty := .byte) (by decide) rfl rfl ge ?_
  intro h2 W2
  replace Fv := Fv.other W2 (Or.inr (sn6 (Z := Z) hw))
  replace Fc := Fc.same W2
  replace E := E.wr W2
  replace A := A.other W2 (nn ne)
  exact r_return C d55_14 (by decide) (by decide) (Nat.zero_le _) (fun _ _ => ⟨rfl, ((Keep.refl h0 [a]).wr W1 (Or.inl (by simp))).wr W2 (Or.inl (by simp)), E, Fc, Fv, A⟩)
set_option maxRecDepth 65536 in
set_option maxHeartbeats 4000000 in
theorem c_valueOfC (l : Launch) (Z : State) (a0 : Array Value) (hw : ∀ d ∈ tables_1, d.before a0 Z = true) (n0 : Nat) (h0 : Heap) (cc : Int32) (fv : Value) (ss : own_SS Z cc fv) (ol : Od Z n0 h0) (hn : n0 ≤ h0.size) (c : Nat) (hb : c < 256) :
    Con l [] (⟨"java/lang/String", "valueOf", "(C)Ljava/lang/String;"⟩ : MethodName) jdk_42_method_139_code 1 (some (.object "java/lang/String")) ({ frames := 2, cells := 2, slots := 5, locals := 27 } : Room) Z #[(.int (i32 c))] h0 n0 (fun v h => ∃ (a b : Nat) (k : ClassId), v = some (.ref a) ∧ Keep h0 h [] ∧ St Z h a b k [c] ∧ h0.size ≤ a ∧ h0.size ≤ b) := by
  refine enter (Ls := #[.val (.int (i32 c))]) pn47 (fun m => by first | (simp [entryFrame, mkF, argsToLocals, Value.category]; done) | rfl) ?_
  intro K C
  refine r_getS C (pc' := 3) d52_0 rfl (w39 hw) Via.refl (ss.1.ext ol.2) ?_
  refine r_if_eq_f C (pc' := 6) d52_3 rfl ss.2.1 ?_
  refine r_iloadN C (pc' := 7) d52_6 rfl rfl ?_
  refine r_callS C (pc' := 10) (argsL := [.int (i32 c)]) (c_canEncode l Z a0 hw n0 h0 c hb) d52_7 rfl (w301 hw) (w302 hw) (w267 hw) (w303 hw) (by decide) pd32 (st := []) rfl rfl rfl (W := 0) (Nat.le_of_eq rfl) (by decide) (by decide) (by decide) (by decide) (cells' := 0) (slots' := 0) rfl rfl ?_
  rintro _ _ ⟨rfl, rfl⟩
  show Run _ _ _ _ _ _ _ _ 10 #[.val (.int (i32 c))] [.int (1 : Int32)]
  refine r_if_eq_f C (pc' := 13) d52_10 rfl (by decide) ?_
  refine r_new C (pc' := 16) d52_13 rfl (w304 hw) (w26 hw) (w27 hw) (by decide) (by decide) ?_
  intro h1 a ga E1 E D1
  have Fv : Fld Z h1 a "java/lang/String" "value" "[B" (.null) := D1 (Or.inr (w54 hw)) (ty := (.array .byte)) (by decide)
  have Fc : Fld Z h1 a "java/lang/String" "coder" "B" (.int 0) := D1 (Or.inr (w52 hw)) (ty := .byte) (by decide)
  have x_h1 := E1.1
  refine r_dup C (pc' := 17) d52_16 rfl rfl ?_
  refine r_iloadN C (pc' := 18) d52_17 rfl rfl ?_
  refine r_callS C (pc' := 21) (argsL := [.int (i32 c)]) (c_toBytes l Z a0 hw n0 h1 (by omega) c) d52_18 rfl (w305 hw) (w306 hw) (w267 hw) (w307 hw) (by decide) pd33 (st := [.ref a, .ref a]) rfl rfl rfl (W := 2) (Nat.le_of_eq rfl) (by decide) (by decide) (by decide) (by decide) (cells' := 2) (slots' := 5) rfl rfl ?_
  rintro _ h2 ⟨b, k, rfl, gb, K2, A2⟩
  show Run _ _ _ _ _ h2 _ _ 21 #[.val (.int (i32 c))] [.ref b, .ref a, .ref a]
  refine r_iconst C (pc' := 22) (v := 0) d52_21 rfl rfl ?_
  refine r_callI C (pc' := 25) (argsL := [.ref b, .int (0 : Int32)]) (c_initBB l Z a0 hw n0 h2 a b k [c] (by omega) (by have := exaLt E; omega) (E.keep K2) _ _ (Fv.keep K2 nin0) (Fc.keep K2 nin0) A2) d52_22 rfl (w308 hw) (w309 hw) (w27 hw) (w310 hw) rfl (by decide) pd34 (st := [.ref a]) rfl rfl rfl (W := 1) (Nat.le_of_eq rfl) (by decide) (by decide) (by decide) (by decide) (cells' := 2) (slots' := 5) rfl rfl ?_
  rintro _ h3 ⟨rfl, K3, S⟩
  show Run _ _ _ _ _ h3 _ _ 25 #[.val (.int (i32 c))] [.ref a]
  exact r_areturn C d52_25 rfl rfl (by decide) (by decide) (Nat.zero_le _) (fun _ _ => ⟨a, b, k, rfl, (((Keep.refl h0 []).ext E1).trans K2 all0).trans K3 (allS (Or.inr (by omega)) all0), S, by omega, by omega⟩)
set_option maxRecDepth 65536 in
set_option maxHeartbeats 4000000 in
theorem c_comp0 (l : Launch) (Z : State) (a0 : Array Value) (hw : ∀ d ∈ tables_1, d.before a0 Z = true) (n0 : Nat) (h0 : Heap) (a b : Nat) (ka kb : ClassId) (cs : List Nat) (vs : List Value) (A : AV Z h0 a ka .char (cs.map vch) (.int 0)) (Bv : AV Z h0 b kb .byte vs (.int 0)) (hv : vs.length = cs.length) (hcs : ∀ c ∈ cs, c < 256) (ge : n0 ≤ b) (ne : a ≠ b) :
    Con l [] (⟨"java/lang/StringUTF16", "compress", "([CI[BII)I"⟩ : MethodName) jdk_52_method_21_code 7 (some .int) ({ frames := 0, cells := 0, slots := 0, locals := 0 } : Room) Z #[(.ref a), (.int (0 : Int32)), (.ref b), (.int (0 : Int32)), (.int (i32 cs.length))] h0 n0 (fun v h => v = some (.int (i32 cs.length)) ∧ Keep h0 h [b] ∧ AV Z h b kb .byte ((cs.map by8).map Value.int) (.int 0)) := by
  refine enter (Ls := #[.val (.ref a), .val (.int (0 : Int32)), .val (.ref b), .val (.int (0 : Int32)), .val (.int (i32 cs.length)), .unset, .unset]) pn48 (fun m => by first | (simp [entryFrame, mkF, argsToLocals, Value.category]; done) | rfl) ?_
  intro K C
  have hn : cs.length < 2147483648 := by have := A.2; rwa [own_clen] at this
  have loop : ∀ (m i : Nat) (h : Heap) (ws : List Value) (L6 : Slot), cs.length - i = m → i ≤ cs.length → ws.length = cs.length → ws.take i = ((cs.take i).map by8).map Value.int → Keep h0 h [b] → AV Z h b kb .byte ws (.int 0) → (L6 = .unset ∨ ∃ u, L6 = .val (.int u)) → Run l ({ frames := 0, cells := 0, slots := 0, locals := 0 } : Room) n0 (fun v h _ => v = some (.int (i32 cs.length)) ∧ Keep h0 h [b] ∧ AV Z h b kb .byte ((cs.map by8).map Value.int) (.int 0)) K h 0 0 3 #[.val (.ref a), .val (.int (i32 i)), .val (.ref b), .val (.int (i32 i)), .val (.int (i32 cs.length)), .val (.int (i32 i)), L6] [] := by
    intro m
    induction m with
    | zero =>
      intro i h ws L6 hm hi hl ht Kp B hL
      obtain rfl : i = cs.length := by omega
      refine r_iload C (pc' := 5) d6_3 rfl rfl ?_
      refine r_iload C (pc' := 7) d6_5 rfl rfl ?_
      refine r_icmp_ge_t C (pc' := 44) d6_7 (by decide) (by decide) (fun q => absurd ((i32_lt hn hn).mp q) (Nat.lt_irrefl _)) ?_
      refine r_iload C (pc' := 46) d6_44 rfl rfl ?_
      exact r_ireturn C d6_46 (by decide) (by decide) (Nat.zero_le _) (fun _ _ => ⟨rfl, Kp, by rw [← hl, List.take_length, hl, List.take_length] at ht; rw [← ht]; exact B⟩)
    | succ m ih =>
      intro i h ws L6 hm hi hl ht Kp B hL
      have hlt : i < cs.length := by omega
      obtain ⟨c, hc⟩ : ∃ c, cs[i]? = some c := ⟨_, List.getElem?_eq_getElem hlt⟩
      have hb := hcs c (List.mem_of_getElem? hc)
      refine r_iload C (pc' := 5) d6_3 rfl rfl ?_
      refine r_iload C (pc' := 7) d6_5 rfl rfl ?_
      refine r_icmp_ge_f C (pc' := 10) d6_7 rfl ((i32_lt (by omega) hn).mpr hlt) ?_
      refine r_aloadN C (pc' := 11) d6_10 rfl rfl rfl ?_
      refine r_iloadN C (pc' := 12) d6_11 rfl rfl ?_
      refine r_caloadV C (pc' := 13) (i := i) d6_12 rfl (A.keep Kp (ninS (nn ne) nin0)) rfl (own_cget hc) ?_
      refine r_istore C (pc' := 15) (Ls' := #[.val (.ref a), .val (.int (i32 i)), .val (.ref b), .val (.int (i32 i)), .val (.int (i32 cs.length)), .val (.int (i32 i)), .val (.int (i32 c))]) d6_13 rfl (by rcases hL with rfl | ⟨u, rfl⟩ <;> rfl) ?_
      refine r_iload C (pc' := 17) d6_15 rfl rfl ?_
      refine r_sipush C (pc' := 20) (v := (255)) d6_17 rfl rfl ?_
      refine r_icmp_le_t C (pc' := 26) d6_20 (by decide) (by decide) (fun q => absurd ((i32_lt (a := 255) (by decide) (by omega)).mp q) (by omega)) ?_
      refine r_aloadN C (pc' := 27) d6_26 rfl rfl rfl ?_
      refine r_iloadN C (pc' := 28) d6_27 rfl rfl ?_
      refine r_iload C (pc' := 30) d6_28 rfl rfl ?_
      refine r_i2b C (pc' := 31) d6_30 rfl ?_
      refine r_bastoreV C (pc' := 32) (i := i) d6_31 rfl B rfl (by omega) (fits_nar_byte _) ge ?_
      intro h2 W B'
      refine r_iinc C (pc' := 35) (v := (1)) (Ls' := #[.val (.ref a), .val (.int ((i32 i) + (1 : Int32))), .val (.ref b), .val (.int (i32 i)), .val (.int (i32 cs.length)), .val (.int (i32 i)), .val (.int (i32 c))]) d6_32 rfl rfl rfl rfl ?_
      refine r_iinc C (pc' := 38) (v := (1)) (Ls' := #[.val (.ref a), .val (.int ((i32 i) + (1 : Int32))), .val (.ref b), .val (.int ((i32 i) + (1 : Int32))), .val (.int (i32 cs.length)), .val (.int (i32 i)), .val (.int (i32 c))]) d6_35 rfl rfl rfl rfl ?_
      refine r_iinc C (pc' := 41) (v := (1)) (Ls' := #[.val (.ref a), .val (.int ((i32 i) + (1 : Int32))), .val (.ref b), .val (.int ((i32 i) + (1 : Int32))), .val (.int (i32 cs.length)), .val (.int ((i32 i) + (1 : Int32))), .val (.int (i32 c))]) d6_38 rfl rfl rfl rfl ?_
      refine r_goto C (pc' := 3) d6_41 (by decide) (by decide) ?_
      rw [show i32 i + (1 : Int32) = i32 (i + 1) from i32_add i 1]
      refine ih (i + 1) h2 _ _ (by omega) hlt (by rw [List.length_set]; exact hl) ?_ (Kp.wr W (Or.inl (by simp))) B' (Or.inr ⟨_, rfl⟩)
      rw [own_tset _ _ _ (by omega), ht, own_take1 hc, List.map_append, List.map_append]
      have e := own_bynar c; unfold by8 at e; rw [e]; rfl
  refine r_iconst C (pc' := 1) (v := 0) d6_0 rfl rfl ?_
  refine r_istore C (pc' := 3) (Ls' := #[.val (.ref a), .val (.int (0 : Int32)), .val (.ref b), .val (.int (0 : Int32)), .val (.int (i32 cs.length)), .val (.int (0 : Int32)), .unset]) d6_1 rfl rfl ?_
  refine loop _ 0 h0 _ _ rfl (Nat.zero_le _) hv rfl (Keep.refl _ _) Bv (Or.inl rfl)
set_option maxRecDepth 65536 in
set_option maxHeartbeats 4000000 in
theorem c_comp (l : Launch) (Z : State) (a0 : Array Value) (hw : ∀ d ∈ tables_1, d.before a0 Z = true) (n0 : Nat) (h0 : Heap) (hn : n0 ≤ h0.size) (a : Nat) (ka : ClassId) (cs : List Nat) (A : AV Z h0 a ka .char (cs.map vch) (.int 0)) (hcs : ∀ c ∈ cs, c < 256) (hcap : cs.length ≤ 2) :
    Con l [] (⟨"java/lang/StringUTF16", "compress", "([CII)[B"⟩ : MethodName) jdk_52_method_16_code 6 (some (.array .byte)) ({ frames := 1, cells := 1, slots := 2, locals := 18 } : Room) Z #[(.ref a), (.int (0 : Int32)), (.int (i32 cs.length))] h0 n0 (fun v h => ∃ (b : Nat) (kb : ClassId), v = some (.ref b) ∧ b = h0.size ∧ Keep h0 h [] ∧ AV Z h b kb .byte ((cs.map by8).map Value.int) (.int 0)) := by
  refine enter (Ls := #[.val (.ref a), .val (.int (0 : Int32)), .val (.int (i32 cs.length)), .unset, .unset, .unset]) pn49 (fun m => by first | (simp [entryFrame, mkF, argsToLocals, Value.category]; done) | rfl) ?_
  intro K C
  have hA := A.lt
  refine r_iloadN C (pc' := 1) d5_0 rfl rfl ?_
  refine r_newarrayV C (pc' := 3) (ty := .byte) (m := cs.length) (cap := 2) d5_1 rfl rfl (w44 hw) rfl hcap (by decide) (by decide) (by decide) ?_
  intro h1 b kb gb E1 B1
  refine r_astoreN C (pc' := 4) (Ls' := #[.val (.ref a), .val (.int (0 : Int32)), .val (.int (i32 cs.length)), .val (.ref b), .unset, .unset]) d5_3 rfl rfl rfl ?_
  refine r_aloadN C (pc' := 5) d5_4 rfl rfl rfl ?_
  refine r_iloadN C (pc' := 6) d5_5 rfl rfl ?_
  refine r_aloadN C (pc' := 7) d5_6 rfl rfl rfl ?_
  refine r_iconst C (pc' := 8) (v := 0) d5_7 rfl rfl ?_
  refine r_iloadN C (pc' := 9) d5_8 rfl rfl ?_
  refine r_callS C (pc' := 12) (argsL := [.ref a, .int (0 : Int32), .ref b, .int (0 : Int32), .int (i32 cs.length)]) (c_comp0 l Z a0 hw n0 h1 a b ka kb cs _ (A.ext E1) B1 (List.length_replicate ..) hcs (by omega) (by omega)) d5_9 rfl (w45 hw) (w46 hw) (w42 hw) (w47 hw) (by decide) pd35 (st := []) rfl rfl rfl (W := 0) (Nat.le_of_eq rfl) (by decide) (by decide) (by decide) (by decide) (cells' := 1) (slots' := 2) rfl rfl ?_
  rintro _ h2 ⟨rfl, K2, B2⟩
  show Run _ _ _ _ _ h2 _ _ 12 #[.val (.ref a), .val (.int (0 : Int32)), .val (.int (i32 cs.length)), .val (.ref b), .unset, .unset] [.int (i32 cs.length)]
  refine r_istore C (pc' := 14) (Ls' := #[.val (.ref a), .val (.int (0 : Int32)), .val (.int (i32 cs.length)), .val (.ref b), .val (.int (i32 cs.length)), .unset]) d5_12 rfl rfl ?_
  refine r_iload C (pc' := 16) d5_14 rfl rfl ?_
  refine r_iloadN C (pc' := 17) d5_16 rfl rfl ?_
  refine r_icmp_eq_t C (pc' := 57) d5_17 (by decide) (by decide) rfl ?_
  refine r_aloadN C (pc' := 58) d5_57 rfl rfl rfl ?_
  exact r_areturn C d5_58 rfl rfl (by decide) (by decide) (Nat.zero_le _) (fun _ _ => ⟨b, kb, rfl, gb, ((Keep.refl h0 []).ext E1).trans K2 (allS (Or.inr (by omega)) all0), B2⟩)
set_option maxRecDepth 65536 in
set_option maxHeartbeats 4000000 in
theorem c_coderLen (l : Launch) (Z : State) (a0 : Array Value) (hw : ∀ d ∈ tables_1, d.before a0 Z = true) (n0 : Nat) (h0 : Heap) (b : Nat) (k : ClassId) (vs : List Value) (n : Nat) (A : AV Z h0 b k .byte vs (.int 0)) (hv : vs.length = n) :
    Con l [] (⟨"java/lang/StringUTF16", "coderFromArrayLen", "([BI)B"⟩ : MethodName) jdk_52_method_15_code 2 (some .byte) ({ frames := 0, cells := 0, slots := 0, locals := 0 } : Room) Z #[(.ref b), (.int (i32 n))] h0 n0 (fun v h => v = some (.int 0) ∧ h0 = h) := by
  refine enter (Ls := #[.val (.ref b), .val (.int (i32 n))]) pn50 (fun m => by first | (simp [entryFrame, mkF, argsToLocals, Value.category]; done) | rfl) ?_
  intro K C
  refine r_iloadN C (pc' := 1) d7_0 rfl rfl ?_
  refine r_aloadN C (pc' := 2) d7_1 rfl rfl rfl ?_
  refine r_lengthV C (pc' := 3) (n := n) d7_2 rfl A hv ?_
  refine r_isub C (pc' := 4) d7_3 rfl ?_
  refine r_bipush C (pc' := 6) (v := (31)) d7_4 rfl rfl ?_
  refine r_iushr C (pc' := 7) d7_6 rfl ?_
  refine r_i2b C (pc' := 8) d7_7 rfl ?_
  rw [own_coder0]
  exact r_breturn C d7_8 rfl (by decide) (by decide) (Nat.zero_le _) (fun _ _ => ⟨rfl, rfl⟩)
set_option maxRecDepth 65536 in
set_option maxHeartbeats 4000000 in
theorem c_initCV (l : Launch) (Z : State) (a0 : Array Value) (hw : ∀ d ∈ tables_1, d.before a0 Z = true) (n0 : Nat) (h0 : Heap) (cc : Int32) (fv : Value) (ss : own_SS Z cc fv) (ol : Od Z n0 h0) (hn : n0 ≤ h0.size) (a ac : Nat) (kc : ClassId) (cs : List Nat) (ge : n0 ≤ a) (E : Exa Z h0 a "java/lang/String") (vo co : Value) (Fv : Fld Z h0 a "java/lang/String" "value" "[B" vo) (Fc : Fld Z h0 a "java/lang/String" "coder" "B" co) (A : AV Z h0 ac kc .char (cs.map vch) (.int 0)) (hcs : ∀ c ∈ cs, c < 256) (hne : cs.length ≠ 0) (hcap : cs.length ≤ 2) :
    Con l [] (⟨"java/lang/String", "<init>", "([CIILjava/lang/Void;)V"⟩ : MethodName) jdk_42_method_149_code 6 none ({ frames := 2, cells := 1, slots := 2, locals := 35 } : Room) Z #[(.ref a), (.ref ac), (.int (0 : Int32)), (.int (i32 cs.length)), .null] h0 n0 (fun v h => v = none ∧ Keep h0 h [a] ∧ ∃ (b : Nat) (k : ClassId), St Z h a b k cs ∧ b = h0.size) := by
  refine enter (Ls := #[.val (.ref a), .val (.ref ac), .val (.int (0 : Int32)), .val (.int (i32 cs.length)), .val .null, .unset]) pn51 (fun m => by first | (simp [entryFrame, mkF, argsToLocals, Value.category]; done) | rfl) ?_
  intro K C
  have hl : cs.length < 2147483648 := by have := A.2; rwa [own_clen] at this
  have ha := exaLt E
  refine r_aloadN C (pc' := 1) d3_0 rfl rfl rfl ?_
  refine r_initO C (pc' := 4) (W := 0) d3_1 rfl (w36 hw) (w37 hw) (w38 hw) rfl (by decide) (Nat.le_of_eq rfl) (by decide) ?_
  refine r_iloadN C (pc' := 5) d3_4 rfl rfl ?_
  refine r_if_ne_t C (pc' := 27) d3_5 (by decide) (by decide) (fun q => hne ((i32_eq (b := 0) hl (by decide)).mp q)) ?_
  refine r_getS C (pc' := 30) d3_27 rfl (w39 hw) Via.refl (ss.1.ext ol.2) ?_
  refine r_if_eq_f C (pc' := 33) d3_30 rfl ss.2.1 ?_
  refine r_aloadN C (pc' := 34) d3_33 rfl rfl rfl ?_
  refine r_iloadN C (pc' := 35) d3_34 rfl rfl ?_
  refine r_iloadN C (pc' := 36) d3_35 rfl rfl ?_
  refine r_callS C (pc' := 39) (argsL := [.ref ac, .int (0 : Int32), .int (i32 cs.length)]) (c_comp l Z a0 hw n0 h0 hn ac kc cs A hcs hcap) d3_36 rfl (w40 hw) (w41 hw) (w42 hw) (w43 hw) (by decide) pd36 (st := []) rfl rfl rfl (W := 0) (Nat.le_of_eq rfl) (by decide) (by decide) (by decide) (by decide) (cells' := 1) (slots' := 2) rfl rfl ?_
  rintro _ h1 ⟨b, k, rfl, gb, K1, B⟩
  show Run _ _ _ _ _ h1 _ _ 39 #[.val (.ref a), .val (.ref ac), .val (.int (0 : Int32)), .val (.int (i32 cs.length)), .val .null, .unset] [.ref b]
  have x1 := K1.1
  replace E := E.keep K1
  replace Fv := Fv.keep K1 nin0
  replace Fc := Fc.keep K1 nin0
  refine r_astore C (pc' := 41) (Ls' := #[.val (.ref a), .val (.ref ac), .val (.int (0 : Int32)), .val (.int (i32 cs.length)), .val .null, .val (.ref b)]) d3_39 rfl rfl rfl ?_
  refine r_aloadN C (pc' := 42) d3_41 rfl rfl rfl ?_
  refine r_aload C (pc' := 44) d3_42 rfl rfl rfl ?_
  refine r_iloadN C (pc' := 45) d3_44 rfl rfl ?_
  refine r_callS C (pc' := 48) (argsL := [.ref b, .int (i32 cs.length)]) (c_coderLen l Z a0 hw n0 h1 b k _ cs.length B (own_blen cs)) d3_45 rfl (w48 hw) (w49 hw) (w42 hw) (w50 hw) (by decide) pd37 (st := [.ref a]) rfl rfl rfl (W := 1) (Nat.le_of_eq rfl) (by decide) (by decide) (by decide) (by decide) (cells' := 1) (slots' := 2) rfl rfl ?_
  rintro _ _ ⟨rfl, rfl⟩
  show Run _ _ _ _ _ _ _ _ 48 #[.val (.ref a), .val (.ref ac), .val (.int (0 : Int32)), .val (.int (i32 cs.length)), .val .null, .val (.ref b)] [.int (0 : Int32), .ref a]
  refine r_putF C (pc' := 51) d3_48 rfl (w51 hw) Via.refl Fc E (Or.inr ⟨(w52 hw), rfl, rfl⟩) (w26 hw) (ty := .byte) (by decide) rfl rfl ge ?_
  intro h2 W2
  replace Fv := Fv.other W2 (Or.inr (sn6 (Z := Z) hw))
  replace Fc := Fc.same W2
  replace E := E.wr W2
  replace B := B.other W2 (nn (by omega))
  refine r_aloadN C (pc' := 52) d3_51 rfl rfl rfl ?_
  refine r_aload C (pc' := 54) d3_52 rfl rfl rfl ?_
  refine r_putF C (pc' := 57) d3_54 rfl (w53 hw) Via.refl Fv E (Or.inr ⟨(w54 hw), rfl, rfl⟩) (w26 hw) (ty := (.array .byte)) (by decide) rfl rfl ge ?_
  intro h3 W3
  replace Fv := Fv.same W3
  replace Fc := Fc.other W3 (Or.inr (sn7 (Z := Z) hw))
  replace E := E.wr W3
  replace B := B.other W3 (nn (by omega))
  exact r_return C d3_57 (by decide) (by decide) (Nat.zero_le _) (fun _ _ => ⟨rfl, (((Keep.refl h0 [a]).trans K1 all0).wr W2 (Or.inl (by simp))).wr W3 (Or.inl (by simp)), b, k, ⟨E, Fc, Fv, B⟩, gb⟩)
set_option maxRecDepth 65536 in
set_option maxHeartbeats 4000000 in
theorem c_initC (l : Launch) (Z : State) (a0 : Array Value) (hw : ∀ d ∈ tables_1, d.before a0 Z = true) (n0 : Nat) (h0 : Heap) (cc : Int32) (fv : Value) (ss : own_SS Z cc fv) (ol : Od Z n0 h0) (hn : n0 ≤ h0.size) (a ac : Nat) (kc : ClassId) (cs : List Nat) (ge : n0 ≤ a) (E : Exa Z h0 a "java/lang/String") (vo co : Value) (Fv : Fld Z h0 a "java/lang/String" "value" "[B" vo) (Fc : Fld Z h0 a "java/lang/String" "coder" "B" co) (A : AV Z h0 ac kc .char (cs.map vch) (.int 0)) (hcs : ∀ c ∈ cs, c < 256) (hne : cs.length ≠ 0) (hcap : cs.length ≤ 2) :
    Con l [] (⟨"java/lang/String", "<init>", "([C)V"⟩ : MethodName) jdk_42_method_3_code 2 none ({ frames := 3, cells := 1, slots := 2, locals := 52 } : Room) Z #[(.ref a), (.ref ac)] h0 n0 (fun v h => v = none ∧ Keep h0 h [a] ∧ ∃ (b : Nat) (k : ClassId), St Z h a b k cs ∧ b = h0.size) := by
  refine enter (Ls := #[.val (.ref a), .val (.ref ac)]) pn52 (fun m => by first | (simp [entryFrame, mkF, argsToLocals, Value.category]; done) | rfl) ?_
  intro K C
  refine r_aloadN C (pc' := 1) d2_0 rfl rfl rfl ?_
  refine r_aloadN C (pc' := 2) d2_1 rfl rfl rfl ?_
  refine r_iconst C (pc' := 3) (v := 0) d2_2 rfl rfl ?_
  refine r_aloadN C (pc' := 4) d2_3 rfl rfl rfl ?_
  refine r_lengthV C (pc' := 5) (n := cs.length) d2_4 rfl A (own_clen cs) ?_
  refine r_aconst_null C (pc' := 6) d2_5 rfl ?_
  refine r_callI C (pc' := 9) (argsL := [.ref ac, .int (0 : Int32), .int (i32 cs.length), .null]) (c_initCV l Z a0 hw n0 h0 cc fv ss ol hn a ac kc cs ge E vo co Fv Fc A hcs hne hcap) d2_6 rfl (w32 hw) (w33 hw) (w27 hw) (w35 hw) rfl (by decide) pd38 (st := []) rfl rfl rfl (W := 0) (Nat.le_of_eq rfl) (by decide) (by decide) (by decide) (by decide) (cells' := 1) (slots' := 2) rfl rfl ?_
  rintro _ h1 ⟨rfl, K1, r⟩
  show Run _ _ _ _ _ h1 _ _ 9 #[.val (.ref a), .val (.ref ac)] []
  exact r_return C d2_9 (by decide) (by decide) (Nat.zero_le _) (fun _ _ => ⟨rfl, K1, r⟩)
set_option maxRecDepth 65536 in
set_option maxHeartbeats 4000000 in
theorem c_isLatin1 (l : Launch) (Z : State) (a0 : Array Value) (hw : ∀ d ∈ tables_1, d.before a0 Z = true) (n0 : Nat) (h0 : Heap) (cc : Int32) (fv : Value) (ss : own_SS Z cc fv) (ol : Od Z n0 h0) (a : Nat) (F : Fld Z h0 a "java/lang/String" "coder" "B" (.int 0)) :
    Con l [] (⟨"java/lang/String", "isLatin1", "()Z"⟩ : MethodName) jdk_42_method_154_code 1 (some .boolean) ({ frames := 0, cells := 0, slots := 0, locals := 0 } : Room) Z #[(.ref a)] h0 n0 (fun v h => v = some (.int 1) ∧ h0 = h) := by
  refine enter (Ls := #[.val (.ref a)]) pn53 (fun m => by first | (simp [entryFrame, mkF, argsToLocals, Value.category]; done) | rfl) ?_
  intro K C
  refine r_getS C (pc' := 3) d44_0 rfl (w39 hw) Via.refl (ss.1.ext ol.2) ?_
  refine r_if_eq_f C (pc' := 6) d44_3 rfl ss.2.1 ?_
  refine r_aloadN C (pc' := 7) d44_6 rfl rfl rfl ?_
  refine r_getF C (pc' := 10) d44_7 rfl (w51 hw) Via.refl F ?_
  refine r_if_ne_f C (pc' := 13) d44_10 rfl (by decide) ?_
  refine r_iconst C (pc' := 14) (v := 1) d44_13 rfl rfl ?_
  refine r_goto C (pc' := 18) d44_14 (by decide) (by decide) ?_
  exact r_zreturn C d44_18 rfl (by decide) (by decide) (Nat.zero_le _) (fun _ _ => ⟨rfl, rfl⟩)
set_option maxRecDepth 65536 in
set_option maxHeartbeats 4000000 in
theorem c_pcheck (l : Launch) (Z : State) (a0 : Array Value) (hw : ∀ d ∈ tables_1, d.before a0 Z = true) (n0 : Nat) (h0 : Heap) (i n : Nat) (fv : Value) (hf : fv.isRef = true) (hn : n < 2147483648) (hi : i < n) :
    Con l [] (⟨"jdk/internal/util/Preconditions", "checkIndex", "(IILjava/util/function/BiFunction;)I"⟩ : MethodName) jdk_41_method_11_code 3 (some .int) ({ frames := 0, cells := 0, slots := 0, locals := 0 } : Room) Z #[(.int (i32 i)), (.int (i32 n)), fv] h0 n0 (fun v h => v = some (.int (i32 i)) ∧ h0 = h) := by
  refine enter (Ls := #[.val (.int (i32 i)), .val (.int (i32 n)), .val fv]) pn54 (fun m => by rcases ref_cases hf with rfl | ⟨zz, rfl⟩ <;> first | (simp [entryFrame, mkF, argsToLocals, Value.category]; done) | rfl) ?_
  intro K C
  refine r_iloadN C (pc' := 1) d47_0 rfl rfl ?_
  refine r_if_lt_f C (pc' := 4) d47_1 rfl (i32_nn (by omega)) ?_
  refine r_iloadN C (pc' := 5) d47_4 rfl rfl ?_
  refine r_iloadN C (pc' := 6) d47_5 rfl rfl ?_
  refine r_icmp_lt_t C (pc' := 16) d47_6 (by decide) (by decide) ((i32_lt (by omega) hn).mpr hi) ?_
  refine r_iloadN C (pc' := 17) d47_16 rfl rfl ?_
  exact r_ireturn C d47_17 (by decide) (by decide) (Nat.zero_le _) (fun _ _ => ⟨rfl, rfl⟩)
set_option maxRecDepth 65536 in
set_option maxHeartbeats 4000000 in
theorem c_scheck (l : Launch) (Z : State) (a0 : Array Value) (hw : ∀ d ∈ tables_1, d.before a0 Z = true) (n0 : Nat) (h0 : Heap) (cc : Int32) (fv : Value) (ss : own_SS Z cc fv) (ol : Od Z n0 h0) (i n : Nat) (hn : n < 2147483648) (hi : i < n) :
    Con l [] (⟨"java/lang/String", "checkIndex", "(II)V"⟩ : MethodName) jdk_42_method_155_code 2 none ({ frames := 1, cells := 0, slots := 0, locals := 14 } : Room) Z #[(.int (i32 i)), (.int (i32 n))] h0 n0 (fun v h => v = none ∧ h0 = h) := by
  refine enter (Ls := #[.val (.int (i32 i)), .val (.int (i32 n))]) pn55 (fun m => by first | (simp [entryFrame, mkF, argsToLocals, Value.category]; done) | rfl) ?_
  intro K C
  refine r_iloadN C (pc' := 1) d46_0 rfl rfl ?_
  refine r_iloadN C (pc' := 2) d46_1 rfl rfl ?_
  refine r_getS C (pc' := 5) d46_2 rfl (w272 hw) Via.refl (ss.2.2.1.ext ol.2) ?_
  refine r_callS C (pc' := 8) (argsL := [.int (i32 i), .int (i32 n), fv]) (c_pcheck l Z a0 hw n0 h0 i n fv ss.2.2.2 hn hi) d46_5 rfl (w274 hw) (w275 hw) (w273 hw) (w276 hw) (by decide) pd39 (st := []) rfl rfl rfl (W := 0) (Nat.le_of_eq rfl) (by decide) (by decide) (by decide) (by decide) (cells' := 0) (slots' := 0) rfl rfl ?_
  rintro _ _ ⟨rfl, rfl⟩
  show Run _ _ _ _ _ _ _ _ 8 #[.val (.int (i32 i)), .val (.int (i32 n))] [.int (i32 i)]
  refine r_pop C (pc' := 9) d46_8 rfl rfl ?_
  exact r_return C d46_9 (by decide) (by decide) (Nat.zero_le _) (fun _ _ => ⟨rfl, rfl⟩)
set_option maxRecDepth 65536 in
set_option maxHeartbeats 4000000 in
theorem c_l1charAt (l : Launch) (Z : State) (a0 : Array Value) (hw : ∀ d ∈ tables_1, d.before a0 Z = true) (n0 : Nat) (h0 : Heap) (cc : Int32) (fv : Value) (ss : own_SS Z cc fv) (ol : Od Z n0 h0) (b : Nat) (k : ClassId) (cs : List Nat) (A : AV Z h0 b k .byte ((cs.map by8).map Value.int) (.int 0)) (i c : Nat) (hc : cs[i]? = some c) (hb : c < 256) :
    Con l [] (⟨"java/lang/StringLatin1", "charAt", "([BI)C"⟩ : MethodName) jdk_43_method_2_code 2 (some .char) ({ frames := 2, cells := 0, slots := 0, locals := 27 } : Room) Z #[(.ref b), (.int (i32 i))] h0 n0 (fun v h => v = some (.int (i32 c)) ∧ h0 = h) := by
  refine enter (Ls := #[.val (.ref b), .val (.int (i32 i))]) pn56 (fun m => by first | (simp [entryFrame, mkF, argsToLocals, Value.category]; done) | rfl) ?_
  intro K C
  have hn : cs.length < 2147483648 := by have := A.2; rwa [own_blen] at this
  have hi := lt_of_get hc
  refine r_iloadN C (pc' := 1) d45_0 rfl rfl ?_
  refine r_aloadN C (pc' := 2) d45_1 rfl rfl rfl ?_
  refine r_lengthV C (pc' := 3) (n := cs.length) d45_2 rfl A (own_blen cs) ?_
  refine r_callS C (pc' := 6) (argsL := [.int (i32 i), .int (i32 cs.length)]) (c_scheck l Z a0 hw n0 h0 cc fv ss ol i cs.length hn hi) d45_3 rfl (w269 hw) (w270 hw) (w27 hw) (w271 hw) (by decide) pd11 (st := []) rfl rfl rfl (W := 0) (Nat.le_of_eq rfl) (by decide) (by decide) (by decide) (by decide) (cells' := 0) (slots' := 0) rfl rfl ?_
  rintro _ _ ⟨rfl, rfl⟩
  show Run _ _ _ _ _ _ _ _ 6 #[.val (.ref b), .val (.int (i32 i))] []
  refine r_aloadN C (pc' := 7) d45_6 rfl rfl rfl ?_
  refine r_iloadN C (pc' := 8) d45_7 rfl rfl ?_
  refine r_baloadV C (pc' := 9) (i := i) d45_8 rfl A rfl (own_bget hc) ?_
  refine r_sipush C (pc' := 12) (v := (255)) d45_9 rfl rfl ?_
  refine r_iand C (pc' := 13) d45_12 rfl ?_
  refine r_i2c C (pc' := 14) d45_13 rfl ?_
  rw [own_byte hb]
  exact r_creturn C d45_14 (own_narF ⟨c, by omega⟩) (by decide) (by decide) (Nat.zero_le _) (fun _ _ => ⟨rfl, rfl⟩)
set_option maxRecDepth 65536 in
set_option maxHeartbeats 4000000 in
theorem c_charAt (l : Launch) (Z : State) (a0 : Array Value) (hw : ∀ d ∈ tables_1, d.before a0 Z = true) (n0 : Nat) (h0 : Heap) (cc : Int32) (fv : Value) (ss : own_SS Z cc fv) (ol : Od Z n0 h0) (a b : Nat) (k : ClassId) (cs : List Nat) (S : St Z h0 a b k cs) (i c : Nat) (hc : cs[i]? = some c) (hb : c < 256) :
    Con l [] (⟨"java/lang/String", "charAt", "(I)C"⟩ : MethodName) jdk_42_method_56_code 2 (some .char) ({ frames := 3, cells := 0, slots := 0, locals := 40 } : Room) Z #[(.ref a), (.int (i32 i))] h0 n0 (fun v h => v = some (.int (i32 c)) ∧ h0 = h) := by
  refine enter (Ls := #[.val (.ref a), .val (.int (i32 i))]) pn57 (fun m => by first | (simp [entryFrame, mkF, argsToLocals, Value.category]; done) | rfl) ?_
  intro K C
  refine r_aloadN C (pc' := 1) d43_0 rfl rfl rfl ?_
  refine r_callV C (pc' := 4) (argsL := []) (c_isLatin1 l Z a0 hw n0 h0 cc fv ss ol a S.2.1) S.1 d43_1 rfl (w260 hw) (w261 hw) (nfSel (z := ({ cls := "java/lang/String", name := "isLatin1", desc := "()Z" } : Jvm.MethodName)) (w263 hw)) (w263 hw) (w262 hw) (w27 hw) (w264 hw) (by decide) pd14 (st := []) rfl rfl rfl (W := 0) (Nat.le_of_eq rfl) (by decide) (by decide) (by decide) (by decide) (cells' := 0) (slots' := 0) rfl rfl ?_
  rintro _ _ ⟨rfl, rfl⟩
  show Run _ _ _ _ _ _ _ _ 4 #[.val (.ref a), .val (.int (i32 i))] [.int (1 : Int32)]
  refine r_if_eq_f C (pc' := 7) d43_4 rfl (by decide) ?_
  refine r_aloadN C (pc' := 8) d43_7 rfl rfl rfl ?_
  refine r_getF C (pc' := 11) d43_8 rfl (w53 hw) Via.refl S.2.2.1 ?_
  refine r_iloadN C (pc' := 12) d43_11 rfl rfl ?_
  refine r_callS C (pc' := 15) (argsL := [.ref b, .int (i32 i)]) (c_l1charAt l Z a0 hw n0 _ cc fv ss ol b k cs S.2.2.2 i c hc hb) d43_12 rfl (w265 hw) (w266 hw) (w267 hw) (w268 hw) (by decide) pd40 (st := []) rfl rfl rfl (W := 0) (Nat.le_of_eq rfl) (by decide) (by decide) (by decide) (by decide) (cells' := 0) (slots' := 0) rfl rfl ?_
  rintro _ _ ⟨rfl, rfl⟩
  show Run _ _ _ _ _ _ _ _ 15 #[.val (.ref a), .val (.int (i32 i))] [.int (i32 c)]
  exact r_creturn C d43_15 (own_narF ⟨c, by omega⟩) (by decide) (by decide) (Nat.zero_le _) (fun _ _ => ⟨rfl, rfl⟩)
set_option maxRecDepth 65536 in
set_option maxHeartbeats 40000000 in
theorem rm0 (l : Launch) (Z : State) (a0 : Array Value) (hw : ∀ d ∈ tables_1, d.before a0 Z = true) (n0 : Nat) (h0 : Heap) (xx : Int64) (sel ch : Int32) (cc : Int32) (fv : Value) (ss : own_SS Z cc fv) (ol : Od Z n0 h0) (t1 t2 : Nat) (q1 q2 : ClassId) (dt : own_DT Z t1 t2 q1 q2) (em : Nat) (oe : own_OE Z em) (hn0 : n0 = h0.size) (held54 : Jvm.Lit.constHeld Z "com/example/wrange/wrange/LengthWrittenPinLaw" 54) (held28 : Jvm.Lit.constHeld Z "com/example/wrange/wrange/IntegrityCheck$Length" 28) (held51 : Jvm.Lit.constHeld Z "com/example/wrange/wrange/IntegrityCheck$Length" 51) (held33 : Jvm.Lit.constHeld Z "com/example/wrange/wrange/IntegrityCheck" 33) (held21 : Jvm.Lit.constHeld Z "com/example/wrange/wrange/IntegrityCheck" 21) (hcw : Jvm.Lit.compactW.before a0 Z = true) (hfit : Fit Z) :
    ConW l tables_1 x code maxLocals ret room_1 Z #[(.long xx), (.int sel), (.int ch)] h0 n0 (fun vm => IB Z vm []) (fun v _ _ => v = some (.int 1)) := by
  refine enterW (Ls := #[.val (.long xx), .second, .val (.int sel), .val (.int ch), .unset, .unset, .unset, .unset, .unset, .unset, .unset, .unset, .unset, .unset, .unset, .unset, .unset, .unset]) pn58 (fun m => by first | (simp [entryFrame, mkF, argsToLocals, Value.category, maxLocals]; done) | rfl) ?_
  intro K vm kz B D hkz hV
  replace B : Wb l room_1 Z "com/example/wrange/wrange/LengthWrittenPinLaw" "law" code 18 (some .boolean) n0 h0 K := B
  have C := B.ctx0 D
  have wS : ∀ a ∈ Bundle.stringAtoms, a.before a0 Z = true := (by intro a ha; simp only [Bundle.stringAtoms, List.mem_cons, List.not_mem_nil, or_false] at ha; rcases ha with rfl | rfl | rfl | rfl | rfl | rfl | rfl <;> first | exact (w27 hw) | exact (w26 hw) | exact (w44 hw) | exact (w54 hw) | exact (w52 hw) | exact (w73 hw) | exact (w74 hw))
  subst hn0
  obtain ⟨N, hN, eN⟩ := i64_and xx
  obtain ⟨m0, hm0, em0⟩ := i32_andm sel 3 (by decide)
  obtain ⟨m1, hm1, em1⟩ := i32_andm (XT.ushr sel 2) 1 (by decide)
  obtain ⟨m2, hm2, em2⟩ := i32_and (XT.ushr sel 3)
  obtain ⟨c0, hc0, ec0⟩ := i32_and255 ch
  obtain ⟨c1, hc1, ec1⟩ := i32_and255 (XT.ushr ch 8)
  refine Run.touch ?_
  replace C := B.ctx D
  refine r_lloadN C (pc' := 1) at_0 rfl rfl ?_
  refine r_ldc2J C (pc' := 4) at_1 rfl (w0 hw) ?_
  refine r_land C (pc' := 5) at_4 rfl ?_
  rw [show xx &&& (9223372036854775807 : Int64) = i64 N from eN]
  refine r_lstore C (pc' := 7) (Ls' := #[.val (.long xx), .second, .val (.int sel), .val (.int ch), .val (.long (i64 N)), .second, .unset, .unset, .unset, .unset, .unset, .unset, .unset, .unset, .unset, .unset, .unset, .unset]) at_5 rfl rfl ?_
  refine r_bipush C (pc' := 9) (v := (19)) at_7 rfl rfl ?_
  refine r_newarrayV C (pc' := 11) (ty := .long) (m := 19) (cap := 19) at_9 rfl rfl (w1 hw) rfl (by decide) (by decide) (by decide) (by decide) ?_
  intro g0 p pk gp E1 A0
  have z0 := E1.1
  have Kp := (Keep.refl h0 []).ext E1
  have lp := A0.lt
  refine r_dup C (pc' := 12) at_11 rfl rfl ?_
  refine r_iconst C (pc' := 13) (v := 0) at_12 rfl rfl ?_
  refine r_lconst C (pc' := 14) (v := 1) at_13 rfl rfl ?_
  refine r_lastoreV C (pc' := 15) (i := 0) at_14 rfl A0 rfl (by simp only [List.length_set, List.length_replicate]; decide) (by omega) ?_
  intro g1 W0 A1
  have y0 := W0.size
  replace Kp := Kp.wr W0 (Or.inr (by omega))
  clear A0
  refine r_dup C (pc' := 16) at_15 rfl rfl ?_
  refine r_iconst C (pc' := 17) (v := 1) at_16 rfl rfl ?_
  refine r_ldc2J C (pc' := 20) at_17 rfl (w2 hw) ?_
  refine r_lastoreV C (pc' := 21) (i := 1) at_20 rfl A1 rfl (by simp only [List.length_set, List.length_replicate]; decide) (by omega) ?_
  intro g2 W1 A2
  have y1 := W1.size
  replace Kp := Kp.wr W1 (Or.inr (by omega))
  clear A1
  refine r_dup C (pc' := 22) at_21 rfl rfl ?_
  refine r_iconst C (pc' := 23) (v := 2) at_22 rfl rfl ?_
  refine r_ldc2J C (pc' := 26) at_23 rfl (w3 hw) ?_
  refine r_lastoreV C (pc' := 27) (i := 2) at_26 rfl A2 rfl (by simp only [List.length_set, List.length_replicate]; decide) (by omega) ?_
  intro g3 W2 A3
  have y2 := W2.size
  replace Kp := Kp.wr W2 (Or.inr (by omega))
  clear A2
  refine r_dup C (pc' := 28) at_27 rfl rfl ?_
  refine r_iconst C (pc' := 29) (v := 3) at_28 rfl rfl ?_
  refine r_ldc2J C (pc' := 32) at_29 rfl (w4 hw) ?_
  refine r_lastoreV C (pc' := 33) (i := 3) at_32 rfl A3 rfl (by simp only [List.length_set, List.length_replicate]; decide) (by omega) ?_
  intro g4 W3 A4
  have y3 := W3.size
  replace Kp := Kp.wr W3 (Or.inr (by omega))
  clear A3
  refine r_dup C (pc' := 34) at_33 rfl rfl ?_
  refine r_iconst C (pc' := 35) (v := 4) at_34 rfl rfl ?_
  refine r_ldc2J C (pc' := 38) at_35 rfl (w5 hw) ?_
  refine r_lastoreV C (pc' := 39) (i := 4) at_38 rfl A4 rfl (by simp only [List.length_set, List.length_replicate]; decide) (by omega) ?_
  intro g5 W4 A5
  have y4 := W4.size
  replace Kp := Kp.wr W4 (Or.inr (by omega))
  clear A4
  refine r_dup C (pc' := 40) at_39 rfl rfl ?_
  refine r_iconst C (pc' := 41) (v := 5) at_40 rfl rfl ?_
  refine r_ldc2J C (pc' := 44) at_41 rfl (w6 hw) ?_
  refine r_lastoreV C (pc' := 45) (i := 5) at_44 rfl A5 rfl (by simp only [List.length_set, List.length_replicate]; decide) (by omega) ?_
  intro g6 W5 A6
  have y5 := W5.size
  replace Kp := Kp.wr W5 (Or.inr (by omega))
  clear A5
  refine r_dup C (pc' := 46) at_45 rfl rfl ?_
  refine r_bipush C (pc' := 48) (v := (6)) at_46 rfl rfl ?_
  refine r_ldc2J C (pc' := 51) at_48 rfl (w7 hw) ?_
  refine r_lastoreV C (pc' := 52) (i := 6) at_51 rfl A6 rfl (by simp only [List.length_set, List.length_replicate]; decide) (by omega) ?_
  intro g7 W6 A7
  have y6 := W6.size
  replace Kp := Kp.wr W6 (Or.inr (by omega))
  clear A6
  refine r_dup C (pc' := 53) at_52 rfl rfl ?_
  refine r_bipush C (pc' := 55) (v := (7)) at_53 rfl rfl ?_
  refine r_ldc2J C (pc' := 58) at_55 rfl (w8 hw) ?_
  refine r_lastoreV C (pc' := 59) (i := 7) at_58 rfl A7 rfl (by simp only [List.length_set, List.length_replicate]; decide) (by omega) ?_
  intro g8 W7 A8
  have y7 := W7.size
  replace Kp := Kp.wr W7 (Or.inr (by omega))
  clear A7
  refine r_dup C (pc' := 60) at_59 rfl rfl ?_
  refine r_bipush C (pc' := 62) (v := (8)) at_60 rfl rfl ?_
  refine r_ldc2J C (pc' := 65) at_62 rfl (w9 hw) ?_
  refine r_lastoreV C (pc' := 66) (i := 8) at_65 rfl A8 rfl (by simp only [List.length_set, List.length_replicate]; decide) (by omega) ?_
  intro g9 W8 A9
  have y8 := W8.size
  replace Kp := Kp.wr W8 (Or.inr (by omega))
  clear A8
  refine r_dup C (pc' := 67) at_66 rfl rfl ?_
  refine r_bipush C (pc' := 69) (v := (9)) at_67 rfl rfl ?_
  refine r_ldc2J C (pc' := 72) at_69 rfl (w10 hw) ?_
  refine r_lastoreV C (pc' := 73) (i := 9) at_72 rfl A9 rfl (by simp only [List.length_set, List.length_replicate]; decide) (by omega) ?_
  intro g10 W9 A10
  have y9 := W9.size
  replace Kp := Kp.wr W9 (Or.inr (by omega))
  clear A9
  refine r_dup C (pc' := 74) at_73 rfl rfl ?_
  refine r_bipush C (pc' := 76) (v := (10)) at_74 rfl rfl ?_
  refine r_ldc2J C (pc' := 79) at_76 rfl (w11 hw) ?_
  refine r_lastoreV C (pc' := 80) (i := 10) at_79 rfl A10 rfl (by simp only [List.length_set, List.length_replicate]; decide) (by omega) ?_
  intro g11 W10 A11
  have y10 := W10.size
  replace Kp := Kp.wr W10 (Or.inr (by omega))
  clear A10
  refine r_dup C (pc' := 81) at_80 rfl rfl ?_
  refine r_bipush C (pc' := 83) (v := (11)) at_81 rfl rfl ?_
  refine r_ldc2J C (pc' := 86) at_83 rfl (w12 hw) ?_
  refine r_lastoreV C (pc' := 87) (i := 11) at_86 rfl A11 rfl (by simp only [List.length_set, List.length_replicate]; decide) (by omega) ?_
  intro g12 W11 A12
  have y11 := W11.size
  replace Kp := Kp.wr W11 (Or.inr (by omega))
  clear A11
  refine r_dup C (pc' := 88) at_87 rfl rfl ?_
  refine r_bipush C (pc' := 90) (v := (12)) at_88 rfl rfl ?_
  refine r_ldc2J C (pc' := 93) at_90 rfl (w13 hw) ?_
  refine r_lastoreV C (pc' := 94) (i := 12) at_93 rfl A12 rfl (by simp only [List.length_set, List.length_replicate]; decide) (by omega) ?_
  intro g13 W12 A13
  have y12 := W12.size
  replace Kp := Kp.wr W12 (Or.inr (by omega))
  clear A12
  refine r_dup C (pc' := 95) at_94 rfl rfl ?_
  refine r_bipush C (pc' := 97) (v := (13)) at_95 rfl rfl ?_
  refine r_ldc2J C (pc' := 100) at_97 rfl (w14 hw) ?_
  refine r_lastoreV C (pc' := 101) (i := 13) at_100 rfl A13 rfl (by simp only [List.length_set, List.length_replicate]; decide) (by omega) ?_
  intro g14 W13 A14
  have y13 := W13.size
  replace Kp := Kp.wr W13 (Or.inr (by omega))
  clear A13
  refine r_dup C (pc' := 102) at_101 rfl rfl ?_
  refine r_bipush C (pc' := 104) (v := (14)) at_102 rfl rfl ?_
  refine r_ldc2J C (pc' := 107) at_104 rfl (w15 hw) ?_
  refine r_lastoreV C (pc' := 108) (i := 14) at_107 rfl A14 rfl (by simp only [List.length_set, List.length_replicate]; decide) (by omega) ?_
  intro g15 W14 A15
  have y14 := W14.size
  replace Kp := Kp.wr W14 (Or.inr (by omega))
  clear A14
  refine r_dup C (pc' := 109) at_108 rfl rfl ?_
  refine r_bipush C (pc' := 111) (v := (15)) at_109 rfl rfl ?_
  refine r_ldc2J C (pc' := 114) at_111 rfl (w16 hw) ?_
  refine r_lastoreV C (pc' := 115) (i := 15) at_114 rfl A15 rfl (by simp only [List.length_set, List.length_replicate]; decide) (by omega) ?_
  intro g16 W15 A16
  have y15 := W15.size
  replace Kp := Kp.wr W15 (Or.inr (by omega))
  clear A15
  refine r_dup C (pc' := 116) at_115 rfl rfl ?_
  refine r_bipush C (pc' := 118) (v := (16)) at_116 rfl rfl ?_
  refine r_ldc2J C (pc' := 121) at_118 rfl (w17 hw) ?_
  refine r_lastoreV C (pc' := 122) (i := 16) at_121 rfl A16 rfl (by simp only [List.length_set, List.length_replicate]; decide) (by omega) ?_
  intro g17 W16 A17
  have y16 := W16.size
  replace Kp := Kp.wr W16 (Or.inr (by omega))
  clear A16
  refine r_dup C (pc' := 123) at_122 rfl rfl ?_
  refine r_bipush C (pc' := 125) (v := (17)) at_123 rfl rfl ?_
  refine r_ldc2J C (pc' := 128) at_125 rfl (w18 hw) ?_
  refine r_lastoreV C (pc' := 129) (i := 17) at_128 rfl A17 rfl (by simp only [List.length_set, List.length_replicate]; decide) (by omega) ?_
  intro g18 W17 A18
  have y17 := W17.size
  replace Kp := Kp.wr W17 (Or.inr (by omega))
  clear A17
  refine r_dup C (pc' := 130) at_129 rfl rfl ?_
  refine r_bipush C (pc' := 132) (v := (18)) at_130 rfl rfl ?_
  refine r_ldc2J C (pc' := 135) at_132 rfl (w19 hw) ?_
  refine r_lastoreV C (pc' := 136) (i := 18) at_135 rfl A18 rfl (by simp only [List.length_set, List.length_replicate]; decide) (by omega) ?_
  intro g19 W18 A19
  have y18 := W18.size
  replace Kp := Kp.wr W18 (Or.inr (by omega))
  clear A18
  have AP : AV Z g19 p pk .long own_pows (.long 0) := A19.cast own_powSet
  clear A19
  refine r_astore C (pc' := 138) (Ls' := #[.val (.long xx), .second, .val (.int sel), .val (.int ch), .val (.long (i64 N)), .second, .val (.ref p), .unset, .unset, .unset, .unset, .unset, .unset, .unset, .unset, .unset, .unset, .unset]) at_136 rfl rfl rfl ?_
  refine r_lload C (pc' := 140) at_138 rfl rfl ?_
  refine r_aload C (pc' := 142) at_140 rfl rfl rfl ?_
  refine r_callS C (pc' := 145) (argsL := [.long (i64 N), .ref p]) (c_digits l Z a0 hw _ g19 p pk AP N hN) at_142 rfl (w20 hw) (w21 hw) (w22 hw) (w23 hw) (by decide) pd41 (st := []) rfl rfl rfl (W := 0) (Nat.le_of_eq rfl) (by decide) (by decide) (by decide) (by decide) (cells' := 1) (slots' := 19) rfl rfl ?_
  rintro _ _ ⟨rfl, rfl⟩
  show Run _ _ _ _ _ g19 _ _ 145 #[.val (.long xx), .second, .val (.int sel), .val (.int ch), .val (.long (i64 N)), .second, .val (.ref p), .unset, .unset, .unset, .unset, .unset, .unset, .unset, .unset, .unset, .unset, .unset] [.int (i32 (own_dig N).length)]
  obtain ⟨d, ed⟩ : ∃ d, d = (own_dig N).length := ⟨_, rfl⟩
  have hd1 : 1 ≤ d := by rw [ed]; exact own_digpos N
  have hd19 : d ≤ 19 := by rw [ed]; exact own_dlen19 hN
  rw [← ed]
  refine r_istore C (pc' := 147) (Ls' := #[.val (.long xx), .second, .val (.int sel), .val (.int ch), .val (.long (i64 N)), .second, .val (.ref p), .val (.int (i32 d)), .unset, .unset, .unset, .unset, .unset, .unset, .unset, .unset, .unset, .unset]) at_145 rfl rfl ?_
  refine r_iloadN C (pc' := 148) at_147 rfl rfl ?_
  refine r_iconst C (pc' := 149) (v := 3) at_148 rfl rfl ?_
  refine r_iand C (pc' := 150) at_149 rfl ?_
  rw [show sel &&& (3 : Int32) = i32 m0 from em0]
  refine r_iconst C (pc' := 151) (v := 3) at_150 rfl rfl ?_
  refine r_irem C (pc' := 152) at_151 rfl (by decide) ?_
  rw [show i32 m0 % (3 : Int32) = i32 (m0 % 3) from i32_rem (b := 3) (by omega) (by decide)]
  obtain ⟨ln, eln⟩ : ∃ ln, ln = m0 % 3 := ⟨_, rfl⟩
  have hln : ln ≤ 2 := by omega
  rw [← eln]
  refine r_istore C (pc' := 154) (Ls' := #[.val (.long xx), .second, .val (.int sel), .val (.int ch), .val (.long (i64 N)), .second, .val (.ref p), .val (.int (i32 d)), .val (.int (i32 ln)), .unset, .unset, .unset, .unset, .unset, .unset, .unset, .unset, .unset]) at_152 rfl rfl ?_
  refine r_iloadN C (pc' := 155) at_154 rfl rfl ?_
  refine r_iconst C (pc' := 156) (v := 2) at_155 rfl rfl ?_
  refine r_iushr C (pc' := 157) at_156 rfl ?_
  refine r_iconst C (pc' := 158) (v := 1) at_157 rfl rfl ?_
  refine r_iand C (pc' := 159) at_158 rfl ?_
  rw [show XT.ushr sel (2 : Int32) &&& (1 : Int32) = i32 m1 from em1]
  refine Run.join (h2 := g19) (cells2 := 1) (slots2 := 19) (pc2 := 167) (Ls2 := #[.val (.long xx), .second, .val (.int sel), .val (.int ch), .val (.long (i64 N)), .second, .val (.ref p), .val (.int (i32 d)), .val (.int (i32 ln)), .unset, .unset, .unset, .unset, .unset, .unset, .unset, .unset, .unset]) (st2 := [.int (i32 m1)]) (fun J => ?_) ?_
  ·
    refine r_if_eq C (pt := 166) (pc' := 162) at_159 (by decide) (by decide) rfl ?_ ?_
    · intro q
      have q' : m1 = 0 := (i32_eq (b := 0) (by omega) (by decide)).mp q
      rw [q'] at J
      refine r_iconst C (pc' := 167) (v := 0) at_166 rfl rfl ?_
      exact J
    · intro q
      have q' : m1 = 1 := by
        rcases Nat.lt_or_ge 0 m1 with z | z
        · omega
        · exact absurd (show i32 m1 = (0 : Int32) by rw [show m1 = 0 by omega]; rfl) q
      rw [q'] at J
      refine r_iconst C (pc' := 163) (v := 1) at_162 rfl rfl ?_
      refine r_goto C (pc' := 167) at_163 (by decide) (by decide) ?_
      exact J
  refine r_istore C (pc' := 169) (Ls' := #[.val (.long xx), .second, .val (.int sel), .val (.int ch), .val (.long (i64 N)), .second, .val (.ref p), .val (.int (i32 d)), .val (.int (i32 ln)), .val (.int (i32 m1)), .unset, .unset, .unset, .unset, .unset, .unset, .unset, .unset]) at_167 rfl rfl ?_
  refine r_iloadN C (pc' := 170) at_169 rfl rfl ?_
  refine r_iconst C (pc' := 171) (v := 3) at_170 rfl rfl ?_
  refine r_iushr C (pc' := 172) at_171 rfl ?_
  refine r_ldcI C (pc' := 174) at_172 rfl (w24 hw) ?_
  refine r_iand C (pc' := 175) at_174 rfl ?_
  rw [show XT.ushr sel (3 : Int32) &&& (2147483647 : Int32) = i32 m2 from em2]
  refine r_bipush C (pc' := 177) (v := (19)) at_175 rfl rfl ?_
  refine r_irem C (pc' := 178) at_177 rfl (by decide) ?_
  rw [show i32 m2 % (19 : Int32) = i32 (m2 % 19) from i32_rem (b := 19) (by omega) (by decide)]
  obtain ⟨kk, ekk⟩ : ∃ kk, kk = m2 % 19 := ⟨_, rfl⟩
  have hkk : kk < 19 := by omega
  rw [← ekk]
  refine r_istore C (pc' := 180) (Ls' := #[.val (.long xx), .second, .val (.int sel), .val (.int ch), .val (.long (i64 N)), .second, .val (.ref p), .val (.int (i32 d)), .val (.int (i32 ln)), .val (.int (i32 m1)), .val (.int (i32 kk)), .unset, .unset, .unset, .unset, .unset, .unset, .unset]) at_178 rfl rfl ?_
  refine r_iloadN C (pc' := 181) at_180 rfl rfl ?_
  refine r_sipush C (pc' := 184) (v := (255)) at_181 rfl rfl ?_
  refine r_iand C (pc' := 185) at_184 rfl ?_
  refine r_i2c C (pc' := 186) at_185 rfl ?_
  rw [show ch &&& (255 : Int32) = i32 c0 from ec0, own_ch (by omega)]
  refine r_istore C (pc' := 188) (Ls' := #[.val (.long xx), .second, .val (.int sel), .val (.int ch), .val (.long (i64 N)), .second, .val (.ref p), .val (.int (i32 d)), .val (.int (i32 ln)), .val (.int (i32 m1)), .val (.int (i32 kk)), .val (.int (i32 c0)), .unset, .unset, .unset, .unset, .unset, .unset]) at_186 rfl rfl ?_
  refine r_iloadN C (pc' := 189) at_188 rfl rfl ?_
  refine r_bipush C (pc' := 191) (v := (8)) at_189 rfl rfl ?_
  refine r_iushr C (pc' := 192) at_191 rfl ?_
  refine r_sipush C (pc' := 195) (v := (255)) at_192 rfl rfl ?_
  refine r_iand C (pc' := 196) at_195 rfl ?_
  refine r_i2c C (pc' := 197) at_196 rfl ?_
  rw [show XT.ushr ch (8 : Int32) &&& (255 : Int32) = i32 c1 from ec1, own_ch (by omega)]
  refine r_istore C (pc' := 199) (Ls' := #[.val (.long xx), .second, .val (.int sel), .val (.int ch), .val (.long (i64 N)), .second, .val (.ref p), .val (.int (i32 d)), .val (.int (i32 ln)), .val (.int (i32 m1)), .val (.int (i32 kk)), .val (.int (i32 c0)), .val (.int (i32 c1)), .unset, .unset, .unset, .unset, .unset]) at_197 rfl rfl ?_
  have tail : ∀ (h : Heap) (vm : Vm) (k' : Nat) (ds : List Nat) (x sb : Nat) (sk : ClassId), Sn K vm k' → k' ≤ h.size → Keep h0 h [] → AV Z h p pk .long own_pows (.long 0) → EMP Z h vm [] → St Z h x sb sk ds → ds = [c0, c1].take ln → Run l room_1 h0.size (fun v _ _ => v = some (.int 1)) (Kw K (Fr h0.size) vm) h 5 35 249 #[.val (.long xx), .second, .val (.int sel), .val (.int ch), .val (.long (i64 N)), .second, .val (.ref p), .val (.int (i32 d)), .val (.int (i32 ln)), .val (.int (i32 m1)), .val (.int (i32 kk)), .val (.int (i32 c0)), .val (.int (i32 c1)), .val (.ref x), .unset, .unset, .unset, .unset] [] := by
    intro h vm k' ds x sb sk D hk' Kp AP I S eds
    have C := B.ctx D
    have zh := Kp.1
    have hds : ds.length = ln := by rw [eds]; simp only [List.length_take, List.length_cons, List.length_nil]; omega
    have tail2 : ∀ (g : Heap) (o : Nat) (nm : Option (List Nat)), Keep h g [] → own_OO Z g o nm → ((nm = none ∧ m1 = 0) ∨ (nm = some ds ∧ m1 = 1)) → Run l room_1 h0.size (fun v _ _ => v = some (.int 1)) (Kw K (Fr h0.size) vm) g 6 36 265 #[.val (.long xx), .second, .val (.int sel), .val (.int ch), .val (.long (i64 N)), .second, .val (.ref p), .val (.int (i32 d)), .val (.int (i32 ln)), .val (.int (i32 m1)), .val (.int (i32 kk)), .val (.int (i32 c0)), .val (.int (i32 c1)), .val (.ref x), .unset, .unset, .unset, .unset] [.ref o] := by
      intro g o nm Kg OO hnm
      have zg := Kg.1
      have OOg := OO
      have hdl : ∀ es, nm = some es → es.length ≤ 2 := fun es q => by
        rcases hnm with ⟨z1, _⟩ | ⟨z1, _⟩
        · rw [z1] at q; cases q
        · rw [z1] at q; cases q; omega
      have htl : (own_tx nm).length = if m1 = 0 then 0 else 1 + ln := by
        rcases hnm with ⟨rfl, z1⟩ | ⟨rfl, z1⟩
        · rw [if_pos z1]; rfl
        · rw [if_neg (by omega)]; show (44 :: ds).length = _; rw [List.length_cons, hds, Nat.add_comm]
      replace Kp := Kp.trans Kg all0
      replace AP := AP.keep Kg nin0
      replace I := EMP.keep I Kg
      have lpg := AP.lt
      refine r_astore C (pc' := 267) (Ls' := #[.val (.long xx), .second, .val (.int sel), .val (.int ch), .val (.long (i64 N)), .second, .val (.ref p), .val (.int (i32 d)), .val (.int (i32 ln)), .val (.int (i32 m1)), .val (.int (i32 kk)), .val (.int (i32 c0)), .val (.int (i32 c1)), .val (.ref x), .val (.ref o), .unset, .unset, .unset]) at_265 rfl rfl rfl ?_
      refine r_new C (pc' := 270) at_267 rfl (w60 hw) (w61 hw) (w62 hw) (by decide) (by decide) ?_
      intro h2 e ge E2 Ee D2
      have F1 : Fld Z h2 e "com/example/wrange/wrange/IntegrityCheck$Length" "characters" "J" (.long 0) := D2 (Or.inr (w80 hw)) (ty := .long) (by decide)
      have F2 : Fld Z h2 e "com/example/wrange/wrange/IntegrityCheck$Length" "charset" "Ljava/util/Optional;" (.null) := D2 (Or.inr (w82 hw)) (ty := (.object "java/util/Optional")) (by decide)
      have z2 := E2.1
      replace Kp := Kp.ext E2
      replace AP := AP.ext E2
      replace OO := OO.ext E2
      refine r_dup C (pc' := 271) at_270 rfl rfl ?_
      refine r_lload C (pc' := 273) at_271 rfl rfl ?_
      refine r_aload C (pc' := 275) at_273 rfl rfl rfl ?_
      refine r_callIW (rt := none) (pc' := 278) (argsL := [.long (i64 N), .ref o]) B D (by omega) (c_li l Z a0 hw _ h2 (ol.keep Kp all0) g (by omega) e o N hN (by omega) Ee _ _ F1 F2 held28 hcw) (fun vm' hW => EMP.warm I hW) at_275 rfl (w63 hw) (w64 hw) (w62 hw) (w65 hw) rfl (by decide) pd42 (st := [.ref e]) rfl rfl rfl (W := 1) (Nat.le_of_eq rfl) (by decide) (by decide) (by decide) (by decide) (cells' := 9) (slots' := 70) rfl rfl ?_
      rintro _ h3 vm3 ⟨rfl, K3, Ee', F1', F2', I3⟩ x3 D3
      replace D := D3
      replace C := B.ctx D
      show Run _ _ _ _ _ h3 _ _ 278 #[.val (.long xx), .second, .val (.int sel), .val (.int ch), .val (.long (i64 N)), .second, .val (.ref p), .val (.int (i32 d)), .val (.int (i32 ln)), .val (.int (i32 m1)), .val (.int (i32 kk)), .val (.int (i32 c0)), .val (.int (i32 c1)), .val (.ref x), .val (.ref o), .unset, .unset, .unset] [.ref e]
      have K3' : Keep g h3 [] := ((Keep.refl g []).ext E2).trans K3 (allS (Or.inr (by omega)) all0)
      replace Kp := Kp.trans K3 (allS (Or.inr (by omega)) all0)
      have np : p ≠ e := by omega
      replace AP := AP.keep K3 (ninS np nin0)
      have OO3 : own_OO Z h3 o nm := OOg.keep K3'
      replace I3 := EMP.keep I3 K3'
      refine r_callVW (pc' := 281) (argsL := []) B D (by omega) ((c_wr l Z a0 hw h3.size h3 cc fv ss ((ol.keep Kp all0).up (by omega)) em oe t1 t2 q1 q2 dt rfl e N hN F1' o F2' nm OO3 hdl held51 held33 held21 hcw hfit).down (by omega)) Ee' (fun vm' hW => EMP.warm I3 hW) at_278 rfl (w83 hw) (w84 hw) (nfSel (z := ({ cls := "com/example/wrange/wrange/IntegrityCheck$Length", name := "written", desc := "()Ljava/lang/String;" } : Jvm.MethodName)) (w86 hw)) (w86 hw) (w85 hw) (w62 hw) (w87 hw) (by decide) pd24 (st := []) rfl rfl rfl (W := 0) (Nat.le_of_eq rfl) (by decide) (by decide) (by decide) (by decide) (cells' := 34) (slots' := 493) rfl rfl ?_
      rintro _ h4 vm4 ⟨r, rb, rk, rfl, K4, SR⟩ x4 D4
      replace D := D4
      replace C := B.ctx D
      show Run _ _ _ _ _ h4 _ _ 281 #[.val (.long xx), .second, .val (.int sel), .val (.int ch), .val (.long (i64 N)), .second, .val (.ref p), .val (.int (i32 d)), .val (.int (i32 ln)), .val (.int (i32 m1)), .val (.int (i32 kk)), .val (.int (i32 c0)), .val (.int (i32 c1)), .val (.ref x), .val (.ref o), .unset, .unset, .unset] [.ref r]
      replace Kp := Kp.trans K4 all0
      replace AP := AP.keep K4 nin0
      have ol4 := ol.keep Kp all0
      refine r_astore C (pc' := 283) (Ls' := #[.val (.long xx), .second, .val (.int sel), .val (.int ch), .val (.long (i64 N)), .second, .val (.ref p), .val (.int (i32 d)), .val (.int (i32 ln)), .val (.int (i32 m1)), .val (.int (i32 kk)), .val (.int (i32 c0)), .val (.int (i32 c1)), .val (.ref x), .val (.ref o), .val (.ref r), .unset, .unset]) at_281 rfl rfl rfl ?_
      refine r_bipush C (pc' := 285) (v := (7)) at_283 rfl rfl ?_
      refine r_iload C (pc' := 287) at_285 rfl rfl ?_
      refine r_iadd C (pc' := 288) at_287 rfl ?_
      rw [show (7 : Int32) + i32 d = i32 (7 + d) from i32_add 7 d]
      refine r_iload C (pc' := 290) at_288 rfl rfl ?_
      obtain ⟨tl, etl⟩ : ∃ tl, tl = (own_tx nm).length := ⟨_, rfl⟩
      rw [← etl] at htl
      refine Run.join (h2 := h4) (cells2 := 34) (slots2 := 493) (pc2 := 301) (Ls2 := #[.val (.long xx), .second, .val (.int sel), .val (.int ch), .val (.long (i64 N)), .second, .val (.ref p), .val (.int (i32 d)), .val (.int (i32 ln)), .val (.int (i32 m1)), .val (.int (i32 kk)), .val (.int (i32 c0)), .val (.int (i32 c1)), .val (.ref x), .val (.ref o), .val (.ref r), .unset, .unset]) (st2 := [.int (i32 tl), .int (i32 (7 + d))]) (fun J => ?_) ?_
      ·
        refine r_if_eq C (pt := 300) (pc' := 293) at_290 (by decide) (by decide) rfl ?_ ?_
        · intro q
          have q' : m1 = 0 := (i32_eq (b := 0) (by omega) (by decide)).mp q
          rw [if_pos q'] at htl
          rw [htl] at J
          refine r_iconst C (pc' := 301) (v := 0) at_300 rfl rfl ?_
          exact J
        · intro q
          have q' : m1 ≠ 0 := fun z => q (by rw [z]; rfl)
          rw [if_neg q'] at htl
          refine r_iconst C (pc' := 294) (v := 1) at_293 rfl rfl ?_
          refine r_iload C (pc' := 296) at_294 rfl rfl ?_
          refine r_iadd C (pc' := 297) at_296 rfl ?_
          rw [show (1 : Int32) + i32 ln = i32 tl by rw [htl]; exact i32_add 1 ln]
          refine r_goto C (pc' := 301) at_297 (by decide) (by decide) ?_
          exact J
      refine r_iadd C (pc' := 302) at_301 rfl ?_
      rw [i32_add]
      refine r_istore C (pc' := 304) (Ls' := #[.val (.long xx), .second, .val (.int sel), .val (.int ch), .val (.long (i64 N)), .second, .val (.ref p), .val (.int (i32 d)), .val (.int (i32 ln)), .val (.int (i32 m1)), .val (.int (i32 kk)), .val (.int (i32 c0)), .val (.int (i32 c1)), .val (.ref x), .val (.ref o), .val (.ref r), .val (.int (i32 (7 + d + tl))), .unset]) at_302 rfl rfl ?_
      refine r_aload C (pc' := 306) at_304 rfl rfl rfl ?_
      have ll := own_wLen N nm
      rw [← ed, ← etl] at ll
      refine r_callV C (pc' := 309) (argsL := []) (c_length l Z a0 hw _ h4 cc fv ss ol4 r rb rk _ SR) SR.1 at_306 rfl (w254 hw) (w118 hw) (nfSel (z := ({ cls := "java/lang/String", name := "length", desc := "()I" } : Jvm.MethodName)) (w120 hw)) (w120 hw) (w119 hw) (w27 hw) (w121 hw) (by decide) pd8 (st := []) rfl rfl rfl (W := 0) (Nat.le_of_eq rfl) (by decide) (by decide) (by decide) (by decide) (cells' := 34) (slots' := 493) rfl rfl ?_
      rintro _ _ ⟨rfl, rfl⟩
      show Run _ _ _ _ _ h4 _ _ 309 #[.val (.long xx), .second, .val (.int sel), .val (.int ch), .val (.long (i64 N)), .second, .val (.ref p), .val (.int (i32 d)), .val (.int (i32 ln)), .val (.int (i32 m1)), .val (.int (i32 kk)), .val (.int (i32 c0)), .val (.int (i32 c1)), .val (.ref x), .val (.ref o), .val (.ref r), .val (.int (i32 (7 + d + tl))), .unset] [.int (i32 (own_w N nm).length)]
      rw [ll]
      refine r_iload C (pc' := 311) at_309 rfl rfl ?_
      refine r_icmp_eq_t C (pc' := 316) at_311 (by decide) (by decide) rfl ?_
      refine r_aload C (pc' := 318) at_316 rfl rfl rfl ?_
      refine r_iconst C (pc' := 319) (v := 0) at_318 rfl rfl ?_
      refine r_callV C (pc' := 322) (argsL := [.int (0 : Int32)]) (c_charAt l Z a0 hw _ h4 cc fv ss ol4 r rb rk _ SR (0) (108) (own_w0 rfl) (by decide)) SR.1 at_319 rfl (w255 hw) (w256 hw) (nfSel (z := ({ cls := "java/lang/String", name := "charAt", desc := "(I)C" } : Jvm.MethodName)) (w258 hw)) (w258 hw) (w257 hw) (w27 hw) (w259 hw) (by decide) pd43 (st := []) rfl rfl rfl (W := 0) (Nat.le_of_eq rfl) (by decide) (by decide) (by decide) (by decide) (cells' := 34) (slots' := 493) rfl rfl ?_
      rintro _ _ ⟨rfl, rfl⟩
      show Run _ _ _ _ _ h4 _ _ 322 #[.val (.long xx), .second, .val (.int sel), .val (.int ch), .val (.long (i64 N)), .second, .val (.ref p), .val (.int (i32 d)), .val (.int (i32 ln)), .val (.int (i32 m1)), .val (.int (i32 kk)), .val (.int (i32 c0)), .val (.int (i32 c1)), .val (.ref x), .val (.ref o), .val (.ref r), .val (.int (i32 (7 + d + tl))), .unset] [.int (i32 (108))]
      show Run _ _ _ _ _ h4 _ _ 322 #[.val (.long xx), .second, .val (.int sel), .val (.int ch), .val (.long (i64 N)), .second, .val (.ref p), .val (.int (i32 d)), .val (.int (i32 ln)), .val (.int (i32 m1)), .val (.int (i32 kk)), .val (.int (i32 c0)), .val (.int (i32 c1)), .val (.ref x), .val (.ref o), .val (.ref r), .val (.int (i32 (7 + d + tl))), .unset] [.int (108 : Int32)]
      refine r_bipush C (pc' := 324) (v := (108)) at_322 rfl rfl ?_
      refine r_icmp_ne_f C (pc' := 327) at_324 rfl (by decide) ?_
      refine r_aload C (pc' := 329) at_327 rfl rfl rfl ?_
      refine r_iconst C (pc' := 330) (v := 1) at_329 rfl rfl ?_
      refine r_callV C (pc' := 333) (argsL := [.int (1 : Int32)]) (c_charAt l Z a0 hw _ h4 cc fv ss ol4 r rb rk _ SR (1) (101) (own_w0 rfl) (by decide)) SR.1 at_330 rfl (w255 hw) (w256 hw) (nfSel (z := ({ cls := "java/lang/String", name := "charAt", desc := "(I)C" } : Jvm.MethodName)) (w258 hw)) (w258 hw) (w257 hw) (w27 hw) (w259 hw) (by decide) pd43 (st := []) rfl rfl rfl (W := 0) (Nat.le_of_eq rfl) (by decide) (by decide) (by decide) (by decide) (cells' := 34) (slots' := 493) rfl rfl ?_
      rintro _ _ ⟨rfl, rfl⟩
      show Run _ _ _ _ _ h4 _ _ 333 #[.val (.long xx), .second, .val (.int sel), .val (.int ch), .val (.long (i64 N)), .second, .val (.ref p), .val (.int (i32 d)), .val (.int (i32 ln)), .val (.int (i32 m1)), .val (.int (i32 kk)), .val (.int (i32 c0)), .val (.int (i32 c1)), .val (.ref x), .val (.ref o), .val (.ref r), .val (.int (i32 (7 + d + tl))), .unset] [.int (i32 (101))]
      show Run _ _ _ _ _ h4 _ _ 333 #[.val (.long xx), .second, .val (.int sel), .val (.int ch), .val (.long (i64 N)), .second, .val (.ref p), .val (.int (i32 d)), .val (.int (i32 ln)), .val (.int (i32 m1)), .val (.int (i32 kk)), .val (.int (i32 c0)), .val (.int (i32 c1)), .val (.ref x), .val (.ref o), .val (.ref r), .val (.int (i32 (7 + d + tl))), .unset] [.int (101 : Int32)]
      refine r_bipush C (pc' := 335) (v := (101)) at_333 rfl rfl ?_
      refine r_icmp_ne_f C (pc' := 338) at_335 rfl (by decide) ?_
      refine r_aload C (pc' := 340) at_338 rfl rfl rfl ?_
      refine r_iconst C (pc' := 341) (v := 2) at_340 rfl rfl ?_
      refine r_callV C (pc' := 344) (argsL := [.int (2 : Int32)]) (c_charAt l Z a0 hw _ h4 cc fv ss ol4 r rb rk _ SR (2) (110) (own_w0 rfl) (by decide)) SR.1 at_341 rfl (w255 hw) (w256 hw) (nfSel (z := ({ cls := "java/lang/String", name := "charAt", desc := "(I)C" } : Jvm.MethodName)) (w258 hw)) (w258 hw) (w257 hw) (w27 hw) (w259 hw) (by decide) pd43 (st := []) rfl rfl rfl (W := 0) (Nat.le_of_eq rfl) (by decide) (by decide) (by decide) (by decide) (cells' := 34) (slots' := 493) rfl rfl ?_
      rintro _ _ ⟨rfl, rfl⟩
      show Run _ _ _ _ _ h4 _ _ 344 #[.val (.long xx), .second, .val (.int sel), .val (.int ch), .val (.long (i64 N)), .second, .val (.ref p), .val (.int (i32 d)), .val (.int (i32 ln)), .val (.int (i32 m1)), .val (.int (i32 kk)), .val (.int (i32 c0)), .val (.int (i32 c1)), .val (.ref x), .val (.ref o), .val (.ref r), .val (.int (i32 (7 + d + tl))), .unset] [.int (i32 (110))]
      show Run _ _ _ _ _ h4 _ _ 344 #[.val (.long xx), .second, .val (.int sel), .val (.int ch), .val (.long (i64 N)), .second, .val (.ref p), .val (.int (i32 d)), .val (.int (i32 ln)), .val (.int (i32 m1)), .val (.int (i32 kk)), .val (.int (i32 c0)), .val (.int (i32 c1)), .val (.ref x), .val (.ref o), .val (.ref r), .val (.int (i32 (7 + d + tl))), .unset] [.int (110 : Int32)]
      refine r_bipush C (pc' := 346) (v := (110)) at_344 rfl rfl ?_
      refine r_icmp_ne_f C (pc' := 349) at_346 rfl (by decide) ?_
      refine r_aload C (pc' := 351) at_349 rfl rfl rfl ?_
      refine r_iconst C (pc' := 352) (v := 3) at_351 rfl rfl ?_
      refine r_callV C (pc' := 355) (argsL := [.int (3 : Int32)]) (c_charAt l Z a0 hw _ h4 cc fv ss ol4 r rb rk _ SR (3) (103) (own_w0 rfl) (by decide)) SR.1 at_352 rfl (w255 hw) (w256 hw) (nfSel (z := ({ cls := "java/lang/String", name := "charAt", desc := "(I)C" } : Jvm.MethodName)) (w258 hw)) (w258 hw) (w257 hw) (w27 hw) (w259 hw) (by decide) pd43 (st := []) rfl rfl rfl (W := 0) (Nat.le_of_eq rfl) (by decide) (by decide) (by decide) (by decide) (cells' := 34) (slots' := 493) rfl rfl ?_
      rintro _ _ ⟨rfl, rfl⟩
      show Run _ _ _ _ _ h4 _ _ 355 #[.val (.long xx), .second, .val (.int sel), .val (.int ch), .val (.long (i64 N)), .second, .val (.ref p), .val (.int (i32 d)), .val (.int (i32 ln)), .val (.int (i32 m1)), .val (.int (i32 kk)), .val (.int (i32 c0)), .val (.int (i32 c1)), .val (.ref x), .val (.ref o), .val (.ref r), .val (.int (i32 (7 + d + tl))), .unset] [.int (i32 (103))]
      show Run _ _ _ _ _ h4 _ _ 355 #[.val (.long xx), .second, .val (.int sel), .val (.int ch), .val (.long (i64 N)), .second, .val (.ref p), .val (.int (i32 d)), .val (.int (i32 ln)), .val (.int (i32 m1)), .val (.int (i32 kk)), .val (.int (i32 c0)), .val (.int (i32 c1)), .val (.ref x), .val (.ref o), .val (.ref r), .val (.int (i32 (7 + d + tl))), .unset] [.int (103 : Int32)]
      refine r_bipush C (pc' := 357) (v := (103)) at_355 rfl rfl ?_
      refine r_icmp_ne_f C (pc' := 360) at_357 rfl (by decide) ?_
      refine r_aload C (pc' := 362) at_360 rfl rfl rfl ?_
      refine r_iconst C (pc' := 363) (v := 4) at_362 rfl rfl ?_
      refine r_callV C (pc' := 366) (argsL := [.int (4 : Int32)]) (c_charAt l Z a0 hw _ h4 cc fv ss ol4 r rb rk _ SR (4) (116) (own_w0 rfl) (by decide)) SR.1 at_363 rfl (w255 hw) (w256 hw) (nfSel (z := ({ cls := "java/lang/String", name := "charAt", desc := "(I)C" } : Jvm.MethodName)) (w258 hw)) (w258 hw) (w257 hw) (w27 hw) (w259 hw) (by decide) pd43 (st := []) rfl rfl rfl (W := 0) (Nat.le_of_eq rfl) (by decide) (by decide) (by decide) (by decide) (cells' := 34) (slots' := 493) rfl rfl ?_
      rintro _ _ ⟨rfl, rfl⟩
      show Run _ _ _ _ _ h4 _ _ 366 #[.val (.long xx), .second, .val (.int sel), .val (.int ch), .val (.long (i64 N)), .second, .val (.ref p), .val (.int (i32 d)), .val (.int (i32 ln)), .val (.int (i32 m1)), .val (.int (i32 kk)), .val (.int (i32 c0)), .val (.int (i32 c1)), .val (.ref x), .val (.ref o), .val (.ref r), .val (.int (i32 (7 + d + tl))), .unset] [.int (i32 (116))]
      show Run _ _ _ _ _ h4 _ _ 366 #[.val (.long xx), .second, .val (.int sel), .val (.int ch), .val (.long (i64 N)), .second, .val (.ref p), .val (.int (i32 d)), .val (.int (i32 ln)), .val (.int (i32 m1)), .val (.int (i32 kk)), .val (.int (i32 c0)), .val (.int (i32 c1)), .val (.ref x), .val (.ref o), .val (.ref r), .val (.int (i32 (7 + d + tl))), .unset] [.int (116 : Int32)]
      refine r_bipush C (pc' := 368) (v := (116)) at_366 rfl rfl ?_
      refine r_icmp_ne_f C (pc' := 371) at_368 rfl (by decide) ?_
      refine r_aload C (pc' := 373) at_371 rfl rfl rfl ?_
      refine r_iconst C (pc' := 374) (v := 5) at_373 rfl rfl ?_
      refine r_callV C (pc' := 377) (argsL := [.int (5 : Int32)]) (c_charAt l Z a0 hw _ h4 cc fv ss ol4 r rb rk _ SR (5) (104) (own_w0 rfl) (by decide)) SR.1 at_374 rfl (w255 hw) (w256 hw) (nfSel (z := ({ cls := "java/lang/String", name := "charAt", desc := "(I)C" } : Jvm.MethodName)) (w258 hw)) (w258 hw) (w257 hw) (w27 hw) (w259 hw) (by decide) pd43 (st := []) rfl rfl rfl (W := 0) (Nat.le_of_eq rfl) (by decide) (by decide) (by decide) (by decide) (cells' := 34) (slots' := 493) rfl rfl ?_
      rintro _ _ ⟨rfl, rfl⟩
      show Run _ _ _ _ _ h4 _ _ 377 #[.val (.long xx), .second, .val (.int sel), .val (.int ch), .val (.long (i64 N)), .second, .val (.ref p), .val (.int (i32 d)), .val (.int (i32 ln)), .val (.int (i32 m1)), .val (.int (i32 kk)), .val (.int (i32 c0)), .val (.int (i32 c1)), .val (.ref x), .val (.ref o), .val (.ref r), .val (.int (i32 (7 + d + tl))), .unset] [.int (i32 (104))]
      show Run _ _ _ _ _ h4 _ _ 377 #[.val (.long xx), .second, .val (.int sel), .val (.int ch), .val (.long (i64 N)), .second, .val (.ref p), .val (.int (i32 d)), .val (.int (i32 ln)), .val (.int (i32 m1)), .val (.int (i32 kk)), .val (.int (i32 c0)), .val (.int (i32 c1)), .val (.ref x), .val (.ref o), .val (.ref r), .val (.int (i32 (7 + d + tl))), .unset] [.int (104 : Int32)]
      refine r_bipush C (pc' := 379) (v := (104)) at_377 rfl rfl ?_
      refine r_icmp_ne_f C (pc' := 382) at_379 rfl (by decide) ?_
      refine r_aload C (pc' := 384) at_382 rfl rfl rfl ?_
      refine r_bipush C (pc' := 386) (v := (6)) at_384 rfl rfl ?_
      refine r_callV C (pc' := 389) (argsL := [.int (6 : Int32)]) (c_charAt l Z a0 hw _ h4 cc fv ss ol4 r rb rk _ SR (6) (61) (own_w0 rfl) (by decide)) SR.1 at_386 rfl (w255 hw) (w256 hw) (nfSel (z := ({ cls := "java/lang/String", name := "charAt", desc := "(I)C" } : Jvm.MethodName)) (w258 hw)) (w258 hw) (w257 hw) (w27 hw) (w259 hw) (by decide) pd43 (st := []) rfl rfl rfl (W := 0) (Nat.le_of_eq rfl) (by decide) (by decide) (by decide) (by decide) (cells' := 34) (slots' := 493) rfl rfl ?_
      rintro _ _ ⟨rfl, rfl⟩
      show Run _ _ _ _ _ h4 _ _ 389 #[.val (.long xx), .second, .val (.int sel), .val (.int ch), .val (.long (i64 N)), .second, .val (.ref p), .val (.int (i32 d)), .val (.int (i32 ln)), .val (.int (i32 m1)), .val (.int (i32 kk)), .val (.int (i32 c0)), .val (.int (i32 c1)), .val (.ref x), .val (.ref o), .val (.ref r), .val (.int (i32 (7 + d + tl))), .unset] [.int (i32 (61))]
      show Run _ _ _ _ _ h4 _ _ 389 #[.val (.long xx), .second, .val (.int sel), .val (.int ch), .val (.long (i64 N)), .second, .val (.ref p), .val (.int (i32 d)), .val (.int (i32 ln)), .val (.int (i32 m1)), .val (.int (i32 kk)), .val (.int (i32 c0)), .val (.int (i32 c1)), .val (.ref x), .val (.ref o), .val (.ref r), .val (.int (i32 (7 + d + tl))), .unset] [.int (61 : Int32)]
      refine r_bipush C (pc' := 391) (v := (61)) at_389 rfl rfl ?_
      refine r_icmp_eq_t C (pc' := 396) at_391 (by decide) (by decide) (by decide) ?_
      have tail3 : ∀ L17 : Slot, Run l room_1 h0.size (fun v _ _ => v = some (.int 1)) (Kw K (Fr h0.size) vm4) h4 34 493 442 #[.val (.long xx), .second, .val (.int sel), .val (.int ch), .val (.long (i64 N)), .second, .val (.ref p), .val (.int (i32 d)), .val (.int (i32 ln)), .val (.int (i32 m1)), .val (.int (i32 kk)), .val (.int (i32 c0)), .val (.int (i32 c1)), .val (.ref x), .val (.ref o), .val (.ref r), .val (.int (i32 (7 + d + tl))), L17] [] := by
        intro L17
        refine r_iload C (pc' := 444) at_442 rfl rfl ?_
        refine r_if_eq C (pt := 510) (pc' := 447) at_444 (by decide) (by decide) rfl ?_ ?_
        · intro q
          refine r_iconst C (pc' := 511) (v := 1) at_510 rfl rfl ?_
          exact r_zreturn C at_511 rfl (by decide) (by decide) (Nat.le_refl _) (fun _ _ => rfl)
        · intro q
          have q' : m1 ≠ 0 := fun z => q (by rw [z]; rfl)
          obtain ⟨rfl, -⟩ : nm = some ds ∧ m1 = 1 := by
            rcases hnm with ⟨_, z1⟩ | z1
            · exact absurd z1 q'
            · exact z1
          refine r_aload C (pc' := 449) at_447 rfl rfl rfl ?_
          refine r_bipush C (pc' := 451) (v := (7)) at_449 rfl rfl ?_
          refine r_iload C (pc' := 453) at_451 rfl rfl ?_
          refine r_iadd C (pc' := 454) at_453 rfl ?_
          rw [show (7 : Int32) + i32 d = i32 (7 + d + 0) from i32_add 7 d]
          refine r_callV C (pc' := 457) (argsL := [.int (i32 (7 + d + 0))]) (c_charAt l Z a0 hw _ h4 cc fv ss ol4 r rb rk _ SR (7 + d + 0) (44) (own_wT ed rfl) (by decide)) SR.1 at_454 rfl (w255 hw) (w256 hw) (nfSel (z := ({ cls := "java/lang/String", name := "charAt", desc := "(I)C" } : Jvm.MethodName)) (w258 hw)) (w258 hw) (w257 hw) (w27 hw) (w259 hw) (by decide) pd43 (st := []) rfl rfl rfl (W := 0) (Nat.le_of_eq rfl) (by decide) (by decide) (by decide) (by decide) (cells' := 34) (slots' := 493) rfl rfl ?_
          rintro _ _ ⟨rfl, rfl⟩
          show Run _ _ _ _ _ h4 _ _ 457 #[.val (.long xx), .second, .val (.int sel), .val (.int ch), .val (.long (i64 N)), .second, .val (.ref p), .val (.int (i32 d)), .val (.int (i32 ln)), .val (.int (i32 m1)), .val (.int (i32 kk)), .val (.int (i32 c0)), .val (.int (i32 c1)), .val (.ref x), .val (.ref o), .val (.ref r), .val (.int (i32 (7 + d + tl))), L17] [.int (i32 (44))]
          show Run _ _ _ _ _ h4 _ _ 457 #[.val (.long xx), .second, .val (.int sel), .val (.int ch), .val (.long (i64 N)), .second, .val (.ref p), .val (.int (i32 d)), .val (.int (i32 ln)), .val (.int (i32 m1)), .val (.int (i32 kk)), .val (.int (i32 c0)), .val (.int (i32 c1)), .val (.ref x), .val (.ref o), .val (.ref r), .val (.int (i32 (7 + d + tl))), L17] [.int (44 : Int32)]
          refine r_bipush C (pc' := 459) (v := (44)) at_457 rfl rfl ?_
          refine r_icmp_eq_t C (pc' := 464) at_459 (by decide) (by decide) (by decide) ?_
          refine r_iload C (pc' := 466) at_464 rfl rfl ?_
          refine r_iconst C (pc' := 467) (v := 1) at_466 rfl rfl ?_
          refine Run.join (h2 := h4) (cells2 := 34) (slots2 := 493) (pc2 := 487) (Ls2 := #[.val (.long xx), .second, .val (.int sel), .val (.int ch), .val (.long (i64 N)), .second, .val (.ref p), .val (.int (i32 d)), .val (.int (i32 ln)), .val (.int (i32 m1)), .val (.int (i32 kk)), .val (.int (i32 c0)), .val (.int (i32 c1)), .val (.ref x), .val (.ref o), .val (.ref r), .val (.int (i32 (7 + d + tl))), L17]) (st2 := []) (fun J => ?_) ?_
          ·
            refine r_icmp_lt C (pt := 487) (pc' := 470) at_467 (by decide) (by decide) rfl ?_ ?_
            · intro u
              exact J
            · intro u
              have u' : 1 ≤ ln := Nat.le_of_not_lt (fun z => u ((i32_lt (b := 1) (by omega) (by decide)).mpr z))
              have h0' : ds[0]? = some c0 := by rw [eds, List.getElem?_take_of_lt (by omega)]; rfl
              refine r_aload C (pc' := 472) at_470 rfl rfl rfl ?_
              refine r_bipush C (pc' := 474) (v := (8)) at_472 rfl rfl ?_
              refine r_iload C (pc' := 476) at_474 rfl rfl ?_
              refine r_iadd C (pc' := 477) at_476 rfl ?_
              rw [show (8 : Int32) + i32 d = i32 (7 + d + 1) by rw [show 7 + d + 1 = 8 + d by omega]; exact i32_add 8 d]
              refine r_callV C (pc' := 480) (argsL := [.int (i32 (7 + d + 1))]) (c_charAt l Z a0 hw _ h4 cc fv ss ol4 r rb rk _ SR (7 + d + 1) (c0) (own_wT ed (show (44 :: ds)[1]? = some c0 from h0')) hc0) SR.1 at_477 rfl (w255 hw) (w256 hw) (nfSel (z := ({ cls := "java/lang/String", name := "charAt", desc := "(I)C" } : Jvm.MethodName)) (w258 hw)) (w258 hw) (w257 hw) (w27 hw) (w259 hw) (by decide) pd43 (st := []) rfl rfl rfl (W := 0) (Nat.le_of_eq rfl) (by decide) (by decide) (by decide) (by decide) (cells' := 34) (slots' := 493) rfl rfl ?_
              rintro _ _ ⟨rfl, rfl⟩
              show Run _ _ _ _ _ h4 _ _ 480 #[.val (.long xx), .second, .val (.int sel), .val (.int ch), .val (.long (i64 N)), .second, .val (.ref p), .val (.int (i32 d)), .val (.int (i32 ln)), .val (.int (i32 m1)), .val (.int (i32 kk)), .val (.int (i32 c0)), .val (.int (i32 c1)), .val (.ref x), .val (.ref o), .val (.ref r), .val (.int (i32 (7 + d + tl))), L17] [.int (i32 (c0))]
              refine r_iload C (pc' := 482) at_480 rfl rfl ?_
              refine r_icmp_eq_t C (pc' := 487) at_482 (by decide) (by decide) rfl ?_
              exact J
          refine r_iload C (pc' := 489) at_487 rfl rfl ?_
          refine r_iconst C (pc' := 490) (v := 2) at_489 rfl rfl ?_
          refine Run.join (h2 := h4) (cells2 := 34) (slots2 := 493) (pc2 := 510) (Ls2 := #[.val (.long xx), .second, .val (.int sel), .val (.int ch), .val (.long (i64 N)), .second, .val (.ref p), .val (.int (i32 d)), .val (.int (i32 ln)), .val (.int (i32 m1)), .val (.int (i32 kk)), .val (.int (i32 c0)), .val (.int (i32 c1)), .val (.ref x), .val (.ref o), .val (.ref r), .val (.int (i32 (7 + d + tl))), L17]) (st2 := []) (fun J => ?_) ?_
          ·
            refine r_icmp_lt C (pt := 510) (pc' := 493) at_490 (by decide) (by decide) rfl ?_ ?_
            · intro u
              exact J
            · intro u
              have u' : 2 ≤ ln := Nat.le_of_not_lt (fun z => u ((i32_lt (b := 2) (by omega) (by decide)).mpr z))
              have h1' : ds[1]? = some c1 := by rw [eds, List.getElem?_take_of_lt (by omega)]; rfl
              refine r_aload C (pc' := 495) at_493 rfl rfl rfl ?_
              refine r_bipush C (pc' := 497) (v := (9)) at_495 rfl rfl ?_
              refine r_iload C (pc' := 499) at_497 rfl rfl ?_
              refine r_iadd C (pc' := 500) at_499 rfl ?_
              rw [show (9 : Int32) + i32 d = i32 (7 + d + 2) by rw [show 7 + d + 2 = 9 + d by omega]; exact i32_add 9 d]
              refine r_callV C (pc' := 503) (argsL := [.int (i32 (7 + d + 2))]) (c_charAt l Z a0 hw _ h4 cc fv ss ol4 r rb rk _ SR (7 + d + 2) (c1) (own_wT ed (show (44 :: ds)[2]? = some c1 from h1')) hc1) SR.1 at_500 rfl (w255 hw) (w256 hw) (nfSel (z := ({ cls := "java/lang/String", name := "charAt", desc := "(I)C" } : Jvm.MethodName)) (w258 hw)) (w258 hw) (w257 hw) (w27 hw) (w259 hw) (by decide) pd43 (st := []) rfl rfl rfl (W := 0) (Nat.le_of_eq rfl) (by decide) (by decide) (by decide) (by decide) (cells' := 34) (slots' := 493) rfl rfl ?_
              rintro _ _ ⟨rfl, rfl⟩
              show Run _ _ _ _ _ h4 _ _ 503 #[.val (.long xx), .second, .val (.int sel), .val (.int ch), .val (.long (i64 N)), .second, .val (.ref p), .val (.int (i32 d)), .val (.int (i32 ln)), .val (.int (i32 m1)), .val (.int (i32 kk)), .val (.int (i32 c0)), .val (.int (i32 c1)), .val (.ref x), .val (.ref o), .val (.ref r), .val (.int (i32 (7 + d + tl))), L17] [.int (i32 (c1))]
              refine r_iload C (pc' := 505) at_503 rfl rfl ?_
              refine r_icmp_eq_t C (pc' := 510) at_505 (by decide) (by decide) rfl ?_
              exact J
          refine r_iconst C (pc' := 511) (v := 1) at_510 rfl rfl ?_
          exact r_zreturn C at_511 rfl (by decide) (by decide) (Nat.le_refl _) (fun _ _ => rfl)
      refine r_iload C (pc' := 398) at_396 rfl rfl ?_
      refine r_iload C (pc' := 400) at_398 rfl rfl ?_
      refine r_icmp_ge C (pt := 442) (pc' := 403) at_400 (by decide) (by decide) rfl ?_ ?_
      · intro q
        exact tail3 _
      · intro q
        have q' : kk < d := (i32_lt (by omega) (by omega)).mp q
        have hp := own_pow18 hkk
        have hp0 : 0 < 10 ^ kk := Nat.pow_pos (by decide)
        refine r_bipush C (pc' := 405) (v := (48)) at_403 rfl rfl ?_
        refine r_lload C (pc' := 407) at_405 rfl rfl ?_
        refine r_aload C (pc' := 409) at_407 rfl rfl rfl ?_
        refine r_iload C (pc' := 411) at_409 rfl rfl ?_
        refine r_laloadV C (pc' := 412) (i := kk) at_411 rfl AP rfl (own_powAt hkk) ?_
        refine r_ldiv C (pc' := 413) at_412 rfl (fun e => absurd ((i64_eq (b := 0) (by omega) (by decide)).mp e) (by omega)) ?_
        rw [i64_div hN (by omega)]
        have hq : N / 10 ^ kk ≤ N := Nat.div_le_self _ _
        refine r_ldc2J C (pc' := 416) at_413 rfl (w2 hw) ?_
        refine r_lrem C (pc' := 417) at_416 rfl (by decide) ?_
        rw [show i64 (N / 10 ^ kk) - (i64 (N / 10 ^ kk) / (10 : Int64)) * (10 : Int64) = i64 (N / 10 ^ kk % 10) from i64_rem (b := 10) (by omega) (by decide)]
        refine r_l2i C (pc' := 418) at_417 rfl ?_
        refine r_iadd C (pc' := 419) at_418 rfl ?_
        refine r_i2c C (pc' := 420) at_419 rfl ?_
        rw [i32_of64, show (48 : Int32) + i32 (N / 10 ^ kk % 10) = i32 (48 + N / 10 ^ kk % 10) from i32_add 48 _, own_ch (by omega)]
        refine r_istore C (pc' := 422) (Ls' := #[.val (.long xx), .second, .val (.int sel), .val (.int ch), .val (.long (i64 N)), .second, .val (.ref p), .val (.int (i32 d)), .val (.int (i32 ln)), .val (.int (i32 m1)), .val (.int (i32 kk)), .val (.int (i32 c0)), .val (.int (i32 c1)), .val (.ref x), .val (.ref o), .val (.ref r), .val (.int (i32 (7 + d + tl))), .val (.int (i32 (48 + N / 10 ^ kk % 10)))]) at_420 rfl rfl ?_
        refine r_aload C (pc' := 424) at_422 rfl rfl rfl ?_
        refine r_bipush C (pc' := 426) (v := (6)) at_424 rfl rfl ?_
        refine r_iload C (pc' := 428) at_426 rfl rfl ?_
        refine r_iadd C (pc' := 429) at_428 rfl ?_
        refine r_iload C (pc' := 431) at_429 rfl rfl ?_
        refine r_isub C (pc' := 432) at_431 rfl ?_
        rw [show (6 : Int32) + i32 d = i32 (6 + d) from i32_add 6 d, i32_sub (by omega)]
        refine r_callV C (pc' := 435) (argsL := [.int (i32 (6 + d - kk))]) (c_charAt l Z a0 hw _ h4 cc fv ss ol4 r rb rk _ SR (6 + d - kk) (48 + N / 10 ^ kk % 10) (own_wD ed q') (by omega)) SR.1 at_432 rfl (w255 hw) (w256 hw) (nfSel (z := ({ cls := "java/lang/String", name := "charAt", desc := "(I)C" } : Jvm.MethodName)) (w258 hw)) (w258 hw) (w257 hw) (w27 hw) (w259 hw) (by decide) pd43 (st := []) rfl rfl rfl (W := 0) (Nat.le_of_eq rfl) (by decide) (by decide) (by decide) (by decide) (cells' := 34) (slots' := 493) rfl rfl ?_
        rintro _ _ ⟨rfl, rfl⟩
        show Run _ _ _ _ _ h4 _ _ 435 #[.val (.long xx), .second, .val (.int sel), .val (.int ch), .val (.long (i64 N)), .second, .val (.ref p), .val (.int (i32 d)), .val (.int (i32 ln)), .val (.int (i32 m1)), .val (.int (i32 kk)), .val (.int (i32 c0)), .val (.int (i32 c1)), .val (.ref x), .val (.ref o), .val (.ref r), .val (.int (i32 (7 + d + tl))), .val (.int (i32 (48 + N / 10 ^ kk % 10)))] [.int (i32 (48 + N / 10 ^ kk % 10))]
        refine r_iload C (pc' := 437) at_435 rfl rfl ?_
        refine r_icmp_eq_t C (pc' := 442) at_437 (by decide) (by decide) rfl ?_
        exact tail3 _
    refine r_iload C (pc' := 251) at_249 rfl rfl ?_
    refine r_if_eq C (pt := 262) (pc' := 254) at_251 (by decide) (by decide) rfl ?_ ?_
    · intro q
      have q' : m1 = 0 := (i32_eq (b := 0) (by omega) (by decide)).mp q
      refine r_callS C (pc' := 265) (argsL := []) (o_empty l Z a0 hw _ h em oe (ol.keep Kp all0)) at_262 rfl (w55 hw) (w56 hw) (w57 hw) (w58 hw) (by decide) pd25 (st := []) rfl rfl rfl (W := 0) (Nat.le_of_eq rfl) (by decide) (by decide) (by decide) (by decide) (cells' := 5) (slots' := 35) rfl rfl ?_
      rintro _ _ ⟨rfl, rfl⟩
      show Run _ _ _ _ _ h _ _ 265 #[.val (.long xx), .second, .val (.int sel), .val (.int ch), .val (.long (i64 N)), .second, .val (.ref p), .val (.int (i32 d)), .val (.int (i32 ln)), .val (.int (i32 m1)), .val (.int (i32 kk)), .val (.int (i32 c0)), .val (.int (i32 c1)), .val (.ref x), .unset, .unset, .unset, .unset] [.ref em]
      exact Run.le (by decide) (by decide) (tail2 h em none (Keep.refl _ _) (Or.inl ⟨rfl, oe.2.ext (ol.keep Kp all0).2⟩) (Or.inl ⟨rfl, q'⟩))
    · intro q
      have q' : m1 = 1 := by
        rcases Nat.lt_or_ge 0 m1 with z | z
        · omega
        · exact absurd (show i32 m1 = (0 : Int32) by rw [show m1 = 0 by omega]; rfl) q
      refine r_aload C (pc' := 256) at_254 rfl rfl rfl ?_
      refine r_callS C (pc' := 259) (argsL := [.ref x]) (o_of l Z a0 hw _ h (by omega) x) at_256 rfl (w311 hw) (w312 hw) (w57 hw) (w313 hw) (by decide) pd27 (st := []) rfl rfl rfl (W := 0) (Nat.le_of_eq rfl) (by decide) (by decide) (by decide) (by decide) (cells' := 6) (slots' := 36) rfl rfl ?_
      rintro _ g ⟨o, rfl, K1, O1, go⟩
      show Run _ _ _ _ _ g _ _ 259 #[.val (.long xx), .second, .val (.int sel), .val (.int ch), .val (.long (i64 N)), .second, .val (.ref p), .val (.int (i32 d)), .val (.int (i32 ln)), .val (.int (i32 m1)), .val (.int (i32 kk)), .val (.int (i32 c0)), .val (.int (i32 c1)), .val (.ref x), .unset, .unset, .unset, .unset] [.ref o]
      refine r_goto C (pc' := 265) at_259 (by decide) (by decide) ?_
      exact Run.le (by decide) (by decide) (tail2 g o (some ds) K1 (Or.inr ⟨ds, x, sb, sk, rfl, O1, S.keep K1 nin0 nin0⟩) (Or.inr ⟨rfl, q'⟩))
  refine r_iload C (pc' := 201) at_199 rfl rfl ?_
  refine r_if_ne C (pt := 211) (pc' := 204) at_201 (by decide) (by decide) rfl ?_ ?_
  · intro q
    have q1' : ln ≠ 0 := fun z => q (by rw [z]; rfl)
    refine r_iload C (pc' := 213) at_211 rfl rfl ?_
    refine r_iconst C (pc' := 214) (v := 1) at_213 rfl rfl ?_
    refine r_icmp_ne C (pt := 227) (pc' := 217) at_214 (by decide) (by decide) rfl ?_ ?_
    · intro r
      have q2 : ln = 2 := by
        have : ln ≠ 1 := fun z => r (by rw [z]; rfl)
        omega
      refine r_new C (pc' := 230) at_227 rfl (w25 hw) (w26 hw) (w27 hw) (by decide) (by decide) ?_
      intro h2 x gx E2 E D2
      have Fv : Fld Z h2 x "java/lang/String" "value" "[B" (.null) := D2 (Or.inr (w54 hw)) (ty := (.array .byte)) (by decide)
      have Fc : Fld Z h2 x "java/lang/String" "coder" "B" (.int 0) := D2 (Or.inr (w52 hw)) (ty := .byte) (by decide)
      have x_h2 := E2.1
      replace Kp := Kp.ext E2
      replace AP := AP.ext E2
      have lx := exaLt E
      have lp0 := AP.lt
      refine r_dup C (pc' := 231) at_230 rfl rfl ?_
      refine r_iconst C (pc' := 232) (v := 2) at_231 rfl rfl ?_
      refine r_newarrayV C (pc' := 234) (ty := .char) (m := 2) (cap := 2) at_232 rfl rfl (w28 hw) rfl (by decide) (by decide) (by decide) (by decide) ?_
      intro h3 ac kc gc E3 C0
      have x3 := E3.1
      replace Kp := Kp.ext E3
      replace AP := AP.ext E3
      replace E := E.ext E3
      replace Fv := Fv.ext E3
      replace Fc := Fc.ext E3
      have lpp := AP.lt
      have nac : ac ≠ x := by omega
      have npa : p ≠ ac := by omega
      refine r_dup C (pc' := 235) at_234 rfl rfl ?_
      refine r_iconst C (pc' := 236) (v := 0) at_235 rfl rfl ?_
      refine r_iload C (pc' := 238) at_236 rfl rfl ?_
      refine r_castoreV C (pc' := 239) (i := 0) at_238 rfl C0 rfl (by simp only [List.length_set, List.length_replicate]; decide) (fits_nar_char _) (by omega) ?_
      intro h4 V0 C1
      rw [own_chn (by omega)] at C1
      have v0 := V0.size
      replace Kp := Kp.wr V0 (Or.inr (by omega))
      replace AP := AP.other V0 (nn npa)
      replace E := E.wr V0
      replace Fv := Fv.other V0 (Or.inl (nn (Ne.symm nac)))
      replace Fc := Fc.other V0 (Or.inl (nn (Ne.symm nac)))
      refine r_dup C (pc' := 240) at_239 rfl rfl ?_
      refine r_iconst C (pc' := 241) (v := 1) at_240 rfl rfl ?_
      refine r_iload C (pc' := 243) at_241 rfl rfl ?_
      refine r_castoreV C (pc' := 244) (i := 1) at_243 rfl C1 rfl (by simp only [List.length_set, List.length_replicate]; decide) (fits_nar_char _) (by omega) ?_
      intro h5 V1 C2
      rw [own_chn (by omega)] at C2
      have v1 := V1.size
      replace Kp := Kp.wr V1 (Or.inr (by omega))
      replace AP := AP.other V1 (nn npa)
      replace E := E.wr V1
      replace Fv := Fv.other V1 (Or.inl (nn (Ne.symm nac)))
      replace Fc := Fc.other V1 (Or.inl (nn (Ne.symm nac)))
      have C' : AV Z h5 ac kc .char (([c0, c1] : List Nat).map vch) (.int 0) := C2
      have ok : ∀ c ∈ ([c0, c1] : List Nat), c < 256 := by simp; omega
      refine r_callI C (pc' := 247) (argsL := [.ref ac]) (c_initC l Z a0 hw _ h5 cc fv ss (ol.keep Kp all0) (by omega) x ac kc [c0, c1] (by omega) E _ _ Fv Fc C' ok (by simp) (by simp)) at_244 rfl (w29 hw) (w30 hw) (w27 hw) (w31 hw) rfl (by decide) pd44 (st := [.ref x]) rfl rfl rfl (W := 1) (Nat.le_of_eq rfl) (by decide) (by decide) (by decide) (by decide) (cells' := 4) (slots' := 27) rfl rfl ?_
      rintro _ h6 ⟨rfl, K6, b6, k6, S6, gb6⟩
      show Run _ _ _ _ _ h6 _ _ 247 #[.val (.long xx), .second, .val (.int sel), .val (.int ch), .val (.long (i64 N)), .second, .val (.ref p), .val (.int (i32 d)), .val (.int (i32 ln)), .val (.int (i32 m1)), .val (.int (i32 kk)), .val (.int (i32 c0)), .val (.int (i32 c1)), .unset, .unset, .unset, .unset, .unset] [.ref x]
      have z6 := K6.1
      have npx : p ≠ x := by omega
      replace Kp := Kp.trans K6 (allS (Or.inr (by omega)) all0)
      replace AP := AP.keep K6 (ninS (nn npx) nin0)
      refine r_astore C (pc' := 249) (Ls' := #[.val (.long xx), .second, .val (.int sel), .val (.int ch), .val (.long (i64 N)), .second, .val (.ref p), .val (.int (i32 d)), .val (.int (i32 ln)), .val (.int (i32 m1)), .val (.int (i32 kk)), .val (.int (i32 c0)), .val (.int (i32 c1)), .val (.ref x), .unset, .unset, .unset, .unset]) at_247 rfl rfl rfl ?_
      exact Run.le (by decide) (by decide) (tail h6 vm kz [c0, c1] x b6 k6 D (by omega) Kp AP (Or.inl hV) S6 (by rw [q2]; rfl))
    · intro r
      have q2 : ln = 1 := (i32_eq (b := 1) (by omega) (by decide)).mp r
      refine r_iload C (pc' := 219) at_217 rfl rfl ?_
      refine r_callS C (pc' := 222) (argsL := [.int (i32 c0)]) (c_valueOfC l Z a0 hw _ g19 cc fv ss (ol.keep Kp all0) (by omega) c0 hc0) at_219 rfl (w298 hw) (w299 hw) (w27 hw) (w300 hw) (by decide) pd45 (st := []) rfl rfl rfl (W := 0) (Nat.le_of_eq rfl) (by decide) (by decide) (by decide) (by decide) (cells' := 3) (slots' := 24) rfl rfl ?_
      rintro _ h6 ⟨x, b6, k6, rfl, K6, S6, _, _⟩
      show Run _ _ _ _ _ h6 _ _ 222 #[.val (.long xx), .second, .val (.int sel), .val (.int ch), .val (.long (i64 N)), .second, .val (.ref p), .val (.int (i32 d)), .val (.int (i32 ln)), .val (.int (i32 m1)), .val (.int (i32 kk)), .val (.int (i32 c0)), .val (.int (i32 c1)), .unset, .unset, .unset, .unset, .unset] [.ref x]
      have z6 := K6.1
      replace Kp := Kp.trans K6 all0
      replace AP := AP.keep K6 nin0
      refine r_astore C (pc' := 224) (Ls' := #[.val (.long xx), .second, .val (.int sel), .val (.int ch), .val (.long (i64 N)), .second, .val (.ref p), .val (.int (i32 d)), .val (.int (i32 ln)), .val (.int (i32 m1)), .val (.int (i32 kk)), .val (.int (i32 c0)), .val (.int (i32 c1)), .val (.ref x), .unset, .unset, .unset, .unset]) at_222 rfl rfl rfl ?_
      refine r_goto C (pc' := 249) at_224 (by decide) (by decide) ?_
      exact Run.le (by decide) (by decide) (tail h6 vm kz [c0] x b6 k6 D (by omega) Kp AP (Or.inl hV) S6 (by rw [q2]; rfl))
  · intro q
    have q2 : ln = 0 := (i32_eq (b := 0) (by omega) (by decide)).mp q
    refine r_ldcV0 (pc' := 206) B (Nat.le_refl _) D (by omega) (by omega) at_204 rfl (w297 hw) wS ol.2.2 (ol.keep Kp all0).2 hfit hV (by decide) held54 hcw (by decide) (by decide) ?_
    intro vm2 kE h6 x b6 k6 D zkE E6 S6 I6
    have E6x := E6.1
    replace C := B.ctx D
    replace Kp := Kp.ext E6
    replace AP := AP.ext E6
    show Run _ _ _ _ _ h6 _ _ 206 #[.val (.long xx), .second, .val (.int sel), .val (.int ch), .val (.long (i64 N)), .second, .val (.ref p), .val (.int (i32 d)), .val (.int (i32 ln)), .val (.int (i32 m1)), .val (.int (i32 kk)), .val (.int (i32 c0)), .val (.int (i32 c1)), .unset, .unset, .unset, .unset, .unset] [.ref x]
    refine r_astore C (pc' := 208) (Ls' := #[.val (.long xx), .second, .val (.int sel), .val (.int ch), .val (.long (i64 N)), .second, .val (.ref p), .val (.int (i32 d)), .val (.int (i32 ln)), .val (.int (i32 m1)), .val (.int (i32 kk)), .val (.int (i32 c0)), .val (.int (i32 c1)), .val (.ref x), .unset, .unset, .unset, .unset]) at_206 rfl rfl rfl ?_
    refine r_goto C (pc' := 249) at_208 (by decide) (by decide) ?_
    exact Run.le (by decide) (by decide) (tail h6 vm2 kE [] x b6 k6 D (by omega) Kp AP I6 S6 (by rw [q2]; rfl))

theorem own_oe {s : State} {args : Array Value} (hsets : ∀ w ∈ jdkStatics_1, w.before args s = true) : ∃ em : Nat, own_OE s em := by
  have g := fun i (w : Jvm.Cond) (e : jdkStatics_1[i]? = some w) => hsets w (List.mem_of_getElem? e)
  obtain ⟨em, e1⟩ := exa_v (Cond.before_iff.mp (g 11 _ rfl))
  have hx : Exa s s.heap em "java/util/Optional" := Exa.start e1 (Cond.before_iff.mp (g 11 _ rfl))
  have h12 := Cond.before_iff.mp (g 12 _ rfl)
  refine ⟨em, Sta.start e1 (Or.inl (g 10 _ rfl)), hx, Fld.start ?_⟩
  have e2 : (Term.static "java/util/Optional" "EMPTY" "Ljava/util/Optional;").eval args s none [] s = some (.ref em) := e1
  simp only [Cond.value, Term.eval] at h12
  simp only [Term.eval] at e2
  rw [e2] at h12
  simp only [Option.bind_eq_bind, Option.bind_some] at h12
  cases hq : s.fieldOf? em "java/util/Optional" "value" "Ljava/lang/Object;" with
  | none => rw [hq] at h12; simp at h12
  | some v => rw [hq] at h12; cases v <;> simp_all

theorem own_tab {Z : State} {args : Array Value} {t F : Term} {a : Addr} (hf : Fit Z) (et : ∀ idx, t.eval args Z none idx Z = some (.ref a)) (ex : (Jvm.Cond.exactly t "[B").before args Z = true) (el : (Jvm.Cond.eq (.length t) (.int (100 : Int32))).before args Z = true) (al : (Jvm.Cond.all t (.eq (.elem t (.index 0)) F)).before args Z = true) (wa : (Jvm.Cond.arrayClass .byte).before args Z = true) (f : Nat → Nat) (hF : ∀ j : Nat, j < 100 → F.eval args Z none [j] Z = some (.int (by8 (f j)))) : ∃ k : ClassId, AV Z Z.heap a k .byte ((List.range 100).map fun j => Value.int (by8 (f j))) (.int 0) := by
  have hlen := Cond.eq_int el rfl
  obtain ⟨sd, SA, hev, harrAt, -⟩ := Term.length_spec hlen
  have h31 := SBG.length_lt hev harrAt hlen
  cases (et []).symm.trans hev
  have hsz : SA.slots.size = 100 := by
    have e : (Term.length t).eval args Z none [] Z = some (.int (Int32.ofNat SA.slots.size)) := by simp [Term.eval, hev, harrAt, h31]
    have h2 : Int32.ofNat SA.slots.size = (100 : Int32) := by simpa using Option.some.inj (e.symm.trans hlen)
    have := congrArg Int32.toInt h2
    rw [Int32.toInt_ofNat_small h31, show (100 : Int32).toInt = 100 from rfl] at this; omega
  obtain ⟨a3, c3, cell3, k3, e1, e2, e3, e4, e5, e6, -⟩ := Cond.exactly_spec ex
  cases hev.symm.trans e1
  obtain ⟨c4, k4, comp, f1, f2, f3⟩ := Cond.arrayClass_spec wa
  have hcell : Z.heap[a]? = some SA ∧ SA.vm ≠ .unknown := by
    simp only [State.arrayAt?, Option.bind_eq_bind] at harrAt
    cases q : Z.heap[a]? with
    | none => simp [q] at harrAt
    | some x => simp only [q, Option.bind_some] at harrAt; grind
  cases hcell.1.symm.trans e3
  cases (show Z.vm.findClass "[B" = some c4 from f1).symm.trans e2
  have A : Arr Z Z.heap a SA .byte := ⟨hcell.1, ⟨(fun q r => by rw [r] at e5; cases e5), k4, by rw [e6]; exact f2, comp, f3⟩, hcell.2⟩
  have H : ∀ j, j < 100 → SA.slots[j]? = some (.int (by8 (f j))) := fun j hj => by
    have u := Cond.all_elim (et []) (A.fin (Vm.Alike.refl _)) (Cond.before_iff.mp al) j (by omega)
    have v := eqv_i (hF j hj) u
    have ec : (i32 j).toNatClampNeg = j := i32_clamp (by omega)
    have nn : ¬ i32 j < 0 := i32_nn (by omega)
    have z := elem_f (t := t) (et [(i32 j).toNatClampNeg]) (idx_at nn) (A.fin (Vm.Alike.refl _)) nn
    rw [ec] at z
    exact z.symm.trans v
  have H' : Has SA ((List.range 100).map fun j => Value.int (by8 (f j))) (.int 0) := fun j hj => by
    rw [hsz] at hj
    rw [H j hj]; simp [hj]
  refine ⟨SA.cls, ⟨SA, A, rfl, by rw [hsz, List.length_map, List.length_range, i32_clamp (by decide)], i32_nn (by rw [List.length_map, List.length_range]; decide), H', fun j hj => ?_⟩, by simp⟩
  have e1 : (Nat.toInt32 j).toNatClampNeg = j := by simp only [Int32.toNatClampNeg, len_toInt (Nat.lt_trans hj h31)]; rfl
  exact elem_fits (j := Nat.toInt32 j) hf A (idx_in hj h31) (by rw [e1]; exact H' j hj)
theorem own_onesF : ∀ j : Fin 100, (48 : Int32) + i32 j % 10 = by8 (48 + j % 10) := by decide +kernel
theorem own_tensF : ∀ j : Fin 100, (48 : Int32) + i32 j / 10 = by8 (48 + j / 10) := by decide +kernel
theorem own_dt {s : State} {args : Array Value} (hf : Fit s) (hw : ∀ d ∈ tables_1, d.before args s = true) (hsets : ∀ w ∈ jdkStatics_1, w.before args s = true) : ∃ (t1 t2 : Nat) (q1 q2 : ClassId), own_DT s t1 t2 q1 q2 := by
  have g := fun i (w : Jvm.Cond) (e : jdkStatics_1[i]? = some w) => hsets w (List.mem_of_getElem? e)
  obtain ⟨t1, e1⟩ := exa_v (Cond.before_iff.mp (g 16 _ rfl))
  obtain ⟨t2, e2⟩ := exa_v (Cond.before_iff.mp (g 21 _ rfl))
  obtain ⟨q1, A1⟩ := own_tab hf (fun _ => e1) (g 16 _ rfl) (g 17 _ rfl) (g 18 _ rfl) ((w44 hw)) (fun j => 48 + j % 10) (fun j hj => by
    have := idx_at (args := args) (s := s) (first := s) (o := none) (j := i32 j) (i32_nn (by omega))
    rw [i32_clamp (by omega)] at this
    rw [← own_onesF ⟨j, hj⟩]
    exact Term.add_int rfl (rem_f this (y := 10) rfl (by decide)))
  obtain ⟨q2, A2⟩ := own_tab hf (fun _ => e2) (g 21 _ rfl) (g 22 _ rfl) (g 23 _ rfl) ((w44 hw)) (fun j => 48 + j / 10) (fun j hj => by
    have := idx_at (args := args) (s := s) (first := s) (o := none) (j := i32 j) (i32_nn (by omega))
    rw [i32_clamp (by omega)] at this
    rw [← own_tensF ⟨j, hj⟩]
    exact Term.add_int rfl (div_f this (y := 10) rfl (by decide)))
  exact ⟨t1, t2, q1, q2, Sta.start e1 (Or.inl (g 15 _ rfl)), Sta.start e2 (Or.inl (g 20 _ rfl)), A1, A2⟩
set_option maxRecDepth 65536 in
set_option maxHeartbeats 40000000 in
theorem comes_1 {Post : Tables → Env → Array Value → State → Outcome → State → Prop} (hpost : ∀ tb e args s v u, (limb_1_1.after args s (.returned v) u = true ∧ limb_1_2.after args s (.returned v) u = true ∧ True) → ReturnedEndW s (.returned v) u (Jvm.fieldLocs frame_1_writes args s ++ Jvm.arrayLocs frame_1_arrays args s ++ Jvm.staticLocs frame_1_statics s) 64 5696 → Post tb e args s (.returned v) u) :
    ArmFor flags0 classFile x code maxLocals ret World_1 tables_1 room_1 Calls_1 rest_1 Pre_1 Post := by
  intro l hfl _ _ p e ha hc hk s m args below hf hA hF happ hP
  obtain ⟨hcalls, hrest, hpre⟩ := hP
  obtain ⟨-, -, -, hnamed, -, -, -, hat⟩ := (Spec.applies_iff hf).mp happ
  obtain ⟨hg, hn⟩ := and_e (Cond.before_iff.mp (show (Jvm.Cond.and given_1 narrow_1).before args s = true from hpre))
  obtain ⟨h1, g0⟩ := and_e hg
  obtain ⟨k0, g1⟩ := and_e g0
  obtain ⟨k1, g2⟩ := and_e g1
  obtain ⟨w0, w1, w2, rfl⟩ : ∃ w0 w1 w2 : Value, args = #[w0, w1, w2] := by
    have hs : args.size = 3 := by simpa [Cond.value, given_1] using h1
    obtain ⟨L⟩ := args
    match L, hs with
    | [w0, w1, w2], _ => exact ⟨w0, w1, w2, rfl⟩
  have hw := fun d (hd : d ∈ tables_1) => atoms_spec (ws := Jvm.Cond.code x code maxLocals ret :: tables_1) hat d (List.mem_cons_of_mem _ hd)
  obtain ⟨hsets, hown0⟩ := atoms_of _ (rest_1_c_eq ▸ (show rest_1_c.before _ s = true from hrest))
  have hfit : Fit s := fun {y c} hc i hi => by
    obtain ⟨ha, rfl⟩ := Array.getElem?_eq_some_iff.mp hc
    have q := List.all_eq_true.mp ((Array.all_eq_true_iff_forall_mem.mp hF) _ (Array.getElem_mem ha)) i (List.mem_range.mpr hi)
    simpa [Array.getElem?_eq_getElem hi] using q
  obtain ⟨i0, e0⟩ := isL_v k0
  obtain rfl : w0 = (.long i0) := Option.some.inj e0
  obtain ⟨i1, e1⟩ := is_v k1
  obtain rfl : w1 = (.int i1) := Option.some.inj e1
  obtain ⟨i2, e2⟩ := is_v g2
  obtain rfl : w2 = (.int i2) := Option.some.inj e2
  obtain ⟨cc, fv, ss⟩ := own_ss hsets
  obtain ⟨t1, t2, q1, q2, dt⟩ := own_dt hfit hw hsets
  obtain ⟨em, oe⟩ := own_oe hsets
  obtain ⟨n, o, h1, h2, h3, _, L, rfl, ⟨rfl, N⟩, hq⟩ := rm0 l s _ hw s.heap.size s.heap i0 i1 i2 cc fv ss (Od.start s) t1 t2 q1 q2 dt em oe rfl (hcalls.1 _ (List.mem_of_getElem? (i := 4) rfl)) (hcalls.1 _ (List.mem_of_getElem? (i := 2) rfl)) (hcalls.1 _ (List.mem_of_getElem? (i := 3) rfl)) (hcalls.1 _ (List.mem_of_getElem? (i := 1) rfl)) (hcalls.1 _ (List.mem_of_getElem? (i := 0) rfl)) (hsets _ (List.mem_of_getElem? (i := 2) rfl)) hfit p e ha hc hk s m _ below hf ((Spec.applies_iff_loose hf).mp happ).1 ⟨rfl, State.Warmed39.refl s, rfl, IB.start⟩ trivial
  refine ⟨n, _, h1, h2, h3, hpost _ _ _ _ _ _ ⟨Cond.after_iff.mpr rfl, Cond.after_iff.mpr (eq_i res_at (Term.int_eval (1)) rfl), trivial⟩ ⟨hq.1, hq.2.1, hq.2.2.1, (hq.2.2.2.sift fun y hy => Or.inr (N y hy)).mono (by decide) (by decide)⟩⟩
theorem main_1_1 : Claimed_1_1 := comes_1 fun _ _ _ _ _ _ h hF => ⟨h.1, hF⟩
theorem main_1_2 : Claimed_1_2 := comes_1 fun _ _ _ _ _ _ h hF => ⟨h.2.1, hF⟩
end Jvm.Pilot.@@N@@
namespace Jvm.Pilot.@@N@@
open Jvm Jvm.ClassFile Sem Op Lib Jvm.Free Jvm.Stand Jvm.Pilot.@@N@@.Jvm.D
/-! MADE BY PROGRAM (witnessworld.py) out of the Statement's table words and the real class files: 37 classes; the members and pool entries that the words name. The judged class is class 1, her method 2. -/
namespace start1
open Jvm.ClassFile
def u (s : String) : CpInfo := .utf8 (stringToUtf16 s)
/-- a pool by its gaps: so many unusable entries, then the entry; so many at the end -/
def gap : Nat → List CpInfo → List CpInfo
  | 0, r => r
  | n + 1, r => .unusable :: gap n r
def poolList (es : List (Nat × CpInfo)) (last : Nat) : List CpInfo := es.foldr (fun e r => gap e.1 (e.2 :: r)) (gap last [])
def pool (es : List (Nat × CpInfo)) (last : Nat) : Array CpInfo := ⟨poolList es last⟩
def fileOf (pool : Array CpInfo) (this : Nat) (attrs : Array Attribute := #[]) (ms : Array MethodInfo := #[]) (fl : Nat := 33) (sup : Nat := 0) (ifs : Array Nat := #[]) (fds : Array FieldInfo := #[]) : ClassFile where
  minorVersion := 0
  majorVersion := 65
  constantPool := pool
  accessFlags := fl
  thisClass := this
  superClass := sup
  interfaces := ifs
  fields := fds
  methods := ms
  attributes := attrs
def plain (name : String) (sup : Option ClassId) : Class where
  name := name
  kind := .ordinary
  loader := none
  accessFlags := 33
  super := sup
  interfaces := #[]
  cf := none
  fields := #[]
  methods := #[]
  instanceTypes := #[]
  staticTypes := #[]
  resolved := #[]
  callSites := []
  init := .initialized
  statics := none
  mirror := none

def pool0 : Array CpInfo := pool [(5, u "<init>"), (0, u "()V"), (1, .class_ 10), (1, u "java/lang/Object"), (85, u "clone"), (0, u "()Ljava/lang/Object;")] 26

def k0c0 : Code := { maxStack := 0, maxLocals := 1, code := object_method_1_code, exceptionTable := #[], attributes := #[] }
def k0m0 : Method := { name := "<init>", desc := "()V", sig := { parameters := [], returnType := none }, accessFlags := 1, code := some k0c0 }
def k0m1 : Method := { name := "clone", desc := "()Ljava/lang/Object;", sig := { parameters := [], returnType := some (.object "java/lang/Object") }, accessFlags := 260, code := none }
/-- java/lang/Object -/
def k0 : Class := { plain "java/lang/Object" none with
  accessFlags := 33
  interfaces := #[]
  cf := some (fileOf pool0 8 #[] #[{ accessFlags := 1, nameIndex := 5, descriptorIndex := 6, attributes := #[] }, { accessFlags := 260, nameIndex := 96, descriptorIndex := 97, attributes := #[] }] 33 0 #[] #[])
  fields := #[]
  methods := #[k0m0, k0m1]
  instanceTypes := #[]
  staticTypes := #[]
  resolved := Array.replicate 124 none
  statics := none }

def pool1 : Array CpInfo := pool [(2, .class_ 4), (1, u "java/lang/Object"), (0, u "<init>"), (0, u "()V"), (2, .long 9223372036854775807), (1, .long 10), (1, .long 100), (1, .long 1000), (1, .long 10000), (1, .long 100000), (1, .long 1000000), (1, .long 10000000), (1, .long 100000000), (1, .long 1000000000), (1, .long 10000000000), (1, .long 100000000000), (1, .long 1000000000000), (1, .long 10000000000000), (1, .long 100000000000000), (1, .long 1000000000000000), (1, .long 10000000000000000), (1, .long 100000000000000000), (1, .long 1000000000000000000), (1, .methodref 48 49), (0, .class_ 50), (0, .nameAndType 51 52), (0, u "com/example/wrange/wrange/LengthWrittenPinLaw"), (0, u "digits"), (0, u "(J[J)I"), (0, .integer 2147483647), (0, .string 55), (0, u ""), (0, .methodref 57 58), (0, .class_ 59), (0, .nameAndType 60 61), (0, u "java/lang/String"), (0, u "valueOf"), (0, u "(C)Ljava/lang/String;"), (0, .methodref 57 63), (0, .nameAndType 5 64), (0, u "([C)V"), (0, .methodref 66 67), (0, .class_ 68), (0, .nameAndType 69 70), (0, u "java/util/Optional"), (0, u "of"), (0, u "(Ljava/lang/Object;)Ljava/util/Optional;"), (0, .methodref 66 72), (0, .nameAndType 73 74), (0, u "empty"), (0, u "()Ljava/util/Optional;"), (0, .class_ 76), (0, u "com/example/wrange/wrange/IntegrityCheck$Length"), (0, .methodref 75 78), (0, .nameAndType 5 79), (0, u "(JLjava/util/Optional;)V"), (0, .methodref 75 81), (0, .nameAndType 82 83), (0, u "written"), (0, u "()Ljava/lang/String;"), (0, .methodref 57 85), (0, .nameAndType 86 87), (0, u "length"), (0, u "()I"), (0, .methodref 57 89), (0, .nameAndType 90 91), (0, u "charAt"), (0, u "(I)C"), (3, u "law"), (0, u "(JII)Z")] 8

def k1m0 : Method := { name := "<init>", desc := "()V", sig := { parameters := [], returnType := none }, accessFlags := 1, code := none }
def k1c1 : Code := { maxStack := 4, maxLocals := 4, code := method_2_code, exceptionTable := #[], attributes := #[] }
def k1m1 : Method := { name := "digits", desc := "(J[J)I", sig := { parameters := [.long, (.array .long)], returnType := some .int }, accessFlags := 10, code := some k1c1 }
def k1c2 : Code := { maxStack := 6, maxLocals := 18, code := code, exceptionTable := #[], attributes := #[] }
def k1m2 : Method := { name := "law", desc := "(JII)Z", sig := { parameters := [.long, .int, .int], returnType := some .boolean }, accessFlags := 9, code := some k1c2 }
/-- com/example/wrange/wrange/LengthWrittenPinLaw -/
def k1 : Class := { plain "com/example/wrange/wrange/LengthWrittenPinLaw" (some 0) with
  accessFlags := 49
  interfaces := #[]
  cf := some (fileOf pool1 48 #[] #[{ accessFlags := 1, nameIndex := 5, descriptorIndex := 6, attributes := #[] }, { accessFlags := 10, nameIndex := 51, descriptorIndex := 52, attributes := #[] }, { accessFlags := 9, nameIndex := 95, descriptorIndex := 96, attributes := #[] }] 49 2 #[] #[])
  fields := #[]
  methods := #[k1m0, k1m1, k1m2]
  instanceTypes := #[]
  staticTypes := #[]
  resolved := Array.replicate 105 none
  statics := none }

def pool2 : Array CpInfo := pool [(1, .class_ 2), (0, u "java/io/Serializable"), (0, .class_ 4), (0, u "java/lang/Object")] 2

/-- java/io/Serializable -/
def k2 : Class := { plain "java/io/Serializable" (some 0) with
  accessFlags := 1537
  interfaces := #[]
  cf := some (fileOf pool2 1 #[] #[] 1537 3 #[] #[])
  fields := #[]
  methods := #[]
  instanceTypes := #[]
  staticTypes := #[]
  resolved := Array.replicate 7 none
  statics := none }

def pool3 : Array CpInfo := pool [(1, .class_ 2), (0, u "java/lang/Comparable"), (0, .class_ 4), (0, u "java/lang/Object")] 7

/-- java/lang/Comparable -/
def k3 : Class := { plain "java/lang/Comparable" (some 0) with
  accessFlags := 1537
  interfaces := #[]
  cf := some (fileOf pool3 1 #[] #[] 1537 3 #[] #[])
  fields := #[]
  methods := #[]
  instanceTypes := #[]
  staticTypes := #[]
  resolved := Array.replicate 12 none
  statics := none }

def pool4 : Array CpInfo := pool [(2, .class_ 4), (1, u "java/lang/CharSequence"), (42, .class_ 48), (0, u "java/lang/CharSequence$1CodePointIterator"), (10, .class_ 60), (0, u "java/lang/CharSequence$1CharIterator"), (5, .class_ 67), (0, u "java/lang/Object")] 63

/-- java/lang/CharSequence -/
def k4 : Class := { plain "java/lang/CharSequence" (some 0) with
  accessFlags := 1537
  interfaces := #[]
  cf := some (fileOf pool4 2 #[.nestMembers #[47, 59]] #[] 1537 66 #[] #[])
  fields := #[]
  methods := #[]
  instanceTypes := #[]
  staticTypes := #[]
  resolved := Array.replicate 131 none
  statics := none }

def pool5 : Array CpInfo := pool [(1, .class_ 2), (0, u "java/lang/constant/Constable"), (0, .class_ 4), (0, u "java/lang/Object")] 6

/-- java/lang/constant/Constable -/
def k5 : Class := { plain "java/lang/constant/Constable" (some 0) with
  accessFlags := 1537
  interfaces := #[]
  cf := some (fileOf pool5 1 #[] #[] 1537 3 #[] #[])
  fields := #[]
  methods := #[]
  instanceTypes := #[]
  staticTypes := #[]
  resolved := Array.replicate 11 none
  statics := none }

def pool6 : Array CpInfo := pool [(1, .class_ 2), (0, u "java/lang/constant/ConstantDesc"), (0, .class_ 4), (0, u "java/lang/Object")] 32

/-- java/lang/constant/ConstantDesc -/
def k6 : Class := { plain "java/lang/constant/ConstantDesc" (some 0) with
  accessFlags := 1537
  interfaces := #[]
  cf := some (fileOf pool6 1 #[] #[] 1537 3 #[] #[])
  fields := #[]
  methods := #[]
  instanceTypes := #[]
  staticTypes := #[]
  resolved := Array.replicate 37 none
  statics := none }

def pool7 : Array CpInfo := pool [(1, .methodref 2 3), (0, .class_ 4), (0, .nameAndType 5 6), (0, u "java/lang/Object"), (0, u "<init>"), (0, u "()V"), (2, .fieldref 10 11), (0, .class_ 12), (0, .nameAndType 13 14), (0, u "java/lang/String"), (0, u "value"), (0, u "[B"), (0, .fieldref 10 16), (0, .nameAndType 17 18), (0, u "coder"), (0, u "B"), (2, u "hash"), (0, u "I"), (2, u "hashIsZero"), (0, u "Z"), (0, .methodref 10 28), (0, .nameAndType 5 29), (0, u "([CIILjava/lang/Void;)V"), (8, .fieldref 10 39), (0, .nameAndType 40 26), (0, u "COMPACT_STRINGS"), (1, .class_ 44), (1, u "java/lang/StringUTF16"), (0, u "compress"), (1, .methodref 42 48), (0, .nameAndType 49 50), (0, u "coderFromArrayLen"), (0, u "([BI)B"), (2, u "toBytes"), (0, .methodref 55 56), (0, .class_ 57), (0, .nameAndType 58 59), (0, u "java/util/Arrays"), (0, u "copyOfRange"), (0, u "([BII)[B"), (47, .class_ 109), (1, u "java/lang/StringLatin1"), (32, u "()Z"), (34, .methodref 42 178), (0, .nameAndType 45 179), (0, u "([CII)[B"), (13, .class_ 195), (1, u "java/lang/System"), (13, .methodref 10 210), (0, .nameAndType 5 211), (0, u "([BB)V"), (0, .methodref 193 213), (0, .nameAndType 214 215), (0, u "arraycopy"), (0, u "(Ljava/lang/Object;ILjava/lang/Object;II)V"), (118, u "()I"), (0, .methodref 10 336), (0, .nameAndType 17 337), (0, u "()B"), (2, u "()[B"), (22, u "([BI)C"), (5, u "(C)Z"), (21, u "(II)V"), (35, u "(I)C"), (61, .methodref 10 490), (0, .nameAndType 5 491), (0, u "(Ljava/lang/AbstractStringBuilder;Ljava/lang/Void;)V"), (0, .methodref 10 493), (0, .nameAndType 494 142), (0, u "isLatin1"), (0, .methodref 107 496), (0, .nameAndType 497 363), (0, u "charAt"), (3, u "checkIndex"), (4, .nameAndType 507 334), (0, u "length"), (24, u "getBytes"), (16, .methodref 550 506), (0, .class_ 551), (0, u "java/lang/AbstractStringBuilder"), (0, .methodref 550 553), (0, .nameAndType 554 340), (0, u "getValue"), (20, .class_ 576), (0, u "java/lang/CharSequence"), (22, u "CASE_INSENSITIVE_ORDER"), (0, u "Ljava/util/Comparator;"), (181, u "valueOf"), (0, u "(C)Ljava/lang/String;"), (37, u "([BIB)V"), (188, u "([C)V"), (4, .methodref 107 1016), (0, .nameAndType 1017 369), (0, u "canEncode"), (0, .methodref 107 1019), (0, .nameAndType 53 1020), (0, u "(C)[B"), (26, .methodref 550 493), (5, .fieldref 1054 1055), (0, .class_ 1056), (0, .nameAndType 1057 1058), (0, u "jdk/internal/util/Preconditions"), (0, u "SIOOBE_FORMATTER"), (0, u "Ljava/util/function/BiFunction;"), (0, .methodref 1054 1060), (0, .nameAndType 501 1061), (0, u "(IILjava/util/function/BiFunction;)I"), (39, u "serialPersistentFields"), (0, u "[Ljava/io/ObjectStreamField;"), (0, .class_ 1104), (0, u "java/lang/String$CaseInsensitiveComparator"), (1, .class_ 1107), (0, u "java/io/Serializable"), (0, .class_ 1109), (0, u "java/lang/Comparable"), (0, .class_ 1111), (0, u "java/lang/constant/Constable"), (0, .class_ 1113), (0, u "java/lang/constant/ConstantDesc"), (2, u "serialVersionUID"), (0, u "J"), (3, u "REPL"), (0, u "C"), (2, u "LATIN1"), (1, u "UTF16"), (105, u "(Ljava/lang/StringBuilder;)V")] 217

def k7m0 : Method := { name := "<init>", desc := "()V", sig := { parameters := [], returnType := none }, accessFlags := 1, code := none }
def k7c1 : Code := { maxStack := 5, maxLocals := 2, code := jdk_42_method_3_code, exceptionTable := #[], attributes := #[] }
def k7m1 : Method := { name := "<init>", desc := "([C)V", sig := { parameters := [(.array .char)], returnType := none }, accessFlags := 1, code := some k7c1 }
def k7c2 : Code := { maxStack := 3, maxLocals := 2, code := jdk_42_method_53_code, exceptionTable := #[], attributes := #[] }
def k7m2 : Method := { name := "<init>", desc := "(Ljava/lang/StringBuilder;)V", sig := { parameters := [(.object "java/lang/StringBuilder")], returnType := none }, accessFlags := 1, code := some k7c2 }
def k7c3 : Code := { maxStack := 2, maxLocals := 1, code := jdk_42_method_54_code, exceptionTable := #[], attributes := #[] }
def k7m3 : Method := { name := "length", desc := "()I", sig := { parameters := [], returnType := some .int }, accessFlags := 1, code := some k7c3 }
def k7c4 : Code := { maxStack := 2, maxLocals := 2, code := jdk_42_method_56_code, exceptionTable := #[], attributes := #[] }
def k7m4 : Method := { name := "charAt", desc := "(I)C", sig := { parameters := [.int], returnType := some .char }, accessFlags := 1, code := some k7c4 }
def k7c5 : Code := { maxStack := 4, maxLocals := 1, code := jdk_42_method_139_code, exceptionTable := #[], attributes := #[] }
def k7m5 : Method := { name := "valueOf", desc := "(C)Ljava/lang/String;", sig := { parameters := [.char], returnType := some (.object "java/lang/String") }, accessFlags := 9, code := some k7c5 }
def k7c6 : Code := { maxStack := 5, maxLocals := 4, code := jdk_42_method_147_code, exceptionTable := #[], attributes := #[] }
def k7m6 : Method := { name := "getBytes", desc := "([BIB)V", sig := { parameters := [(.array .byte), .int, .byte], returnType := none }, accessFlags := 0, code := some k7c6 }
def k7c7 : Code := { maxStack := 4, maxLocals := 6, code := jdk_42_method_149_code, exceptionTable := #[], attributes := #[] }
def k7m7 : Method := { name := "<init>", desc := "([CIILjava/lang/Void;)V", sig := { parameters := [(.array .char), .int, .int, (.object "java/lang/Void")], returnType := none }, accessFlags := 2, code := some k7c7 }
def k7c8 : Code := { maxStack := 5, maxLocals := 5, code := jdk_42_method_150_code, exceptionTable := #[], attributes := #[] }
def k7m8 : Method := { name := "<init>", desc := "(Ljava/lang/AbstractStringBuilder;Ljava/lang/Void;)V", sig := { parameters := [(.object "java/lang/AbstractStringBuilder"), (.object "java/lang/Void")], returnType := none }, accessFlags := 0, code := some k7c8 }
def k7c9 : Code := { maxStack := 2, maxLocals := 3, code := jdk_42_method_151_code, exceptionTable := #[], attributes := #[] }
def k7m9 : Method := { name := "<init>", desc := "([BB)V", sig := { parameters := [(.array .byte), .byte], returnType := none }, accessFlags := 0, code := some k7c9 }
def k7c10 : Code := { maxStack := 1, maxLocals := 1, code := jdk_42_method_152_code, exceptionTable := #[], attributes := #[] }
def k7m10 : Method := { name := "coder", desc := "()B", sig := { parameters := [], returnType := some .byte }, accessFlags := 0, code := some k7c10 }
def k7c11 : Code := { maxStack := 1, maxLocals := 1, code := jdk_42_method_154_code, exceptionTable := #[], attributes := #[] }
def k7m11 : Method := { name := "isLatin1", desc := "()Z", sig := { parameters := [], returnType := some .boolean }, accessFlags := 0, code := some k7c11 }
def k7c12 : Code := { maxStack := 3, maxLocals := 2, code := jdk_42_method_155_code, exceptionTable := #[], attributes := #[] }
def k7m12 : Method := { name := "checkIndex", desc := "(II)V", sig := { parameters := [.int, .int], returnType := none }, accessFlags := 8, code := some k7c12 }
/-- java/lang/String -/
def k7 : Class := { plain "java/lang/String" (some 0) with
  accessFlags := 49
  interfaces := #[2, 3, 4, 5, 6]
  cf := some (fileOf pool7 10 #[.nestMembers #[1103]] #[{ accessFlags := 1, nameIndex := 5, descriptorIndex := 6, attributes := #[] }, { accessFlags := 1, nameIndex := 5, descriptorIndex := 1010, attributes := #[] }, { accessFlags := 1, nameIndex := 5, descriptorIndex := 1233, attributes := #[] }, { accessFlags := 1, nameIndex := 507, descriptorIndex := 334, attributes := #[] }, { accessFlags := 1, nameIndex := 497, descriptorIndex := 427, attributes := #[] }, { accessFlags := 9, nameIndex := 782, descriptorIndex := 783, attributes := #[] }, { accessFlags := 0, nameIndex := 532, descriptorIndex := 821, attributes := #[] }, { accessFlags := 2, nameIndex := 5, descriptorIndex := 29, attributes := #[] }, { accessFlags := 0, nameIndex := 5, descriptorIndex := 491, attributes := #[] }, { accessFlags := 0, nameIndex := 5, descriptorIndex := 211, attributes := #[] }, { accessFlags := 0, nameIndex := 17, descriptorIndex := 337, attributes := #[] }, { accessFlags := 0, nameIndex := 494, descriptorIndex := 142, attributes := #[] }, { accessFlags := 8, nameIndex := 501, descriptorIndex := 391, attributes := #[] }] 49 2 #[1106, 1108, 575, 1110, 1112] #[{ accessFlags := 18, nameIndex := 13, descriptorIndex := 14, attributes := #[] }, { accessFlags := 18, nameIndex := 17, descriptorIndex := 18, attributes := #[] }, { accessFlags := 2, nameIndex := 21, descriptorIndex := 22, attributes := #[] }, { accessFlags := 2, nameIndex := 25, descriptorIndex := 26, attributes := #[] }, { accessFlags := 26, nameIndex := 1116, descriptorIndex := 1117, attributes := #[] }, { accessFlags := 24, nameIndex := 40, descriptorIndex := 26, attributes := #[] }, { accessFlags := 26, nameIndex := 1101, descriptorIndex := 1102, attributes := #[] }, { accessFlags := 26, nameIndex := 1121, descriptorIndex := 1122, attributes := #[] }, { accessFlags := 25, nameIndex := 599, descriptorIndex := 600, attributes := #[] }, { accessFlags := 24, nameIndex := 1125, descriptorIndex := 18, attributes := #[] }, { accessFlags := 24, nameIndex := 1127, descriptorIndex := 18, attributes := #[] }])
  fields := #[{ name := "value", type := (.array .byte), accessFlags := 18, slot := 0, constantValue := 0 }, { name := "coder", type := .byte, accessFlags := 18, slot := 1, constantValue := 0 }, { name := "hash", type := .int, accessFlags := 2, slot := 2, constantValue := 0 }, { name := "hashIsZero", type := .boolean, accessFlags := 2, slot := 3, constantValue := 0 }, { name := "serialVersionUID", type := .long, accessFlags := 26, slot := 0, constantValue := 0 }, { name := "COMPACT_STRINGS", type := .boolean, accessFlags := 24, slot := 1, constantValue := 0 }, { name := "serialPersistentFields", type := (.array (.object "java/io/ObjectStreamField")), accessFlags := 26, slot := 2, constantValue := 0 }, { name := "REPL", type := .char, accessFlags := 26, slot := 3, constantValue := 0 }, { name := "CASE_INSENSITIVE_ORDER", type := (.object "java/util/Comparator"), accessFlags := 25, slot := 4, constantValue := 0 }, { name := "LATIN1", type := .byte, accessFlags := 24, slot := 5, constantValue := 0 }, { name := "UTF16", type := .byte, accessFlags := 24, slot := 6, constantValue := 0 }]
  methods := #[k7m0, k7m1, k7m2, k7m3, k7m4, k7m5, k7m6, k7m7, k7m8, k7m9, k7m10, k7m11, k7m12]
  instanceTypes := #[(.array .byte), .byte, .int, .boolean]
  staticTypes := #[.long, .boolean, (.array (.object "java/io/ObjectStreamField")), .char, (.object "java/util/Comparator"), .byte, .byte]
  resolved := Array.replicate 1451 none
  statics := some 0 }

def pool8 : Array CpInfo := pool [(6, .class_ 8), (1, u "java/lang/Object"), (0, u "<init>"), (0, u "()V"), (1, .class_ 14), (1, u "java/lang/StringUTF16"), (31, u "$assertionsDisabled"), (0, u "Z"), (13, u "HI_BYTE_SHIFT"), (0, u "I"), (2, u "LO_BYTE_SHIFT"), (49, .methodref 12 116), (0, .nameAndType 117 118), (0, u "compress"), (0, u "([CI[BII)I"), (3, u "([CII)[B"), (138, u "coderFromArrayLen"), (0, u "([BI)B"), (106, .class_ 371), (1, u "java/lang/StringUTF16$LinesSpliterator"), (58, u "MAX_LENGTH"), (196, .class_ 628), (0, u "java/lang/StringUTF16$CodePointsSpliterator"), (0, .class_ 630), (0, u "java/lang/StringUTF16$CharsSpliterator")] 4

def k8m0 : Method := { name := "<init>", desc := "()V", sig := { parameters := [], returnType := none }, accessFlags := 0, code := none }
def k8c1 : Code := { maxStack := 2, maxLocals := 2, code := jdk_52_method_15_code, exceptionTable := #[], attributes := #[] }
def k8m1 : Method := { name := "coderFromArrayLen", desc := "([BI)B", sig := { parameters := [(.array .byte), .int], returnType := some .byte }, accessFlags := 8, code := some k8c1 }
def k8c2 : Code := { maxStack := 5, maxLocals := 6, code := jdk_52_method_16_code, exceptionTable := #[], attributes := #[] }
def k8m2 : Method := { name := "compress", desc := "([CII)[B", sig := { parameters := [(.array .char), .int, .int], returnType := some (.array .byte) }, accessFlags := 9, code := some k8c2 }
def k8c3 : Code := { maxStack := 3, maxLocals := 7, code := jdk_52_method_21_code, exceptionTable := #[], attributes := #[] }
def k8m3 : Method := { name := "compress", desc := "([CI[BII)I", sig := { parameters := [(.array .char), .int, (.array .byte), .int, .int], returnType := some .int }, accessFlags := 9, code := some k8c3 }
/-- java/lang/StringUTF16 -/
def k8 : Class := { plain "java/lang/StringUTF16" (some 0) with
  accessFlags := 48
  interfaces := #[]
  cf := some (fileOf pool8 12 #[.nestMembers #[627, 629, 369]] #[{ accessFlags := 0, nameIndex := 9, descriptorIndex := 10, attributes := #[] }, { accessFlags := 8, nameIndex := 261, descriptorIndex := 262, attributes := #[] }, { accessFlags := 9, nameIndex := 117, descriptorIndex := 122, attributes := #[] }, { accessFlags := 9, nameIndex := 117, descriptorIndex := 118, attributes := #[] }] 48 6 #[] #[{ accessFlags := 26, nameIndex := 61, descriptorIndex := 62, attributes := #[] }, { accessFlags := 26, nameIndex := 65, descriptorIndex := 62, attributes := #[] }, { accessFlags := 24, nameIndex := 430, descriptorIndex := 62, attributes := #[] }, { accessFlags := 4120, nameIndex := 46, descriptorIndex := 47, attributes := #[] }])
  fields := #[{ name := "HI_BYTE_SHIFT", type := .int, accessFlags := 26, slot := 0, constantValue := 0 }, { name := "LO_BYTE_SHIFT", type := .int, accessFlags := 26, slot := 1, constantValue := 0 }, { name := "MAX_LENGTH", type := .int, accessFlags := 24, slot := 2, constantValue := 0 }, { name := "$assertionsDisabled", type := .boolean, accessFlags := 4120, slot := 3, constantValue := 0 }]
  methods := #[k8m0, k8m1, k8m2, k8m3]
  instanceTypes := #[]
  staticTypes := #[.int, .int, .int, .boolean]
  resolved := Array.replicate 635 none
  statics := none }

def pool9 : Array CpInfo := pool [(1, .fieldref 2 3), (0, .class_ 4), (0, .nameAndType 5 6), (0, u "java/util/Optional"), (0, u "EMPTY"), (0, u "Ljava/util/Optional;"), (0, .methodref 8 9), (0, .class_ 10), (0, .nameAndType 11 12), (0, u "java/lang/Object"), (0, u "<init>"), (0, u "()V"), (0, .fieldref 2 14), (0, .nameAndType 15 16), (0, u "value"), (0, u "Ljava/lang/Object;"), (0, .methodref 18 19), (0, .class_ 20), (0, .nameAndType 21 22), (0, u "java/util/Objects"), (0, u "requireNonNull"), (0, u "(Ljava/lang/Object;)Ljava/lang/Object;"), (0, .methodref 2 24), (0, .nameAndType 11 25), (0, u "(Ljava/lang/Object;)V"), (17, .methodref 2 44), (0, .nameAndType 45 46), (0, u "isEmpty"), (0, u "()Z"), (6, .methodref 2 54), (0, .nameAndType 55 56), (0, u "empty"), (0, u "()Ljava/util/Optional;"), (0, .interfaceMethodref 58 59), (0, .class_ 60), (0, .nameAndType 61 22), (0, u "java/util/function/Function"), (0, u "apply"), (0, .methodref 2 63), (0, .nameAndType 64 65), (0, u "ofNullable"), (0, u "(Ljava/lang/Object;)Ljava/util/Optional;"), (16, u "of"), (63, u "map"), (0, u "(Ljava/util/function/Function;)Ljava/util/Optional;"), (17, u "orElse")] 21

def k9c0 : Code := { maxStack := 1, maxLocals := 1, code := jdk_32_method_1_code, exceptionTable := #[], attributes := #[] }
def k9m0 : Method := { name := "empty", desc := "()Ljava/util/Optional;", sig := { parameters := [], returnType := some (.object "java/util/Optional") }, accessFlags := 9, code := some k9c0 }
def k9c1 : Code := { maxStack := 2, maxLocals := 2, code := jdk_32_method_2_code, exceptionTable := #[], attributes := #[] }
def k9m1 : Method := { name := "<init>", desc := "(Ljava/lang/Object;)V", sig := { parameters := [(.object "java/lang/Object")], returnType := none }, accessFlags := 2, code := some k9c1 }
def k9c2 : Code := { maxStack := 3, maxLocals := 1, code := jdk_32_method_3_code, exceptionTable := #[], attributes := #[] }
def k9m2 : Method := { name := "of", desc := "(Ljava/lang/Object;)Ljava/util/Optional;", sig := { parameters := [(.object "java/lang/Object")], returnType := some (.object "java/util/Optional") }, accessFlags := 9, code := some k9c2 }
def k9c3 : Code := { maxStack := 3, maxLocals := 1, code := jdk_32_method_4_code, exceptionTable := #[], attributes := #[] }
def k9m3 : Method := { name := "ofNullable", desc := "(Ljava/lang/Object;)Ljava/util/Optional;", sig := { parameters := [(.object "java/lang/Object")], returnType := some (.object "java/util/Optional") }, accessFlags := 9, code := some k9c3 }
def k9c4 : Code := { maxStack := 1, maxLocals := 1, code := jdk_32_method_7_code, exceptionTable := #[], attributes := #[] }
def k9m4 : Method := { name := "isEmpty", desc := "()Z", sig := { parameters := [], returnType := some .boolean }, accessFlags := 1, code := some k9c4 }
def k9c5 : Code := { maxStack := 2, maxLocals := 2, code := jdk_32_method_11_code, exceptionTable := #[], attributes := #[] }
def k9m5 : Method := { name := "map", desc := "(Ljava/util/function/Function;)Ljava/util/Optional;", sig := { parameters := [(.object "java/util/function/Function")], returnType := some (.object "java/util/Optional") }, accessFlags := 1, code := some k9c5 }
def k9c6 : Code := { maxStack := 1, maxLocals := 2, code := jdk_32_method_15_code, exceptionTable := #[], attributes := #[] }
def k9m6 : Method := { name := "orElse", desc := "(Ljava/lang/Object;)Ljava/lang/Object;", sig := { parameters := [(.object "java/lang/Object")], returnType := some (.object "java/lang/Object") }, accessFlags := 1, code := some k9c6 }
/-- java/util/Optional -/
def k9 : Class := { plain "java/util/Optional" (some 0) with
  accessFlags := 49
  interfaces := #[]
  cf := some (fileOf pool9 2 #[] #[{ accessFlags := 9, nameIndex := 55, descriptorIndex := 56, attributes := #[] }, { accessFlags := 2, nameIndex := 11, descriptorIndex := 25, attributes := #[] }, { accessFlags := 9, nameIndex := 82, descriptorIndex := 65, attributes := #[] }, { accessFlags := 9, nameIndex := 64, descriptorIndex := 65, attributes := #[] }, { accessFlags := 1, nameIndex := 45, descriptorIndex := 46, attributes := #[] }, { accessFlags := 1, nameIndex := 146, descriptorIndex := 147, attributes := #[] }, { accessFlags := 1, nameIndex := 165, descriptorIndex := 22, attributes := #[] }] 49 8 #[] #[{ accessFlags := 26, nameIndex := 5, descriptorIndex := 6, attributes := #[] }, { accessFlags := 18, nameIndex := 15, descriptorIndex := 16, attributes := #[] }])
  fields := #[{ name := "EMPTY", type := (.object "java/util/Optional"), accessFlags := 26, slot := 0, constantValue := 0 }, { name := "value", type := (.object "java/lang/Object"), accessFlags := 18, slot := 0, constantValue := 0 }]
  methods := #[k9m0, k9m1, k9m2, k9m3, k9m4, k9m5, k9m6]
  instanceTypes := #[(.object "java/lang/Object")]
  staticTypes := #[(.object "java/util/Optional")]
  resolved := Array.replicate 187 none
  statics := some 1 }

def pool10 : Array CpInfo := pool [(1, .methodref 2 3), (0, .class_ 4), (0, .nameAndType 5 6), (0, u "java/lang/Object"), (0, u "<init>"), (0, u "()V"), (0, .class_ 8), (0, u "java/lang/Record")] 13

def k10c0 : Code := { maxStack := 1, maxLocals := 1, code := jdk_30_method_1_code, exceptionTable := #[], attributes := #[] }
def k10m0 : Method := { name := "<init>", desc := "()V", sig := { parameters := [], returnType := none }, accessFlags := 4, code := some k10c0 }
/-- java/lang/Record -/
def k10 : Class := { plain "java/lang/Record" (some 0) with
  accessFlags := 1057
  interfaces := #[]
  cf := some (fileOf pool10 7 #[] #[{ accessFlags := 4, nameIndex := 5, descriptorIndex := 6, attributes := #[] }] 1057 2 #[] #[])
  fields := #[]
  methods := #[k10m0]
  instanceTypes := #[]
  staticTypes := #[]
  resolved := Array.replicate 22 none
  statics := none }

def pool11 : Array CpInfo := pool [(1, .class_ 2), (0, u "java/lang/StringBuilder"), (0, .methodref 1 4), (0, .nameAndType 5 6), (0, u "<init>"), (0, u "()V"), (0, .methodref 1 8), (0, .nameAndType 9 10), (0, u "append"), (0, u "(Ljava/lang/String;)Ljava/lang/StringBuilder;"), (0, .invokeDynamic 0 12), (0, .nameAndType 13 14), (0, u "apply"), (0, u "()Ljava/util/function/Function;"), (0, .methodref 16 17), (0, .class_ 18), (0, .nameAndType 19 20), (0, u "java/util/Optional"), (0, u "map"), (0, u "(Ljava/util/function/Function;)Ljava/util/Optional;"), (0, .string 22), (0, u ""), (0, .methodref 16 24), (0, .nameAndType 25 26), (0, u "orElse"), (0, u "(Ljava/lang/Object;)Ljava/lang/Object;"), (0, .class_ 28), (0, u "java/lang/String"), (0, .methodref 1 30), (0, .nameAndType 31 32), (0, u "toString"), (0, u "()Ljava/lang/String;"), (0, .string 34), (0, u ","), (0, .class_ 36), (0, u "com/example/wrange/wrange/IntegrityCheck"), (0, .class_ 38), (0, u "java/lang/Object"), (7, u "withCharset"), (0, u "(Ljava/lang/String;Ljava/util/Optional;)Ljava/lang/String;"), (3, u "lambda$withCharset$0"), (0, u "(Ljava/lang/String;)Ljava/lang/String;"), (3, .class_ 57), (0, u "com/example/wrange/wrange/IntegrityCheck$Md5"), (0, .class_ 59), (0, u "com/example/wrange/wrange/IntegrityCheck$Length"), (0, .class_ 61), (0, u "com/example/wrange/wrange/IntegrityCheck$Kind"), (2, .methodType 26), (0, .methodHandle 6 66), (0, .interfaceMethodref 35 67), (0, .nameAndType 51 52), (0, .methodType 52), (0, .methodHandle 6 70), (0, .methodref 71 72), (0, .class_ 73), (0, .nameAndType 74 75), (0, u "java/lang/invoke/LambdaMetafactory"), (0, u "metafactory"), (0, u "(Ljava/lang/invoke/MethodHandles$Lookup;Ljava/lang/String;Ljava/lang/invoke/MethodType;Ljava/lang/invoke/MethodType;Ljava/lang/invoke/MethodHandle;Ljava/lang/invoke/MethodType;)Ljava/lang/invoke/CallSite;")] 9

def k11c0 : Code := { maxStack := 3, maxLocals := 2, code := prog_12_method_4_code, exceptionTable := #[], attributes := #[] }
def k11m0 : Method := { name := "withCharset", desc := "(Ljava/lang/String;Ljava/util/Optional;)Ljava/lang/String;", sig := { parameters := [(.object "java/lang/String"), (.object "java/util/Optional")], returnType := some (.object "java/lang/String") }, accessFlags := 10, code := some k11c0 }
def k11c1 : Code := { maxStack := 2, maxLocals := 1, code := prog_12_method_5_code, exceptionTable := #[], attributes := #[] }
def k11m1 : Method := { name := "lambda$withCharset$0", desc := "(Ljava/lang/String;)Ljava/lang/String;", sig := { parameters := [(.object "java/lang/String")], returnType := some (.object "java/lang/String") }, accessFlags := 4106, code := some k11c1 }
/-- com/example/wrange/wrange/IntegrityCheck -/
def k11 : Class := { plain "com/example/wrange/wrange/IntegrityCheck" (some 0) with
  accessFlags := 1537
  interfaces := #[]
  cf := some (fileOf pool11 35 #[.nestMembers #[56, 58, 60], .bootstrapMethods #[⟨69, #[64, 65, 68]⟩]] #[{ accessFlags := 10, nameIndex := 46, descriptorIndex := 47, attributes := #[] }, { accessFlags := 4106, nameIndex := 51, descriptorIndex := 52, attributes := #[] }] 1537 37 #[] #[])
  fields := #[]
  methods := #[k11m0, k11m1]
  instanceTypes := #[]
  staticTypes := #[]
  resolved := Array.replicate 85 none
  callSites := [(0, 12, .constant 4)]
  statics := none }

def pool12 : Array CpInfo := pool [(1, .methodref 2 3), (0, .class_ 4), (0, .nameAndType 5 6), (0, u "java/lang/Record"), (0, u "<init>"), (0, u "()V"), (2, .class_ 10), (0, u "java/lang/StringBuilder"), (0, .methodref 9 3), (2, .methodref 9 15), (0, .nameAndType 16 17), (0, u "append"), (0, u "(Ljava/lang/String;)Ljava/lang/StringBuilder;"), (0, .methodref 9 19), (0, .nameAndType 16 20), (0, u "(J)Ljava/lang/StringBuilder;"), (0, .methodref 9 22), (0, .nameAndType 23 24), (0, u "toString"), (0, u "()Ljava/lang/String;"), (3, .string 29), (0, u "charset"), (0, .methodref 31 32), (0, .class_ 33), (0, .nameAndType 34 35), (0, u "java/util/Objects"), (0, u "requireNonNull"), (0, u "(Ljava/lang/Object;Ljava/lang/String;)Ljava/lang/Object;"), (0, .fieldref 37 38), (0, .class_ 39), (0, .nameAndType 40 41), (0, u "com/example/wrange/wrange/IntegrityCheck$Length"), (0, u "characters"), (0, u "J"), (0, .fieldref 37 43), (0, .nameAndType 29 44), (0, u "Ljava/util/Optional;"), (6, .string 52), (0, u "length="), (0, .interfaceMethodref 54 55), (0, .class_ 56), (0, .nameAndType 57 58), (0, u "com/example/wrange/wrange/IntegrityCheck"), (0, u "withCharset"), (0, u "(Ljava/lang/String;Ljava/util/Optional;)Ljava/lang/String;"), (13, u "(JLjava/util/Optional;)V"), (9, u "written")] 29

def k12c0 : Code := { maxStack := 5, maxLocals := 4, code := prog_14_method_1_code, exceptionTable := #[], attributes := #[] }
def k12m0 : Method := { name := "<init>", desc := "(JLjava/util/Optional;)V", sig := { parameters := [.long, (.object "java/util/Optional")], returnType := none }, accessFlags := 1, code := some k12c0 }
def k12c1 : Code := { maxStack := 3, maxLocals := 1, code := prog_14_method_3_code, exceptionTable := #[], attributes := #[] }
def k12m1 : Method := { name := "written", desc := "()Ljava/lang/String;", sig := { parameters := [], returnType := some (.object "java/lang/String") }, accessFlags := 1, code := some k12c1 }
/-- com/example/wrange/wrange/IntegrityCheck$Length -/
def k12 : Class := { plain "com/example/wrange/wrange/IntegrityCheck$Length" (some 10) with
  accessFlags := 49
  interfaces := #[11]
  cf := some (fileOf pool12 37 #[.nestHost 54] #[{ accessFlags := 1, nameIndex := 5, descriptorIndex := 72, attributes := #[] }, { accessFlags := 1, nameIndex := 82, descriptorIndex := 24, attributes := #[] }] 49 2 #[54] #[{ accessFlags := 18, nameIndex := 40, descriptorIndex := 41, attributes := #[] }, { accessFlags := 18, nameIndex := 29, descriptorIndex := 44, attributes := #[] }])
  fields := #[{ name := "characters", type := .long, accessFlags := 18, slot := 0, constantValue := 0 }, { name := "charset", type := (.object "java/util/Optional"), accessFlags := 18, slot := 1, constantValue := 0 }]
  methods := #[k12m0, k12m1]
  instanceTypes := #[.long, (.object "java/util/Optional")]
  staticTypes := #[]
  resolved := Array.replicate 112 none
  statics := none }

def pool13 : Array CpInfo := pool [(2, .class_ 4), (1, u "java/lang/Object"), (0, u "<init>"), (0, u "()V"), (35, .class_ 44), (1, u "java/util/Objects"), (0, u "requireNonNull"), (0, u "(Ljava/lang/Object;)Ljava/lang/Object;"), (47, u "(Ljava/lang/Object;Ljava/lang/String;)Ljava/lang/Object;")] 89

def k13m0 : Method := { name := "<init>", desc := "()V", sig := { parameters := [], returnType := none }, accessFlags := 2, code := none }
def k13c1 : Code := { maxStack := 2, maxLocals := 1, code := jdk_31_method_10_code, exceptionTable := #[], attributes := #[] }
def k13m1 : Method := { name := "requireNonNull", desc := "(Ljava/lang/Object;)Ljava/lang/Object;", sig := { parameters := [(.object "java/lang/Object")], returnType := some (.object "java/lang/Object") }, accessFlags := 9, code := some k13c1 }
def k13c2 : Code := { maxStack := 3, maxLocals := 2, code := jdk_31_method_11_code, exceptionTable := #[], attributes := #[] }
def k13m2 : Method := { name := "requireNonNull", desc := "(Ljava/lang/Object;Ljava/lang/String;)Ljava/lang/Object;", sig := { parameters := [(.object "java/lang/Object"), (.object "java/lang/String")], returnType := some (.object "java/lang/Object") }, accessFlags := 9, code := some k13c2 }
/-- java/util/Objects -/
def k13 : Class := { plain "java/util/Objects" (some 0) with
  accessFlags := 49
  interfaces := #[]
  cf := some (fileOf pool13 42 #[] #[{ accessFlags := 2, nameIndex := 5, descriptorIndex := 6, attributes := #[] }, { accessFlags := 9, nameIndex := 45, descriptorIndex := 46, attributes := #[] }, { accessFlags := 9, nameIndex := 45, descriptorIndex := 94, attributes := #[] }] 49 2 #[] #[])
  fields := #[]
  methods := #[k13m0, k13m1, k13m2]
  instanceTypes := #[]
  staticTypes := #[]
  resolved := Array.replicate 184 none
  statics := none }

def pool14 : Array CpInfo := pool [(1, .class_ 2), (0, u "java/lang/Appendable"), (0, .class_ 4), (0, u "java/lang/Object")] 9

/-- java/lang/Appendable -/
def k14 : Class := { plain "java/lang/Appendable" (some 0) with
  accessFlags := 1537
  interfaces := #[]
  cf := some (fileOf pool14 1 #[] #[] 1537 3 #[] #[])
  fields := #[]
  methods := #[]
  instanceTypes := #[]
  staticTypes := #[]
  resolved := Array.replicate 14 none
  statics := none }

def pool15 : Array CpInfo := pool [(1, .class_ 2), (0, u "java/lang/String"), (0, .methodref 4 5), (0, .class_ 6), (0, .nameAndType 7 8), (0, u "java/lang/Object"), (0, u "<init>"), (0, u "()V"), (1, .class_ 12), (1, u "java/lang/AbstractStringBuilder"), (0, u "EMPTYVALUE"), (0, u "[B"), (0, .fieldref 10 16), (0, .nameAndType 17 14), (0, u "value"), (0, .fieldref 1 19), (0, .nameAndType 20 21), (0, u "COMPACT_STRINGS"), (0, u "Z"), (0, .fieldref 10 23), (0, .nameAndType 24 25), (0, u "coder"), (0, u "B"), (6, .methodref 1 33), (0, .nameAndType 34 35), (0, u "length"), (0, u "()I"), (3, .integer 2147483647), (0, .methodref 1 41), (0, .nameAndType 24 42), (0, u "()B"), (2, u "append"), (0, u "(Ljava/lang/String;)Ljava/lang/AbstractStringBuilder;"), (1, .class_ 49), (0, u "java/lang/CharSequence"), (19, u "(Ljava/lang/String;)V"), (5, u "maybeLatin1"), (3, .fieldref 10 80), (0, .nameAndType 81 82), (0, u "count"), (0, u "I"), (0, .methodref 10 84), (0, .nameAndType 85 86), (0, u "isLatin1"), (0, u "()Z"), (13, .methodref 10 101), (0, .nameAndType 102 103), (0, u "ensureCapacityInternal"), (0, u "(I)V"), (0, .methodref 10 105), (0, .nameAndType 106 107), (0, u "newCapacity"), (0, u "(I)I"), (0, .methodref 109 110), (0, .class_ 111), (0, .nameAndType 112 113), (0, u "java/util/Arrays"), (0, u "copyOf"), (0, u "([BI)[B"), (0, .methodref 115 116), (0, .class_ 117), (0, .nameAndType 118 119), (0, u "jdk/internal/util/ArraysSupport"), (0, u "newLength"), (0, u "(III)I"), (68, u "getChars"), (19, .methodref 10 209), (0, .nameAndType 210 211), (0, u "putStringAt"), (0, u "(ILjava/lang/String;)V"), (5, u "inflateIfNeededFor"), (2, .nameAndType 221 222), (0, u "getBytes"), (0, u "([BIB)V"), (24, u "stringSize"), (6, .methodref 255 256), (0, .class_ 257), (0, .nameAndType 247 258), (0, u "java/lang/Long"), (0, u "(J)I"), (0, .methodref 255 260), (0, .nameAndType 188 261), (0, u "(JI[B)I"), (135, .methodref 10 398), (0, .nameAndType 217 69), (0, .methodref 1 220), (3, u "()[B"), (40, .class_ 445), (0, u "java/lang/Appendable"), (67, u "(J)Ljava/lang/AbstractStringBuilder;"), (38, u "getValue")] 56

def k15m0 : Method := { name := "<init>", desc := "()V", sig := { parameters := [], returnType := none }, accessFlags := 0, code := none }
def k15c1 : Code := { maxStack := 2, maxLocals := 2, code := jdk_68_method_2_code, exceptionTable := #[], attributes := #[] }
def k15m1 : Method := { name := "<init>", desc := "(I)V", sig := { parameters := [.int], returnType := none }, accessFlags := 0, code := some k15c1 }
def k15c2 : Code := { maxStack := 1, maxLocals := 1, code := jdk_68_method_6_code, exceptionTable := #[], attributes := #[] }
def k15m2 : Method := { name := "length", desc := "()I", sig := { parameters := [], returnType := some .int }, accessFlags := 1, code := some k15c2 }
def k15c3 : Code := { maxStack := 4, maxLocals := 3, code := jdk_68_method_9_code, exceptionTable := #[], attributes := #[] }
def k15m3 : Method := { name := "ensureCapacityInternal", desc := "(I)V", sig := { parameters := [.int], returnType := none }, accessFlags := 2, code := some k15c3 }
def k15c4 : Code := { maxStack := 5, maxLocals := 6, code := jdk_68_method_10_code, exceptionTable := #[], attributes := #[] }
def k15m4 : Method := { name := "newCapacity", desc := "(I)I", sig := { parameters := [.int], returnType := some .int }, accessFlags := 2, code := some k15c4 }
def k15c5 : Code := { maxStack := 3, maxLocals := 3, code := jdk_68_method_22_code, exceptionTable := #[], attributes := #[] }
def k15m5 : Method := { name := "append", desc := "(Ljava/lang/String;)Ljava/lang/AbstractStringBuilder;", sig := { parameters := [(.object "java/lang/String")], returnType := some (.object "java/lang/AbstractStringBuilder") }, accessFlags := 1, code := some k15c5 }
def k15c6 : Code := { maxStack := 5, maxLocals := 5, code := jdk_68_method_33_code, exceptionTable := #[], attributes := #[] }
def k15m6 : Method := { name := "append", desc := "(J)Ljava/lang/AbstractStringBuilder;", sig := { parameters := [.long], returnType := some (.object "java/lang/AbstractStringBuilder") }, accessFlags := 1, code := some k15c6 }
def k15c7 : Code := { maxStack := 1, maxLocals := 1, code := jdk_68_method_64_code, exceptionTable := #[], attributes := #[] }
def k15m7 : Method := { name := "getValue", desc := "()[B", sig := { parameters := [], returnType := some (.array .byte) }, accessFlags := 16, code := some k15c7 }
def k15c8 : Code := { maxStack := 1, maxLocals := 1, code := jdk_68_method_68_code, exceptionTable := #[], attributes := #[] }
def k15m8 : Method := { name := "isLatin1", desc := "()Z", sig := { parameters := [], returnType := some .boolean }, accessFlags := 16, code := some k15c8 }
def k15c9 : Code := { maxStack := 2, maxLocals := 2, code := jdk_68_method_71_code, exceptionTable := #[], attributes := #[] }
def k15m9 : Method := { name := "inflateIfNeededFor", desc := "(Ljava/lang/String;)V", sig := { parameters := [(.object "java/lang/String")], returnType := none }, accessFlags := 2, code := some k15c9 }
def k15c10 : Code := { maxStack := 4, maxLocals := 3, code := jdk_68_method_73_code, exceptionTable := #[], attributes := #[] }
def k15m10 : Method := { name := "putStringAt", desc := "(ILjava/lang/String;)V", sig := { parameters := [.int, (.object "java/lang/String")], returnType := none }, accessFlags := 2, code := some k15c10 }
/-- java/lang/AbstractStringBuilder -/
def k15 : Class := { plain "java/lang/AbstractStringBuilder" (some 0) with
  accessFlags := 1056
  interfaces := #[14, 4]
  cf := some (fileOf pool15 10 #[] #[{ accessFlags := 0, nameIndex := 7, descriptorIndex := 8, attributes := #[] }, { accessFlags := 0, nameIndex := 7, descriptorIndex := 103, attributes := #[] }, { accessFlags := 1, nameIndex := 34, descriptorIndex := 35, attributes := #[] }, { accessFlags := 2, nameIndex := 102, descriptorIndex := 103, attributes := #[] }, { accessFlags := 2, nameIndex := 106, descriptorIndex := 107, attributes := #[] }, { accessFlags := 1, nameIndex := 45, descriptorIndex := 46, attributes := #[] }, { accessFlags := 1, nameIndex := 45, descriptorIndex := 513, attributes := #[] }, { accessFlags := 16, nameIndex := 552, descriptorIndex := 403, attributes := #[] }, { accessFlags := 16, nameIndex := 85, descriptorIndex := 86, attributes := #[] }, { accessFlags := 2, nameIndex := 217, descriptorIndex := 69, attributes := #[] }, { accessFlags := 2, nameIndex := 210, descriptorIndex := 211, attributes := #[] }] 1056 4 #[444, 48] #[{ accessFlags := 0, nameIndex := 17, descriptorIndex := 14, attributes := #[] }, { accessFlags := 0, nameIndex := 24, descriptorIndex := 25, attributes := #[] }, { accessFlags := 0, nameIndex := 75, descriptorIndex := 21, attributes := #[] }, { accessFlags := 0, nameIndex := 81, descriptorIndex := 82, attributes := #[] }, { accessFlags := 26, nameIndex := 13, descriptorIndex := 14, attributes := #[] }])
  fields := #[{ name := "value", type := (.array .byte), accessFlags := 0, slot := 0, constantValue := 0 }, { name := "coder", type := .byte, accessFlags := 0, slot := 1, constantValue := 0 }, { name := "maybeLatin1", type := .boolean, accessFlags := 0, slot := 2, constantValue := 0 }, { name := "count", type := .int, accessFlags := 0, slot := 3, constantValue := 0 }, { name := "EMPTYVALUE", type := (.array .byte), accessFlags := 26, slot := 0, constantValue := 0 }]
  methods := #[k15m0, k15m1, k15m2, k15m3, k15m4, k15m5, k15m6, k15m7, k15m8, k15m9, k15m10]
  instanceTypes := #[(.array .byte), .byte, .boolean, .int]
  staticTypes := #[(.array .byte)]
  resolved := Array.replicate 609 none
  statics := none }

def pool16 : Array CpInfo := pool [(1, .methodref 2 3), (0, .class_ 4), (0, .nameAndType 5 6), (0, u "java/lang/AbstractStringBuilder"), (0, u "<init>"), (0, u "(I)V"), (11, .class_ 20), (1, u "java/lang/String"), (3, .class_ 26), (1, u "java/lang/StringBuilder"), (0, u "append"), (0, u "(Ljava/lang/String;)Ljava/lang/StringBuilder;"), (0, .methodref 2 30), (0, .nameAndType 27 31), (0, u "(Ljava/lang/String;)Ljava/lang/AbstractStringBuilder;"), (24, .methodref 2 57), (0, .nameAndType 27 58), (0, u "(J)Ljava/lang/AbstractStringBuilder;"), (78, .methodref 18 138), (0, .nameAndType 5 139), (0, u "(Ljava/lang/StringBuilder;)V"), (5, u "()V"), (10, u "()I"), (124, u "(J)Ljava/lang/StringBuilder;"), (61, .methodref 2 344), (0, .nameAndType 345 156), (0, u "length"), (3, .class_ 350), (0, u "java/lang/Appendable"), (0, .class_ 352), (0, u "java/io/Serializable"), (0, .class_ 354), (0, u "java/lang/Comparable"), (0, .class_ 356), (0, u "java/lang/CharSequence"), (0, u "serialVersionUID"), (0, u "J"), (40, u "toString"), (0, u "()Ljava/lang/String;")] 21

def k16c0 : Code := { maxStack := 2, maxLocals := 1, code := jdk_67_method_1_code, exceptionTable := #[], attributes := #[] }
def k16m0 : Method := { name := "<init>", desc := "()V", sig := { parameters := [], returnType := none }, accessFlags := 1, code := some k16c0 }
def k16c1 : Code := { maxStack := 2, maxLocals := 2, code := jdk_67_method_7_code, exceptionTable := #[], attributes := #[] }
def k16m1 : Method := { name := "append", desc := "(Ljava/lang/String;)Ljava/lang/StringBuilder;", sig := { parameters := [(.object "java/lang/String")], returnType := some (.object "java/lang/StringBuilder") }, accessFlags := 1, code := some k16c1 }
def k16c2 : Code := { maxStack := 3, maxLocals := 3, code := jdk_67_method_16_code, exceptionTable := #[], attributes := #[] }
def k16m2 : Method := { name := "append", desc := "(J)Ljava/lang/StringBuilder;", sig := { parameters := [.long], returnType := some (.object "java/lang/StringBuilder") }, accessFlags := 1, code := some k16c2 }
def k16c3 : Code := { maxStack := 3, maxLocals := 1, code := jdk_67_method_42_code, exceptionTable := #[], attributes := #[] }
def k16m3 : Method := { name := "toString", desc := "()Ljava/lang/String;", sig := { parameters := [], returnType := some (.object "java/lang/String") }, accessFlags := 1, code := some k16c3 }
def k16c4 : Code := { maxStack := 1, maxLocals := 1, code := jdk_67_method_93_code, exceptionTable := #[], attributes := #[] }
def k16m4 : Method := { name := "length", desc := "()I", sig := { parameters := [], returnType := some .int }, accessFlags := 4161, code := some k16c4 }
/-- java/lang/StringBuilder -/
def k16 : Class := { plain "java/lang/StringBuilder" (some 15) with
  accessFlags := 49
  interfaces := #[14, 2, 3, 4]
  cf := some (fileOf pool16 24 #[] #[{ accessFlags := 1, nameIndex := 5, descriptorIndex := 145, attributes := #[] }, { accessFlags := 1, nameIndex := 27, descriptorIndex := 28, attributes := #[] }, { accessFlags := 1, nameIndex := 27, descriptorIndex := 281, attributes := #[] }, { accessFlags := 1, nameIndex := 399, descriptorIndex := 400, attributes := #[] }, { accessFlags := 4161, nameIndex := 345, descriptorIndex := 156, attributes := #[] }] 49 2 #[349, 351, 353, 355] #[{ accessFlags := 24, nameIndex := 357, descriptorIndex := 358, attributes := #[] }])
  fields := #[{ name := "serialVersionUID", type := .long, accessFlags := 24, slot := 0, constantValue := 0 }]
  methods := #[k16m0, k16m1, k16m2, k16m3, k16m4]
  instanceTypes := #[(.array .byte), .byte, .boolean, .int]
  staticTypes := #[.long]
  resolved := Array.replicate 422 none
  statics := none }

def pool17 : Array CpInfo := pool [(2, .class_ 4), (1, u "java/lang/Object"), (0, u "<init>"), (0, u "()V"), (1, .class_ 10), (1, u "java/lang/System"), (0, u "allowSecurityManager"), (0, u "I"), (16, u "cons"), (0, u "Ljava/io/Console;"), (77, .class_ 110), (1, u "java/lang/System$CallersHolder"), (43, u "initialErrStream"), (0, u "Ljava/io/PrintStream;"), (19, u "security"), (0, u "Ljava/lang/SecurityManager;"), (31, .class_ 209), (0, u "java/lang/System$1"), (7, u "props"), (0, u "Ljava/util/Properties;"), (2, u "lineSeparator"), (0, u "Ljava/lang/String;"), (96, .class_ 321), (1, u "java/lang/System$LoggerFinder"), (5, .class_ 328), (0, u "java/lang/System$Logger"), (67, u "err"), (2, u "out"), (91, u "notSupportedJnuEncoding"), (15, u "in"), (17, u "initialIn"), (0, u "Ljava/io/InputStream;"), (35, u "bootLayer"), (0, u "Ljava/lang/ModuleLayer;"), (99, .class_ 664), (0, u "java/lang/System$2"), (9, u "NEVER"), (2, u "MAYBE"), (49, u "arraycopy"), (0, u "(Ljava/lang/Object;ILjava/lang/Object;II)V"), (72, .class_ 802), (0, u "java/lang/System$Logger$Level")] 31

def k17m0 : Method := { name := "<init>", desc := "()V", sig := { parameters := [], returnType := none }, accessFlags := 2, code := none }
def k17m1 : Method := { name := "arraycopy", desc := "(Ljava/lang/Object;ILjava/lang/Object;II)V", sig := { parameters := [(.object "java/lang/Object"), .int, (.object "java/lang/Object"), .int, .int], returnType := none }, accessFlags := 265, code := none }
/-- java/lang/System -/
def k17 : Class := { plain "java/lang/System" (some 0) with
  accessFlags := 49
  interfaces := #[]
  cf := some (fileOf pool17 8 #[.nestMembers #[319, 327, 801, 108, 663, 208]] #[{ accessFlags := 2, nameIndex := 5, descriptorIndex := 6, attributes := #[] }, { accessFlags := 265, nameIndex := 727, descriptorIndex := 728, attributes := #[] }] 49 2 #[] #[{ accessFlags := 25, nameIndex := 507, descriptorIndex := 526, attributes := #[] }, { accessFlags := 25, nameIndex := 399, descriptorIndex := 155, attributes := #[] }, { accessFlags := 25, nameIndex := 396, descriptorIndex := 155, attributes := #[] }, { accessFlags := 10, nameIndex := 525, descriptorIndex := 526, attributes := #[] }, { accessFlags := 26, nameIndex := 674, descriptorIndex := 12, attributes := #[] }, { accessFlags := 26, nameIndex := 677, descriptorIndex := 12, attributes := #[] }, { accessFlags := 10, nameIndex := 11, descriptorIndex := 12, attributes := #[] }, { accessFlags := 74, nameIndex := 175, descriptorIndex := 176, attributes := #[] }, { accessFlags := 10, nameIndex := 491, descriptorIndex := 222, attributes := #[] }, { accessFlags := 74, nameIndex := 29, descriptorIndex := 30, attributes := #[] }, { accessFlags := 74, nameIndex := 154, descriptorIndex := 155, attributes := #[] }, { accessFlags := 10, nameIndex := 217, descriptorIndex := 218, attributes := #[] }, { accessFlags := 10, nameIndex := 221, descriptorIndex := 222, attributes := #[] }, { accessFlags := 8, nameIndex := 562, descriptorIndex := 563, attributes := #[] }])
  fields := #[{ name := "in", type := (.object "java/io/InputStream"), accessFlags := 25, slot := 0, constantValue := 0 }, { name := "out", type := (.object "java/io/PrintStream"), accessFlags := 25, slot := 1, constantValue := 0 }, { name := "err", type := (.object "java/io/PrintStream"), accessFlags := 25, slot := 2, constantValue := 0 }, { name := "initialIn", type := (.object "java/io/InputStream"), accessFlags := 10, slot := 3, constantValue := 0 }, { name := "NEVER", type := .int, accessFlags := 26, slot := 4, constantValue := 0 }, { name := "MAYBE", type := .int, accessFlags := 26, slot := 5, constantValue := 0 }, { name := "allowSecurityManager", type := .int, accessFlags := 10, slot := 6, constantValue := 0 }, { name := "security", type := (.object "java/lang/SecurityManager"), accessFlags := 74, slot := 7, constantValue := 0 }, { name := "notSupportedJnuEncoding", type := (.object "java/lang/String"), accessFlags := 10, slot := 8, constantValue := 0 }, { name := "cons", type := (.object "java/io/Console"), accessFlags := 74, slot := 9, constantValue := 0 }, { name := "initialErrStream", type := (.object "java/io/PrintStream"), accessFlags := 74, slot := 10, constantValue := 0 }, { name := "props", type := (.object "java/util/Properties"), accessFlags := 10, slot := 11, constantValue := 0 }, { name := "lineSeparator", type := (.object "java/lang/String"), accessFlags := 10, slot := 12, constantValue := 0 }, { name := "bootLayer", type := (.object "java/lang/ModuleLayer"), accessFlags := 8, slot := 13, constantValue := 0 }]
  methods := #[k17m0, k17m1]
  instanceTypes := #[]
  staticTypes := #[(.object "java/io/InputStream"), (.object "java/io/PrintStream"), (.object "java/io/PrintStream"), (.object "java/io/InputStream"), .int, .int, .int, (.object "java/lang/SecurityManager"), (.object "java/lang/String"), (.object "java/io/Console"), (.object "java/io/PrintStream"), (.object "java/util/Properties"), (.object "java/lang/String"), (.object "java/lang/ModuleLayer")]
  resolved := Array.replicate 834 none
  statics := none }

def pool18 : Array CpInfo := pool [(2, .class_ 4), (1, u "java/lang/Object"), (0, u "<init>"), (0, u "()V"), (1, .class_ 10), (1, u "java/lang/Number"), (2, .class_ 14), (0, u "java/io/Serializable"), (0, u "serialVersionUID"), (0, u "J")] 20

def k18m0 : Method := { name := "<init>", desc := "()V", sig := { parameters := [], returnType := none }, accessFlags := 1, code := none }
/-- java/lang/Number -/
def k18 : Class := { plain "java/lang/Number" (some 0) with
  accessFlags := 1057
  interfaces := #[2]
  cf := some (fileOf pool18 8 #[] #[{ accessFlags := 1, nameIndex := 5, descriptorIndex := 6, attributes := #[] }] 1057 2 #[13] #[{ accessFlags := 26, nameIndex := 15, descriptorIndex := 16, attributes := #[] }])
  fields := #[{ name := "serialVersionUID", type := .long, accessFlags := 26, slot := 0, constantValue := 0 }]
  methods := #[k18m0]
  instanceTypes := #[]
  staticTypes := #[.long]
  resolved := Array.replicate 37 none
  statics := none }

def pool19 : Array CpInfo := pool [(1, .class_ 2), (0, u "java/lang/Long"), (15, .class_ 20), (1, u "java/lang/Integer"), (32, .long 10), (47, u "(J)I"), (18, u "stringSize"), (2, u "getChars"), (0, u "(JI[B)I"), (4, .long 18446744071562067968), (1, .long 100), (1, .fieldref 18 134), (0, .nameAndType 135 136), (0, u "DigitOnes"), (0, u "[B"), (0, .fieldref 18 138), (0, .nameAndType 139 136), (0, u "DigitTens"), (0, .long 18446744073709551606), (94, .class_ 237), (1, u "java/lang/Long$LongCache"), (33, .class_ 272), (0, u "java/lang/Number"), (2, u "value"), (0, u "J"), (84, u "TYPE"), (0, u "Ljava/lang/Class;"), (0, .class_ 364), (0, u "java/lang/Comparable"), (0, .class_ 366), (0, u "java/lang/constant/Constable"), (0, .class_ 368), (0, u "java/lang/constant/ConstantDesc"), (0, u "MIN_VALUE"), (1, u "MAX_VALUE"), (4, u "SIZE"), (0, u "I"), (1, u "BYTES"), (1, u "serialVersionUID")] 142

def k19c0 : Code := { maxStack := 4, maxLocals := 11, code := jdk_35_method_14_code, exceptionTable := #[], attributes := #[] }
def k19m0 : Method := { name := "getChars", desc := "(JI[B)I", sig := { parameters := [.long, .int, (.array .byte)], returnType := some .int }, accessFlags := 8, code := some k19c0 }
def k19c1 : Code := { maxStack := 4, maxLocals := 6, code := jdk_35_method_15_code, exceptionTable := #[], attributes := #[] }
def k19m1 : Method := { name := "stringSize", desc := "(J)I", sig := { parameters := [.long], returnType := some .int }, accessFlags := 8, code := some k19c1 }
/-- java/lang/Long -/
def k19 : Class := { plain "java/lang/Long" (some 18) with
  accessFlags := 49
  interfaces := #[3, 5, 6]
  cf := some (fileOf pool19 1 #[.nestMembers #[235]] #[{ accessFlags := 8, nameIndex := 123, descriptorIndex := 124, attributes := #[] }, { accessFlags := 8, nameIndex := 120, descriptorIndex := 101, attributes := #[] }] 49 271 #[363, 365, 367] #[{ accessFlags := 25, nameIndex := 369, descriptorIndex := 276, attributes := #[] }, { accessFlags := 25, nameIndex := 371, descriptorIndex := 276, attributes := #[] }, { accessFlags := 25, nameIndex := 361, descriptorIndex := 362, attributes := #[] }, { accessFlags := 18, nameIndex := 275, descriptorIndex := 276, attributes := #[] }, { accessFlags := 25, nameIndex := 376, descriptorIndex := 377, attributes := #[] }, { accessFlags := 25, nameIndex := 379, descriptorIndex := 377, attributes := #[] }, { accessFlags := 26, nameIndex := 381, descriptorIndex := 276, attributes := #[] }])
  fields := #[{ name := "MIN_VALUE", type := .long, accessFlags := 25, slot := 0, constantValue := 0 }, { name := "MAX_VALUE", type := .long, accessFlags := 25, slot := 1, constantValue := 0 }, { name := "TYPE", type := (.object "java/lang/Class"), accessFlags := 25, slot := 2, constantValue := 0 }, { name := "value", type := .long, accessFlags := 18, slot := 0, constantValue := 0 }, { name := "SIZE", type := .int, accessFlags := 25, slot := 3, constantValue := 0 }, { name := "BYTES", type := .int, accessFlags := 25, slot := 4, constantValue := 0 }, { name := "serialVersionUID", type := .long, accessFlags := 26, slot := 5, constantValue := 0 }]
  methods := #[k19m0, k19m1]
  instanceTypes := #[.long]
  staticTypes := #[.long, .long, (.object "java/lang/Class"), .int, .int, .long]
  resolved := Array.replicate 524 none
  statics := none }

def pool20 : Array CpInfo := pool [(1, .class_ 2), (0, u "java/lang/Integer"), (16, u "digits"), (0, u "[C"), (64, u "DigitOnes"), (0, u "[B"), (2, u "DigitTens"), (99, .class_ 190), (0, u "java/lang/Integer$IntegerCache"), (3, u "I"), (8, .class_ 204), (0, u "java/lang/Number"), (2, u "value"), (94, u "TYPE"), (0, u "Ljava/lang/Class;"), (0, .class_ 305), (0, u "java/lang/Comparable"), (0, .class_ 307), (0, u "java/lang/constant/Constable"), (0, .class_ 309), (0, u "java/lang/constant/ConstantDesc"), (0, u "MIN_VALUE"), (1, u "MAX_VALUE"), (3, u "SIZE"), (1, u "BYTES"), (1, u "serialVersionUID"), (0, u "J")] 131

/-- java/lang/Integer -/
def k20 : Class := { plain "java/lang/Integer" (some 18) with
  accessFlags := 49
  interfaces := #[3, 5, 6]
  cf := some (fileOf pool20 1 #[.nestMembers #[189]] #[] 49 203 #[304, 306, 308] #[{ accessFlags := 25, nameIndex := 310, descriptorIndex := 194, attributes := #[] }, { accessFlags := 25, nameIndex := 312, descriptorIndex := 194, attributes := #[] }, { accessFlags := 25, nameIndex := 302, descriptorIndex := 303, attributes := #[] }, { accessFlags := 24, nameIndex := 19, descriptorIndex := 20, attributes := #[] }, { accessFlags := 24, nameIndex := 89, descriptorIndex := 86, attributes := #[] }, { accessFlags := 24, nameIndex := 85, descriptorIndex := 86, attributes := #[] }, { accessFlags := 18, nameIndex := 207, descriptorIndex := 194, attributes := #[] }, { accessFlags := 25, nameIndex := 316, descriptorIndex := 194, attributes := #[] }, { accessFlags := 25, nameIndex := 318, descriptorIndex := 194, attributes := #[] }, { accessFlags := 26, nameIndex := 320, descriptorIndex := 321, attributes := #[] }])
  fields := #[{ name := "MIN_VALUE", type := .int, accessFlags := 25, slot := 0, constantValue := 0 }, { name := "MAX_VALUE", type := .int, accessFlags := 25, slot := 1, constantValue := 0 }, { name := "TYPE", type := (.object "java/lang/Class"), accessFlags := 25, slot := 2, constantValue := 0 }, { name := "digits", type := (.array .char), accessFlags := 24, slot := 3, constantValue := 0 }, { name := "DigitTens", type := (.array .byte), accessFlags := 24, slot := 4, constantValue := 0 }, { name := "DigitOnes", type := (.array .byte), accessFlags := 24, slot := 5, constantValue := 0 }, { name := "value", type := .int, accessFlags := 18, slot := 0, constantValue := 0 }, { name := "SIZE", type := .int, accessFlags := 25, slot := 6, constantValue := 0 }, { name := "BYTES", type := .int, accessFlags := 25, slot := 7, constantValue := 0 }, { name := "serialVersionUID", type := .long, accessFlags := 26, slot := 8, constantValue := 0 }]
  methods := #[]
  instanceTypes := #[.int]
  staticTypes := #[.int, .int, (.object "java/lang/Class"), (.array .char), (.array .byte), (.array .byte), .int, .int, .long]
  resolved := Array.replicate 453 none
  statics := some 2 }

def pool21 : Array CpInfo := pool [(2, .class_ 4), (1, u "java/lang/Object"), (0, u "<init>"), (0, u "()V"), (7, .class_ 16), (1, u "java/util/Arrays"), (57, .class_ 76), (1, u "java/util/Arrays$NaturalOrder"), (32, u "()Ljava/lang/Object;"), (3, .class_ 115), (1, u "java/util/Arrays$LegacyMergeSort"), (1, u "Z"), (10, .nameAndType 129 109), (0, u "clone"), (9, u "copyOfRange"), (10, .methodref 151 152), (0, .class_ 153), (0, .nameAndType 154 155), (0, u "java/lang/System"), (0, u "arraycopy"), (0, u "(Ljava/lang/Object;ILjava/lang/Object;II)V"), (146, u "copyOf"), (1, .methodref 305 306), (0, .class_ 307), (0, .nameAndType 308 309), (0, u "java/lang/Math"), (0, u "min"), (0, u "(II)I"), (0, .methodref 311 128), (0, .class_ 312), (0, u "[B"), (26, .methodref 14 340), (0, .nameAndType 341 342), (0, u "copyOfRangeByte"), (0, u "([BII)[B"), (0, .methodref 14 344), (0, .nameAndType 345 346), (0, u "checkLength"), (0, u "(II)V"), (28, .class_ 376), (0, u "java/util/Arrays$ArrayList"), (68, u "$assertionsDisabled"), (269, u "MIN_ARRAY_SORT_GRAN"), (0, u "I"), (2, u "INSERTIONSORT_THRESHOLD"), (149, u "([BI)[B"), (105, .class_ 976), (0, u "java/util/Arrays$ArrayItr")] 52

def k21m0 : Method := { name := "<init>", desc := "()V", sig := { parameters := [], returnType := none }, accessFlags := 2, code := none }
def k21c1 : Code := { maxStack := 6, maxLocals := 3, code := jdk_65_method_121_code, exceptionTable := #[], attributes := #[] }
def k21m1 : Method := { name := "copyOf", desc := "([BI)[B", sig := { parameters := [(.array .byte), .int], returnType := some (.array .byte) }, accessFlags := 9, code := some k21c1 }
def k21c2 : Code := { maxStack := 4, maxLocals := 2, code := jdk_65_method_131_code, exceptionTable := #[], attributes := #[] }
def k21m2 : Method := { name := "checkLength", desc := "(II)V", sig := { parameters := [.int, .int], returnType := none }, accessFlags := 10, code := some k21c2 }
def k21c3 : Code := { maxStack := 3, maxLocals := 3, code := jdk_65_method_132_code, exceptionTable := #[], attributes := #[] }
def k21m3 : Method := { name := "copyOfRange", desc := "([BII)[B", sig := { parameters := [(.array .byte), .int, .int], returnType := some (.array .byte) }, accessFlags := 9, code := some k21c3 }
def k21c4 : Code := { maxStack := 6, maxLocals := 5, code := jdk_65_method_133_code, exceptionTable := #[], attributes := #[] }
def k21m4 : Method := { name := "copyOfRangeByte", desc := "([BII)[B", sig := { parameters := [(.array .byte), .int, .int], returnType := some (.array .byte) }, accessFlags := 10, code := some k21c4 }
/-- java/util/Arrays -/
def k21 : Class := { plain "java/util/Arrays" (some 0) with
  accessFlags := 49
  interfaces := #[]
  cf := some (fileOf pool21 14 #[.nestMembers #[975, 375, 113, 74]] #[{ accessFlags := 2, nameIndex := 5, descriptorIndex := 6, attributes := #[] }, { accessFlags := 9, nameIndex := 302, descriptorIndex := 869, attributes := #[] }, { accessFlags := 10, nameIndex := 345, descriptorIndex := 346, attributes := #[] }, { accessFlags := 9, nameIndex := 139, descriptorIndex := 342, attributes := #[] }, { accessFlags := 10, nameIndex := 341, descriptorIndex := 342, attributes := #[] }] 49 2 #[] #[{ accessFlags := 26, nameIndex := 715, descriptorIndex := 716, attributes := #[] }, { accessFlags := 26, nameIndex := 719, descriptorIndex := 716, attributes := #[] }, { accessFlags := 4120, nameIndex := 445, descriptorIndex := 117, attributes := #[] }])
  fields := #[{ name := "MIN_ARRAY_SORT_GRAN", type := .int, accessFlags := 26, slot := 0, constantValue := 0 }, { name := "INSERTIONSORT_THRESHOLD", type := .int, accessFlags := 26, slot := 1, constantValue := 0 }, { name := "$assertionsDisabled", type := .boolean, accessFlags := 4120, slot := 2, constantValue := 0 }]
  methods := #[k21m0, k21m1, k21m2, k21m3, k21m4]
  instanceTypes := #[]
  staticTypes := #[.int, .int, .boolean]
  resolved := Array.replicate 1029 none
  statics := none }

def pool22 : Array CpInfo := pool [(1, .class_ 2), (0, u "java/lang/Math"), (1, .class_ 6), (1, u "java/lang/Object"), (0, u "<init>"), (0, u "()V"), (89, .class_ 100), (1, u "java/lang/Math$RandomNumberGeneratorHolder"), (71, u "negativeZeroFloatBits"), (0, u "J"), (2, u "negativeZeroDoubleBits"), (21, u "max"), (2, u "min"), (43, u "$assertionsDisabled"), (0, u "Z"), (88, u "(II)I"), (2, u "twoToTheDoubleScaleDown"), (0, u "D"), (4, u "twoToTheDoubleScaleUp"), (9, u "E"), (3, u "PI"), (2, u "TAU"), (2, u "DEGREES_TO_RADIANS"), (0, u "RADIANS_TO_DEGREES")] 94

def k22m0 : Method := { name := "<init>", desc := "()V", sig := { parameters := [], returnType := none }, accessFlags := 2, code := none }
def k22c1 : Code := { maxStack := 2, maxLocals := 2, code := jdk_29_method_65_code, exceptionTable := #[], attributes := #[] }
def k22m1 : Method := { name := "max", desc := "(II)I", sig := { parameters := [.int, .int], returnType := some .int }, accessFlags := 9, code := some k22c1 }
def k22c2 : Code := { maxStack := 2, maxLocals := 2, code := jdk_29_method_69_code, exceptionTable := #[], attributes := #[] }
def k22m2 : Method := { name := "min", desc := "(II)I", sig := { parameters := [.int, .int], returnType := some .int }, accessFlags := 9, code := some k22c2 }
/-- java/lang/Math -/
def k22 : Class := { plain "java/lang/Math" (some 0) with
  accessFlags := 49
  interfaces := #[]
  cf := some (fileOf pool22 1 #[.nestMembers #[98]] #[{ accessFlags := 2, nameIndex := 7, descriptorIndex := 8, attributes := #[] }, { accessFlags := 9, nameIndex := 198, descriptorIndex := 335, attributes := #[] }, { accessFlags := 9, nameIndex := 201, descriptorIndex := 335, attributes := #[] }] 49 4 #[] #[{ accessFlags := 25, nameIndex := 354, descriptorIndex := 339, attributes := #[] }, { accessFlags := 25, nameIndex := 358, descriptorIndex := 339, attributes := #[] }, { accessFlags := 25, nameIndex := 361, descriptorIndex := 339, attributes := #[] }, { accessFlags := 26, nameIndex := 364, descriptorIndex := 339, attributes := #[] }, { accessFlags := 26, nameIndex := 365, descriptorIndex := 339, attributes := #[] }, { accessFlags := 26, nameIndex := 172, descriptorIndex := 173, attributes := #[] }, { accessFlags := 26, nameIndex := 176, descriptorIndex := 173, attributes := #[] }, { accessFlags := 8, nameIndex := 344, descriptorIndex := 339, attributes := #[] }, { accessFlags := 8, nameIndex := 338, descriptorIndex := 339, attributes := #[] }, { accessFlags := 4120, nameIndex := 245, descriptorIndex := 246, attributes := #[] }])
  fields := #[{ name := "E", type := .double, accessFlags := 25, slot := 0, constantValue := 0 }, { name := "PI", type := .double, accessFlags := 25, slot := 1, constantValue := 0 }, { name := "TAU", type := .double, accessFlags := 25, slot := 2, constantValue := 0 }, { name := "DEGREES_TO_RADIANS", type := .double, accessFlags := 26, slot := 3, constantValue := 0 }, { name := "RADIANS_TO_DEGREES", type := .double, accessFlags := 26, slot := 4, constantValue := 0 }, { name := "negativeZeroFloatBits", type := .long, accessFlags := 26, slot := 5, constantValue := 0 }, { name := "negativeZeroDoubleBits", type := .long, accessFlags := 26, slot := 6, constantValue := 0 }, { name := "twoToTheDoubleScaleUp", type := .double, accessFlags := 8, slot := 7, constantValue := 0 }, { name := "twoToTheDoubleScaleDown", type := .double, accessFlags := 8, slot := 8, constantValue := 0 }, { name := "$assertionsDisabled", type := .boolean, accessFlags := 4120, slot := 9, constantValue := 0 }]
  methods := #[k22m0, k22m1, k22m2]
  instanceTypes := #[]
  staticTypes := #[.double, .double, .double, .double, .double, .long, .long, .double, .double, .boolean]
  resolved := Array.replicate 460 none
  statics := none }

def pool23 : Array CpInfo := pool [(6, u "(Ljava/lang/Object;)Ljava/lang/Object;"), (2, u "apply"), (6, .class_ 18), (1, u "java/util/function/Function"), (0, .class_ 20), (0, u "java/lang/Object")] 56

def k23m0 : Method := { name := "apply", desc := "(Ljava/lang/Object;)Ljava/lang/Object;", sig := { parameters := [(.object "java/lang/Object")], returnType := some (.object "java/lang/Object") }, accessFlags := 1025, code := none }
/-- java/util/function/Function -/
def k23 : Class := { plain "java/util/function/Function" (some 0) with
  accessFlags := 1537
  interfaces := #[]
  cf := some (fileOf pool23 16 #[] #[{ accessFlags := 1025, nameIndex := 9, descriptorIndex := 6, attributes := #[] }] 1537 19 #[] #[])
  fields := #[]
  methods := #[k23m0]
  instanceTypes := #[]
  staticTypes := #[]
  resolved := Array.replicate 77 none
  statics := none }

def pool24 : Array CpInfo := pool [(1, .class_ 2), (0, u "java/lang/String"), (1, .class_ 6), (1, u "java/lang/Object"), (0, u "<init>"), (0, u "()V"), (0, .methodref 1 10), (0, .nameAndType 11 12), (0, u "checkIndex"), (0, u "(II)V"), (1, .class_ 16), (1, u "java/lang/StringLatin1"), (36, u "([BI)C"), (36, u "canEncode"), (14, u "(C)Z"), (15, u "$assertionsDisabled"), (0, u "Z"), (98, .class_ 223), (1, u "java/lang/StringLatin1$LinesSpliterator"), (28, u "charAt"), (127, u "toBytes"), (1, u "(C)[B"), (7, .class_ 391), (0, u "java/lang/StringLatin1$CharsSpliterator")] 3

def k24m0 : Method := { name := "<init>", desc := "()V", sig := { parameters := [], returnType := none }, accessFlags := 0, code := none }
def k24c1 : Code := { maxStack := 2, maxLocals := 2, code := jdk_43_method_2_code, exceptionTable := #[], attributes := #[] }
def k24m1 : Method := { name := "charAt", desc := "([BI)C", sig := { parameters := [(.array .byte), .int], returnType := some .char }, accessFlags := 9, code := some k24c1 }
def k24c2 : Code := { maxStack := 2, maxLocals := 1, code := jdk_43_method_3_code, exceptionTable := #[], attributes := #[] }
def k24m2 : Method := { name := "canEncode", desc := "(C)Z", sig := { parameters := [.char], returnType := some .boolean }, accessFlags := 9, code := some k24c2 }
def k24c3 : Code := { maxStack := 4, maxLocals := 1, code := jdk_43_method_46_code, exceptionTable := #[], attributes := #[] }
def k24m3 : Method := { name := "toBytes", desc := "(C)[B", sig := { parameters := [.char], returnType := some (.array .byte) }, accessFlags := 9, code := some k24c3 }
/-- java/lang/StringLatin1 -/
def k24 : Class := { plain "java/lang/StringLatin1" (some 0) with
  accessFlags := 48
  interfaces := #[]
  cf := some (fileOf pool24 14 #[.nestMembers #[390, 221]] #[{ accessFlags := 0, nameIndex := 7, descriptorIndex := 8, attributes := #[] }, { accessFlags := 9, nameIndex := 252, descriptorIndex := 53, attributes := #[] }, { accessFlags := 9, nameIndex := 90, descriptorIndex := 105, attributes := #[] }, { accessFlags := 9, nameIndex := 380, descriptorIndex := 382, attributes := #[] }] 48 4 #[] #[{ accessFlags := 4120, nameIndex := 121, descriptorIndex := 122, attributes := #[] }])
  fields := #[{ name := "$assertionsDisabled", type := .boolean, accessFlags := 4120, slot := 0, constantValue := 0 }]
  methods := #[k24m0, k24m1, k24m2, k24m3]
  instanceTypes := #[]
  staticTypes := #[.boolean]
  resolved := Array.replicate 395 none
  statics := none }

def pool25 : Array CpInfo := pool [(2, .class_ 4), (1, u "java/lang/Object"), (0, u "<init>"), (0, u "()V"), (17, .class_ 26), (1, u "jdk/internal/util/Preconditions"), (6, u "checkIndex"), (21, .class_ 56), (0, u "jdk/internal/util/Preconditions$4"), (57, .class_ 115), (0, u "jdk/internal/util/Preconditions$1"), (7, u "SIOOBE_FORMATTER"), (0, u "Ljava/util/function/BiFunction;"), (0, .class_ 126), (0, u "jdk/internal/util/Preconditions$2"), (3, u "AIOOBE_FORMATTER"), (0, .class_ 132), (0, u "jdk/internal/util/Preconditions$3"), (3, u "IOOBE_FORMATTER"), (41, u "(IILjava/util/function/BiFunction;)I")] 15

def k25m0 : Method := { name := "<init>", desc := "()V", sig := { parameters := [], returnType := none }, accessFlags := 1, code := none }
def k25c1 : Code := { maxStack := 3, maxLocals := 3, code := jdk_41_method_11_code, exceptionTable := #[], attributes := #[] }
def k25m1 : Method := { name := "checkIndex", desc := "(IILjava/util/function/BiFunction;)I", sig := { parameters := [.int, .int, (.object "java/util/function/BiFunction")], returnType := some .int }, accessFlags := 9, code := some k25c1 }
/-- jdk/internal/util/Preconditions -/
def k25 : Class := { plain "jdk/internal/util/Preconditions" (some 0) with
  accessFlags := 33
  interfaces := #[]
  cf := some (fileOf pool25 24 #[.nestMembers #[55, 131, 125, 114]] #[{ accessFlags := 1, nameIndex := 5, descriptorIndex := 6, attributes := #[] }, { accessFlags := 9, nameIndex := 33, descriptorIndex := 178, attributes := #[] }] 33 2 #[] #[{ accessFlags := 25, nameIndex := 123, descriptorIndex := 124, attributes := #[] }, { accessFlags := 25, nameIndex := 130, descriptorIndex := 124, attributes := #[] }, { accessFlags := 25, nameIndex := 136, descriptorIndex := 124, attributes := #[] }])
  fields := #[{ name := "SIOOBE_FORMATTER", type := (.object "java/util/function/BiFunction"), accessFlags := 25, slot := 0, constantValue := 0 }, { name := "AIOOBE_FORMATTER", type := (.object "java/util/function/BiFunction"), accessFlags := 25, slot := 1, constantValue := 0 }, { name := "IOOBE_FORMATTER", type := (.object "java/util/function/BiFunction"), accessFlags := 25, slot := 2, constantValue := 0 }]
  methods := #[k25m0, k25m1]
  instanceTypes := #[]
  staticTypes := #[(.object "java/util/function/BiFunction"), (.object "java/util/function/BiFunction"), (.object "java/util/function/BiFunction")]
  resolved := Array.replicate 194 none
  statics := some 3 }

def pool26 : Array CpInfo := pool [(9, u "<init>"), (6, .class_ 18), (1, u "java/lang/Object"), (0, u "()V"), (1, .class_ 23), (1, u "jdk/internal/util/ArraysSupport"), (0, u "LOG2_ARRAY_LONG_INDEX_SCALE"), (0, u "I"), (2, u "U"), (0, u "Ljdk/internal/misc/Unsafe;"), (8, u "BIG_ENDIAN"), (0, u "Z"), (8, u "LOG2_BYTE_BIT_SIZE"), (4, u "LOG2_ARRAY_INT_INDEX_SCALE"), (54, u "JLA"), (0, u "Ljdk/internal/access/JavaLangAccess;"), (11, u "LOG2_ARRAY_BOOLEAN_INDEX_SCALE"), (9, u "LOG2_ARRAY_BYTE_INDEX_SCALE"), (5, u "LOG2_ARRAY_CHAR_INDEX_SCALE"), (5, u "LOG2_ARRAY_SHORT_INDEX_SCALE"), (18, u "LOG2_ARRAY_FLOAT_INDEX_SCALE"), (24, u "LOG2_ARRAY_DOUBLE_INDEX_SCALE"), (6, .methodref 195 196), (0, .class_ 197), (0, .nameAndType 198 199), (0, u "java/lang/Math"), (0, u "max"), (0, u "(II)I"), (0, .integer 2147483639), (76, u "T_BOOLEAN"), (2, u "T_CHAR"), (1, u "T_FLOAT"), (1, u "T_DOUBLE"), (1, u "T_BYTE"), (1, u "T_SHORT"), (1, u "T_INT"), (1, u "T_LONG"), (1, u "SOFT_MAX_ARRAY_LENGTH"), (56, u "newLength"), (0, u "(III)I")] 25

def k26m0 : Method := { name := "<init>", desc := "()V", sig := { parameters := [], returnType := none }, accessFlags := 2, code := none }
def k26c1 : Code := { maxStack := 3, maxLocals := 4, code := jdk_48_method_27_code, exceptionTable := #[], attributes := #[] }
def k26m1 : Method := { name := "newLength", desc := "(III)I", sig := { parameters := [.int, .int, .int], returnType := some .int }, accessFlags := 9, code := some k26c1 }
/-- jdk/internal/util/ArraysSupport -/
def k26 : Class := { plain "jdk/internal/util/ArraysSupport" (some 0) with
  accessFlags := 33
  interfaces := #[]
  cf := some (fileOf pool26 21 #[] #[{ accessFlags := 2, nameIndex := 9, descriptorIndex := 19, attributes := #[] }, { accessFlags := 9, nameIndex := 351, descriptorIndex := 352, attributes := #[] }] 33 16 #[] #[{ accessFlags := 24, nameIndex := 28, descriptorIndex := 29, attributes := #[] }, { accessFlags := 26, nameIndex := 38, descriptorIndex := 39, attributes := #[] }, { accessFlags := 25, nameIndex := 121, descriptorIndex := 25, attributes := #[] }, { accessFlags := 25, nameIndex := 131, descriptorIndex := 25, attributes := #[] }, { accessFlags := 25, nameIndex := 137, descriptorIndex := 25, attributes := #[] }, { accessFlags := 25, nameIndex := 143, descriptorIndex := 25, attributes := #[] }, { accessFlags := 25, nameIndex := 53, descriptorIndex := 25, attributes := #[] }, { accessFlags := 25, nameIndex := 24, descriptorIndex := 25, attributes := #[] }, { accessFlags := 25, nameIndex := 162, descriptorIndex := 25, attributes := #[] }, { accessFlags := 25, nameIndex := 187, descriptorIndex := 25, attributes := #[] }, { accessFlags := 26, nameIndex := 48, descriptorIndex := 25, attributes := #[] }, { accessFlags := 25, nameIndex := 277, descriptorIndex := 25, attributes := #[] }, { accessFlags := 25, nameIndex := 280, descriptorIndex := 25, attributes := #[] }, { accessFlags := 25, nameIndex := 282, descriptorIndex := 25, attributes := #[] }, { accessFlags := 25, nameIndex := 284, descriptorIndex := 25, attributes := #[] }, { accessFlags := 25, nameIndex := 286, descriptorIndex := 25, attributes := #[] }, { accessFlags := 25, nameIndex := 288, descriptorIndex := 25, attributes := #[] }, { accessFlags := 25, nameIndex := 290, descriptorIndex := 25, attributes := #[] }, { accessFlags := 25, nameIndex := 292, descriptorIndex := 25, attributes := #[] }, { accessFlags := 26, nameIndex := 108, descriptorIndex := 109, attributes := #[] }, { accessFlags := 25, nameIndex := 294, descriptorIndex := 25, attributes := #[] }])
  fields := #[{ name := "U", type := (.object "jdk/internal/misc/Unsafe"), accessFlags := 24, slot := 0, constantValue := 0 }, { name := "BIG_ENDIAN", type := .boolean, accessFlags := 26, slot := 1, constantValue := 0 }, { name := "LOG2_ARRAY_BOOLEAN_INDEX_SCALE", type := .int, accessFlags := 25, slot := 2, constantValue := 0 }, { name := "LOG2_ARRAY_BYTE_INDEX_SCALE", type := .int, accessFlags := 25, slot := 3, constantValue := 0 }, { name := "LOG2_ARRAY_CHAR_INDEX_SCALE", type := .int, accessFlags := 25, slot := 4, constantValue := 0 }, { name := "LOG2_ARRAY_SHORT_INDEX_SCALE", type := .int, accessFlags := 25, slot := 5, constantValue := 0 }, { name := "LOG2_ARRAY_INT_INDEX_SCALE", type := .int, accessFlags := 25, slot := 6, constantValue := 0 }, { name := "LOG2_ARRAY_LONG_INDEX_SCALE", type := .int, accessFlags := 25, slot := 7, constantValue := 0 }, { name := "LOG2_ARRAY_FLOAT_INDEX_SCALE", type := .int, accessFlags := 25, slot := 8, constantValue := 0 }, { name := "LOG2_ARRAY_DOUBLE_INDEX_SCALE", type := .int, accessFlags := 25, slot := 9, constantValue := 0 }, { name := "LOG2_BYTE_BIT_SIZE", type := .int, accessFlags := 26, slot := 10, constantValue := 0 }, { name := "T_BOOLEAN", type := .int, accessFlags := 25, slot := 11, constantValue := 0 }, { name := "T_CHAR", type := .int, accessFlags := 25, slot := 12, constantValue := 0 }, { name := "T_FLOAT", type := .int, accessFlags := 25, slot := 13, constantValue := 0 }, { name := "T_DOUBLE", type := .int, accessFlags := 25, slot := 14, constantValue := 0 }, { name := "T_BYTE", type := .int, accessFlags := 25, slot := 15, constantValue := 0 }, { name := "T_SHORT", type := .int, accessFlags := 25, slot := 16, constantValue := 0 }, { name := "T_INT", type := .int, accessFlags := 25, slot := 17, constantValue := 0 }, { name := "T_LONG", type := .int, accessFlags := 25, slot := 18, constantValue := 0 }, { name := "JLA", type := (.object "jdk/internal/access/JavaLangAccess"), accessFlags := 26, slot := 19, constantValue := 0 }, { name := "SOFT_MAX_ARRAY_LENGTH", type := .int, accessFlags := 25, slot := 20, constantValue := 0 }]
  methods := #[k26m0, k26m1]
  instanceTypes := #[]
  staticTypes := #[(.object "jdk/internal/misc/Unsafe"), .boolean, .int, .int, .int, .int, .int, .int, .int, .int, .int, .int, .int, .int, .int, .int, .int, .int, .int, (.object "jdk/internal/access/JavaLangAccess"), .int]
  resolved := Array.replicate 378 none
  statics := none }

def pool27 : Array CpInfo := pool [(1, .class_ 2), (0, u "java/lang/Cloneable"), (0, .class_ 4), (0, u "java/lang/Object")] 2

/-- java/lang/Cloneable -/
def k27 : Class := { plain "java/lang/Cloneable" (some 0) with
  accessFlags := 1537
  interfaces := #[]
  cf := some (fileOf pool27 1 #[] #[] 1537 3 #[] #[])
  fields := #[]
  methods := #[]
  instanceTypes := #[]
  staticTypes := #[]
  resolved := Array.replicate 7 none
  statics := none }

/-- the primitive byte -/
def k28 : Class := { plain "byte" none with kind := .primitive 'B', accessFlags := 0x411 }
/-- [B -/
def k29 : Class := { plain "[B" (some 0) with kind := .array 28 .byte, interfaces := #[27, 2], accessFlags := 1041 }

/-- the primitive char -/
def k30 : Class := { plain "char" none with kind := .primitive 'C', accessFlags := 0x411 }
/-- [C -/
def k31 : Class := { plain "[C" (some 0) with kind := .array 30 .char, interfaces := #[27, 2], accessFlags := 1041 }

/-- the primitive int -/
def k32 : Class := { plain "int" none with kind := .primitive 'I', accessFlags := 0x411 }
/-- [I -/
def k33 : Class := { plain "[I" (some 0) with kind := .array 32 .int, interfaces := #[27, 2], accessFlags := 1041 }

/-- the primitive long -/
def k34 : Class := { plain "long" none with kind := .primitive 'J', accessFlags := 0x411 }
/-- [J -/
def k35 : Class := { plain "[J" (some 0) with kind := .array 34 .long, interfaces := #[27, 2], accessFlags := 1041 }

def classes0 : Array Class := #[k0, k1, k2, k3, k4, k5, k6, k7, k8, k9, k10, k11, k12, k13, k14, k15, k16, k17, k18, k19, k20, k21, k22, k23, k24, k25, k26, k27, k28, k29, k30, k31, k32, k33, k34, k35]
/-- the class that the rule has made for the site at 12 of com/example/wrange/wrange/IntegrityCheck.withCharset -/
def k36 : Class := Jvm.LamKit.madeRec { classes := classes0 } "com/example/wrange/wrange/IntegrityCheck" (Jvm.Lambda.Shape.mk "java/util/function/Function" "apply" (Jvm.ClassFile.MethodDescriptor.mk ([(Jvm.ClassFile.FieldType.object "java/lang/Object")] : List Jvm.ClassFile.FieldType) (Option.some (Jvm.ClassFile.FieldType.object "java/lang/Object"))) ([] : List Jvm.ClassFile.FieldType) (6 : Nat) "com/example/wrange/wrange/IntegrityCheck" "lambda$withCharset$0" (Jvm.ClassFile.MethodDescriptor.mk ([(Jvm.ClassFile.FieldType.object "java/lang/String")] : List Jvm.ClassFile.FieldType) (Option.some (Jvm.ClassFile.FieldType.object "java/lang/String"))) true (Jvm.ClassFile.MethodDescriptor.mk ([(Jvm.ClassFile.FieldType.object "java/lang/String")] : List Jvm.ClassFile.FieldType) (Option.some (Jvm.ClassFile.FieldType.object "java/lang/String")))) 36

def heap : Heap := #[{ cls := 7, slots := #[.long 0, .int 1, .null, .int 0, .null, .int 0, .int 0], vm := .statics 7 },
  { cls := 9, slots := #[.ref 7], vm := .statics 9 },
  { cls := 20, slots := #[.int 0, .int 0, .null, .null, .ref 6, .ref 5, .int 0, .int 0, .long 0], vm := .statics 20 },
  { cls := 25, slots := #[.null, .null, .null], vm := .statics 25 },
  { cls := 36, slots := #[], vm := .none },
  { cls := 29, slots := #[.int 48, .int 49, .int 50, .int 51, .int 52, .int 53, .int 54, .int 55, .int 56, .int 57, .int 48, .int 49, .int 50, .int 51, .int 52, .int 53, .int 54, .int 55, .int 56, .int 57, .int 48, .int 49, .int 50, .int 51, .int 52, .int 53, .int 54, .int 55, .int 56, .int 57, .int 48, .int 49, .int 50, .int 51, .int 52, .int 53, .int 54, .int 55, .int 56, .int 57, .int 48, .int 49, .int 50, .int 51, .int 52, .int 53, .int 54, .int 55, .int 56, .int 57, .int 48, .int 49, .int 50, .int 51, .int 52, .int 53, .int 54, .int 55, .int 56, .int 57, .int 48, .int 49, .int 50, .int 51, .int 52, .int 53, .int 54, .int 55, .int 56, .int 57, .int 48, .int 49, .int 50, .int 51, .int 52, .int 53, .int 54, .int 55, .int 56, .int 57, .int 48, .int 49, .int 50, .int 51, .int 52, .int 53, .int 54, .int 55, .int 56, .int 57, .int 48, .int 49, .int 50, .int 51, .int 52, .int 53, .int 54, .int 55, .int 56, .int 57], vm := .none },
  { cls := 29, slots := #[.int 48, .int 48, .int 48, .int 48, .int 48, .int 48, .int 48, .int 48, .int 48, .int 48, .int 49, .int 49, .int 49, .int 49, .int 49, .int 49, .int 49, .int 49, .int 49, .int 49, .int 50, .int 50, .int 50, .int 50, .int 50, .int 50, .int 50, .int 50, .int 50, .int 50, .int 51, .int 51, .int 51, .int 51, .int 51, .int 51, .int 51, .int 51, .int 51, .int 51, .int 52, .int 52, .int 52, .int 52, .int 52, .int 52, .int 52, .int 52, .int 52, .int 52, .int 53, .int 53, .int 53, .int 53, .int 53, .int 53, .int 53, .int 53, .int 53, .int 53, .int 54, .int 54, .int 54, .int 54, .int 54, .int 54, .int 54, .int 54, .int 54, .int 54, .int 55, .int 55, .int 55, .int 55, .int 55, .int 55, .int 55, .int 55, .int 55, .int 55, .int 56, .int 56, .int 56, .int 56, .int 56, .int 56, .int 56, .int 56, .int 56, .int 56, .int 57, .int 57, .int 57, .int 57, .int 57, .int 57, .int 57, .int 57, .int 57, .int 57], vm := .none },
  { cls := 9, slots := #[.null], vm := .none }]
def classes : Array Class := #[k0, k1, k2, k3, k4, k5, k6, k7, k8, k9, k10, k11, k12, k13, k14, k15, k16, k17, k18, k19, k20, k21, k22, k23, k24, k25, k26, k27, k28, k29, k30, k31, k32, k33, k34, k35, k36]
def interned : List (Array UInt16 × Addr) := []
def slotsUsed : Nat := 221
def theMethod : MethodId := ⟨1, 2⟩
def args0 : Array Value := #[.long 5, .int 0, .int 0]
def aboutOver (below : List Frame) : State where
  vm := { classes := classes, interned := interned.toArray }
  heap := heap
  slotsUsed := slotsUsed
  threads := #[{ frames := .invoking theMethod args0 :: below }]
def below0 : List Frame := [.native { method := ⟨0, 0⟩, args := #[] }]
def about1 : State := aboutOver below0
def p0 : Program := .bare "" "" ""
def e0 : Env := launch0.env 0 0 0
theorem w_frames : about1.frames = Frame.invoking theMethod args0 :: below0 := rfl
set_option maxRecDepth 65536 in
theorem w_args : argsFit about1.vm theMethod args0 = true := by decide +kernel
set_option maxRecDepth 65536 in
theorem w_heap : heapFits about1 = true := by decide +kernel
set_option maxRecDepth 65536 in
theorem w_runnable : about1.curStatus? = some .runnable := by decide +kernel
set_option maxRecDepth 65536 in
theorem w_alone : about1.alone = true := by decide +kernel
set_option maxRecDepth 65536 in
theorem w_named : about1.methodNamed? x = some theMethod := by decide +kernel
set_option maxRecDepth 65536 in
theorem w_hears : about1.hears theMethod below0 = true := by decide +kernel
set_option maxRecDepth 65536 in
theorem w_ripe : about1.ripe theMethod args0 below0 = true := by decide +kernel
theorem w_running : about1.status = .running := rfl
set_option maxRecDepth 65536 in
theorem w_room : about1.hasRoom e0.platform room_1 = true :=
  launch0.hasRoom_least _ room_1 (by decide +kernel) (by decide +kernel) (by decide +kernel) (by decide +kernel) (by decide +kernel) (by decide +kernel)
theorem allAtoms_all (ts : List Jvm.Cond) (a : Array Jvm.Value) (st : Jvm.State) : (allAtoms ts).before a st = ts.all (fun c => c.before a st) := by
  induction ts with
  | nil => rfl
  | cons c t ih =>
    show (Jvm.Cond.and c (allAtoms t)).before a st = _
    rw [Jvm.Cond.before_and, ih, List.all_cons]
def words1 : List Jvm.Cond := Jvm.Cond.code x code maxLocals ret :: tables_1
/-- a 'code' word, met by the world's own term for the bytes: nothing is compared byte by byte -/
theorem code_word {y : MethodName} {bytes : ByteArray} {mx : Nat} {rt : Option FieldType} {a : Array Value} {s : State} {m : MethodId} {meth : Method} {c : Code} (h1 : s.methodNamed? y = some m) (h2 : s.vm.method? m = some meth) (h3 : meth.code = some c) (h4 : c.code = bytes)
    (h5 : (c.maxLocals == mx && c.exceptionTable.isEmpty && decide (c.maxStack ≤ mostOperands) && decide (meth.sig.returnType = rt) && !meth.locks && decide (parseMethodDescriptor y.desc = some meth.sig)) = true) : (Jvm.Cond.code y bytes mx rt).before a s = true := by
  simp only [Bool.and_eq_true, beq_iff_eq, Bool.not_eq_true', decide_eq_true_eq] at h5
  obtain ⟨⟨⟨⟨⟨g1, g2⟩, g3⟩, g4⟩, g5⟩, g6⟩ := h5
  simp [Cond.before, Cond.holds, Cond.value, h1, h2, h3, h4, g1, g2, g3, g4, g5, g6]
def isCode : Jvm.Cond → Bool
  | .code _ _ _ _ => true
  | _ => false
theorem all_split {L : List Jvm.Cond} {P : Jvm.Cond → Bool} (h1 : L.all (fun c => isCode c || P c) = true) (h2 : ∀ c ∈ L.filter isCode, P c = true) : L.all P = true := by
  refine List.all_eq_true.mpr fun c hc => ?_
  have h := List.all_eq_true.mp h1 c hc
  rcases Bool.eq_false_or_eq_true (isCode c) with hi | hi
  · exact h2 c (List.mem_filter.mpr ⟨hc, hi⟩)
  · simpa [hi] using h
set_option maxRecDepth 65536 in
theorem w_c0 : (Jvm.Cond.code x code maxLocals ret).before args0 about1 = true := code_word (m := ⟨1, 2⟩) (meth := k1m2) (c := k1c2) (by decide +kernel) rfl rfl rfl (by decide +kernel)
set_option maxRecDepth 65536 in
theorem w_c1 : (Jvm.Cond.code ({ cls := "com/example/wrange/wrange/LengthWrittenPinLaw", name := "digits", desc := "(J[J)I" } : Jvm.MethodName) method_2_code (4 : Nat) (Option.some Jvm.ClassFile.FieldType.int)).before args0 about1 = true := code_word (m := ⟨1, 1⟩) (meth := k1m1) (c := k1c1) (by decide +kernel) rfl rfl rfl (by decide +kernel)
set_option maxRecDepth 65536 in
theorem w_c2 : (Jvm.Cond.code ({ cls := "java/lang/String", name := "<init>", desc := "([C)V" } : Jvm.MethodName) jdk_42_method_3_code (2 : Nat) (Option.none : Option Jvm.ClassFile.FieldType)).before args0 about1 = true := code_word (m := ⟨7, 1⟩) (meth := k7m1) (c := k7c1) (by decide +kernel) rfl rfl rfl (by decide +kernel)
set_option maxRecDepth 65536 in
theorem w_c3 : (Jvm.Cond.code ({ cls := "java/lang/String", name := "<init>", desc := "([CIILjava/lang/Void;)V" } : Jvm.MethodName) jdk_42_method_149_code (6 : Nat) (Option.none : Option Jvm.ClassFile.FieldType)).before args0 about1 = true := code_word (m := ⟨7, 7⟩) (meth := k7m7) (c := k7c7) (by decide +kernel) rfl rfl rfl (by decide +kernel)
set_option maxRecDepth 65536 in
theorem w_c4 : (Jvm.Cond.code ({ cls := "java/lang/Object", name := "<init>", desc := "()V" } : Jvm.MethodName) object_method_1_code (1 : Nat) (Option.none : Option Jvm.ClassFile.FieldType)).before args0 about1 = true := code_word (m := ⟨0, 0⟩) (meth := k0m0) (c := k0c0) (by decide +kernel) rfl rfl rfl (by decide +kernel)
set_option maxRecDepth 65536 in
theorem w_c5 : (Jvm.Cond.code ({ cls := "java/lang/StringUTF16", name := "compress", desc := "([CII)[B" } : Jvm.MethodName) jdk_52_method_16_code (6 : Nat) (Option.some (Jvm.ClassFile.FieldType.array Jvm.ClassFile.FieldType.byte))).before args0 about1 = true := code_word (m := ⟨8, 2⟩) (meth := k8m2) (c := k8c2) (by decide +kernel) rfl rfl rfl (by decide +kernel)
set_option maxRecDepth 65536 in
theorem w_c6 : (Jvm.Cond.code ({ cls := "java/lang/StringUTF16", name := "compress", desc := "([CI[BII)I" } : Jvm.MethodName) jdk_52_method_21_code (7 : Nat) (Option.some Jvm.ClassFile.FieldType.int)).before args0 about1 = true := code_word (m := ⟨8, 3⟩) (meth := k8m3) (c := k8c3) (by decide +kernel) rfl rfl rfl (by decide +kernel)
set_option maxRecDepth 65536 in
theorem w_c7 : (Jvm.Cond.code ({ cls := "java/lang/StringUTF16", name := "coderFromArrayLen", desc := "([BI)B" } : Jvm.MethodName) jdk_52_method_15_code (2 : Nat) (Option.some Jvm.ClassFile.FieldType.byte)).before args0 about1 = true := code_word (m := ⟨8, 1⟩) (meth := k8m1) (c := k8c1) (by decide +kernel) rfl rfl rfl (by decide +kernel)
set_option maxRecDepth 65536 in
theorem w_c8 : (Jvm.Cond.code ({ cls := "java/util/Optional", name := "empty", desc := "()Ljava/util/Optional;" } : Jvm.MethodName) jdk_32_method_1_code (1 : Nat) (Option.some (Jvm.ClassFile.FieldType.object "java/util/Optional"))).before args0 about1 = true := code_word (m := ⟨9, 0⟩) (meth := k9m0) (c := k9c0) (by decide +kernel) rfl rfl rfl (by decide +kernel)
set_option maxRecDepth 65536 in
theorem w_c9 : (Jvm.Cond.code ({ cls := "com/example/wrange/wrange/IntegrityCheck$Length", name := "<init>", desc := "(JLjava/util/Optional;)V" } : Jvm.MethodName) prog_14_method_1_code (4 : Nat) (Option.none : Option Jvm.ClassFile.FieldType)).before args0 about1 = true := code_word (m := ⟨12, 0⟩) (meth := k12m0) (c := k12c0) (by decide +kernel) rfl rfl rfl (by decide +kernel)
set_option maxRecDepth 65536 in
theorem w_c10 : (Jvm.Cond.code ({ cls := "java/lang/Record", name := "<init>", desc := "()V" } : Jvm.MethodName) jdk_30_method_1_code (1 : Nat) (Option.none : Option Jvm.ClassFile.FieldType)).before args0 about1 = true := code_word (m := ⟨10, 0⟩) (meth := k10m0) (c := k10c0) (by decide +kernel) rfl rfl rfl (by decide +kernel)
set_option maxRecDepth 65536 in
theorem w_c11 : (Jvm.Cond.code ({ cls := "java/util/Objects", name := "requireNonNull", desc := "(Ljava/lang/Object;Ljava/lang/String;)Ljava/lang/Object;" } : Jvm.MethodName) jdk_31_method_11_code (2 : Nat) (Option.some (Jvm.ClassFile.FieldType.object "java/lang/Object"))).before args0 about1 = true := code_word (m := ⟨13, 2⟩) (meth := k13m2) (c := k13c2) (by decide +kernel) rfl rfl rfl (by decide +kernel)
set_option maxRecDepth 65536 in
theorem w_c12 : (Jvm.Cond.code ({ cls := "com/example/wrange/wrange/IntegrityCheck$Length", name := "written", desc := "()Ljava/lang/String;" } : Jvm.MethodName) prog_14_method_3_code (1 : Nat) (Option.some (Jvm.ClassFile.FieldType.object "java/lang/String"))).before args0 about1 = true := code_word (m := ⟨12, 1⟩) (meth := k12m1) (c := k12c1) (by decide +kernel) rfl rfl rfl (by decide +kernel)
set_option maxRecDepth 65536 in
theorem w_c13 : (Jvm.Cond.code ({ cls := "java/lang/StringBuilder", name := "<init>", desc := "()V" } : Jvm.MethodName) jdk_67_method_1_code (1 : Nat) (Option.none : Option Jvm.ClassFile.FieldType)).before args0 about1 = true := code_word (m := ⟨16, 0⟩) (meth := k16m0) (c := k16c0) (by decide +kernel) rfl rfl rfl (by decide +kernel)
set_option maxRecDepth 65536 in
theorem w_c14 : (Jvm.Cond.code ({ cls := "java/lang/AbstractStringBuilder", name := "<init>", desc := "(I)V" } : Jvm.MethodName) jdk_68_method_2_code (2 : Nat) (Option.none : Option Jvm.ClassFile.FieldType)).before args0 about1 = true := code_word (m := ⟨15, 1⟩) (meth := k15m1) (c := k15c1) (by decide +kernel) rfl rfl rfl (by decide +kernel)
set_option maxRecDepth 65536 in
theorem w_c15 : (Jvm.Cond.code ({ cls := "java/lang/StringBuilder", name := "append", desc := "(Ljava/lang/String;)Ljava/lang/StringBuilder;" } : Jvm.MethodName) jdk_67_method_7_code (2 : Nat) (Option.some (Jvm.ClassFile.FieldType.object "java/lang/StringBuilder"))).before args0 about1 = true := code_word (m := ⟨16, 1⟩) (meth := k16m1) (c := k16c1) (by decide +kernel) rfl rfl rfl (by decide +kernel)
set_option maxRecDepth 65536 in
theorem w_c16 : (Jvm.Cond.code ({ cls := "java/lang/AbstractStringBuilder", name := "append", desc := "(Ljava/lang/String;)Ljava/lang/AbstractStringBuilder;" } : Jvm.MethodName) jdk_68_method_22_code (3 : Nat) (Option.some (Jvm.ClassFile.FieldType.object "java/lang/AbstractStringBuilder"))).before args0 about1 = true := code_word (m := ⟨15, 5⟩) (meth := k15m5) (c := k15c5) (by decide +kernel) rfl rfl rfl (by decide +kernel)
set_option maxRecDepth 65536 in
theorem w_c17 : (Jvm.Cond.code ({ cls := "java/lang/String", name := "length", desc := "()I" } : Jvm.MethodName) jdk_42_method_54_code (1 : Nat) (Option.some Jvm.ClassFile.FieldType.int)).before args0 about1 = true := code_word (m := ⟨7, 3⟩) (meth := k7m3) (c := k7c3) (by decide +kernel) rfl rfl rfl (by decide +kernel)
set_option maxRecDepth 65536 in
theorem w_c18 : (Jvm.Cond.code ({ cls := "java/lang/String", name := "coder", desc := "()B" } : Jvm.MethodName) jdk_42_method_152_code (1 : Nat) (Option.some Jvm.ClassFile.FieldType.byte)).before args0 about1 = true := code_word (m := ⟨7, 10⟩) (meth := k7m10) (c := k7c10) (by decide +kernel) rfl rfl rfl (by decide +kernel)
set_option maxRecDepth 65536 in
theorem w_c19 : (Jvm.Cond.code ({ cls := "java/lang/AbstractStringBuilder", name := "ensureCapacityInternal", desc := "(I)V" } : Jvm.MethodName) jdk_68_method_9_code (3 : Nat) (Option.none : Option Jvm.ClassFile.FieldType)).before args0 about1 = true := code_word (m := ⟨15, 3⟩) (meth := k15m3) (c := k15c3) (by decide +kernel) rfl rfl rfl (by decide +kernel)
set_option maxRecDepth 65536 in
theorem w_c20 : (Jvm.Cond.code ({ cls := "java/lang/AbstractStringBuilder", name := "putStringAt", desc := "(ILjava/lang/String;)V" } : Jvm.MethodName) jdk_68_method_73_code (3 : Nat) (Option.none : Option Jvm.ClassFile.FieldType)).before args0 about1 = true := code_word (m := ⟨15, 10⟩) (meth := k15m10) (c := k15c10) (by decide +kernel) rfl rfl rfl (by decide +kernel)
set_option maxRecDepth 65536 in
theorem w_c21 : (Jvm.Cond.code ({ cls := "java/lang/AbstractStringBuilder", name := "inflateIfNeededFor", desc := "(Ljava/lang/String;)V" } : Jvm.MethodName) jdk_68_method_71_code (2 : Nat) (Option.none : Option Jvm.ClassFile.FieldType)).before args0 about1 = true := code_word (m := ⟨15, 9⟩) (meth := k15m9) (c := k15c9) (by decide +kernel) rfl rfl rfl (by decide +kernel)
set_option maxRecDepth 65536 in
theorem w_c22 : (Jvm.Cond.code ({ cls := "java/lang/String", name := "getBytes", desc := "([BIB)V" } : Jvm.MethodName) jdk_42_method_147_code (4 : Nat) (Option.none : Option Jvm.ClassFile.FieldType)).before args0 about1 = true := code_word (m := ⟨7, 6⟩) (meth := k7m6) (c := k7c6) (by decide +kernel) rfl rfl rfl (by decide +kernel)
set_option maxRecDepth 65536 in
theorem w_c23 : (Jvm.Cond.code ({ cls := "java/lang/StringBuilder", name := "append", desc := "(J)Ljava/lang/StringBuilder;" } : Jvm.MethodName) jdk_67_method_16_code (3 : Nat) (Option.some (Jvm.ClassFile.FieldType.object "java/lang/StringBuilder"))).before args0 about1 = true := code_word (m := ⟨16, 2⟩) (meth := k16m2) (c := k16c2) (by decide +kernel) rfl rfl rfl (by decide +kernel)
set_option maxRecDepth 65536 in
theorem w_c24 : (Jvm.Cond.code ({ cls := "java/lang/AbstractStringBuilder", name := "append", desc := "(J)Ljava/lang/AbstractStringBuilder;" } : Jvm.MethodName) jdk_68_method_33_code (5 : Nat) (Option.some (Jvm.ClassFile.FieldType.object "java/lang/AbstractStringBuilder"))).before args0 about1 = true := code_word (m := ⟨15, 6⟩) (meth := k15m6) (c := k15c6) (by decide +kernel) rfl rfl rfl (by decide +kernel)
set_option maxRecDepth 65536 in
theorem w_c25 : (Jvm.Cond.code ({ cls := "java/lang/Long", name := "stringSize", desc := "(J)I" } : Jvm.MethodName) jdk_35_method_15_code (6 : Nat) (Option.some Jvm.ClassFile.FieldType.int)).before args0 about1 = true := code_word (m := ⟨19, 1⟩) (meth := k19m1) (c := k19c1) (by decide +kernel) rfl rfl rfl (by decide +kernel)
set_option maxRecDepth 65536 in
theorem w_c26 : (Jvm.Cond.code ({ cls := "java/lang/AbstractStringBuilder", name := "isLatin1", desc := "()Z" } : Jvm.MethodName) jdk_68_method_68_code (1 : Nat) (Option.some Jvm.ClassFile.FieldType.boolean)).before args0 about1 = true := code_word (m := ⟨15, 8⟩) (meth := k15m8) (c := k15c8) (by decide +kernel) rfl rfl rfl (by decide +kernel)
set_option maxRecDepth 65536 in
theorem w_c27 : (Jvm.Cond.code ({ cls := "java/lang/Long", name := "getChars", desc := "(JI[B)I" } : Jvm.MethodName) jdk_35_method_14_code (11 : Nat) (Option.some Jvm.ClassFile.FieldType.int)).before args0 about1 = true := code_word (m := ⟨19, 0⟩) (meth := k19m0) (c := k19c0) (by decide +kernel) rfl rfl rfl (by decide +kernel)
set_option maxRecDepth 65536 in
theorem w_c28 : (Jvm.Cond.code ({ cls := "java/lang/StringBuilder", name := "toString", desc := "()Ljava/lang/String;" } : Jvm.MethodName) jdk_67_method_42_code (1 : Nat) (Option.some (Jvm.ClassFile.FieldType.object "java/lang/String"))).before args0 about1 = true := code_word (m := ⟨16, 3⟩) (meth := k16m3) (c := k16c3) (by decide +kernel) rfl rfl rfl (by decide +kernel)
set_option maxRecDepth 65536 in
theorem w_c29 : (Jvm.Cond.code ({ cls := "java/lang/String", name := "<init>", desc := "(Ljava/lang/StringBuilder;)V" } : Jvm.MethodName) jdk_42_method_53_code (2 : Nat) (Option.none : Option Jvm.ClassFile.FieldType)).before args0 about1 = true := code_word (m := ⟨7, 2⟩) (meth := k7m2) (c := k7c2) (by decide +kernel) rfl rfl rfl (by decide +kernel)
set_option maxRecDepth 65536 in
theorem w_c30 : (Jvm.Cond.code ({ cls := "java/lang/String", name := "<init>", desc := "(Ljava/lang/AbstractStringBuilder;Ljava/lang/Void;)V" } : Jvm.MethodName) jdk_42_method_150_code (5 : Nat) (Option.none : Option Jvm.ClassFile.FieldType)).before args0 about1 = true := code_word (m := ⟨7, 8⟩) (meth := k7m8) (c := k7c8) (by decide +kernel) rfl rfl rfl (by decide +kernel)
set_option maxRecDepth 65536 in
theorem w_c31 : (Jvm.Cond.code ({ cls := "java/lang/AbstractStringBuilder", name := "getValue", desc := "()[B" } : Jvm.MethodName) jdk_68_method_64_code (1 : Nat) (Option.some (Jvm.ClassFile.FieldType.array Jvm.ClassFile.FieldType.byte))).before args0 about1 = true := code_word (m := ⟨15, 7⟩) (meth := k15m7) (c := k15c7) (by decide +kernel) rfl rfl rfl (by decide +kernel)
set_option maxRecDepth 65536 in
theorem w_c32 : (Jvm.Cond.code ({ cls := "java/lang/StringBuilder", name := "length", desc := "()I" } : Jvm.MethodName) jdk_67_method_93_code (1 : Nat) (Option.some Jvm.ClassFile.FieldType.int)).before args0 about1 = true := code_word (m := ⟨16, 4⟩) (meth := k16m4) (c := k16c4) (by decide +kernel) rfl rfl rfl (by decide +kernel)
set_option maxRecDepth 65536 in
theorem w_c33 : (Jvm.Cond.code ({ cls := "java/lang/AbstractStringBuilder", name := "length", desc := "()I" } : Jvm.MethodName) jdk_68_method_6_code (1 : Nat) (Option.some Jvm.ClassFile.FieldType.int)).before args0 about1 = true := code_word (m := ⟨15, 2⟩) (meth := k15m2) (c := k15c2) (by decide +kernel) rfl rfl rfl (by decide +kernel)
set_option maxRecDepth 65536 in
theorem w_c34 : (Jvm.Cond.code ({ cls := "java/util/Arrays", name := "copyOfRange", desc := "([BII)[B" } : Jvm.MethodName) jdk_65_method_132_code (3 : Nat) (Option.some (Jvm.ClassFile.FieldType.array Jvm.ClassFile.FieldType.byte))).before args0 about1 = true := code_word (m := ⟨21, 3⟩) (meth := k21m3) (c := k21c3) (by decide +kernel) rfl rfl rfl (by decide +kernel)
set_option maxRecDepth 65536 in
theorem w_c35 : (Jvm.Cond.code ({ cls := "java/util/Arrays", name := "copyOfRangeByte", desc := "([BII)[B" } : Jvm.MethodName) jdk_65_method_133_code (5 : Nat) (Option.some (Jvm.ClassFile.FieldType.array Jvm.ClassFile.FieldType.byte))).before args0 about1 = true := code_word (m := ⟨21, 4⟩) (meth := k21m4) (c := k21c4) (by decide +kernel) rfl rfl rfl (by decide +kernel)
set_option maxRecDepth 65536 in
theorem w_c36 : (Jvm.Cond.code ({ cls := "java/util/Arrays", name := "checkLength", desc := "(II)V" } : Jvm.MethodName) jdk_65_method_131_code (2 : Nat) (Option.none : Option Jvm.ClassFile.FieldType)).before args0 about1 = true := code_word (m := ⟨21, 2⟩) (meth := k21m2) (c := k21c2) (by decide +kernel) rfl rfl rfl (by decide +kernel)
set_option maxRecDepth 65536 in
theorem w_c37 : (Jvm.Cond.code ({ cls := "java/lang/Math", name := "min", desc := "(II)I" } : Jvm.MethodName) jdk_29_method_69_code (2 : Nat) (Option.some Jvm.ClassFile.FieldType.int)).before args0 about1 = true := code_word (m := ⟨22, 2⟩) (meth := k22m2) (c := k22c2) (by decide +kernel) rfl rfl rfl (by decide +kernel)
set_option maxRecDepth 65536 in
theorem w_c38 : (Jvm.Cond.code ({ cls := "com/example/wrange/wrange/IntegrityCheck", name := "withCharset", desc := "(Ljava/lang/String;Ljava/util/Optional;)Ljava/lang/String;" } : Jvm.MethodName) prog_12_method_4_code (2 : Nat) (Option.some (Jvm.ClassFile.FieldType.object "java/lang/String"))).before args0 about1 = true := code_word (m := ⟨11, 0⟩) (meth := k11m0) (c := k11c0) (by decide +kernel) rfl rfl rfl (by decide +kernel)
set_option maxRecDepth 65536 in
theorem w_c39 : (Jvm.Cond.code ({ cls := "java/util/Optional", name := "map", desc := "(Ljava/util/function/Function;)Ljava/util/Optional;" } : Jvm.MethodName) jdk_32_method_11_code (2 : Nat) (Option.some (Jvm.ClassFile.FieldType.object "java/util/Optional"))).before args0 about1 = true := code_word (m := ⟨9, 5⟩) (meth := k9m5) (c := k9c5) (by decide +kernel) rfl rfl rfl (by decide +kernel)
set_option maxRecDepth 65536 in
theorem w_c40 : (Jvm.Cond.code ({ cls := "java/util/Objects", name := "requireNonNull", desc := "(Ljava/lang/Object;)Ljava/lang/Object;" } : Jvm.MethodName) jdk_31_method_10_code (1 : Nat) (Option.some (Jvm.ClassFile.FieldType.object "java/lang/Object"))).before args0 about1 = true := code_word (m := ⟨13, 1⟩) (meth := k13m1) (c := k13c1) (by decide +kernel) rfl rfl rfl (by decide +kernel)
set_option maxRecDepth 65536 in
theorem w_c41 : (Jvm.Cond.code ({ cls := "java/util/Optional", name := "isEmpty", desc := "()Z" } : Jvm.MethodName) jdk_32_method_7_code (1 : Nat) (Option.some Jvm.ClassFile.FieldType.boolean)).before args0 about1 = true := code_word (m := ⟨9, 4⟩) (meth := k9m4) (c := k9c4) (by decide +kernel) rfl rfl rfl (by decide +kernel)
set_option maxRecDepth 65536 in
theorem w_c42 : (Jvm.Cond.code ({ cls := "java/util/Optional", name := "orElse", desc := "(Ljava/lang/Object;)Ljava/lang/Object;" } : Jvm.MethodName) jdk_32_method_15_code (2 : Nat) (Option.some (Jvm.ClassFile.FieldType.object "java/lang/Object"))).before args0 about1 = true := code_word (m := ⟨9, 6⟩) (meth := k9m6) (c := k9c6) (by decide +kernel) rfl rfl rfl (by decide +kernel)
set_option maxRecDepth 65536 in
theorem w_c43 : (Jvm.Cond.code ({ cls := "java/lang/String", name := "charAt", desc := "(I)C" } : Jvm.MethodName) jdk_42_method_56_code (2 : Nat) (Option.some Jvm.ClassFile.FieldType.char)).before args0 about1 = true := code_word (m := ⟨7, 4⟩) (meth := k7m4) (c := k7c4) (by decide +kernel) rfl rfl rfl (by decide +kernel)
set_option maxRecDepth 65536 in
theorem w_c44 : (Jvm.Cond.code ({ cls := "java/lang/String", name := "isLatin1", desc := "()Z" } : Jvm.MethodName) jdk_42_method_154_code (1 : Nat) (Option.some Jvm.ClassFile.FieldType.boolean)).before args0 about1 = true := code_word (m := ⟨7, 11⟩) (meth := k7m11) (c := k7c11) (by decide +kernel) rfl rfl rfl (by decide +kernel)
set_option maxRecDepth 65536 in
theorem w_c45 : (Jvm.Cond.code ({ cls := "java/lang/StringLatin1", name := "charAt", desc := "([BI)C" } : Jvm.MethodName) jdk_43_method_2_code (2 : Nat) (Option.some Jvm.ClassFile.FieldType.char)).before args0 about1 = true := code_word (m := ⟨24, 1⟩) (meth := k24m1) (c := k24c1) (by decide +kernel) rfl rfl rfl (by decide +kernel)
set_option maxRecDepth 65536 in
theorem w_c46 : (Jvm.Cond.code ({ cls := "java/lang/String", name := "checkIndex", desc := "(II)V" } : Jvm.MethodName) jdk_42_method_155_code (2 : Nat) (Option.none : Option Jvm.ClassFile.FieldType)).before args0 about1 = true := code_word (m := ⟨7, 12⟩) (meth := k7m12) (c := k7c12) (by decide +kernel) rfl rfl rfl (by decide +kernel)
set_option maxRecDepth 65536 in
theorem w_c47 : (Jvm.Cond.code ({ cls := "jdk/internal/util/Preconditions", name := "checkIndex", desc := "(IILjava/util/function/BiFunction;)I" } : Jvm.MethodName) jdk_41_method_11_code (3 : Nat) (Option.some Jvm.ClassFile.FieldType.int)).before args0 about1 = true := code_word (m := ⟨25, 1⟩) (meth := k25m1) (c := k25c1) (by decide +kernel) rfl rfl rfl (by decide +kernel)
set_option maxRecDepth 65536 in
theorem w_c48 : (Jvm.Cond.code ({ cls := "java/lang/AbstractStringBuilder", name := "newCapacity", desc := "(I)I" } : Jvm.MethodName) jdk_68_method_10_code (6 : Nat) (Option.some Jvm.ClassFile.FieldType.int)).before args0 about1 = true := code_word (m := ⟨15, 4⟩) (meth := k15m4) (c := k15c4) (by decide +kernel) rfl rfl rfl (by decide +kernel)
set_option maxRecDepth 65536 in
theorem w_c49 : (Jvm.Cond.code ({ cls := "jdk/internal/util/ArraysSupport", name := "newLength", desc := "(III)I" } : Jvm.MethodName) jdk_48_method_27_code (4 : Nat) (Option.some Jvm.ClassFile.FieldType.int)).before args0 about1 = true := code_word (m := ⟨26, 1⟩) (meth := k26m1) (c := k26c1) (by decide +kernel) rfl rfl rfl (by decide +kernel)
set_option maxRecDepth 65536 in
theorem w_c50 : (Jvm.Cond.code ({ cls := "java/lang/Math", name := "max", desc := "(II)I" } : Jvm.MethodName) jdk_29_method_65_code (2 : Nat) (Option.some Jvm.ClassFile.FieldType.int)).before args0 about1 = true := code_word (m := ⟨22, 1⟩) (meth := k22m1) (c := k22c1) (by decide +kernel) rfl rfl rfl (by decide +kernel)
set_option maxRecDepth 65536 in
theorem w_c51 : (Jvm.Cond.code ({ cls := "java/util/Arrays", name := "copyOf", desc := "([BI)[B" } : Jvm.MethodName) jdk_65_method_121_code (3 : Nat) (Option.some (Jvm.ClassFile.FieldType.array Jvm.ClassFile.FieldType.byte))).before args0 about1 = true := code_word (m := ⟨21, 1⟩) (meth := k21m1) (c := k21c1) (by decide +kernel) rfl rfl rfl (by decide +kernel)
set_option maxRecDepth 65536 in
theorem w_c52 : (Jvm.Cond.code ({ cls := "java/lang/String", name := "valueOf", desc := "(C)Ljava/lang/String;" } : Jvm.MethodName) jdk_42_method_139_code (1 : Nat) (Option.some (Jvm.ClassFile.FieldType.object "java/lang/String"))).before args0 about1 = true := code_word (m := ⟨7, 5⟩) (meth := k7m5) (c := k7c5) (by decide +kernel) rfl rfl rfl (by decide +kernel)
set_option maxRecDepth 65536 in
theorem w_c53 : (Jvm.Cond.code ({ cls := "java/lang/StringLatin1", name := "canEncode", desc := "(C)Z" } : Jvm.MethodName) jdk_43_method_3_code (1 : Nat) (Option.some Jvm.ClassFile.FieldType.boolean)).before args0 about1 = true := code_word (m := ⟨24, 2⟩) (meth := k24m2) (c := k24c2) (by decide +kernel) rfl rfl rfl (by decide +kernel)
set_option maxRecDepth 65536 in
theorem w_c54 : (Jvm.Cond.code ({ cls := "java/lang/StringLatin1", name := "toBytes", desc := "(C)[B" } : Jvm.MethodName) jdk_43_method_46_code (1 : Nat) (Option.some (Jvm.ClassFile.FieldType.array Jvm.ClassFile.FieldType.byte))).before args0 about1 = true := code_word (m := ⟨24, 3⟩) (meth := k24m3) (c := k24c3) (by decide +kernel) rfl rfl rfl (by decide +kernel)
set_option maxRecDepth 65536 in
theorem w_c55 : (Jvm.Cond.code ({ cls := "java/lang/String", name := "<init>", desc := "([BB)V" } : Jvm.MethodName) jdk_42_method_151_code (3 : Nat) (Option.none : Option Jvm.ClassFile.FieldType)).before args0 about1 = true := code_word (m := ⟨7, 9⟩) (meth := k7m9) (c := k7c9) (by decide +kernel) rfl rfl rfl (by decide +kernel)
set_option maxRecDepth 65536 in
theorem w_c56 : (Jvm.Cond.code ({ cls := "java/util/Optional", name := "of", desc := "(Ljava/lang/Object;)Ljava/util/Optional;" } : Jvm.MethodName) jdk_32_method_3_code (1 : Nat) (Option.some (Jvm.ClassFile.FieldType.object "java/util/Optional"))).before args0 about1 = true := code_word (m := ⟨9, 2⟩) (meth := k9m2) (c := k9c2) (by decide +kernel) rfl rfl rfl (by decide +kernel)
set_option maxRecDepth 65536 in
theorem w_c57 : (Jvm.Cond.code ({ cls := "java/util/Optional", name := "<init>", desc := "(Ljava/lang/Object;)V" } : Jvm.MethodName) jdk_32_method_2_code (2 : Nat) (Option.none : Option Jvm.ClassFile.FieldType)).before args0 about1 = true := code_word (m := ⟨9, 1⟩) (meth := k9m1) (c := k9c1) (by decide +kernel) rfl rfl rfl (by decide +kernel)
set_option maxRecDepth 65536 in
theorem w_c58 : (Jvm.Cond.code ({ cls := "com/example/wrange/wrange/IntegrityCheck", name := "lambda$withCharset$0", desc := "(Ljava/lang/String;)Ljava/lang/String;" } : Jvm.MethodName) prog_12_method_5_code (1 : Nat) (Option.some (Jvm.ClassFile.FieldType.object "java/lang/String"))).before args0 about1 = true := code_word (m := ⟨11, 1⟩) (meth := k11m1) (c := k11c1) (by decide +kernel) rfl rfl rfl (by decide +kernel)
set_option maxRecDepth 65536 in
theorem w_c59 : (Jvm.Cond.code ({ cls := "java/util/Optional", name := "ofNullable", desc := "(Ljava/lang/Object;)Ljava/util/Optional;" } : Jvm.MethodName) jdk_32_method_4_code (1 : Nat) (Option.some (Jvm.ClassFile.FieldType.object "java/util/Optional"))).before args0 about1 = true := code_word (m := ⟨9, 3⟩) (meth := k9m3) (c := k9c3) (by decide +kernel) rfl rfl rfl (by decide +kernel)
def codes1 : List Jvm.Cond := [Jvm.Cond.code x code maxLocals ret, Jvm.Cond.code ({ cls := "com/example/wrange/wrange/LengthWrittenPinLaw", name := "digits", desc := "(J[J)I" } : Jvm.MethodName) method_2_code (4 : Nat) (Option.some Jvm.ClassFile.FieldType.int), Jvm.Cond.code ({ cls := "java/lang/String", name := "<init>", desc := "([C)V" } : Jvm.MethodName) jdk_42_method_3_code (2 : Nat) (Option.none : Option Jvm.ClassFile.FieldType), Jvm.Cond.code ({ cls := "java/lang/String", name := "<init>", desc := "([CIILjava/lang/Void;)V" } : Jvm.MethodName) jdk_42_method_149_code (6 : Nat) (Option.none : Option Jvm.ClassFile.FieldType), Jvm.Cond.code ({ cls := "java/lang/Object", name := "<init>", desc := "()V" } : Jvm.MethodName) object_method_1_code (1 : Nat) (Option.none : Option Jvm.ClassFile.FieldType), Jvm.Cond.code ({ cls := "java/lang/StringUTF16", name := "compress", desc := "([CII)[B" } : Jvm.MethodName) jdk_52_method_16_code (6 : Nat) (Option.some (Jvm.ClassFile.FieldType.array Jvm.ClassFile.FieldType.byte)), Jvm.Cond.code ({ cls := "java/lang/StringUTF16", name := "compress", desc := "([CI[BII)I" } : Jvm.MethodName) jdk_52_method_21_code (7 : Nat) (Option.some Jvm.ClassFile.FieldType.int), Jvm.Cond.code ({ cls := "java/lang/StringUTF16", name := "coderFromArrayLen", desc := "([BI)B" } : Jvm.MethodName) jdk_52_method_15_code (2 : Nat) (Option.some Jvm.ClassFile.FieldType.byte), Jvm.Cond.code ({ cls := "java/util/Optional", name := "empty", desc := "()Ljava/util/Optional;" } : Jvm.MethodName) jdk_32_method_1_code (1 : Nat) (Option.some (Jvm.ClassFile.FieldType.object "java/util/Optional")), Jvm.Cond.code ({ cls := "com/example/wrange/wrange/IntegrityCheck$Length", name := "<init>", desc := "(JLjava/util/Optional;)V" } : Jvm.MethodName) prog_14_method_1_code (4 : Nat) (Option.none : Option Jvm.ClassFile.FieldType), Jvm.Cond.code ({ cls := "java/lang/Record", name := "<init>", desc := "()V" } : Jvm.MethodName) jdk_30_method_1_code (1 : Nat) (Option.none : Option Jvm.ClassFile.FieldType), Jvm.Cond.code ({ cls := "java/util/Objects", name := "requireNonNull", desc := "(Ljava/lang/Object;Ljava/lang/String;)Ljava/lang/Object;" } : Jvm.MethodName) jdk_31_method_11_code (2 : Nat) (Option.some (Jvm.ClassFile.FieldType.object "java/lang/Object")), Jvm.Cond.code ({ cls := "com/example/wrange/wrange/IntegrityCheck$Length", name := "written", desc := "()Ljava/lang/String;" } : Jvm.MethodName) prog_14_method_3_code (1 : Nat) (Option.some (Jvm.ClassFile.FieldType.object "java/lang/String")), Jvm.Cond.code ({ cls := "java/lang/StringBuilder", name := "<init>", desc := "()V" } : Jvm.MethodName) jdk_67_method_1_code (1 : Nat) (Option.none : Option Jvm.ClassFile.FieldType), Jvm.Cond.code ({ cls := "java/lang/AbstractStringBuilder", name := "<init>", desc := "(I)V" } : Jvm.MethodName) jdk_68_method_2_code (2 : Nat) (Option.none : Option Jvm.ClassFile.FieldType), Jvm.Cond.code ({ cls := "java/lang/StringBuilder", name := "append", desc := "(Ljava/lang/String;)Ljava/lang/StringBuilder;" } : Jvm.MethodName) jdk_67_method_7_code (2 : Nat) (Option.some (Jvm.ClassFile.FieldType.object "java/lang/StringBuilder")), Jvm.Cond.code ({ cls := "java/lang/AbstractStringBuilder", name := "append", desc := "(Ljava/lang/String;)Ljava/lang/AbstractStringBuilder;" } : Jvm.MethodName) jdk_68_method_22_code (3 : Nat) (Option.some (Jvm.ClassFile.FieldType.object "java/lang/AbstractStringBuilder")), Jvm.Cond.code ({ cls := "java/lang/String", name := "length", desc := "()I" } : Jvm.MethodName) jdk_42_method_54_code (1 : Nat) (Option.some Jvm.ClassFile.FieldType.int), Jvm.Cond.code ({ cls := "java/lang/String", name := "coder", desc := "()B" } : Jvm.MethodName) jdk_42_method_152_code (1 : Nat) (Option.some Jvm.ClassFile.FieldType.byte), Jvm.Cond.code ({ cls := "java/lang/AbstractStringBuilder", name := "ensureCapacityInternal", desc := "(I)V" } : Jvm.MethodName) jdk_68_method_9_code (3 : Nat) (Option.none : Option Jvm.ClassFile.FieldType), Jvm.Cond.code ({ cls := "java/lang/AbstractStringBuilder", name := "putStringAt", desc := "(ILjava/lang/String;)V" } : Jvm.MethodName) jdk_68_method_73_code (3 : Nat) (Option.none : Option Jvm.ClassFile.FieldType), Jvm.Cond.code ({ cls := "java/lang/AbstractStringBuilder", name := "inflateIfNeededFor", desc := "(Ljava/lang/String;)V" } : Jvm.MethodName) jdk_68_method_71_code (2 : Nat) (Option.none : Option Jvm.ClassFile.FieldType), Jvm.Cond.code ({ cls := "java/lang/String", name := "getBytes", desc := "([BIB)V" } : Jvm.MethodName) jdk_42_method_147_code (4 : Nat) (Option.none : Option Jvm.ClassFile.FieldType), Jvm.Cond.code ({ cls := "java/lang/StringBuilder", name := "append", desc := "(J)Ljava/lang/StringBuilder;" } : Jvm.MethodName) jdk_67_method_16_code (3 : Nat) (Option.some (Jvm.ClassFile.FieldType.object "java/lang/StringBuilder")), Jvm.Cond.code ({ cls := "java/lang/AbstractStringBuilder", name := "append", desc := "(J)Ljava/lang/AbstractStringBuilder;" } : Jvm.MethodName) jdk_68_method_33_code (5 : Nat) (Option.some (Jvm.ClassFile.FieldType.object "java/lang/AbstractStringBuilder")), Jvm.Cond.code ({ cls := "java/lang/Long", name := "stringSize", desc := "(J)I" } : Jvm.MethodName) jdk_35_method_15_code (6 : Nat) (Option.some Jvm.ClassFile.FieldType.int), Jvm.Cond.code ({ cls := "java/lang/AbstractStringBuilder", name := "isLatin1", desc := "()Z" } : Jvm.MethodName) jdk_68_method_68_code (1 : Nat) (Option.some Jvm.ClassFile.FieldType.boolean), Jvm.Cond.code ({ cls := "java/lang/Long", name := "getChars", desc := "(JI[B)I" } : Jvm.MethodName) jdk_35_method_14_code (11 : Nat) (Option.some Jvm.ClassFile.FieldType.int), Jvm.Cond.code ({ cls := "java/lang/StringBuilder", name := "toString", desc := "()Ljava/lang/String;" } : Jvm.MethodName) jdk_67_method_42_code (1 : Nat) (Option.some (Jvm.ClassFile.FieldType.object "java/lang/String")), Jvm.Cond.code ({ cls := "java/lang/String", name := "<init>", desc := "(Ljava/lang/StringBuilder;)V" } : Jvm.MethodName) jdk_42_method_53_code (2 : Nat) (Option.none : Option Jvm.ClassFile.FieldType), Jvm.Cond.code ({ cls := "java/lang/String", name := "<init>", desc := "(Ljava/lang/AbstractStringBuilder;Ljava/lang/Void;)V" } : Jvm.MethodName) jdk_42_method_150_code (5 : Nat) (Option.none : Option Jvm.ClassFile.FieldType), Jvm.Cond.code ({ cls := "java/lang/AbstractStringBuilder", name := "getValue", desc := "()[B" } : Jvm.MethodName) jdk_68_method_64_code (1 : Nat) (Option.some (Jvm.ClassFile.FieldType.array Jvm.ClassFile.FieldType.byte)), Jvm.Cond.code ({ cls := "java/lang/StringBuilder", name := "length", desc := "()I" } : Jvm.MethodName) jdk_67_method_93_code (1 : Nat) (Option.some Jvm.ClassFile.FieldType.int), Jvm.Cond.code ({ cls := "java/lang/AbstractStringBuilder", name := "length", desc := "()I" } : Jvm.MethodName) jdk_68_method_6_code (1 : Nat) (Option.some Jvm.ClassFile.FieldType.int), Jvm.Cond.code ({ cls := "java/util/Arrays", name := "copyOfRange", desc := "([BII)[B" } : Jvm.MethodName) jdk_65_method_132_code (3 : Nat) (Option.some (Jvm.ClassFile.FieldType.array Jvm.ClassFile.FieldType.byte)), Jvm.Cond.code ({ cls := "java/util/Arrays", name := "copyOfRangeByte", desc := "([BII)[B" } : Jvm.MethodName) jdk_65_method_133_code (5 : Nat) (Option.some (Jvm.ClassFile.FieldType.array Jvm.ClassFile.FieldType.byte)), Jvm.Cond.code ({ cls := "java/util/Arrays", name := "checkLength", desc := "(II)V" } : Jvm.MethodName) jdk_65_method_131_code (2 : Nat) (Option.none : Option Jvm.ClassFile.FieldType), Jvm.Cond.code ({ cls := "java/lang/Math", name := "min", desc := "(II)I" } : Jvm.MethodName) jdk_29_method_69_code (2 : Nat) (Option.some Jvm.ClassFile.FieldType.int), Jvm.Cond.code ({ cls := "com/example/wrange/wrange/IntegrityCheck", name := "withCharset", desc := "(Ljava/lang/String;Ljava/util/Optional;)Ljava/lang/String;" } : Jvm.MethodName) prog_12_method_4_code (2 : Nat) (Option.some (Jvm.ClassFile.FieldType.object "java/lang/String")), Jvm.Cond.code ({ cls := "java/util/Optional", name := "map", desc := "(Ljava/util/function/Function;)Ljava/util/Optional;" } : Jvm.MethodName) jdk_32_method_11_code (2 : Nat) (Option.some (Jvm.ClassFile.FieldType.object "java/util/Optional")), Jvm.Cond.code ({ cls := "java/util/Objects", name := "requireNonNull", desc := "(Ljava/lang/Object;)Ljava/lang/Object;" } : Jvm.MethodName) jdk_31_method_10_code (1 : Nat) (Option.some (Jvm.ClassFile.FieldType.object "java/lang/Object")), Jvm.Cond.code ({ cls := "java/util/Optional", name := "isEmpty", desc := "()Z" } : Jvm.MethodName) jdk_32_method_7_code (1 : Nat) (Option.some Jvm.ClassFile.FieldType.boolean), Jvm.Cond.code ({ cls := "java/util/Optional", name := "orElse", desc := "(Ljava/lang/Object;)Ljava/lang/Object;" } : Jvm.MethodName) jdk_32_method_15_code (2 : Nat) (Option.some (Jvm.ClassFile.FieldType.object "java/lang/Object")), Jvm.Cond.code ({ cls := "java/lang/String", name := "charAt", desc := "(I)C" } : Jvm.MethodName) jdk_42_method_56_code (2 : Nat) (Option.some Jvm.ClassFile.FieldType.char), Jvm.Cond.code ({ cls := "java/lang/String", name := "isLatin1", desc := "()Z" } : Jvm.MethodName) jdk_42_method_154_code (1 : Nat) (Option.some Jvm.ClassFile.FieldType.boolean), Jvm.Cond.code ({ cls := "java/lang/StringLatin1", name := "charAt", desc := "([BI)C" } : Jvm.MethodName) jdk_43_method_2_code (2 : Nat) (Option.some Jvm.ClassFile.FieldType.char), Jvm.Cond.code ({ cls := "java/lang/String", name := "checkIndex", desc := "(II)V" } : Jvm.MethodName) jdk_42_method_155_code (2 : Nat) (Option.none : Option Jvm.ClassFile.FieldType), Jvm.Cond.code ({ cls := "jdk/internal/util/Preconditions", name := "checkIndex", desc := "(IILjava/util/function/BiFunction;)I" } : Jvm.MethodName) jdk_41_method_11_code (3 : Nat) (Option.some Jvm.ClassFile.FieldType.int), Jvm.Cond.code ({ cls := "java/lang/AbstractStringBuilder", name := "newCapacity", desc := "(I)I" } : Jvm.MethodName) jdk_68_method_10_code (6 : Nat) (Option.some Jvm.ClassFile.FieldType.int), Jvm.Cond.code ({ cls := "jdk/internal/util/ArraysSupport", name := "newLength", desc := "(III)I" } : Jvm.MethodName) jdk_48_method_27_code (4 : Nat) (Option.some Jvm.ClassFile.FieldType.int), Jvm.Cond.code ({ cls := "java/lang/Math", name := "max", desc := "(II)I" } : Jvm.MethodName) jdk_29_method_65_code (2 : Nat) (Option.some Jvm.ClassFile.FieldType.int), Jvm.Cond.code ({ cls := "java/util/Arrays", name := "copyOf", desc := "([BI)[B" } : Jvm.MethodName) jdk_65_method_121_code (3 : Nat) (Option.some (Jvm.ClassFile.FieldType.array Jvm.ClassFile.FieldType.byte)), Jvm.Cond.code ({ cls := "java/lang/String", name := "valueOf", desc := "(C)Ljava/lang/String;" } : Jvm.MethodName) jdk_42_method_139_code (1 : Nat) (Option.some (Jvm.ClassFile.FieldType.object "java/lang/String")), Jvm.Cond.code ({ cls := "java/lang/StringLatin1", name := "canEncode", desc := "(C)Z" } : Jvm.MethodName) jdk_43_method_3_code (1 : Nat) (Option.some Jvm.ClassFile.FieldType.boolean), Jvm.Cond.code ({ cls := "java/lang/StringLatin1", name := "toBytes", desc := "(C)[B" } : Jvm.MethodName) jdk_43_method_46_code (1 : Nat) (Option.some (Jvm.ClassFile.FieldType.array Jvm.ClassFile.FieldType.byte)), Jvm.Cond.code ({ cls := "java/lang/String", name := "<init>", desc := "([BB)V" } : Jvm.MethodName) jdk_42_method_151_code (3 : Nat) (Option.none : Option Jvm.ClassFile.FieldType), Jvm.Cond.code ({ cls := "java/util/Optional", name := "of", desc := "(Ljava/lang/Object;)Ljava/util/Optional;" } : Jvm.MethodName) jdk_32_method_3_code (1 : Nat) (Option.some (Jvm.ClassFile.FieldType.object "java/util/Optional")), Jvm.Cond.code ({ cls := "java/util/Optional", name := "<init>", desc := "(Ljava/lang/Object;)V" } : Jvm.MethodName) jdk_32_method_2_code (2 : Nat) (Option.none : Option Jvm.ClassFile.FieldType), Jvm.Cond.code ({ cls := "com/example/wrange/wrange/IntegrityCheck", name := "lambda$withCharset$0", desc := "(Ljava/lang/String;)Ljava/lang/String;" } : Jvm.MethodName) prog_12_method_5_code (1 : Nat) (Option.some (Jvm.ClassFile.FieldType.object "java/lang/String")), Jvm.Cond.code ({ cls := "java/util/Optional", name := "ofNullable", desc := "(Ljava/lang/Object;)Ljava/util/Optional;" } : Jvm.MethodName) jdk_32_method_4_code (1 : Nat) (Option.some (Jvm.ClassFile.FieldType.object "java/util/Optional"))]
set_option maxRecDepth 65536 in
theorem codes_eq : words1.filter isCode = codes1 := rfl
theorem w_codes : ∀ c ∈ words1.filter isCode, c.before args0 about1 = true := by
  rw [codes_eq]
  intro c hc
  simp only [codes1, List.mem_cons, List.not_mem_nil, or_false] at hc
  rcases hc with rfl | rfl | rfl | rfl | rfl | rfl | rfl | rfl | rfl | rfl | rfl | rfl | rfl | rfl | rfl | rfl | rfl | rfl | rfl | rfl | rfl | rfl | rfl | rfl | rfl | rfl | rfl | rfl | rfl | rfl | rfl | rfl | rfl | rfl | rfl | rfl | rfl | rfl | rfl | rfl | rfl | rfl | rfl | rfl | rfl | rfl | rfl | rfl | rfl | rfl | rfl | rfl | rfl | rfl | rfl | rfl | rfl | rfl | rfl | rfl
  · exact w_c0
  · exact w_c1
  · exact w_c2
  · exact w_c3
  · exact w_c4
  · exact w_c5
  · exact w_c6
  · exact w_c7
  · exact w_c8
  · exact w_c9
  · exact w_c10
  · exact w_c11
  · exact w_c12
  · exact w_c13
  · exact w_c14
  · exact w_c15
  · exact w_c16
  · exact w_c17
  · exact w_c18
  · exact w_c19
  · exact w_c20
  · exact w_c21
  · exact w_c22
  · exact w_c23
  · exact w_c24
  · exact w_c25
  · exact w_c26
  · exact w_c27
  · exact w_c28
  · exact w_c29
  · exact w_c30
  · exact w_c31
  · exact w_c32
  · exact w_c33
  · exact w_c34
  · exact w_c35
  · exact w_c36
  · exact w_c37
  · exact w_c38
  · exact w_c39
  · exact w_c40
  · exact w_c41
  · exact w_c42
  · exact w_c43
  · exact w_c44
  · exact w_c45
  · exact w_c46
  · exact w_c47
  · exact w_c48
  · exact w_c49
  · exact w_c50
  · exact w_c51
  · exact w_c52
  · exact w_c53
  · exact w_c54
  · exact w_c55
  · exact w_c56
  · exact w_c57
  · exact w_c58
  · exact w_c59
set_option maxRecDepth 65536 in
theorem w_t1 : (words1.take 24).all (fun c => isCode c || c.before args0 about1) = true := by decide +kernel
set_option maxRecDepth 65536 in
theorem w_t2 : ((words1.drop 24).take 24).all (fun c => isCode c || c.before args0 about1) = true := by decide +kernel
set_option maxRecDepth 65536 in
theorem w_t3 : (((words1.drop 24).drop 24).take 24).all (fun c => isCode c || c.before args0 about1) = true := by decide +kernel
set_option maxRecDepth 65536 in
theorem w_t4 : ((((words1.drop 24).drop 24).drop 24).take 24).all (fun c => isCode c || c.before args0 about1) = true := by decide +kernel
set_option maxRecDepth 65536 in
theorem w_t5 : (((((words1.drop 24).drop 24).drop 24).drop 24).take 24).all (fun c => isCode c || c.before args0 about1) = true := by decide +kernel
set_option maxRecDepth 65536 in
theorem w_t6 : ((((((words1.drop 24).drop 24).drop 24).drop 24).drop 24).take 24).all (fun c => isCode c || c.before args0 about1) = true := by decide +kernel
set_option maxRecDepth 65536 in
theorem w_t7 : (((((((words1.drop 24).drop 24).drop 24).drop 24).drop 24).drop 24).take 24).all (fun c => isCode c || c.before args0 about1) = true := by decide +kernel
set_option maxRecDepth 65536 in
theorem w_t8 : ((((((((words1.drop 24).drop 24).drop 24).drop 24).drop 24).drop 24).drop 24).take 24).all (fun c => isCode c || c.before args0 about1) = true := by decide +kernel
set_option maxRecDepth 65536 in
theorem w_t9 : (((((((((words1.drop 24).drop 24).drop 24).drop 24).drop 24).drop 24).drop 24).drop 24).take 24).all (fun c => isCode c || c.before args0 about1) = true := by decide +kernel
set_option maxRecDepth 65536 in
theorem w_t10 : ((((((((((words1.drop 24).drop 24).drop 24).drop 24).drop 24).drop 24).drop 24).drop 24).drop 24).take 24).all (fun c => isCode c || c.before args0 about1) = true := by decide +kernel
set_option maxRecDepth 65536 in
theorem w_t11 : (((((((((((words1.drop 24).drop 24).drop 24).drop 24).drop 24).drop 24).drop 24).drop 24).drop 24).drop 24).take 24).all (fun c => isCode c || c.before args0 about1) = true := by decide +kernel
set_option maxRecDepth 65536 in
theorem w_t12 : ((((((((((((words1.drop 24).drop 24).drop 24).drop 24).drop 24).drop 24).drop 24).drop 24).drop 24).drop 24).drop 24).take 24).all (fun c => isCode c || c.before args0 about1) = true := by decide +kernel
set_option maxRecDepth 65536 in
theorem w_t13 : (((((((((((((words1.drop 24).drop 24).drop 24).drop 24).drop 24).drop 24).drop 24).drop 24).drop 24).drop 24).drop 24).drop 24).take 24).all (fun c => isCode c || c.before args0 about1) = true := by decide +kernel
set_option maxRecDepth 65536 in
theorem w_t14 : ((((((((((((((words1.drop 24).drop 24).drop 24).drop 24).drop 24).drop 24).drop 24).drop 24).drop 24).drop 24).drop 24).drop 24).drop 24).take 24).all (fun c => isCode c || c.before args0 about1) = true := by decide +kernel
set_option maxRecDepth 65536 in
theorem w_t15 : ((((((((((((((words1.drop 24).drop 24).drop 24).drop 24).drop 24).drop 24).drop 24).drop 24).drop 24).drop 24).drop 24).drop 24).drop 24).drop 24).all (fun c => isCode c || c.before args0 about1) = true := by decide +kernel
theorem w_tables : (allAtoms (Jvm.Cond.code x code maxLocals ret :: tables_1)).before args0 about1 = true := by
  rw [allAtoms_all]
  show words1.all (fun c => c.before args0 about1) = true
  refine all_split ?_ w_codes
  rw [← List.take_append_drop 24 words1, List.all_append, w_t1, ← List.take_append_drop 24 (words1.drop 24), List.all_append, w_t2, ← List.take_append_drop 24 ((words1.drop 24).drop 24), List.all_append, w_t3, ← List.take_append_drop 24 (((words1.drop 24).drop 24).drop 24), List.all_append, w_t4, ← List.take_append_drop 24 ((((words1.drop 24).drop 24).drop 24).drop 24), List.all_append, w_t5, ← List.take_append_drop 24 (((((words1.drop 24).drop 24).drop 24).drop 24).drop 24), List.all_append, w_t6, ← List.take_append_drop 24 ((((((words1.drop 24).drop 24).drop 24).drop 24).drop 24).drop 24), List.all_append, w_t7, ← List.take_append_drop 24 (((((((words1.drop 24).drop 24).drop 24).drop 24).drop 24).drop 24).drop 24), List.all_append, w_t8, ← List.take_append_drop 24 ((((((((words1.drop 24).drop 24).drop 24).drop 24).drop 24).drop 24).drop 24).drop 24), List.all_append, w_t9, ← List.take_append_drop 24 (((((((((words1.drop 24).drop 24).drop 24).drop 24).drop 24).drop 24).drop 24).drop 24).drop 24), List.all_append, w_t10, ← List.take_append_drop 24 ((((((((((words1.drop 24).drop 24).drop 24).drop 24).drop 24).drop 24).drop 24).drop 24).drop 24).drop 24), List.all_append, w_t11, ← List.take_append_drop 24 (((((((((((words1.drop 24).drop 24).drop 24).drop 24).drop 24).drop 24).drop 24).drop 24).drop 24).drop 24).drop 24), List.all_append, w_t12, ← List.take_append_drop 24 ((((((((((((words1.drop 24).drop 24).drop 24).drop 24).drop 24).drop 24).drop 24).drop 24).drop 24).drop 24).drop 24).drop 24), List.all_append, w_t13, ← List.take_append_drop 24 (((((((((((((words1.drop 24).drop 24).drop 24).drop 24).drop 24).drop 24).drop 24).drop 24).drop 24).drop 24).drop 24).drop 24).drop 24), List.all_append, w_t14, w_t15]
  rfl
set_option maxRecDepth 65536 in
theorem w_rest : rest_1_c.before args0 about1 = true := by decide +kernel
set_option maxRecDepth 65536 in
theorem w_case : (Jvm.Cond.and given_1 narrow_1).before args0 about1 = true := by decide +kernel
set_option maxRecDepth 65536 in
theorem w_consts : constsHeld consts_1 about1 := Jvm.Lit.constsHeldB_iff.mp (by decide +kernel)
theorem w_applies : (headSpec (Jvm.Cond.code x code maxLocals ret :: tables_1) room_1).applies x e0.platform about1 = true :=
  (Spec.applies_iff w_frames).mpr ⟨w_running, w_runnable, w_alone, w_named, w_hears, w_ripe, w_room, w_tables⟩
theorem atStart : AtStart classFile x code maxLocals ret World_1 tables_1 room_1 Calls_1 rest_1 Pre_1 launch0 p0 e0 about1 theMethod args0 below0 :=
  ⟨lists_1, trivial, launch0.admits_env _ _ _, launch0.least_env, fairChoices_fair.cas, fairChoices_fair.clock, w_frames, w_args, w_heap, w_applies, ⟨w_consts, trivial⟩, w_rest, w_case⟩
end start1
theorem witness_1 : WitnessClaimed_1 := ⟨start1.p0, start1.e0, start1.about1, start1.theMethod, start1.args0, start1.below0, start1.atStart⟩
end Jvm.Pilot.@@N@@
